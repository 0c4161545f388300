import JvmDerived
import JvmDerived.Pilot.@@N@@Statement
import JvmDerived.Pilot.@@N@@Code
set_option linter.unusedVariables false
set_option linter.unusedSimpArgs false
namespace Jvm.Pilot.@@N@@
open Jvm Jvm.ClassFile Sem Op Lib Jvm.Free Jvm.Stand Jvm.LawKit Jvm.RoadKit Bundle Jvm.Pilot.@@N@@.Jvm.D
/-! own_Out: from the frame g over T the run comes to a return of which Q speaks. A walk is a proof of own_Out from its entry, backwards step by step; so it may fork. -/
section OwnKit
variable {p : Program} {l : Launch} {e : Env} {R : Room} {s : State} {m : MethodId} {args : Array Value} {below : List Frame} {meth : Method} {c : Code} {T : State} {locs : List Loc} {cells slots kc ks : Nat} {Z : State} {a0 : Array Value} {h h' h0 : Heap} {Q : Option Value → Heap → List Loc → Prop} {g : JFrame}
def own_Out (p : Program) (e : Env) (below : List Frame) (s : State) (Q : Option Value → Heap → List Loc → Prop) (kc ks : Nat) (T : State) (g : JFrame) : Prop :=
  ∃ U o, Steps p.tables e below (T.setTop g) U ∧ U.status = .running ∧ Ended U below o ∧ ∃ v L, o = .returned v ∧ Q v U.heap L ∧ FrameEnd s o U L kc ks
theorem own_st (T' : State) (g' : JFrame) (st : ∀ t, Steps p.tables e below (T'.setTop g') t → Steps p.tables e below (T.setTop g) t) (k : own_Out p e below s Q kc ks T' g') : own_Out p e below s Q kc ks T g := by
  obtain ⟨U, o, h1, h2⟩ := k; exact ⟨U, o, st _ h1, h2⟩
theorem own_tr (T' : State) (g' : JFrame) (st : Steps p.tables e below (T.setTop g) (T'.setTop g')) (k : own_Out p e below s Q kc ks T' g') : own_Out p e below s Q kc ks T g := by
  obtain ⟨U, o, h1, h2⟩ := k; exact ⟨U, o, st.trans h1, h2⟩
theorem own_ret (X : Stand p l e R s m args below meth c T locs cells slots) (hx : p.tables.exec = Jvm.exec) (hlk : meth.locks = false) {pc : Nat} {Ls : Array Slot} {w : Value} {t : FieldType} {i : Instr} {rest : List Value} (hret : meth.sig.returnType = some t) (hn : narrow t w = w)
    (hi : (i = .ireturn ∧ (t = .int ∨ t = .boolean ∨ t = .byte ∨ t = .char ∨ t = .short) ∧ ∃ z, w = .int z) ∨ (i = .lreturn ∧ t = .long ∧ ∃ z, w = .long z) ∨ (i = .dreturn ∧ t = .double ∧ ∃ z, w = .double z) ∨ (i = .freturn ∧ t = .float ∧ ∃ z, w = .float z) ∨ (i = .areturn ∧ t.isReference = true ∧ w.isRef = true))
    (hd : decode c.code pc = .ok (i, 1)) (hc : cells ≤ kc) (hs : slots ≤ ks) (hq : Q (some w) T.heap locs) : own_Out p e below s Q kc ks T (mkF m pc Ls (w :: rest)) := by
  obtain ⟨fs, hr, hrun, hended, hW, hsame⟩ := X.leave (v := some w) (fun h => by rw [hret] at h; cases h) hlk
  exact ⟨_, _, retOut X hx hret hn hi hd hr, hrun, hended, _, _, rfl, hq, ⟨_, rfl⟩, hW, hsame.mono hc hs⟩
theorem own_retI (X : Stand p l e R s m args below meth c T locs cells slots) (hx : p.tables.exec = Jvm.exec) (hlk : meth.locks = false) {pc : Nat} {Ls : Array Slot} {z : Int32} {rest : List Value} (hret : meth.sig.returnType = some .int)
    (hd : decode c.code pc = .ok (.ireturn, 1)) (hc : cells ≤ kc) (hs : slots ≤ ks) (hq : Q (some (.int z)) T.heap locs) : own_Out p e below s Q kc ks T (mkF m pc Ls (.int z :: rest)) :=
  own_ret X hx hlk hret rfl (Or.inl ⟨rfl, Or.inl rfl, z, rfl⟩) hd hc hs hq
theorem own_retJ (X : Stand p l e R s m args below meth c T locs cells slots) (hx : p.tables.exec = Jvm.exec) (hlk : meth.locks = false) {pc : Nat} {Ls : Array Slot} {z : Int64} {rest : List Value} (hret : meth.sig.returnType = some .long)
    (hd : decode c.code pc = .ok (.lreturn, 1)) (hc : cells ≤ kc) (hs : slots ≤ ks) (hq : Q (some (.long z)) T.heap locs) : own_Out p e below s Q kc ks T (mkF m pc Ls (.long z :: rest)) :=
  own_ret X hx hlk hret rfl (Or.inr (Or.inl ⟨rfl, rfl, z, rfl⟩)) hd hc hs hq
theorem own_nref {t : FieldType} {w : Value} (ht : t.isReference = true) (hw : w.isRef = true) : narrow t w = w := by
  cases t <;> first | (cases ht; done) | (cases w <;> first | rfl | (cases hw; done))
theorem own_retA (X : Stand p l e R s m args below meth c T locs cells slots) (hx : p.tables.exec = Jvm.exec) (hlk : meth.locks = false) {pc : Nat} {Ls : Array Slot} {w : Value} {t : FieldType} {rest : List Value} (hret : meth.sig.returnType = some t) (ht : t.isReference = true) (hw : w.isRef = true)
    (hd : decode c.code pc = .ok (.areturn, 1)) (hc : cells ≤ kc) (hs : slots ≤ ks) (hq : Q (some w) T.heap locs) : own_Out p e below s Q kc ks T (mkF m pc Ls (w :: rest)) :=
  own_ret X hx hlk hret (own_nref ht hw) (Or.inr (Or.inr (Or.inr (Or.inr ⟨rfl, ht, hw⟩)))) hd hc hs hq
theorem own_retN (X : Stand p l e R s m args below meth c T locs cells slots) (hx : p.tables.exec = Jvm.exec) (hlk : meth.locks = false) {pc : Nat} {Ls : Array Slot} {z : Int32} {t : FieldType} {rest : List Value} (hret : meth.sig.returnType = some t) (ht : t = .boolean ∨ t = .byte ∨ t = .char ∨ t = .short)
    (hd : decode c.code pc = .ok (.ireturn, 1)) (hc : cells ≤ kc) (hs : slots ≤ ks) (hq : Q (some (.int (nar t z))) T.heap locs) : own_Out p e below s Q kc ks T (mkF m pc Ls (.int z :: rest)) := by
  obtain ⟨fs, hr, hrun, hended, hW, hsame⟩ := X.leave (v := some (.int (nar t z))) (fun h => by rw [hret] at h; cases h) hlk
  exact ⟨_, _, retN X hx hret ht hd hr, hrun, hended, _, _, rfl, hq, ⟨_, rfl⟩, hW, hsame.mono hc hs⟩
theorem own_ret0 (X : Stand p l e R s m args below meth c T locs cells slots) (hx : p.tables.exec = Jvm.exec) (hlk : meth.locks = false) {pc : Nat} {Ls : Array Slot} (hret : meth.sig.returnType = none)
    (hd : decode c.code pc = .ok (.return_, 1)) (hc : cells ≤ kc) (hs : slots ≤ ks) (hq : Q none T.heap locs) : own_Out p e below s Q kc ks T (mkF m pc Ls []) := by
  obtain ⟨fs, hr, hrun, hended, hW, hsame⟩ := X.leave (v := none) (fun _ => rfl) hlk
  exact ⟨_, _, X.returnOut hx hret hd hr, hrun, hended, _, _, rfl, hq, ⟨_, rfl⟩, hW, hsame.mono hc hs⟩
/-- a method's contract at the arguments as' over the heap h0 -/
def own_Met (l : Launch) (Z : State) (y : MethodName) (bytes : ByteArray) (maxL : Nat) (ret : Option FieldType) (rm : Room) (as' : Array Value) (h0 : Heap) (Q : Option Value → Heap → List Loc → Prop) : Prop :=
  ∀ ws : List Jvm.Cond, MetFree l y (head1 (Jvm.Cond.code y bytes maxL ret :: ws) rm) (fun a U => a = as' ∧ Z.Warmed39 U.vm ∧ U.heap = h0) (fun _ _ _ _ _ => True) (fun _ U o U' => ∃ v L, o = .returned v ∧ Q v U'.heap L ∧ FrameEnd U o U' L rm.cells rm.slots)
theorem own_body {y : MethodName} {bytes : ByteArray} {maxL : Nat} {ret : Option FieldType} {rm : Room} {as' : Array Value} (Ls : Array Slot) (hp : plainFor y = true) (hef : ∀ m, entryFrame m as' maxL = mkF m 0 Ls [])
    (hbody : ∀ (p : Program) (e : Env) (s : State) (m : MethodId) (below : List Frame) (meth : Method) (c : Code) (s₁ : State), Stand p l e rm s m as' below meth c s₁ [] 0 0 → p.tables.exec = Jvm.exec → c.code = bytes → c.maxLocals = maxL → meth.sig.returnType = ret → meth.locks = false → Z.Warmed39 s.vm → s.vm.findClass y.cls = some m.cls → meth.name = y.name → s₁.heap = h0 →
      own_Out p e below s Q rm.cells rm.slots s₁ (mkF m 0 Ls [])) : own_Met l Z y bytes maxL ret rm as' h0 Q := by
  intro ws
  refine MetFree.of_bodySF hp hisR ?_
  intro p e s m args below meth c s₁ Bd hml0 hP hK
  obtain ⟨rfl, hZ, hh⟩ := hP
  have X0 : Stand p l e rm s m args below meth c s₁ [] 0 0 := Stand.of_body Bd
  have e0 : s₁.heap = h0 := by rw [← hh, Bd.state]; rfl
  obtain ⟨U, o, h1, h2⟩ := hbody p e s m below meth c s₁ X0 Bd.exec Bd.bytes hml0 Bd.returns Bd.notSynchronized hZ (findClass_of_methodNamed Bd.named) (name_of_methodNamed Bd.named Bd.method).1 e0
  exact ⟨U, o, castTop (hef m) h1, h2⟩
theorem own_callS (X : Stand p l e R s m args below meth c T locs cells slots) (hx : p.tables.exec = Jvm.exec) (hZ : Z.Warmed39 s.vm) {own : String} {index : Nat} {y : MethodName} {bytes : ByteArray} {maxL : Nat} {ret : Option FieldType} (hown : s.vm.findClass own = some m.cls)
    (w1 : (Cond.methodLink own index y).before a0 Z = true) (w2 : (Cond.static y).before a0 Z = true) (w3 : (Cond.initialized y.cls).before a0 Z = true) (w4 : (Cond.code y bytes maxL ret).before a0 Z = true) (hy : y.cls ≠ "java/lang/invoke/MethodHandle" ∧ y.cls ≠ "java/lang/invoke/VarHandle")
    {rm : Room} (argsL rest : List Value) {Qc : Option Value → Heap → List Loc → Prop} (M : own_Met l Z y bytes maxL ret rm argsL.toArray h Qc) (W : Nat) (hf : rm.frames + 1 ≤ R.frames) (hl : W + (maxL + 11) + rm.locals ≤ R.locals) (eT : T.heap = h)
    {pc : Nat} {Ls : Array Slot} {st : List Value} (hsize : Ls.size = c.maxLocals) (hlen : ∀ sig, parseMethodDescriptor y.desc = some sig → argsL.length = sig.parameters.length) (hstack : st = argsL.reverse ++ rest) (hW : (rest.map fun v => v.category).sum ≤ W)
    (hd : decode c.code pc = .ok (.invokestatic index, 3)) (hc : cells + rm.cells ≤ R.cells) (hs : slots + rm.slots ≤ R.slots)
    (k : ∀ v T' L, Stand p l e R s m args below meth c T' (locs ++ L) (cells + rm.cells) (slots + rm.slots) → Qc v T'.heap L → own_Out p e below s Q kc ks T' (mkF m (pc + 3) Ls (v.toList ++ rest))) : own_Out p e below s Q kc ks T (mkF m pc Ls st) := by
  obtain ⟨v, vm1, ⟨T', L', c', n'⟩, -, X', ⟨L, hQ, r1, r2, r3⟩, stp⟩ := Jvm.LawKit.callS X hx (y := y) (bytes := bytes) (maxL := maxL) (ret := ret) hown (mvT hZ w1) (mvT hZ w2) (mvT hZ w3) (mvT hZ w4) hy (backOf (W := W) (M []) hZ w4 w3 hf hl) (g := mkF m pc Ls st) rfl hsize (argsL := argsL) (rest := rest) hlen hstack (by show 2 * 0 + _ ≤ _; omega) hd (fun _ _ => ⟨rfl, eT, hc, hs⟩)
  dsimp only [Pt.U, Pt.locs, Pt.cells, Pt.slots] at X' r1 r2 r3 stp hQ
  subst r1 r2 r3
  exact own_st _ _ stp (k v T' L X' hQ)
theorem own_callC (X : Stand p l e R s m args below meth c T locs cells slots) (hx : p.tables.exec = Jvm.exec) (hZ : Z.Warmed39 s.vm) {own : String} {index : Nat} {y : MethodName} {bytes : ByteArray} {maxL : Nat} (hy1 : y.name = "<init>") (hown : s.vm.findClass own = some m.cls)
    (w1 : (Cond.methodLink own index y).before a0 Z = true) (w2 : (Cond.instanceMethod y).before a0 Z = true) (w3 : (Cond.initialized y.cls).before a0 Z = true) (w4 : (Cond.code y bytes maxL none).before a0 Z = true) (hy : y.cls ≠ "java/lang/invoke/MethodHandle" ∧ y.cls ≠ "java/lang/invoke/VarHandle")
    {rm : Room} (a : Addr) (argsL rest : List Value) {Qc : Option Value → Heap → List Loc → Prop} (M : own_Met l Z y bytes maxL none rm (.ref a :: argsL).toArray h Qc) (W : Nat) (hf : rm.frames + 1 ≤ R.frames) (hl : W + (maxL + 11) + rm.locals ≤ R.locals) (eT : T.heap = h)
    {pc : Nat} {Ls : Array Slot} {st : List Value} (hsize : Ls.size = c.maxLocals) (hlen : ∀ sig, parseMethodDescriptor y.desc = some sig → argsL.length = sig.parameters.length) (hstack : st = argsL.reverse ++ .ref a :: rest) (hW : (rest.map fun v => v.category).sum ≤ W)
    (hd : decode c.code pc = .ok (.invokespecial index, 3)) (hc : cells + rm.cells ≤ R.cells) (hs : slots + rm.slots ≤ R.slots)
    (k : ∀ v T' L, Stand p l e R s m args below meth c T' (locs ++ L) (cells + rm.cells) (slots + rm.slots) → Qc v T'.heap L → own_Out p e below s Q kc ks T' (mkF m (pc + 3) Ls (v.toList ++ rest))) : own_Out p e below s Q kc ks T (mkF m pc Ls st) := by
  obtain ⟨v, vm1, ⟨T', L', c', n'⟩, -, X', ⟨L, hQ, r1, r2, r3⟩, stp⟩ := X.specialBack hx (y := y) (bytes := bytes) (maxL := maxL) hy1 hown (mvT hZ w1) (mvT hZ w2) (mvT hZ w4) hy (backOf (W := W) (M []) hZ w4 w3 hf hl) (g := mkF m pc Ls st) rfl hsize (Steps.refl _) (a := a) (argsL := argsL) (rest := rest) hlen hstack (by show 2 * 0 + _ ≤ _; omega) hd (fun _ _ => ⟨rfl, eT, hc, hs⟩)
  dsimp only [Pt.U, Pt.locs, Pt.cells, Pt.slots] at X' r1 r2 r3 stp hQ
  subst r1 r2 r3
  exact own_tr _ _ stp (k v T' L X' hQ)
theorem own_callV (X : Stand p l e R s m args below meth c T locs cells slots) (hx : p.tables.exec = Jvm.exec) (hZ : Z.Warmed39 s.vm) {own C : String} {index : Nat} {y z : MethodName} {bytes : ByteArray} {maxL : Nat} {ret : Option FieldType} (hown : s.vm.findClass own = some m.cls)
    (w1 : (Cond.methodLink own index y).before a0 Z = true) (w2 : (Cond.declares y).before a0 Z = true) (hnf : NotFace s y) (w5 : (Cond.selects C y z).before a0 Z = true) (w6 : (Cond.instanceMethod z).before a0 Z = true) (w3 : (Cond.initialized z.cls).before a0 Z = true) (w4 : (Cond.code z bytes maxL ret).before a0 Z = true) (hy : y.cls ≠ "java/lang/invoke/MethodHandle" ∧ y.cls ≠ "java/lang/invoke/VarHandle")
    {rm : Room} (a : Addr) (argsL rest : List Value) {Qc : Option Value → Heap → List Loc → Prop} (E : Exa Z h a C) (M : own_Met l Z z bytes maxL ret rm (.ref a :: argsL).toArray h Qc) (W : Nat) (hf : rm.frames + 1 ≤ R.frames) (hl : W + (maxL + 11) + rm.locals ≤ R.locals) (eT : T.heap = h)
    {pc : Nat} {Ls : Array Slot} {st : List Value} (hsize : Ls.size = c.maxLocals) (hlen : ∀ sig, parseMethodDescriptor y.desc = some sig → argsL.length = sig.parameters.length) (hstack : st = argsL.reverse ++ .ref a :: rest) (hW : (rest.map fun v => v.category).sum ≤ W)
    (hd : decode c.code pc = .ok (.invokevirtual index, 3)) (hc : cells + rm.cells ≤ R.cells) (hs : slots + rm.slots ≤ R.slots)
    (k : ∀ v T' L, Stand p l e R s m args below meth c T' (locs ++ L) (cells + rm.cells) (slots + rm.slots) → Qc v T'.heap L → own_Out p e below s Q kc ks T' (mkF m (pc + 3) Ls (v.toList ++ rest))) : own_Out p e below s Q kc ks T (mkF m pc Ls st) := by
  obtain ⟨cq, kq, qa, qb, qc⟩ := isOf hZ eT E
  obtain ⟨v, vm1, ⟨T', L', c', n'⟩, -, X', ⟨L, hQ, r1, r2, r3⟩, stp⟩ := X.virtualBack hx (y := y) (z := z) hown (mvT hZ w1) (mvT hZ w2) hnf (mvT hZ w5) (mvT hZ w6) hy (backOf (W := W) (M []) hZ w4 w3 hf hl) qa qc (g := mkF m pc Ls st) rfl hsize (Steps.refl _) (argsL := argsL) (rest := rest) hlen hstack (by show 2 * 0 + _ ≤ _; omega) hd (fun _ _ => ⟨rfl, eT, hc, hs⟩)
  dsimp only [Pt.U, Pt.locs, Pt.cells, Pt.slots] at X' r1 r2 r3 stp hQ
  subst r1 r2 r3
  exact own_tr _ _ stp (k v T' L X' hQ)
theorem own_callI (X : Stand p l e R s m args below meth c T locs cells slots) (hx : p.tables.exec = Jvm.exec) (hZ : Z.Warmed39 s.vm) {own C : String} {index count : Nat} {xi y : MethodName} {bytes : ByteArray} {maxL : Nat} {ret : Option FieldType} (hown : s.vm.findClass own = some m.cls)
    (w1 : (Cond.methodLink own index xi).before args s = true) (w2 : (Cond.declares xi).before args s = true) (w7 : (Cond.interfaceMethod xi.cls xi.cls xi.name xi.desc).before args s = true) (w5 : (Cond.selects C xi y).before args s = true) (w6 : (Cond.instanceMethod y).before args s = true) (w8 : (Cond.publicMethod y).before args s = true) (w9 : (Cond.unhidden C xi.name xi.desc).before args s = true) (w10 : (Cond.castable C xi.cls).before args s = true) (w3 : (Cond.initialized y.cls).before a0 Z = true) (w4 : (Cond.code y bytes maxL ret).before a0 Z = true) (hy : xi.cls ≠ "java/lang/invoke/MethodHandle" ∧ xi.cls ≠ "java/lang/invoke/VarHandle")
    {rm : Room} (a : Addr) (argsL rest : List Value) {Qc : Option Value → Heap → List Loc → Prop} (E : Exa Z h a C) (M : own_Met l Z y bytes maxL ret rm (.ref a :: argsL).toArray h Qc) (W : Nat) (hf : rm.frames + 1 ≤ R.frames) (hl : W + (maxL + 11) + rm.locals ≤ R.locals) (eT : T.heap = h)
    {pc : Nat} {Ls : Array Slot} {st : List Value} (hsize : Ls.size = c.maxLocals) (hlen : ∀ sig, parseMethodDescriptor xi.desc = some sig → argsL.length = sig.parameters.length) (hstack : st = argsL.reverse ++ .ref a :: rest) (hW : (rest.map fun v => v.category).sum ≤ W)
    (hd : decode c.code pc = .ok (.invokeinterface index count, 5)) (hc : cells + rm.cells ≤ R.cells) (hs : slots + rm.slots ≤ R.slots)
    (k : ∀ v T' L, Stand p l e R s m args below meth c T' (locs ++ L) (cells + rm.cells) (slots + rm.slots) → Qc v T'.heap L → own_Out p e below s Q kc ks T' (mkF m (pc + 5) Ls (v.toList ++ rest))) : own_Out p e below s Q kc ks T (mkF m pc Ls st) := by
  obtain ⟨cq, kq, qa, qb, qc⟩ := isOf hZ eT E
  obtain ⟨v, vm1, ⟨T', L', c', n'⟩, -, X', ⟨L, hQ, r1, r2, r3⟩, stp⟩ := X.interfaceBack hx (xi := xi) (y := y) hown w1 w2 w7 w5 w6 w8 w9 w10 hy (backOf (W := W) (M []) hZ w4 w3 hf hl) qa qb qc (g := mkF m pc Ls st) rfl hsize (Steps.refl _) (argsL := argsL) (rest := rest) hlen hstack (by show 2 * 0 + _ ≤ _; omega) hd (fun _ _ => ⟨rfl, eT, hc, hs⟩)
  dsimp only [Pt.U, Pt.locs, Pt.cells, Pt.slots] at X' r1 r2 r3 stp hQ
  subst r1 r2 r3
  exact own_tr _ _ stp (k v T' L X' hQ)
theorem own_callP (X : Stand p l e R s m args below meth c T locs cells slots) (hx : p.tables.exec = Jvm.exec) (hZ : Z.Warmed39 s.vm) {own : String} {index : Nat} {y : MethodName} {bytes : ByteArray} {maxL : Nat} {ret : Option FieldType} (hown : s.vm.findClass own = some m.cls)
    (w1 : (Cond.methodLink own index y).before a0 Z = true) (w2 : (Cond.instanceMethod y).before a0 Z = true) (w5 : (Cond.selects y.cls y y).before a0 Z = true) (w6 : (Cond.privateMethod y).before a0 Z = true) (w3 : (Cond.initialized y.cls).before a0 Z = true) (w4 : (Cond.code y bytes maxL ret).before a0 Z = true) (hy : y.cls ≠ "java/lang/invoke/MethodHandle" ∧ y.cls ≠ "java/lang/invoke/VarHandle")
    {rm : Room} (a : Addr) (argsL rest : List Value) {C : String} {Qc : Option Value → Heap → List Loc → Prop} (E : Exa Z h a C) (M : own_Met l Z y bytes maxL ret rm (.ref a :: argsL).toArray h Qc) (W : Nat) (hf : rm.frames + 1 ≤ R.frames) (hl : W + (maxL + 11) + rm.locals ≤ R.locals) (eT : T.heap = h)
    {pc : Nat} {Ls : Array Slot} {st : List Value} (hsize : Ls.size = c.maxLocals) (hlen : ∀ sig, parseMethodDescriptor y.desc = some sig → argsL.length = sig.parameters.length) (hstack : st = argsL.reverse ++ .ref a :: rest) (hW : (rest.map fun v => v.category).sum ≤ W)
    (hd : decode c.code pc = .ok (.invokevirtual index, 3)) (hc : cells + rm.cells ≤ R.cells) (hs : slots + rm.slots ≤ R.slots)
    (k : ∀ v T' L, Stand p l e R s m args below meth c T' (locs ++ L) (cells + rm.cells) (slots + rm.slots) → Qc v T'.heap L → own_Out p e below s Q kc ks T' (mkF m (pc + 3) Ls (v.toList ++ rest))) : own_Out p e below s Q kc ks T (mkF m pc Ls st) := by
  obtain ⟨cq, qa, qb⟩ := E.cell
  obtain ⟨v, vm1, ⟨T', L', c', n'⟩, -, X', ⟨L, hQ, r1, r2, r3⟩, stp⟩ := X.privateBack hx (y := y) (bytes := bytes) (maxL := maxL) (ret := ret) hown (mvT hZ w1) (mvT hZ w2) (mvT hZ w5) (Cond.privateMethod_at (mvP hZ w6 (args := #[]))) (mvT hZ w4) hy (backOf (W := W) (M []) hZ w4 w3 hf hl) (g := mkF m pc Ls st) rfl hsize (Steps.refl _) (a := a) (by rw [eT]; exact qa) qb (argsL := argsL) (rest := rest) hlen hstack (by show 2 * 0 + _ ≤ _; omega) hd (fun _ _ => ⟨rfl, eT, hc, hs⟩)
  dsimp only [Pt.U, Pt.locs, Pt.cells, Pt.slots] at X' r1 r2 r3 stp hQ
  subst r1 r2 r3
  exact own_tr _ _ stp (k v T' L X' hQ)
/-- an array by its values: n places, place i holds f i -/
def own_A (Z : State) (h : Heap) (a : Addr) (k : ClassId) (ty : FieldType) (n : Nat) (f : Nat → Value) : Prop := ∃ cl : Cell, Arr Z h a cl ty ∧ cl.cls = k ∧ cl.slots.size = n ∧ n < 2 ^ 31 ∧ ∀ i, i < n → cl.slots[i]? = some (f i)
variable {a b : Addr} {k : ClassId} {ty : FieldType} {n : Nat} {f f' : Nat → Value} {sl : Nat} {v : Value} {ws : List Addr}
theorem own_A.lt (F : own_A Z h a k ty n f) : a < h.size := by obtain ⟨c, A, -⟩ := F; exact A.lt
theorem own_A.ext (F : own_A Z h a k ty n f) (E : Ext h h') : own_A Z h' a k ty n f := by obtain ⟨c, A, r⟩ := F; exact ⟨c, A.ext E, r⟩
theorem own_A.other (F : own_A Z h b k ty n f) (W : Wr h h' a sl v) (q : b ≠ a) : own_A Z h' b k ty n f := by obtain ⟨c, A, r⟩ := F; exact ⟨c, A.other W q, r⟩
theorem own_A.keep (F : own_A Z h a k ty n f) (K : Keep h h' ws) (q : a ∉ ws) : own_A Z h' a k ty n f := by obtain ⟨c, A, r⟩ := F; exact ⟨c, ⟨K.2.1 a c A.1 q, A.2⟩, r⟩
theorem own_A.cong (F : own_A Z h a k ty n f) (q : ∀ i, i < n → f i = f' i) : own_A Z h a k ty n f' := by obtain ⟨c, A, r1, r2, r3, r4⟩ := F; exact ⟨c, A, r1, r2, r3, fun i hi => by rw [r4 i hi, q i hi]⟩
theorem own_A.new {z : Int32} (A : Arr Z h a (newA k ty z) ty) (q : ¬ z < 0) : own_A Z h a k ty z.toNatClampNeg (fun _ => defaultValue ty) := ⟨_, A, rfl, sz_new _ _ _, (back32 q).2, fun i hi => by simp [newA, hi]⟩
theorem own_A.newL {z : Int32} (A : Arr Z h a (newA k ty z) ty) (q : ¬ z < 0) (n : Nat) (hn : z.toNatClampNeg = n) (d : Value) (hd : defaultValue ty = d) : own_A Z h a k ty n (fun i => (List.replicate n d).getD i d) := by
  subst hn hd
  refine (own_A.new A q).cong fun i hi => ?_
  simp [List.getD_eq_getElem?_getD, List.getElem?_replicate, hi]
theorem own_jn {j : Int32} {i : Nat} (q : j.toInt = (i : Int)) : j.toNatClampNeg = i := by simp only [Int32.toNatClampNeg]; omega
theorem own_in {j : Int32} {i n : Nat} {cl : Cell} (q : j.toInt = (i : Int)) (hi : i < n) (S : cl.slots.size = n) : ¬ (j < 0 ∨ cl.slots.size ≤ j.toNatClampNeg) := by
  rw [own_jn q, Int32.lt_iff_toInt_lt, q, S]; have : (0 : Int32).toInt = 0 := rfl; omega
theorem own_A.set (F : own_A Z h a k ty n f) {i : Nat} (hi : i < n) (W : Wr h h' a i v) : own_A Z h' a k ty n (fun x => if x = i then v else f x) := by
  obtain ⟨cl, A, r1, r2, r3, r4⟩ := F
  refine ⟨_, A.same W, r1, by rw [sz_set]; exact r2, r3, fun x hx => ?_⟩
  by_cases q : x = i
  · subst q; simp [Cell.setSlot, r2, hi]
  · show (cl.slots.setIfInBounds i v)[x]? = _
    rw [Array.getElem?_setIfInBounds_ne (Ne.symm q)]; simp only [q, if_false]; exact r4 x hx
theorem own_A.setL {L : List Value} {d : Value} (F : own_A Z h a k ty n (fun x => L.getD x d)) {i : Nat} (hi : i < n) (hL : i < L.length) (W : Wr h h' a i v) : own_A Z h' a k ty n (fun x => (L.set i v).getD x d) := by
  refine (F.set hi W).cong fun x hx => ?_
  by_cases q : x = i
  · subst q; simp [List.getD_eq_getElem?_getD, List.getElem?_set, hL]
  · simp [List.getD_eq_getElem?_getD, List.getElem?_set, q, Ne.symm q]
theorem own_A.setI {b : Nat → Int32} {x : Int32} (F : own_A Z h a k ty n (fun y => .int (b y))) {i : Nat} (hi : i < n) (W : Wr h h' a i (.int x)) : own_A Z h' a k ty n (fun y => .int (if y = i then x else b y)) := by
  refine (F.set hi W).cong fun y hy => ?_
  by_cases q : y = i <;> simp [q]
theorem own_A.setLI {L : List Int32} {x : Int32} (F : own_A Z h a k ty n (fun y => .int (L.getD y 0))) {i : Nat} (hi : i < n) (hL : i < L.length) (W : Wr h h' a i (.int x)) : own_A Z h' a k ty n (fun y => .int ((L.set i x).getD y 0)) := by
  refine (F.setI hi W).cong fun y hy => ?_
  by_cases q : y = i
  · subst q; simp [List.getD_eq_getElem?_getD, List.getElem?_set, hL]
  · simp [List.getD_eq_getElem?_getD, List.getElem?_set, q, Ne.symm q]
theorem own_A.snocI {L : List Int32} {x : Int32} (F : own_A Z h a k ty n (fun y => .int (L.getD y 0))) {i : Nat} (hi : i < n) (hL : L.length = i) (W : Wr h h' a i (.int x)) : own_A Z h' a k ty n (fun y => .int ((L ++ [x]).getD y 0)) := by
  refine (F.setI hi W).cong fun y hy => ?_
  by_cases q : y = i
  · subst q; subst hL; simp [List.getD_eq_getElem?_getD]
  · by_cases r : y < L.length
    · simp [List.getD_eq_getElem?_getD, q, List.getElem?_append_left r]
    · have h1 : L[y]? = none := List.getElem?_eq_none (by omega)
      have h2 : (L ++ [x])[y]? = none := List.getElem?_eq_none (by simp; omega)
      simp [List.getD_eq_getElem?_getD, q, h1, h2]
theorem own_A.newI {z : Int32} (A : Arr Z h a (newA k ty z) ty) (q : ¬ z < 0) (n : Nat) (hn : z.toNatClampNeg = n) (hd : defaultValue ty = .int 0) : own_A Z h a k ty n (fun _ => .int 0) := by
  subst hn; rw [← hd]; exact own_A.new A q
theorem own_A.newLI {z : Int32} (A : Arr Z h a (newA k ty z) ty) (q : ¬ z < 0) (n : Nat) (hn : z.toNatClampNeg = n) (hd : defaultValue ty = .int 0) : own_A Z h a k ty n (fun y => .int ((List.replicate n (0 : Int32)).getD y 0)) := by
  refine (own_A.newI A q n hn hd).cong fun i hi => ?_
  simp [List.getD_eq_getElem?_getD, List.getElem?_replicate, hi]
theorem own_stI (X : Stand p l e R s m args below meth c T locs cells slots) (hx : p.tables.exec = Jvm.exec) (hZ : Z.Warmed39 s.vm) (eT : T.heap = h) (F : own_A Z h a k .int n f) {j x : Int32} (i : Nat) (q : j.toInt = (i : Int)) (hi : i < n) {pc : Nat} {Ls : Array Slot} {rest : List Value} (hd : decode c.code pc = .ok (.iastore, 1)) :
    ∃ T' h', Stand p l e R s m args below meth c T' (locs ++ [⟨a, i⟩]) cells slots ∧ T'.heap = h' ∧ Wr h h' a i (.int x) ∧ ∀ t, Steps p.tables e below (T'.setTop (mkF m (pc + 1) Ls rest)) t → Steps p.tables e below (T.setTop (mkF m pc Ls (.int x :: .int j :: .ref a :: rest))) t := by
  obtain ⟨cl, A, r1, r2, r3, r4⟩ := F
  have := stI X hx hZ eT A (j := j) (x := x) (own_in q hi r2) (g := mkF m pc Ls (.int x :: .int j :: .ref a :: rest)) rfl rfl hd
  rw [own_jn q] at this; exact this
theorem own_stB (X : Stand p l e R s m args below meth c T locs cells slots) (hx : p.tables.exec = Jvm.exec) (hZ : Z.Warmed39 s.vm) (eT : T.heap = h) (F : own_A Z h a k .byte n f) {j x : Int32} (x' : Int32) (hx' : nar .byte x = x') (i : Nat) (q : j.toInt = (i : Int)) (hi : i < n) {pc : Nat} {Ls : Array Slot} {rest : List Value} (hd : decode c.code pc = .ok (.bastore, 1)) :
    ∃ T' h', Stand p l e R s m args below meth c T' (locs ++ [⟨a, i⟩]) cells slots ∧ T'.heap = h' ∧ Wr h h' a i (.int x') ∧ ∀ t, Steps p.tables e below (T'.setTop (mkF m (pc + 1) Ls rest)) t → Steps p.tables e below (T.setTop (mkF m pc Ls (.int x :: .int j :: .ref a :: rest))) t := by
  obtain ⟨cl, A, r1, r2, r3, r4⟩ := F
  have := stB X hx hZ eT A (j := j) (x := x) (own_in q hi r2) (g := mkF m pc Ls (.int x :: .int j :: .ref a :: rest)) rfl rfl hd
  rw [own_jn q] at this; subst hx'; exact this
theorem own_stC (X : Stand p l e R s m args below meth c T locs cells slots) (hx : p.tables.exec = Jvm.exec) (hZ : Z.Warmed39 s.vm) (eT : T.heap = h) (F : own_A Z h a k .char n f) {j x : Int32} (x' : Int32) (hx' : nar .char x = x') (i : Nat) (q : j.toInt = (i : Int)) (hi : i < n) {pc : Nat} {Ls : Array Slot} {rest : List Value} (hd : decode c.code pc = .ok (.castore, 1)) :
    ∃ T' h', Stand p l e R s m args below meth c T' (locs ++ [⟨a, i⟩]) cells slots ∧ T'.heap = h' ∧ Wr h h' a i (.int x') ∧ ∀ t, Steps p.tables e below (T'.setTop (mkF m (pc + 1) Ls rest)) t → Steps p.tables e below (T.setTop (mkF m pc Ls (.int x :: .int j :: .ref a :: rest))) t := by
  obtain ⟨cl, A, r1, r2, r3, r4⟩ := F
  have := stC X hx hZ eT A (j := j) (x := x) (own_in q hi r2) (g := mkF m pc Ls (.int x :: .int j :: .ref a :: rest)) rfl rfl hd
  rw [own_jn q] at this; subst hx'; exact this
theorem own_stR (X : Stand p l e R s m args below meth c T locs cells slots) (hx : p.tables.exec = Jvm.exec) (hZ : Z.Warmed39 s.vm) (eT : T.heap = h) {C : String} (F : own_A Z h a k (.object C) n f) {j : Int32} {v : Value} (O : Ovr Z k C) (I : v = .null ∨ ∃ y, v = .ref y ∧ Ins Z h y C true) (i : Nat) (q : j.toInt = (i : Int)) (hi : i < n) {pc : Nat} {Ls : Array Slot} {rest : List Value} (hd : decode c.code pc = .ok (.aastore, 1)) :
    ∃ T' h', Stand p l e R s m args below meth c T' (locs ++ [⟨a, i⟩]) cells slots ∧ T'.heap = h' ∧ Wr h h' a i v ∧ ∀ t, Steps p.tables e below (T'.setTop (mkF m (pc + 1) Ls rest)) t → Steps p.tables e below (T.setTop (mkF m pc Ls (v :: .int j :: .ref a :: rest))) t := by
  obtain ⟨cl, A, r1, r2, r3, r4⟩ := F
  have S : Sto Z h a v := by
    rcases I with rfl | ⟨y, rfl, I⟩
    · exact Or.inl rfl
    · exact Sto.ofV A r1 O I
  have := stR X hx hZ eT A (j := j) (own_in q hi r2) rfl S (g := mkF m pc Ls (v :: .int j :: .ref a :: rest)) rfl rfl hd
  rw [own_jn q] at this; exact this
theorem own_stRA (X : Stand p l e R s m args below meth c T locs cells slots) (hx : p.tables.exec = Jvm.exec) (hZ : Z.Warmed39 s.vm) (eT : T.heap = h) {C : String} {t0 : FieldType} (F : own_A Z h a k (.array t0) n f) {j : Int32} {v : Value} (O : OvrA Z k t0 C) (I : v = .null ∨ ∃ y, v = .ref y ∧ Ins Z h y C true) (i : Nat) (q : j.toInt = (i : Int)) (hi : i < n) {pc : Nat} {Ls : Array Slot} {rest : List Value} (hd : decode c.code pc = .ok (.aastore, 1)) :
    ∃ T' h', Stand p l e R s m args below meth c T' (locs ++ [⟨a, i⟩]) cells slots ∧ T'.heap = h' ∧ Wr h h' a i v ∧ ∀ t, Steps p.tables e below (T'.setTop (mkF m (pc + 1) Ls rest)) t → Steps p.tables e below (T.setTop (mkF m pc Ls (v :: .int j :: .ref a :: rest))) t := by
  obtain ⟨cl, A, r1, r2, r3, r4⟩ := F
  have S : Sto Z h a v := by
    rcases I with rfl | ⟨y, rfl, I⟩
    · exact Or.inl rfl
    · exact Sto.ofVA A r1 O I
  have := stR X hx hZ eT A (j := j) (own_in q hi r2) rfl S (g := mkF m pc Ls (v :: .int j :: .ref a :: rest)) rfl rfl hd
  rw [own_jn q] at this; exact this
theorem own_ldI (X : Stand p l e R s m args below meth c T locs cells slots) (hx : p.tables.exec = Jvm.exec) (hZ : Z.Warmed39 s.vm) (eT : T.heap = h) (F : own_A Z h a k .int n f) {j : Int32} (i : Nat) (q : j.toInt = (i : Int)) (hi : i < n) {pc : Nat} {Ls : Array Slot} {rest : List Value} (hd : decode c.code pc = .ok (.iaload, 1)) :
    ∀ t, Steps p.tables e below (T.setTop (mkF m (pc + 1) Ls (f i :: rest))) t → Steps p.tables e below (T.setTop (mkF m pc Ls (.int j :: .ref a :: rest))) t := fun t kt => by
  obtain ⟨cl, A, r1, r2, r3, r4⟩ := F
  exact X.iaload hx (j := j) (v := f i) (by rw [eT]; exact A.1) (State.isArrayOf_alike hZ.alike A.2.1) A.2.2 (own_in q hi r2) (by rw [own_jn q]; exact r4 i hi) (g := mkF m pc Ls (.int j :: .ref a :: rest)) rfl rfl hd _ kt
theorem own_ldB (X : Stand p l e R s m args below meth c T locs cells slots) (hx : p.tables.exec = Jvm.exec) (hZ : Z.Warmed39 s.vm) (eT : T.heap = h) (F : own_A Z h a k .byte n f) {j : Int32} (i : Nat) (q : j.toInt = (i : Int)) (hi : i < n) {pc : Nat} {Ls : Array Slot} {rest : List Value} (hd : decode c.code pc = .ok (.baload, 1)) :
    ∀ t, Steps p.tables e below (T.setTop (mkF m (pc + 1) Ls (f i :: rest))) t → Steps p.tables e below (T.setTop (mkF m pc Ls (.int j :: .ref a :: rest))) t := fun t kt => by
  obtain ⟨cl, A, r1, r2, r3, r4⟩ := F
  exact X.baloadBytes hx (j := j) (v := f i) (by rw [eT]; exact A.1) (State.isArrayOf_alike hZ.alike A.2.1) A.2.2 (own_in q hi r2) (by rw [own_jn q]; exact r4 i hi) (g := mkF m pc Ls (.int j :: .ref a :: rest)) rfl rfl hd _ kt
theorem own_ldC (X : Stand p l e R s m args below meth c T locs cells slots) (hx : p.tables.exec = Jvm.exec) (hZ : Z.Warmed39 s.vm) (eT : T.heap = h) (F : own_A Z h a k .char n f) {j : Int32} (i : Nat) (q : j.toInt = (i : Int)) (hi : i < n) {pc : Nat} {Ls : Array Slot} {rest : List Value} (hd : decode c.code pc = .ok (.caload, 1)) :
    ∀ t, Steps p.tables e below (T.setTop (mkF m (pc + 1) Ls (f i :: rest))) t → Steps p.tables e below (T.setTop (mkF m pc Ls (.int j :: .ref a :: rest))) t := fun t kt => by
  obtain ⟨cl, A, r1, r2, r3, r4⟩ := F
  exact X.caload hx (j := j) (v := f i) (by rw [eT]; exact A.1) (State.isArrayOf_alike hZ.alike A.2.1) A.2.2 (own_in q hi r2) (by rw [own_jn q]; exact r4 i hi) (g := mkF m pc Ls (.int j :: .ref a :: rest)) rfl rfl hd _ kt
theorem own_ldR (X : Stand p l e R s m args below meth c T locs cells slots) (hx : p.tables.exec = Jvm.exec) (hZ : Z.Warmed39 s.vm) (eT : T.heap = h) (F : own_A Z h a k ty n f) (hty : ty.isReference = true) {j : Int32} (i : Nat) (q : j.toInt = (i : Int)) (hi : i < n) {pc : Nat} {Ls : Array Slot} {rest : List Value} (hd : decode c.code pc = .ok (.aaload, 1)) :
    ∀ t, Steps p.tables e below (T.setTop (mkF m (pc + 1) Ls (f i :: rest))) t → Steps p.tables e below (T.setTop (mkF m pc Ls (.int j :: .ref a :: rest))) t := fun t kt => by
  obtain ⟨cl, A, r1, r2, r3, r4⟩ := F
  exact X.aaload hx (j := j) (v := f i) (by rw [eT]; exact A.1) (State.isArrayOf_alike hZ.alike A.2.1) hty A.2.2 (own_in q hi r2) (by rw [own_jn q]; exact r4 i hi) (g := mkF m pc Ls (.int j :: .ref a :: rest)) rfl rfl hd _ kt
theorem own_len (X : Stand p l e R s m args below meth c T locs cells slots) (hx : p.tables.exec = Jvm.exec) (hZ : Z.Warmed39 s.vm) (eT : T.heap = h) (F : own_A Z h a k ty n f) {pc : Nat} {Ls : Array Slot} {rest : List Value} (hd : decode c.code pc = .ok (.arraylength, 1)) (z : Int32) (hz : z.toInt = (n : Int)) :
    ∀ t, Steps p.tables e below (T.setTop (mkF m (pc + 1) Ls (.int z :: rest))) t → Steps p.tables e below (T.setTop (mkF m pc Ls (.ref a :: rest))) t := fun t kt => by
  obtain ⟨cl, A, r1, r2, r3, r4⟩ := F
  have q : cl.slots.size.toInt32 = z := by
    apply Int32.toInt_inj.mp; rw [r2, hz]; exact len_toInt r3
  exact X.arraylength hx (by rw [eT]; exact A.1) (State.isArrayOf_alike hZ.alike A.2.1) (g := mkF m pc Ls (.ref a :: rest)) rfl rfl hd _ (by rw [q]; exact kt)
theorem own_nb (x : Int32) : nar .byte x.toInt8.toInt32 = x.toInt8.toInt32 := by simp [nar]
theorem own_nc (x : Int32) : nar .char x.toUInt32.toUInt16.toUInt32.toInt32 = x.toUInt32.toUInt16.toUInt32.toInt32 := by
  have := Jvm.Free.XT.narrow_c x
  simpa [nar, narrow] using this
theorem own_nz {z : Int32} (q : z = 0 ∨ z = 1) : nar .boolean z = z := by rcases q with rfl | rfl <;> rfl
theorem own_bt {P : Prop} [Decidable P] (q : P) : ¬ ((if P then (1 : Int32) else 0) = 0) := by simp [q]
theorem own_bf {P : Prop} [Decidable P] (q : ¬ P) : (if P then (1 : Int32) else 0) = 0 := by simp [q]
theorem own_nt {P : Prop} [Decidable P] (q : P) : (if P then (0 : Int32) else 1) = 0 := by simp [q]
theorem own_nf {P : Prop} [Decidable P] (q : ¬ P) : ¬ ((if P then (0 : Int32) else 1) = 0) := by simp [q]
theorem own_lrem {target : State} (X : Stand p l e R s m args below meth c T locs cells slots) (hx : p.tables.exec = Jvm.exec) (hg : g.method = m) {x y : Int64} {rest : List Value} (hd : decode c.code g.pc = .ok (.lrem, 1)) (hs : g.stack = .long y :: .long x :: rest) (hy : y ≠ 0)
    (hr : Steps p.tables e below (T.setTop { g with pc := g.pc + 1, stack := .long (x % y) :: rest }) target) : Steps p.tables e below (T.setTop g) target := XS.lrem X.here hx hg hd hs hy (by rw [lrem_mod]; exact hr)
end OwnKit
theorem own_ni {n k : Int32} {z : Int} (h : ¬ n = k) (hz : k.toInt = z) : n.toInt ≠ z := fun q => h (Int32.toInt_inj.mp (q.trans hz.symm))
theorem own_out {n : Int32} (h1 : ¬ n = 1) (h2 : ¬ n = 2) (h3 : ¬ n = 3) (h4 : ¬ n = 4) (h5 : ¬ n = 5) (h6 : ¬ n = 6) (h7 : ¬ n = 7) (h8 : ¬ n = 8) (h9 : ¬ n = 9) (h10 : ¬ n = 10) (h11 : ¬ n = 11) (h12 : ¬ n = 12) (h13 : ¬ n = 13) (h14 : ¬ n = 14) : n.toInt < 1 ∨ n.toInt > 14 := by
  have := own_ni (z := 1) h1 rfl; have := own_ni (z := 2) h2 rfl; have := own_ni (z := 3) h3 rfl; have := own_ni (z := 4) h4 rfl; have := own_ni (z := 5) h5 rfl; have := own_ni (z := 6) h6 rfl; have := own_ni (z := 7) h7 rfl
  have := own_ni (z := 8) h8 rfl; have := own_ni (z := 9) h9 rfl; have := own_ni (z := 10) h10 rfl; have := own_ni (z := 11) h11 rfl; have := own_ni (z := 12) h12 rfl; have := own_ni (z := 13) h13 rfl; have := own_ni (z := 14) h14 rfl
  omega

theorem dprog_84_method_4_code_0 : decode prog_84_method_4_code 0 = .ok (.iload_n 0, 1) := by decide +kernel
theorem dprog_84_method_4_code_1 : decode prog_84_method_4_code 1 = .ok (.tableswitch 143 1 14 #[71, 77, 83, 89, 95, 101, 107, 113, 119, 125, 143, 131, 143, 137], 71) := by decide +kernel
theorem dprog_84_method_4_code_72 : decode prog_84_method_4_code 72 = .ok (.getstatic 7, 3) := by decide +kernel
theorem dprog_84_method_4_code_75 : decode prog_84_method_4_code 75 = .ok (.goto 72, 3) := by decide +kernel
theorem dprog_84_method_4_code_147 : decode prog_84_method_4_code 147 = .ok (.areturn, 1) := by decide +kernel
theorem dprog_84_method_4_code_78 : decode prog_84_method_4_code 78 = .ok (.getstatic 10, 3) := by decide +kernel
theorem dprog_84_method_4_code_81 : decode prog_84_method_4_code 81 = .ok (.goto 66, 3) := by decide +kernel
theorem dprog_84_method_4_code_84 : decode prog_84_method_4_code 84 = .ok (.getstatic 13, 3) := by decide +kernel
theorem dprog_84_method_4_code_87 : decode prog_84_method_4_code 87 = .ok (.goto 60, 3) := by decide +kernel
theorem dprog_84_method_4_code_90 : decode prog_84_method_4_code 90 = .ok (.getstatic 16, 3) := by decide +kernel
theorem dprog_84_method_4_code_93 : decode prog_84_method_4_code 93 = .ok (.goto 54, 3) := by decide +kernel
theorem dprog_84_method_4_code_96 : decode prog_84_method_4_code 96 = .ok (.getstatic 19, 3) := by decide +kernel
theorem dprog_84_method_4_code_99 : decode prog_84_method_4_code 99 = .ok (.goto 48, 3) := by decide +kernel
theorem dprog_84_method_4_code_102 : decode prog_84_method_4_code 102 = .ok (.getstatic 22, 3) := by decide +kernel
theorem dprog_84_method_4_code_105 : decode prog_84_method_4_code 105 = .ok (.goto 42, 3) := by decide +kernel
theorem dprog_84_method_4_code_108 : decode prog_84_method_4_code 108 = .ok (.getstatic 25, 3) := by decide +kernel
theorem dprog_84_method_4_code_111 : decode prog_84_method_4_code 111 = .ok (.goto 36, 3) := by decide +kernel
theorem dprog_84_method_4_code_114 : decode prog_84_method_4_code 114 = .ok (.getstatic 28, 3) := by decide +kernel
theorem dprog_84_method_4_code_117 : decode prog_84_method_4_code 117 = .ok (.goto 30, 3) := by decide +kernel
theorem dprog_84_method_4_code_120 : decode prog_84_method_4_code 120 = .ok (.getstatic 31, 3) := by decide +kernel
theorem dprog_84_method_4_code_123 : decode prog_84_method_4_code 123 = .ok (.goto 24, 3) := by decide +kernel
theorem dprog_84_method_4_code_126 : decode prog_84_method_4_code 126 = .ok (.getstatic 34, 3) := by decide +kernel
theorem dprog_84_method_4_code_129 : decode prog_84_method_4_code 129 = .ok (.goto 18, 3) := by decide +kernel
theorem dprog_84_method_4_code_144 : decode prog_84_method_4_code 144 = .ok (.getstatic 3, 3) := by decide +kernel
theorem dprog_84_method_4_code_132 : decode prog_84_method_4_code 132 = .ok (.getstatic 37, 3) := by decide +kernel
theorem dprog_84_method_4_code_135 : decode prog_84_method_4_code 135 = .ok (.goto 12, 3) := by decide +kernel
theorem dprog_84_method_4_code_138 : decode prog_84_method_4_code 138 = .ok (.getstatic 40, 3) := by decide +kernel
theorem dprog_84_method_4_code_141 : decode prog_84_method_4_code 141 = .ok (.goto 6, 3) := by decide +kernel
theorem ef_rm1 (m_ : MethodId) (n : Int32) : entryFrame m_ #[(.int n)] 1 = mkF m_ 0 #[.val (.int n)] [] := by first | (simp [entryFrame, mkF, argsToLocals, Value.category]; done) | rfl
theorem own_pn0 : plainName "com/example/banksum/banksum/uk/ExceptionRule" = true := by first | (simp [plainName, overriddenIn]; done) | decide +kernel
set_option maxRecDepth 65536 in
set_option maxHeartbeats 40000000 in
theorem rm1 (l : Launch) (Z : State) (a0 : Array Value) (hw : ∀ d ∈ tables_1, d.before a0 Z = true) (n : Int32) (s0 s1 s2 s3 s4 s5 s6 s7 s8 s9 s10 s11 s12 : Addr) (h0 : Heap) (n0 : Nat) (Z0 : n0 ≤ h0.size) (S_NONE : Sta Z h0 "com/example/banksum/banksum/uk/ExceptionRule" "NONE" "Lcom/example/banksum/banksum/uk/ExceptionRule;" (.ref s0)) (S_ADD_27 : Sta Z h0 "com/example/banksum/banksum/uk/ExceptionRule" "ADD_27" "Lcom/example/banksum/banksum/uk/ExceptionRule;" (.ref s1)) (S_EITHER_WEIGHTS_BY_A_AND_G : Sta Z h0 "com/example/banksum/banksum/uk/ExceptionRule" "EITHER_WEIGHTS_BY_A_AND_G" "Lcom/example/banksum/banksum/uk/ExceptionRule;" (.ref s2)) (S_SKIP_WHEN_C_IS_6_OR_9 : Sta Z h0 "com/example/banksum/banksum/uk/ExceptionRule" "SKIP_WHEN_C_IS_6_OR_9" "Lcom/example/banksum/banksum/uk/ExceptionRule;" (.ref s3)) (S_REMAINDER_IS_GH : Sta Z h0 "com/example/banksum/banksum/uk/ExceptionRule" "REMAINDER_IS_GH" "Lcom/example/banksum/banksum/uk/ExceptionRule;" (.ref s4)) (S_SUBSTITUTE_AND_CHECK_DIGIT : Sta Z h0 "com/example/banksum/banksum/uk/ExceptionRule" "SUBSTITUTE_AND_CHECK_DIGIT" "Lcom/example/banksum/banksum/uk/ExceptionRule;" (.ref s5)) (S_FOREIGN_CURRENCY : Sta Z h0 "com/example/banksum/banksum/uk/ExceptionRule" "FOREIGN_CURRENCY" "Lcom/example/banksum/banksum/uk/ExceptionRule;" (.ref s6)) (S_ZERO_U_TO_B_WHEN_G_IS_9 : Sta Z h0 "com/example/banksum/banksum/uk/ExceptionRule" "ZERO_U_TO_B_WHEN_G_IS_9" "Lcom/example/banksum/banksum/uk/ExceptionRule;" (.ref s7)) (S_SORTING_CODE_090126 : Sta Z h0 "com/example/banksum/banksum/uk/ExceptionRule" "SORTING_CODE_090126" "Lcom/example/banksum/banksum/uk/ExceptionRule;" (.ref s8)) (S_SORTING_CODE_309634 : Sta Z h0 "com/example/banksum/banksum/uk/ExceptionRule" "SORTING_CODE_309634" "Lcom/example/banksum/banksum/uk/ExceptionRule;" (.ref s9)) (S_EITHER_ZERO_U_TO_B_WHEN_AB_IS_09_OR_99_AND_G_IS_9 : Sta Z h0 "com/example/banksum/banksum/uk/ExceptionRule" "EITHER_ZERO_U_TO_B_WHEN_AB_IS_09_OR_99_AND_G_IS_9" "Lcom/example/banksum/banksum/uk/ExceptionRule;" (.ref s10)) (S_EITHER : Sta Z h0 "com/example/banksum/banksum/uk/ExceptionRule" "EITHER" "Lcom/example/banksum/banksum/uk/ExceptionRule;" (.ref s11)) (S_AGAIN_WITHOUT_H_WHEN_H_IS_0_1_OR_9 : Sta Z h0 "com/example/banksum/banksum/uk/ExceptionRule" "AGAIN_WITHOUT_H_WHEN_H_IS_0_1_OR_9" "Lcom/example/banksum/banksum/uk/ExceptionRule;" (.ref s12)) :
    own_Met l Z (⟨"com/example/banksum/banksum/uk/ExceptionRule", "of", "(I)Lcom/example/banksum/banksum/uk/ExceptionRule;"⟩ : MethodName) prog_84_method_4_code 1 (some (.object "com/example/banksum/banksum/uk/ExceptionRule")) ({ frames := 0, cells := 0, slots := 0, locals := 0 } : Room) #[(.int n)] h0 (fun v h L => ((v = some (.ref s0) ∧ ¬ n = (1 : Int32) ∧ ¬ n = (2 : Int32) ∧ ¬ n = (3 : Int32) ∧ ¬ n = (4 : Int32) ∧ ¬ n = (5 : Int32) ∧ ¬ n = (6 : Int32) ∧ ¬ n = (7 : Int32) ∧ ¬ n = (8 : Int32) ∧ ¬ n = (9 : Int32) ∧ ¬ n = (10 : Int32) ∧ ¬ n = (12 : Int32) ∧ ¬ n = (14 : Int32)) ∨ (v = some (.ref s1) ∧ n = (1 : Int32)) ∨ (v = some (.ref s2) ∧ n = (2 : Int32)) ∨ (v = some (.ref s3) ∧ n = (3 : Int32)) ∨ (v = some (.ref s4) ∧ n = (4 : Int32)) ∨ (v = some (.ref s5) ∧ n = (5 : Int32)) ∨ (v = some (.ref s6) ∧ n = (6 : Int32)) ∨ (v = some (.ref s7) ∧ n = (7 : Int32)) ∨ (v = some (.ref s8) ∧ n = (8 : Int32)) ∨ (v = some (.ref s9) ∧ n = (9 : Int32)) ∨ (v = some (.ref s10) ∧ n = (10 : Int32)) ∨ (v = some (.ref s11) ∧ n = (12 : Int32)) ∨ (v = some (.ref s12) ∧ n = (14 : Int32))) ∧ Fr n0 L ∧ h = h0) := by
  refine own_body #[.val (.int n)] (plainFor_of_name own_pn0) (fun m_ => ef_rm1 m_ n) ?_
  intro p_ e_ s_ m_ below meth c_ s₁ X0 hx hby hml hret hlk hZ hown hnm e0
  have N0 := Fr.nil n0
  show own_Out p_ e_ below s_ _ _ _ s₁ (mkF m_ 0 #[.val (.int n)] [])
  refine own_st s₁ (mkF m_ 1 #[.val (.int n)] [(.int n)]) (fun t_ k_ => ?_) ?_
  · refine XS.iloadN X0.here hx rfl (hb hby dprog_84_method_4_code_0) rfl ?_
    show Steps p_.tables e_ below (s₁.setTop (mkF m_ 1 #[.val (.int n)] [(.int n)])) t_
    exact k_
  by_cases hk1 : n = (1 : Int32)
  · refine own_st s₁ (mkF m_ 72 #[.val (.int n)] []) (fun t_ k_ => XS.tswIn X0.here hx rfl (pc0 := 1) (pc' := 72) rfl (hb hby dprog_84_method_4_code_1) rfl (by rw [hk1]; decide) (o := 71) (by rw [hk1]; decide) (by decide) (by decide) k_) ?_
    obtain ⟨T1, X1, e1, st1⟩ := getS2 X0 hx hZ hown (host := "") (Or.inl (hw _ (List.mem_of_getElem? (i := 66) rfl))) Via.refl e0 S_ADD_27 (g := (mkF m_ 72 #[.val (.int n)] [])) rfl (hb hby dprog_84_method_4_code_72)
    refine own_st T1 (mkF m_ 75 #[.val (.int n)] [(.ref s1)]) st1 ?_
    refine own_st T1 (mkF m_ 147 #[.val (.int n)] [(.ref s1)]) (fun t_ k_ => ?_) ?_
    · refine XS.goto X1.here hx rfl (pc0 := 75) (pc' := 147) rfl (hb hby dprog_84_method_4_code_75) (by decide) (by decide) ?_
      show Steps p_.tables e_ below (T1.setTop (mkF m_ 147 #[.val (.int n)] [(.ref s1)])) t_
      exact k_
    refine own_retA X1 hx hlk hret rfl rfl (hb hby dprog_84_method_4_code_147) (by decide) (by decide) ?_
    rw [e1]
    exact ⟨Or.inr (Or.inl ⟨rfl, hk1⟩), N0, rfl⟩
  by_cases hk2 : n = (2 : Int32)
  · refine own_st s₁ (mkF m_ 78 #[.val (.int n)] []) (fun t_ k_ => XS.tswIn X0.here hx rfl (pc0 := 1) (pc' := 78) rfl (hb hby dprog_84_method_4_code_1) rfl (by rw [hk2]; decide) (o := 77) (by rw [hk2]; decide) (by decide) (by decide) k_) ?_
    obtain ⟨T2, X2, e2, st2⟩ := getS2 X0 hx hZ hown (host := "") (Or.inl (hw _ (List.mem_of_getElem? (i := 88) rfl))) Via.refl e0 S_EITHER_WEIGHTS_BY_A_AND_G (g := (mkF m_ 78 #[.val (.int n)] [])) rfl (hb hby dprog_84_method_4_code_78)
    refine own_st T2 (mkF m_ 81 #[.val (.int n)] [(.ref s2)]) st2 ?_
    refine own_st T2 (mkF m_ 147 #[.val (.int n)] [(.ref s2)]) (fun t_ k_ => ?_) ?_
    · refine XS.goto X2.here hx rfl (pc0 := 81) (pc' := 147) rfl (hb hby dprog_84_method_4_code_81) (by decide) (by decide) ?_
      show Steps p_.tables e_ below (T2.setTop (mkF m_ 147 #[.val (.int n)] [(.ref s2)])) t_
      exact k_
    refine own_retA X2 hx hlk hret rfl rfl (hb hby dprog_84_method_4_code_147) (by decide) (by decide) ?_
    rw [e2]
    exact ⟨Or.inr (Or.inr (Or.inl ⟨rfl, hk2⟩)), N0, rfl⟩
  by_cases hk3 : n = (3 : Int32)
  · refine own_st s₁ (mkF m_ 84 #[.val (.int n)] []) (fun t_ k_ => XS.tswIn X0.here hx rfl (pc0 := 1) (pc' := 84) rfl (hb hby dprog_84_method_4_code_1) rfl (by rw [hk3]; decide) (o := 83) (by rw [hk3]; decide) (by decide) (by decide) k_) ?_
    obtain ⟨T3, X3, e3, st3⟩ := getS2 X0 hx hZ hown (host := "") (Or.inl (hw _ (List.mem_of_getElem? (i := 77) rfl))) Via.refl e0 S_SKIP_WHEN_C_IS_6_OR_9 (g := (mkF m_ 84 #[.val (.int n)] [])) rfl (hb hby dprog_84_method_4_code_84)
    refine own_st T3 (mkF m_ 87 #[.val (.int n)] [(.ref s3)]) st3 ?_
    refine own_st T3 (mkF m_ 147 #[.val (.int n)] [(.ref s3)]) (fun t_ k_ => ?_) ?_
    · refine XS.goto X3.here hx rfl (pc0 := 87) (pc' := 147) rfl (hb hby dprog_84_method_4_code_87) (by decide) (by decide) ?_
      show Steps p_.tables e_ below (T3.setTop (mkF m_ 147 #[.val (.int n)] [(.ref s3)])) t_
      exact k_
    refine own_retA X3 hx hlk hret rfl rfl (hb hby dprog_84_method_4_code_147) (by decide) (by decide) ?_
    rw [e3]
    exact ⟨Or.inr (Or.inr (Or.inr (Or.inl ⟨rfl, hk3⟩))), N0, rfl⟩
  by_cases hk4 : n = (4 : Int32)
  · refine own_st s₁ (mkF m_ 90 #[.val (.int n)] []) (fun t_ k_ => XS.tswIn X0.here hx rfl (pc0 := 1) (pc' := 90) rfl (hb hby dprog_84_method_4_code_1) rfl (by rw [hk4]; decide) (o := 89) (by rw [hk4]; decide) (by decide) (by decide) k_) ?_
    obtain ⟨T4, X4, e4, st4⟩ := getS2 X0 hx hZ hown (host := "") (Or.inl (hw _ (List.mem_of_getElem? (i := 118) rfl))) Via.refl e0 S_REMAINDER_IS_GH (g := (mkF m_ 90 #[.val (.int n)] [])) rfl (hb hby dprog_84_method_4_code_90)
    refine own_st T4 (mkF m_ 93 #[.val (.int n)] [(.ref s4)]) st4 ?_
    refine own_st T4 (mkF m_ 147 #[.val (.int n)] [(.ref s4)]) (fun t_ k_ => ?_) ?_
    · refine XS.goto X4.here hx rfl (pc0 := 93) (pc' := 147) rfl (hb hby dprog_84_method_4_code_93) (by decide) (by decide) ?_
      show Steps p_.tables e_ below (T4.setTop (mkF m_ 147 #[.val (.int n)] [(.ref s4)])) t_
      exact k_
    refine own_retA X4 hx hlk hret rfl rfl (hb hby dprog_84_method_4_code_147) (by decide) (by decide) ?_
    rw [e4]
    exact ⟨Or.inr (Or.inr (Or.inr (Or.inr (Or.inl ⟨rfl, hk4⟩)))), N0, rfl⟩
  by_cases hk5 : n = (5 : Int32)
  · refine own_st s₁ (mkF m_ 96 #[.val (.int n)] []) (fun t_ k_ => XS.tswIn X0.here hx rfl (pc0 := 1) (pc' := 96) rfl (hb hby dprog_84_method_4_code_1) rfl (by rw [hk5]; decide) (o := 95) (by rw [hk5]; decide) (by decide) (by decide) k_) ?_
    obtain ⟨T5, X5, e5, st5⟩ := getS2 X0 hx hZ hown (host := "") (Or.inl (hw _ (List.mem_of_getElem? (i := 95) rfl))) Via.refl e0 S_SUBSTITUTE_AND_CHECK_DIGIT (g := (mkF m_ 96 #[.val (.int n)] [])) rfl (hb hby dprog_84_method_4_code_96)
    refine own_st T5 (mkF m_ 99 #[.val (.int n)] [(.ref s5)]) st5 ?_
    refine own_st T5 (mkF m_ 147 #[.val (.int n)] [(.ref s5)]) (fun t_ k_ => ?_) ?_
    · refine XS.goto X5.here hx rfl (pc0 := 99) (pc' := 147) rfl (hb hby dprog_84_method_4_code_99) (by decide) (by decide) ?_
      show Steps p_.tables e_ below (T5.setTop (mkF m_ 147 #[.val (.int n)] [(.ref s5)])) t_
      exact k_
    refine own_retA X5 hx hlk hret rfl rfl (hb hby dprog_84_method_4_code_147) (by decide) (by decide) ?_
    rw [e5]
    exact ⟨Or.inr (Or.inr (Or.inr (Or.inr (Or.inr (Or.inl ⟨rfl, hk5⟩))))), N0, rfl⟩
  by_cases hk6 : n = (6 : Int32)
  · refine own_st s₁ (mkF m_ 102 #[.val (.int n)] []) (fun t_ k_ => XS.tswIn X0.here hx rfl (pc0 := 1) (pc' := 102) rfl (hb hby dprog_84_method_4_code_1) rfl (by rw [hk6]; decide) (o := 101) (by rw [hk6]; decide) (by decide) (by decide) k_) ?_
    obtain ⟨T6, X6, e6, st6⟩ := getS2 X0 hx hZ hown (host := "") (Or.inl (hw _ (List.mem_of_getElem? (i := 107) rfl))) Via.refl e0 S_FOREIGN_CURRENCY (g := (mkF m_ 102 #[.val (.int n)] [])) rfl (hb hby dprog_84_method_4_code_102)
    refine own_st T6 (mkF m_ 105 #[.val (.int n)] [(.ref s6)]) st6 ?_
    refine own_st T6 (mkF m_ 147 #[.val (.int n)] [(.ref s6)]) (fun t_ k_ => ?_) ?_
    · refine XS.goto X6.here hx rfl (pc0 := 105) (pc' := 147) rfl (hb hby dprog_84_method_4_code_105) (by decide) (by decide) ?_
      show Steps p_.tables e_ below (T6.setTop (mkF m_ 147 #[.val (.int n)] [(.ref s6)])) t_
      exact k_
    refine own_retA X6 hx hlk hret rfl rfl (hb hby dprog_84_method_4_code_147) (by decide) (by decide) ?_
    rw [e6]
    exact ⟨Or.inr (Or.inr (Or.inr (Or.inr (Or.inr (Or.inr (Or.inl ⟨rfl, hk6⟩)))))), N0, rfl⟩
  by_cases hk7 : n = (7 : Int32)
  · refine own_st s₁ (mkF m_ 108 #[.val (.int n)] []) (fun t_ k_ => XS.tswIn X0.here hx rfl (pc0 := 1) (pc' := 108) rfl (hb hby dprog_84_method_4_code_1) rfl (by rw [hk7]; decide) (o := 107) (by rw [hk7]; decide) (by decide) (by decide) k_) ?_
    obtain ⟨T7, X7, e7, st7⟩ := getS2 X0 hx hZ hown (host := "") (Or.inl (hw _ (List.mem_of_getElem? (i := 114) rfl))) Via.refl e0 S_ZERO_U_TO_B_WHEN_G_IS_9 (g := (mkF m_ 108 #[.val (.int n)] [])) rfl (hb hby dprog_84_method_4_code_108)
    refine own_st T7 (mkF m_ 111 #[.val (.int n)] [(.ref s7)]) st7 ?_
    refine own_st T7 (mkF m_ 147 #[.val (.int n)] [(.ref s7)]) (fun t_ k_ => ?_) ?_
    · refine XS.goto X7.here hx rfl (pc0 := 111) (pc' := 147) rfl (hb hby dprog_84_method_4_code_111) (by decide) (by decide) ?_
      show Steps p_.tables e_ below (T7.setTop (mkF m_ 147 #[.val (.int n)] [(.ref s7)])) t_
      exact k_
    refine own_retA X7 hx hlk hret rfl rfl (hb hby dprog_84_method_4_code_147) (by decide) (by decide) ?_
    rw [e7]
    exact ⟨Or.inr (Or.inr (Or.inr (Or.inr (Or.inr (Or.inr (Or.inr (Or.inl ⟨rfl, hk7⟩))))))), N0, rfl⟩
  by_cases hk8 : n = (8 : Int32)
  · refine own_st s₁ (mkF m_ 114 #[.val (.int n)] []) (fun t_ k_ => XS.tswIn X0.here hx rfl (pc0 := 1) (pc' := 114) rfl (hb hby dprog_84_method_4_code_1) rfl (by rw [hk8]; decide) (o := 113) (by rw [hk8]; decide) (by decide) (by decide) k_) ?_
    obtain ⟨T8, X8, e8, st8⟩ := getS2 X0 hx hZ hown (host := "") (Or.inl (hw _ (List.mem_of_getElem? (i := 73) rfl))) Via.refl e0 S_SORTING_CODE_090126 (g := (mkF m_ 114 #[.val (.int n)] [])) rfl (hb hby dprog_84_method_4_code_114)
    refine own_st T8 (mkF m_ 117 #[.val (.int n)] [(.ref s8)]) st8 ?_
    refine own_st T8 (mkF m_ 147 #[.val (.int n)] [(.ref s8)]) (fun t_ k_ => ?_) ?_
    · refine XS.goto X8.here hx rfl (pc0 := 117) (pc' := 147) rfl (hb hby dprog_84_method_4_code_117) (by decide) (by decide) ?_
      show Steps p_.tables e_ below (T8.setTop (mkF m_ 147 #[.val (.int n)] [(.ref s8)])) t_
      exact k_
    refine own_retA X8 hx hlk hret rfl rfl (hb hby dprog_84_method_4_code_147) (by decide) (by decide) ?_
    rw [e8]
    exact ⟨Or.inr (Or.inr (Or.inr (Or.inr (Or.inr (Or.inr (Or.inr (Or.inr (Or.inl ⟨rfl, hk8⟩)))))))), N0, rfl⟩
  by_cases hk9 : n = (9 : Int32)
  · refine own_st s₁ (mkF m_ 120 #[.val (.int n)] []) (fun t_ k_ => XS.tswIn X0.here hx rfl (pc0 := 1) (pc' := 120) rfl (hb hby dprog_84_method_4_code_1) rfl (by rw [hk9]; decide) (o := 119) (by rw [hk9]; decide) (by decide) (by decide) k_) ?_
    obtain ⟨T9, X9, e9, st9⟩ := getS2 X0 hx hZ hown (host := "") (Or.inl (hw _ (List.mem_of_getElem? (i := 103) rfl))) Via.refl e0 S_SORTING_CODE_309634 (g := (mkF m_ 120 #[.val (.int n)] [])) rfl (hb hby dprog_84_method_4_code_120)
    refine own_st T9 (mkF m_ 123 #[.val (.int n)] [(.ref s9)]) st9 ?_
    refine own_st T9 (mkF m_ 147 #[.val (.int n)] [(.ref s9)]) (fun t_ k_ => ?_) ?_
    · refine XS.goto X9.here hx rfl (pc0 := 123) (pc' := 147) rfl (hb hby dprog_84_method_4_code_123) (by decide) (by decide) ?_
      show Steps p_.tables e_ below (T9.setTop (mkF m_ 147 #[.val (.int n)] [(.ref s9)])) t_
      exact k_
    refine own_retA X9 hx hlk hret rfl rfl (hb hby dprog_84_method_4_code_147) (by decide) (by decide) ?_
    rw [e9]
    exact ⟨Or.inr (Or.inr (Or.inr (Or.inr (Or.inr (Or.inr (Or.inr (Or.inr (Or.inr (Or.inl ⟨rfl, hk9⟩))))))))), N0, rfl⟩
  by_cases hk10 : n = (10 : Int32)
  · refine own_st s₁ (mkF m_ 126 #[.val (.int n)] []) (fun t_ k_ => XS.tswIn X0.here hx rfl (pc0 := 1) (pc' := 126) rfl (hb hby dprog_84_method_4_code_1) rfl (by rw [hk10]; decide) (o := 125) (by rw [hk10]; decide) (by decide) (by decide) k_) ?_
    obtain ⟨T10, X10, e10, st10⟩ := getS2 X0 hx hZ hown (host := "") (Or.inl (hw _ (List.mem_of_getElem? (i := 81) rfl))) Via.refl e0 S_EITHER_ZERO_U_TO_B_WHEN_AB_IS_09_OR_99_AND_G_IS_9 (g := (mkF m_ 126 #[.val (.int n)] [])) rfl (hb hby dprog_84_method_4_code_126)
    refine own_st T10 (mkF m_ 129 #[.val (.int n)] [(.ref s10)]) st10 ?_
    refine own_st T10 (mkF m_ 147 #[.val (.int n)] [(.ref s10)]) (fun t_ k_ => ?_) ?_
    · refine XS.goto X10.here hx rfl (pc0 := 129) (pc' := 147) rfl (hb hby dprog_84_method_4_code_129) (by decide) (by decide) ?_
      show Steps p_.tables e_ below (T10.setTop (mkF m_ 147 #[.val (.int n)] [(.ref s10)])) t_
      exact k_
    refine own_retA X10 hx hlk hret rfl rfl (hb hby dprog_84_method_4_code_147) (by decide) (by decide) ?_
    rw [e10]
    exact ⟨Or.inr (Or.inr (Or.inr (Or.inr (Or.inr (Or.inr (Or.inr (Or.inr (Or.inr (Or.inr (Or.inl ⟨rfl, hk10⟩)))))))))), N0, rfl⟩
  by_cases hk11 : n = (11 : Int32)
  · refine own_st s₁ (mkF m_ 144 #[.val (.int n)] []) (fun t_ k_ => XS.tswIn X0.here hx rfl (pc0 := 1) (pc' := 144) rfl (hb hby dprog_84_method_4_code_1) rfl (by rw [hk11]; decide) (o := 143) (by rw [hk11]; decide) (by decide) (by decide) k_) ?_
    obtain ⟨T11, X11, e11, st11⟩ := getS2 X0 hx hZ hown (host := "") (Or.inl (hw _ (List.mem_of_getElem? (i := 46) rfl))) Via.refl e0 S_NONE (g := (mkF m_ 144 #[.val (.int n)] [])) rfl (hb hby dprog_84_method_4_code_144)
    refine own_st T11 (mkF m_ 147 #[.val (.int n)] [(.ref s0)]) st11 ?_
    refine own_retA X11 hx hlk hret rfl rfl (hb hby dprog_84_method_4_code_147) (by decide) (by decide) ?_
    rw [e11]
    exact ⟨Or.inl ⟨rfl, (by rw [hk11]; decide), (by rw [hk11]; decide), (by rw [hk11]; decide), (by rw [hk11]; decide), (by rw [hk11]; decide), (by rw [hk11]; decide), (by rw [hk11]; decide), (by rw [hk11]; decide), (by rw [hk11]; decide), (by rw [hk11]; decide), (by rw [hk11]; decide), (by rw [hk11]; decide)⟩, N0, rfl⟩
  by_cases hk12 : n = (12 : Int32)
  · refine own_st s₁ (mkF m_ 132 #[.val (.int n)] []) (fun t_ k_ => XS.tswIn X0.here hx rfl (pc0 := 1) (pc' := 132) rfl (hb hby dprog_84_method_4_code_1) rfl (by rw [hk12]; decide) (o := 131) (by rw [hk12]; decide) (by decide) (by decide) k_) ?_
    obtain ⟨T12, X12, e12, st12⟩ := getS2 X0 hx hZ hown (host := "") (Or.inl (hw _ (List.mem_of_getElem? (i := 122) rfl))) Via.refl e0 S_EITHER (g := (mkF m_ 132 #[.val (.int n)] [])) rfl (hb hby dprog_84_method_4_code_132)
    refine own_st T12 (mkF m_ 135 #[.val (.int n)] [(.ref s11)]) st12 ?_
    refine own_st T12 (mkF m_ 147 #[.val (.int n)] [(.ref s11)]) (fun t_ k_ => ?_) ?_
    · refine XS.goto X12.here hx rfl (pc0 := 135) (pc' := 147) rfl (hb hby dprog_84_method_4_code_135) (by decide) (by decide) ?_
      show Steps p_.tables e_ below (T12.setTop (mkF m_ 147 #[.val (.int n)] [(.ref s11)])) t_
      exact k_
    refine own_retA X12 hx hlk hret rfl rfl (hb hby dprog_84_method_4_code_147) (by decide) (by decide) ?_
    rw [e12]
    exact ⟨Or.inr (Or.inr (Or.inr (Or.inr (Or.inr (Or.inr (Or.inr (Or.inr (Or.inr (Or.inr (Or.inr (Or.inl ⟨rfl, hk12⟩))))))))))), N0, rfl⟩
  by_cases hk13 : n = (13 : Int32)
  · refine own_st s₁ (mkF m_ 144 #[.val (.int n)] []) (fun t_ k_ => XS.tswIn X0.here hx rfl (pc0 := 1) (pc' := 144) rfl (hb hby dprog_84_method_4_code_1) rfl (by rw [hk13]; decide) (o := 143) (by rw [hk13]; decide) (by decide) (by decide) k_) ?_
    obtain ⟨T13, X13, e13, st13⟩ := getS2 X0 hx hZ hown (host := "") (Or.inl (hw _ (List.mem_of_getElem? (i := 46) rfl))) Via.refl e0 S_NONE (g := (mkF m_ 144 #[.val (.int n)] [])) rfl (hb hby dprog_84_method_4_code_144)
    refine own_st T13 (mkF m_ 147 #[.val (.int n)] [(.ref s0)]) st13 ?_
    refine own_retA X13 hx hlk hret rfl rfl (hb hby dprog_84_method_4_code_147) (by decide) (by decide) ?_
    rw [e13]
    exact ⟨Or.inl ⟨rfl, (by rw [hk13]; decide), (by rw [hk13]; decide), (by rw [hk13]; decide), (by rw [hk13]; decide), (by rw [hk13]; decide), (by rw [hk13]; decide), (by rw [hk13]; decide), (by rw [hk13]; decide), (by rw [hk13]; decide), (by rw [hk13]; decide), (by rw [hk13]; decide), (by rw [hk13]; decide)⟩, N0, rfl⟩
  by_cases hk14 : n = (14 : Int32)
  · refine own_st s₁ (mkF m_ 138 #[.val (.int n)] []) (fun t_ k_ => XS.tswIn X0.here hx rfl (pc0 := 1) (pc' := 138) rfl (hb hby dprog_84_method_4_code_1) rfl (by rw [hk14]; decide) (o := 137) (by rw [hk14]; decide) (by decide) (by decide) k_) ?_
    obtain ⟨T14, X14, e14, st14⟩ := getS2 X0 hx hZ hown (host := "") (Or.inl (hw _ (List.mem_of_getElem? (i := 99) rfl))) Via.refl e0 S_AGAIN_WITHOUT_H_WHEN_H_IS_0_1_OR_9 (g := (mkF m_ 138 #[.val (.int n)] [])) rfl (hb hby dprog_84_method_4_code_138)
    refine own_st T14 (mkF m_ 141 #[.val (.int n)] [(.ref s12)]) st14 ?_
    refine own_st T14 (mkF m_ 147 #[.val (.int n)] [(.ref s12)]) (fun t_ k_ => ?_) ?_
    · refine XS.goto X14.here hx rfl (pc0 := 141) (pc' := 147) rfl (hb hby dprog_84_method_4_code_141) (by decide) (by decide) ?_
      show Steps p_.tables e_ below (T14.setTop (mkF m_ 147 #[.val (.int n)] [(.ref s12)])) t_
      exact k_
    refine own_retA X14 hx hlk hret rfl rfl (hb hby dprog_84_method_4_code_147) (by decide) (by decide) ?_
    rw [e14]
    exact ⟨Or.inr (Or.inr (Or.inr (Or.inr (Or.inr (Or.inr (Or.inr (Or.inr (Or.inr (Or.inr (Or.inr (Or.inr (⟨rfl, hk14⟩)))))))))))), N0, rfl⟩
  refine own_st s₁ (mkF m_ 144 #[.val (.int n)] []) (fun t_ k_ => XS.tswOut X0.here hx rfl (pc0 := 1) (pc' := 144) rfl (hb hby dprog_84_method_4_code_1) rfl (own_out hk1 hk2 hk3 hk4 hk5 hk6 hk7 hk8 hk9 hk10 hk11 hk12 hk13 hk14) (by decide) (by decide) k_) ?_
  obtain ⟨T15, X15, e15, st15⟩ := getS2 X0 hx hZ hown (host := "") (Or.inl (hw _ (List.mem_of_getElem? (i := 46) rfl))) Via.refl e0 S_NONE (g := (mkF m_ 144 #[.val (.int n)] [])) rfl (hb hby dprog_84_method_4_code_144)
  refine own_st T15 (mkF m_ 147 #[.val (.int n)] [(.ref s0)]) st15 ?_
  refine own_retA X15 hx hlk hret rfl rfl (hb hby dprog_84_method_4_code_147) (by decide) (by decide) ?_
  rw [e15]
  exact ⟨Or.inl ⟨rfl, hk1, hk2, hk3, hk4, hk5, hk6, hk7, hk8, hk9, hk10, hk12, hk14⟩, N0, rfl⟩
theorem dmethod_3_code_0 : decode method_3_code 0 = .ok (.iload_n 0, 1) := by decide +kernel
theorem dmethod_3_code_1 : decode method_3_code 1 = .ok (.iconst 1, 1) := by decide +kernel
theorem dmethod_3_code_2 : decode method_3_code 2 = .ok (.if_icmp .lt 11, 3) := by decide +kernel
theorem dmethod_3_code_13 : decode method_3_code 13 = .ok (.iload_n 0, 1) := by decide +kernel
theorem dmethod_3_code_14 : decode method_3_code 14 = .ok (.bipush 12, 2) := by decide +kernel
theorem dmethod_3_code_16 : decode method_3_code 16 = .ok (.if_icmp .ne 6, 3) := by decide +kernel
theorem dmethod_3_code_19 : decode method_3_code 19 = .ok (.bipush 11, 2) := by decide +kernel
theorem dmethod_3_code_21 : decode method_3_code 21 = .ok (.ireturn, 1) := by decide +kernel
theorem dmethod_3_code_22 : decode method_3_code 22 = .ok (.iload_n 0, 1) := by decide +kernel
theorem dmethod_3_code_23 : decode method_3_code 23 = .ok (.bipush 14, 2) := by decide +kernel
theorem dmethod_3_code_25 : decode method_3_code 25 = .ok (.if_icmp .ne 6, 3) := by decide +kernel
theorem dmethod_3_code_28 : decode method_3_code 28 = .ok (.bipush 12, 2) := by decide +kernel
theorem dmethod_3_code_30 : decode method_3_code 30 = .ok (.ireturn, 1) := by decide +kernel
theorem dmethod_3_code_31 : decode method_3_code 31 = .ok (.iconst 0, 1) := by decide +kernel
theorem dmethod_3_code_32 : decode method_3_code 32 = .ok (.ireturn, 1) := by decide +kernel
theorem dmethod_3_code_5 : decode method_3_code 5 = .ok (.iload_n 0, 1) := by decide +kernel
theorem dmethod_3_code_6 : decode method_3_code 6 = .ok (.bipush 10, 2) := by decide +kernel
theorem dmethod_3_code_8 : decode method_3_code 8 = .ok (.if_icmp .gt 5, 3) := by decide +kernel
theorem dmethod_3_code_11 : decode method_3_code 11 = .ok (.iload_n 0, 1) := by decide +kernel
theorem dmethod_3_code_12 : decode method_3_code 12 = .ok (.ireturn, 1) := by decide +kernel
theorem ef_rm2 (m_ : MethodId) (n : Int32) : entryFrame m_ #[(.int n)] 1 = mkF m_ 0 #[.val (.int n)] [] := by first | (simp [entryFrame, mkF, argsToLocals, Value.category]; done) | rfl
theorem own_pn1 : plainName "com/example/banksum/banksum/uk/ExceptionRuleOfPinLaw" = true := by first | (simp [plainName, overriddenIn]; done) | decide +kernel
def f2 (n : Int32) : Int32 := (if n < (1 : Int32) then (if n = (12 : Int32) then (11 : Int32) else (if n = (14 : Int32) then (12 : Int32) else (0 : Int32))) else (if (10 : Int32) < n then (if n = (12 : Int32) then (11 : Int32) else (if n = (14 : Int32) then (12 : Int32) else (0 : Int32))) else n))
set_option maxRecDepth 65536 in
set_option maxHeartbeats 40000000 in
theorem rm2 (l : Launch) (Z : State) (a0 : Array Value) (hw : ∀ d ∈ tables_1, d.before a0 Z = true) (n : Int32) (h0 : Heap) (n0 : Nat) (Z0 : n0 ≤ h0.size)  :
    own_Met l Z (⟨"com/example/banksum/banksum/uk/ExceptionRuleOfPinLaw", "index", "(I)I"⟩ : MethodName) method_3_code 1 (some .int) ({ frames := 0, cells := 0, slots := 0, locals := 0 } : Room) #[(.int n)] h0 (fun v h L => v = some (.int (f2 n)) ∧ Fr n0 L ∧ h = h0) := by
  refine own_body #[.val (.int n)] (plainFor_of_name own_pn1) (fun m_ => ef_rm2 m_ n) ?_
  intro p_ e_ s_ m_ below meth c_ s₁ X0 hx hby hml hret hlk hZ hown hnm e0
  have N0 := Fr.nil n0
  show own_Out p_ e_ below s_ _ _ _ s₁ (mkF m_ 0 #[.val (.int n)] [])
  refine own_st s₁ (mkF m_ 2 #[.val (.int n)] [(.int (1 : Int32)), (.int n)]) (fun t_ k_ => ?_) ?_
  · refine XS.iloadN X0.here hx rfl (hb hby dmethod_3_code_0) rfl ?_
    show Steps p_.tables e_ below (s₁.setTop (mkF m_ 1 #[.val (.int n)] [(.int n)])) t_
    refine XS.iconst X0.here hx rfl (hb hby dmethod_3_code_1) ?_
    show Steps p_.tables e_ below (s₁.setTop (mkF m_ 2 #[.val (.int n)] [(.int (1 : Int32)), (.int n)])) t_
    exact k_
  by_cases hc2 : n < (1 : Int32)
  · refine own_st s₁ (mkF m_ 13 #[.val (.int n)] []) (fun t_ k_ => XS.icmpYes X0.here hx rfl (pc0 := 2) (pc' := 13) rfl (hb hby dmethod_3_code_2) rfl (tlt hc2).1 (by decide) (by decide) k_) ?_
    refine own_st s₁ (mkF m_ 16 #[.val (.int n)] [(.int (12 : Int32)), (.int n)]) (fun t_ k_ => ?_) ?_
    · refine XS.iloadN X0.here hx rfl (hb hby dmethod_3_code_13) rfl ?_
      show Steps p_.tables e_ below (s₁.setTop (mkF m_ 14 #[.val (.int n)] [(.int n)])) t_
      refine XS.bipush X0.here hx rfl (hb hby dmethod_3_code_14) ?_
      show Steps p_.tables e_ below (s₁.setTop (mkF m_ 16 #[.val (.int n)] [(.int (12 : Int32)), (.int n)])) t_
      exact k_
    by_cases hc16 : n = (12 : Int32)
    · refine own_st s₁ (mkF m_ 19 #[.val (.int n)] []) (fun t_ k_ => XS.icmpNo X0.here hx rfl (hb hby dmethod_3_code_16) rfl (teq hc16).2 k_) ?_
      refine own_st s₁ (mkF m_ 21 #[.val (.int n)] [(.int (11 : Int32))]) (fun t_ k_ => ?_) ?_
      · refine XS.bipush X0.here hx rfl (hb hby dmethod_3_code_19) ?_
        show Steps p_.tables e_ below (s₁.setTop (mkF m_ 21 #[.val (.int n)] [(.int (11 : Int32))])) t_
        exact k_
      refine own_retI X0 hx hlk hret (hb hby dmethod_3_code_21) (by decide) (by decide) ?_
      rw [e0]
      exact ⟨by simp only [f2, if_pos hc2, if_pos hc16], N0, rfl⟩
    · refine own_st s₁ (mkF m_ 22 #[.val (.int n)] []) (fun t_ k_ => XS.icmpYes X0.here hx rfl (pc0 := 16) (pc' := 22) rfl (hb hby dmethod_3_code_16) rfl (feq hc16).2 (by decide) (by decide) k_) ?_
      refine own_st s₁ (mkF m_ 25 #[.val (.int n)] [(.int (14 : Int32)), (.int n)]) (fun t_ k_ => ?_) ?_
      · refine XS.iloadN X0.here hx rfl (hb hby dmethod_3_code_22) rfl ?_
        show Steps p_.tables e_ below (s₁.setTop (mkF m_ 23 #[.val (.int n)] [(.int n)])) t_
        refine XS.bipush X0.here hx rfl (hb hby dmethod_3_code_23) ?_
        show Steps p_.tables e_ below (s₁.setTop (mkF m_ 25 #[.val (.int n)] [(.int (14 : Int32)), (.int n)])) t_
        exact k_
      by_cases hc25 : n = (14 : Int32)
      · refine own_st s₁ (mkF m_ 28 #[.val (.int n)] []) (fun t_ k_ => XS.icmpNo X0.here hx rfl (hb hby dmethod_3_code_25) rfl (teq hc25).2 k_) ?_
        refine own_st s₁ (mkF m_ 30 #[.val (.int n)] [(.int (12 : Int32))]) (fun t_ k_ => ?_) ?_
        · refine XS.bipush X0.here hx rfl (hb hby dmethod_3_code_28) ?_
          show Steps p_.tables e_ below (s₁.setTop (mkF m_ 30 #[.val (.int n)] [(.int (12 : Int32))])) t_
          exact k_
        refine own_retI X0 hx hlk hret (hb hby dmethod_3_code_30) (by decide) (by decide) ?_
        rw [e0]
        exact ⟨by simp only [f2, if_pos hc2, if_neg hc16, if_pos hc25], N0, rfl⟩
      · refine own_st s₁ (mkF m_ 31 #[.val (.int n)] []) (fun t_ k_ => XS.icmpYes X0.here hx rfl (pc0 := 25) (pc' := 31) rfl (hb hby dmethod_3_code_25) rfl (feq hc25).2 (by decide) (by decide) k_) ?_
        refine own_st s₁ (mkF m_ 32 #[.val (.int n)] [(.int (0 : Int32))]) (fun t_ k_ => ?_) ?_
        · refine XS.iconst X0.here hx rfl (hb hby dmethod_3_code_31) ?_
          show Steps p_.tables e_ below (s₁.setTop (mkF m_ 32 #[.val (.int n)] [(.int (0 : Int32))])) t_
          exact k_
        refine own_retI X0 hx hlk hret (hb hby dmethod_3_code_32) (by decide) (by decide) ?_
        rw [e0]
        exact ⟨by simp only [f2, if_pos hc2, if_neg hc16, if_neg hc25], N0, rfl⟩
  · refine own_st s₁ (mkF m_ 5 #[.val (.int n)] []) (fun t_ k_ => XS.icmpNo X0.here hx rfl (hb hby dmethod_3_code_2) rfl (flt hc2).1 k_) ?_
    refine own_st s₁ (mkF m_ 8 #[.val (.int n)] [(.int (10 : Int32)), (.int n)]) (fun t_ k_ => ?_) ?_
    · refine XS.iloadN X0.here hx rfl (hb hby dmethod_3_code_5) rfl ?_
      show Steps p_.tables e_ below (s₁.setTop (mkF m_ 6 #[.val (.int n)] [(.int n)])) t_
      refine XS.bipush X0.here hx rfl (hb hby dmethod_3_code_6) ?_
      show Steps p_.tables e_ below (s₁.setTop (mkF m_ 8 #[.val (.int n)] [(.int (10 : Int32)), (.int n)])) t_
      exact k_
    by_cases hc8 : (10 : Int32) < n
    · refine own_st s₁ (mkF m_ 13 #[.val (.int n)] []) (fun t_ k_ => XS.icmpYes X0.here hx rfl (pc0 := 8) (pc' := 13) rfl (hb hby dmethod_3_code_8) rfl (tlt hc8).2.2.1 (by decide) (by decide) k_) ?_
      refine own_st s₁ (mkF m_ 16 #[.val (.int n)] [(.int (12 : Int32)), (.int n)]) (fun t_ k_ => ?_) ?_
      · refine XS.iloadN X0.here hx rfl (hb hby dmethod_3_code_13) rfl ?_
        show Steps p_.tables e_ below (s₁.setTop (mkF m_ 14 #[.val (.int n)] [(.int n)])) t_
        refine XS.bipush X0.here hx rfl (hb hby dmethod_3_code_14) ?_
        show Steps p_.tables e_ below (s₁.setTop (mkF m_ 16 #[.val (.int n)] [(.int (12 : Int32)), (.int n)])) t_
        exact k_
      by_cases hc16 : n = (12 : Int32)
      · refine own_st s₁ (mkF m_ 19 #[.val (.int n)] []) (fun t_ k_ => XS.icmpNo X0.here hx rfl (hb hby dmethod_3_code_16) rfl (teq hc16).2 k_) ?_
        refine own_st s₁ (mkF m_ 21 #[.val (.int n)] [(.int (11 : Int32))]) (fun t_ k_ => ?_) ?_
        · refine XS.bipush X0.here hx rfl (hb hby dmethod_3_code_19) ?_
          show Steps p_.tables e_ below (s₁.setTop (mkF m_ 21 #[.val (.int n)] [(.int (11 : Int32))])) t_
          exact k_
        refine own_retI X0 hx hlk hret (hb hby dmethod_3_code_21) (by decide) (by decide) ?_
        rw [e0]
        exact ⟨by simp only [f2, if_neg hc2, if_pos hc8, if_pos hc16], N0, rfl⟩
      · refine own_st s₁ (mkF m_ 22 #[.val (.int n)] []) (fun t_ k_ => XS.icmpYes X0.here hx rfl (pc0 := 16) (pc' := 22) rfl (hb hby dmethod_3_code_16) rfl (feq hc16).2 (by decide) (by decide) k_) ?_
        refine own_st s₁ (mkF m_ 25 #[.val (.int n)] [(.int (14 : Int32)), (.int n)]) (fun t_ k_ => ?_) ?_
        · refine XS.iloadN X0.here hx rfl (hb hby dmethod_3_code_22) rfl ?_
          show Steps p_.tables e_ below (s₁.setTop (mkF m_ 23 #[.val (.int n)] [(.int n)])) t_
          refine XS.bipush X0.here hx rfl (hb hby dmethod_3_code_23) ?_
          show Steps p_.tables e_ below (s₁.setTop (mkF m_ 25 #[.val (.int n)] [(.int (14 : Int32)), (.int n)])) t_
          exact k_
        by_cases hc25 : n = (14 : Int32)
        · refine own_st s₁ (mkF m_ 28 #[.val (.int n)] []) (fun t_ k_ => XS.icmpNo X0.here hx rfl (hb hby dmethod_3_code_25) rfl (teq hc25).2 k_) ?_
          refine own_st s₁ (mkF m_ 30 #[.val (.int n)] [(.int (12 : Int32))]) (fun t_ k_ => ?_) ?_
          · refine XS.bipush X0.here hx rfl (hb hby dmethod_3_code_28) ?_
            show Steps p_.tables e_ below (s₁.setTop (mkF m_ 30 #[.val (.int n)] [(.int (12 : Int32))])) t_
            exact k_
          refine own_retI X0 hx hlk hret (hb hby dmethod_3_code_30) (by decide) (by decide) ?_
          rw [e0]
          exact ⟨by simp only [f2, if_neg hc2, if_pos hc8, if_neg hc16, if_pos hc25], N0, rfl⟩
        · refine own_st s₁ (mkF m_ 31 #[.val (.int n)] []) (fun t_ k_ => XS.icmpYes X0.here hx rfl (pc0 := 25) (pc' := 31) rfl (hb hby dmethod_3_code_25) rfl (feq hc25).2 (by decide) (by decide) k_) ?_
          refine own_st s₁ (mkF m_ 32 #[.val (.int n)] [(.int (0 : Int32))]) (fun t_ k_ => ?_) ?_
          · refine XS.iconst X0.here hx rfl (hb hby dmethod_3_code_31) ?_
            show Steps p_.tables e_ below (s₁.setTop (mkF m_ 32 #[.val (.int n)] [(.int (0 : Int32))])) t_
            exact k_
          refine own_retI X0 hx hlk hret (hb hby dmethod_3_code_32) (by decide) (by decide) ?_
          rw [e0]
          exact ⟨by simp only [f2, if_neg hc2, if_pos hc8, if_neg hc16, if_neg hc25], N0, rfl⟩
    · refine own_st s₁ (mkF m_ 11 #[.val (.int n)] []) (fun t_ k_ => XS.icmpNo X0.here hx rfl (hb hby dmethod_3_code_8) rfl (flt hc8).2.2.1 k_) ?_
      refine own_st s₁ (mkF m_ 12 #[.val (.int n)] [(.int n)]) (fun t_ k_ => ?_) ?_
      · refine XS.iloadN X0.here hx rfl (hb hby dmethod_3_code_11) rfl ?_
        show Steps p_.tables e_ below (s₁.setTop (mkF m_ 12 #[.val (.int n)] [(.int n)])) t_
        exact k_
      refine own_retI X0 hx hlk hret (hb hby dmethod_3_code_12) (by decide) (by decide) ?_
      rw [e0]
      exact ⟨by simp only [f2, if_neg hc2, if_neg hc8], N0, rfl⟩
theorem own_ix0 {n : Int32} (h1 : ¬ n = 1) (h2 : ¬ n = 2) (h3 : ¬ n = 3) (h4 : ¬ n = 4) (h5 : ¬ n = 5) (h6 : ¬ n = 6) (h7 : ¬ n = 7) (h8 : ¬ n = 8) (h9 : ¬ n = 9) (h10 : ¬ n = 10) (h12 : ¬ n = 12) (h14 : ¬ n = 14) : f2 n = 0 := by
  have := own_ni (z := 1) h1 rfl; have := own_ni (z := 2) h2 rfl; have := own_ni (z := 3) h3 rfl; have := own_ni (z := 4) h4 rfl; have := own_ni (z := 5) h5 rfl; have := own_ni (z := 6) h6 rfl; have := own_ni (z := 7) h7 rfl
  have := own_ni (z := 8) h8 rfl; have := own_ni (z := 9) h9 rfl; have := own_ni (z := 10) h10 rfl
  have l1 : (1 : Int32).toInt = 1 := rfl
  have l10 : (10 : Int32).toInt = 10 := rfl
  unfold f2
  by_cases q : n < 1
  · simp [q, h12, h14]
  · by_cases r : 10 < n
    · simp [q, r, h12, h14]
    · rw [Int32.lt_iff_toInt_lt] at q r; omega

theorem dprog_84_method_12_code_0 : decode prog_84_method_12_code 0 = .ok (.iload_n 1, 1) := by decide +kernel
theorem dprog_84_method_12_code_1 : decode prog_84_method_12_code 1 = .ok (.ireturn, 1) := by decide +kernel
theorem ef_rm3 (m_ : MethodId) (a : Addr) (t : Int32) : entryFrame m_ #[(.ref a), (.int t)] 2 = mkF m_ 0 #[.val (.ref a), .val (.int t)] [] := by first | (simp [entryFrame, mkF, argsToLocals, Value.category]; done) | rfl
def f3 (a : Addr) (t : Int32) : Int32 := t
set_option maxRecDepth 65536 in
set_option maxHeartbeats 40000000 in
theorem rm3 (l : Launch) (Z : State) (a0 : Array Value) (hw : ∀ d ∈ tables_1, d.before a0 Z = true) (a : Addr) (t : Int32) (h0 : Heap) (n0 : Nat) (Z0 : n0 ≤ h0.size)  :
    own_Met l Z (⟨"com/example/banksum/banksum/uk/ExceptionRule", "total", "(I)I"⟩ : MethodName) prog_84_method_12_code 2 (some .int) ({ frames := 0, cells := 0, slots := 0, locals := 0 } : Room) #[(.ref a), (.int t)] h0 (fun v h L => v = some (.int (f3 a t)) ∧ Fr n0 L ∧ h = h0) := by
  refine own_body #[.val (.ref a), .val (.int t)] (plainFor_of_name own_pn0) (fun m_ => ef_rm3 m_ a t) ?_
  intro p_ e_ s_ m_ below meth c_ s₁ X0 hx hby hml hret hlk hZ hown hnm e0
  have N0 := Fr.nil n0
  show own_Out p_ e_ below s_ _ _ _ s₁ (mkF m_ 0 #[.val (.ref a), .val (.int t)] [])
  refine own_st s₁ (mkF m_ 1 #[.val (.ref a), .val (.int t)] [(.int t)]) (fun t_ k_ => ?_) ?_
  · refine XS.iloadN X0.here hx rfl (hb hby dprog_84_method_12_code_0) rfl ?_
    show Steps p_.tables e_ below (s₁.setTop (mkF m_ 1 #[.val (.ref a), .val (.int t)] [(.int t)])) t_
    exact k_
  refine own_retI X0 hx hlk hret (hb hby dprog_84_method_12_code_1) (by decide) (by decide) ?_
  rw [e0]
  exact ⟨by simp only [f3], N0, rfl⟩
theorem dprog_85_method_2_code_0 : decode prog_85_method_2_code 0 = .ok (.iload_n 1, 1) := by decide +kernel
theorem dprog_85_method_2_code_1 : decode prog_85_method_2_code 1 = .ok (.bipush 27, 2) := by decide +kernel
theorem dprog_85_method_2_code_3 : decode prog_85_method_2_code 3 = .ok (.iadd, 1) := by decide +kernel
theorem dprog_85_method_2_code_4 : decode prog_85_method_2_code 4 = .ok (.ireturn, 1) := by decide +kernel
theorem ef_rm6 (m_ : MethodId) (a : Addr) (t : Int32) : entryFrame m_ #[(.ref a), (.int t)] 2 = mkF m_ 0 #[.val (.ref a), .val (.int t)] [] := by first | (simp [entryFrame, mkF, argsToLocals, Value.category]; done) | rfl
theorem own_pn2 : plainName "com/example/banksum/banksum/uk/ExceptionRule$1" = true := by first | (simp [plainName, overriddenIn]; done) | decide +kernel
def f6 (a : Addr) (t : Int32) : Int32 := (t + (27 : Int32))
set_option maxRecDepth 65536 in
set_option maxHeartbeats 40000000 in
theorem rm6 (l : Launch) (Z : State) (a0 : Array Value) (hw : ∀ d ∈ tables_1, d.before a0 Z = true) (a : Addr) (t : Int32) (h0 : Heap) (n0 : Nat) (Z0 : n0 ≤ h0.size)  :
    own_Met l Z (⟨"com/example/banksum/banksum/uk/ExceptionRule$1", "total", "(I)I"⟩ : MethodName) prog_85_method_2_code 2 (some .int) ({ frames := 0, cells := 0, slots := 0, locals := 0 } : Room) #[(.ref a), (.int t)] h0 (fun v h L => v = some (.int (f6 a t)) ∧ Fr n0 L ∧ h = h0) := by
  refine own_body #[.val (.ref a), .val (.int t)] (plainFor_of_name own_pn2) (fun m_ => ef_rm6 m_ a t) ?_
  intro p_ e_ s_ m_ below meth c_ s₁ X0 hx hby hml hret hlk hZ hown hnm e0
  have N0 := Fr.nil n0
  show own_Out p_ e_ below s_ _ _ _ s₁ (mkF m_ 0 #[.val (.ref a), .val (.int t)] [])
  refine own_st s₁ (mkF m_ 4 #[.val (.ref a), .val (.int t)] [(.int (t + (27 : Int32)))]) (fun t_ k_ => ?_) ?_
  · refine XS.iloadN X0.here hx rfl (hb hby dprog_85_method_2_code_0) rfl ?_
    show Steps p_.tables e_ below (s₁.setTop (mkF m_ 1 #[.val (.ref a), .val (.int t)] [(.int t)])) t_
    refine XS.bipush X0.here hx rfl (hb hby dprog_85_method_2_code_1) ?_
    show Steps p_.tables e_ below (s₁.setTop (mkF m_ 3 #[.val (.ref a), .val (.int t)] [(.int (27 : Int32)), (.int t)])) t_
    refine XS.iadd X0.here hx rfl (hb hby dprog_85_method_2_code_3) rfl ?_
    show Steps p_.tables e_ below (s₁.setTop (mkF m_ 4 #[.val (.ref a), .val (.int t)] [(.int (t + (27 : Int32)))])) t_
    exact k_
  refine own_retI X0 hx hlk hret (hb hby dprog_85_method_2_code_4) (by decide) (by decide) ?_
  rw [e0]
  exact ⟨by simp only [f6], N0, rfl⟩
theorem dprog_84_method_8_code_0 : decode prog_84_method_8_code 0 = .ok (.iconst 0, 1) := by decide +kernel
theorem dprog_84_method_8_code_1 : decode prog_84_method_8_code 1 = .ok (.ireturn, 1) := by decide +kernel
theorem ef_rm4 (m_ : MethodId) (a : Addr) : entryFrame m_ #[(.ref a)] 1 = mkF m_ 0 #[.val (.ref a)] [] := by first | (simp [entryFrame, mkF, argsToLocals, Value.category]; done) | rfl
def f4 (a : Addr) : Int32 := (0 : Int32)
set_option maxRecDepth 65536 in
set_option maxHeartbeats 40000000 in
theorem rm4 (l : Launch) (Z : State) (a0 : Array Value) (hw : ∀ d ∈ tables_1, d.before a0 Z = true) (a : Addr) (h0 : Heap) (n0 : Nat) (Z0 : n0 ≤ h0.size)  :
    own_Met l Z (⟨"com/example/banksum/banksum/uk/ExceptionRule", "eitherPasses", "()Z"⟩ : MethodName) prog_84_method_8_code 1 (some .boolean) ({ frames := 0, cells := 0, slots := 0, locals := 0 } : Room) #[(.ref a)] h0 (fun v h L => v = some (.int (f4 a)) ∧ Fr n0 L ∧ h = h0) := by
  refine own_body #[.val (.ref a)] (plainFor_of_name own_pn0) (fun m_ => ef_rm4 m_ a) ?_
  intro p_ e_ s_ m_ below meth c_ s₁ X0 hx hby hml hret hlk hZ hown hnm e0
  have N0 := Fr.nil n0
  show own_Out p_ e_ below s_ _ _ _ s₁ (mkF m_ 0 #[.val (.ref a)] [])
  refine own_st s₁ (mkF m_ 1 #[.val (.ref a)] [(.int (0 : Int32))]) (fun t_ k_ => ?_) ?_
  · refine XS.iconst X0.here hx rfl (hb hby dprog_84_method_8_code_0) ?_
    show Steps p_.tables e_ below (s₁.setTop (mkF m_ 1 #[.val (.ref a)] [(.int (0 : Int32))])) t_
    exact k_
  refine own_retN X0 hx hlk (t := .boolean) hret (by simp) (hb hby dprog_84_method_8_code_1) (by decide) (by decide) ?_
  rw [e0]
  have hz : nar .boolean (0 : Int32) = (0 : Int32) := own_nz (by first | exact Or.inl rfl | exact Or.inr rfl | (repeat' split) <;> first | exact Or.inl rfl | exact Or.inr rfl)
  rw [hz]
  exact ⟨by simp only [f4], N0, rfl⟩
theorem dprog_89_method_3_code_0 : decode prog_89_method_3_code 0 = .ok (.iconst 1, 1) := by decide +kernel
theorem dprog_89_method_3_code_1 : decode prog_89_method_3_code 1 = .ok (.ireturn, 1) := by decide +kernel
theorem ef_rm8 (m_ : MethodId) (a : Addr) : entryFrame m_ #[(.ref a)] 1 = mkF m_ 0 #[.val (.ref a)] [] := by first | (simp [entryFrame, mkF, argsToLocals, Value.category]; done) | rfl
theorem own_pn3 : plainName "com/example/banksum/banksum/uk/ExceptionRule$2" = true := by first | (simp [plainName, overriddenIn]; done) | decide +kernel
def f8 (a : Addr) : Int32 := (1 : Int32)
set_option maxRecDepth 65536 in
set_option maxHeartbeats 40000000 in
theorem rm8 (l : Launch) (Z : State) (a0 : Array Value) (hw : ∀ d ∈ tables_1, d.before a0 Z = true) (a : Addr) (h0 : Heap) (n0 : Nat) (Z0 : n0 ≤ h0.size)  :
    own_Met l Z (⟨"com/example/banksum/banksum/uk/ExceptionRule$2", "eitherPasses", "()Z"⟩ : MethodName) prog_89_method_3_code 1 (some .boolean) ({ frames := 0, cells := 0, slots := 0, locals := 0 } : Room) #[(.ref a)] h0 (fun v h L => v = some (.int (f8 a)) ∧ Fr n0 L ∧ h = h0) := by
  refine own_body #[.val (.ref a)] (plainFor_of_name own_pn3) (fun m_ => ef_rm8 m_ a) ?_
  intro p_ e_ s_ m_ below meth c_ s₁ X0 hx hby hml hret hlk hZ hown hnm e0
  have N0 := Fr.nil n0
  show own_Out p_ e_ below s_ _ _ _ s₁ (mkF m_ 0 #[.val (.ref a)] [])
  refine own_st s₁ (mkF m_ 1 #[.val (.ref a)] [(.int (1 : Int32))]) (fun t_ k_ => ?_) ?_
  · refine XS.iconst X0.here hx rfl (hb hby dprog_89_method_3_code_0) ?_
    show Steps p_.tables e_ below (s₁.setTop (mkF m_ 1 #[.val (.ref a)] [(.int (1 : Int32))])) t_
    exact k_
  refine own_retN X0 hx hlk (t := .boolean) hret (by simp) (hb hby dprog_89_method_3_code_1) (by decide) (by decide) ?_
  rw [e0]
  have hz : nar .boolean (1 : Int32) = (1 : Int32) := own_nz (by first | exact Or.inl rfl | exact Or.inr rfl | (repeat' split) <;> first | exact Or.inl rfl | exact Or.inr rfl)
  rw [hz]
  exact ⟨by simp only [f8], N0, rfl⟩
theorem dprog_86_method_3_code_0 : decode prog_86_method_3_code 0 = .ok (.iconst 1, 1) := by decide +kernel
theorem dprog_86_method_3_code_1 : decode prog_86_method_3_code 1 = .ok (.ireturn, 1) := by decide +kernel
theorem ef_rm7 (m_ : MethodId) (a : Addr) : entryFrame m_ #[(.ref a)] 1 = mkF m_ 0 #[.val (.ref a)] [] := by first | (simp [entryFrame, mkF, argsToLocals, Value.category]; done) | rfl
theorem own_pn4 : plainName "com/example/banksum/banksum/uk/ExceptionRule$10" = true := by first | (simp [plainName, overriddenIn]; done) | decide +kernel
def f7 (a : Addr) : Int32 := (1 : Int32)
set_option maxRecDepth 65536 in
set_option maxHeartbeats 40000000 in
theorem rm7 (l : Launch) (Z : State) (a0 : Array Value) (hw : ∀ d ∈ tables_1, d.before a0 Z = true) (a : Addr) (h0 : Heap) (n0 : Nat) (Z0 : n0 ≤ h0.size)  :
    own_Met l Z (⟨"com/example/banksum/banksum/uk/ExceptionRule$10", "eitherPasses", "()Z"⟩ : MethodName) prog_86_method_3_code 1 (some .boolean) ({ frames := 0, cells := 0, slots := 0, locals := 0 } : Room) #[(.ref a)] h0 (fun v h L => v = some (.int (f7 a)) ∧ Fr n0 L ∧ h = h0) := by
  refine own_body #[.val (.ref a)] (plainFor_of_name own_pn4) (fun m_ => ef_rm7 m_ a) ?_
  intro p_ e_ s_ m_ below meth c_ s₁ X0 hx hby hml hret hlk hZ hown hnm e0
  have N0 := Fr.nil n0
  show own_Out p_ e_ below s_ _ _ _ s₁ (mkF m_ 0 #[.val (.ref a)] [])
  refine own_st s₁ (mkF m_ 1 #[.val (.ref a)] [(.int (1 : Int32))]) (fun t_ k_ => ?_) ?_
  · refine XS.iconst X0.here hx rfl (hb hby dprog_86_method_3_code_0) ?_
    show Steps p_.tables e_ below (s₁.setTop (mkF m_ 1 #[.val (.ref a)] [(.int (1 : Int32))])) t_
    exact k_
  refine own_retN X0 hx hlk (t := .boolean) hret (by simp) (hb hby dprog_86_method_3_code_1) (by decide) (by decide) ?_
  rw [e0]
  have hz : nar .boolean (1 : Int32) = (1 : Int32) := own_nz (by first | exact Or.inl rfl | exact Or.inr rfl | (repeat' split) <;> first | exact Or.inl rfl | exact Or.inr rfl)
  rw [hz]
  exact ⟨by simp only [f7], N0, rfl⟩
theorem dprog_87_method_2_code_0 : decode prog_87_method_2_code 0 = .ok (.iconst 1, 1) := by decide +kernel
theorem dprog_87_method_2_code_1 : decode prog_87_method_2_code 1 = .ok (.ireturn, 1) := by decide +kernel
theorem ef_rm10 (m_ : MethodId) (a : Addr) : entryFrame m_ #[(.ref a)] 1 = mkF m_ 0 #[.val (.ref a)] [] := by first | (simp [entryFrame, mkF, argsToLocals, Value.category]; done) | rfl
theorem own_pn5 : plainName "com/example/banksum/banksum/uk/ExceptionRule$11" = true := by first | (simp [plainName, overriddenIn]; done) | decide +kernel
def f10 (a : Addr) : Int32 := (1 : Int32)
set_option maxRecDepth 65536 in
set_option maxHeartbeats 40000000 in
theorem rm10 (l : Launch) (Z : State) (a0 : Array Value) (hw : ∀ d ∈ tables_1, d.before a0 Z = true) (a : Addr) (h0 : Heap) (n0 : Nat) (Z0 : n0 ≤ h0.size)  :
    own_Met l Z (⟨"com/example/banksum/banksum/uk/ExceptionRule$11", "eitherPasses", "()Z"⟩ : MethodName) prog_87_method_2_code 1 (some .boolean) ({ frames := 0, cells := 0, slots := 0, locals := 0 } : Room) #[(.ref a)] h0 (fun v h L => v = some (.int (f10 a)) ∧ Fr n0 L ∧ h = h0) := by
  refine own_body #[.val (.ref a)] (plainFor_of_name own_pn5) (fun m_ => ef_rm10 m_ a) ?_
  intro p_ e_ s_ m_ below meth c_ s₁ X0 hx hby hml hret hlk hZ hown hnm e0
  have N0 := Fr.nil n0
  show own_Out p_ e_ below s_ _ _ _ s₁ (mkF m_ 0 #[.val (.ref a)] [])
  refine own_st s₁ (mkF m_ 1 #[.val (.ref a)] [(.int (1 : Int32))]) (fun t_ k_ => ?_) ?_
  · refine XS.iconst X0.here hx rfl (hb hby dprog_87_method_2_code_0) ?_
    show Steps p_.tables e_ below (s₁.setTop (mkF m_ 1 #[.val (.ref a)] [(.int (1 : Int32))])) t_
    exact k_
  refine own_retN X0 hx hlk (t := .boolean) hret (by simp) (hb hby dprog_87_method_2_code_1) (by decide) (by decide) ?_
  rw [e0]
  have hz : nar .boolean (1 : Int32) = (1 : Int32) := own_nz (by first | exact Or.inl rfl | exact Or.inr rfl | (repeat' split) <;> first | exact Or.inl rfl | exact Or.inr rfl)
  rw [hz]
  exact ⟨by simp only [f10], N0, rfl⟩
theorem dprog_84_method_6_code_0 : decode prog_84_method_6_code 0 = .ok (.iconst 0, 1) := by decide +kernel
theorem dprog_84_method_6_code_1 : decode prog_84_method_6_code 1 = .ok (.ireturn, 1) := by decide +kernel
theorem ef_rm5 (m_ : MethodId) (a : Addr) (u : Addr) : entryFrame m_ #[(.ref a), (.ref u)] 2 = mkF m_ 0 #[.val (.ref a), .val (.ref u)] [] := by first | (simp [entryFrame, mkF, argsToLocals, Value.category]; done) | rfl
def f5 (a : Addr) (u : Addr) : Int32 := (0 : Int32)
set_option maxRecDepth 65536 in
set_option maxHeartbeats 40000000 in
theorem rm5 (l : Launch) (Z : State) (a0 : Array Value) (hw : ∀ d ∈ tables_1, d.before a0 Z = true) (a : Addr) (u : Addr) (h0 : Heap) (n0 : Nat) (Z0 : n0 ≤ h0.size)  :
    own_Met l Z (⟨"com/example/banksum/banksum/uk/ExceptionRule", "foreignCurrency", "([I)Z"⟩ : MethodName) prog_84_method_6_code 2 (some .boolean) ({ frames := 0, cells := 0, slots := 0, locals := 0 } : Room) #[(.ref a), (.ref u)] h0 (fun v h L => v = some (.int (f5 a u)) ∧ Fr n0 L ∧ h = h0) := by
  refine own_body #[.val (.ref a), .val (.ref u)] (plainFor_of_name own_pn0) (fun m_ => ef_rm5 m_ a u) ?_
  intro p_ e_ s_ m_ below meth c_ s₁ X0 hx hby hml hret hlk hZ hown hnm e0
  have N0 := Fr.nil n0
  show own_Out p_ e_ below s_ _ _ _ s₁ (mkF m_ 0 #[.val (.ref a), .val (.ref u)] [])
  refine own_st s₁ (mkF m_ 1 #[.val (.ref a), .val (.ref u)] [(.int (0 : Int32))]) (fun t_ k_ => ?_) ?_
  · refine XS.iconst X0.here hx rfl (hb hby dprog_84_method_6_code_0) ?_
    show Steps p_.tables e_ below (s₁.setTop (mkF m_ 1 #[.val (.ref a), .val (.ref u)] [(.int (0 : Int32))])) t_
    exact k_
  refine own_retN X0 hx hlk (t := .boolean) hret (by simp) (hb hby dprog_84_method_6_code_1) (by decide) (by decide) ?_
  rw [e0]
  have hz : nar .boolean (0 : Int32) = (0 : Int32) := own_nz (by first | exact Or.inl rfl | exact Or.inr rfl | (repeat' split) <;> first | exact Or.inl rfl | exact Or.inr rfl)
  rw [hz]
  exact ⟨by simp only [f5], N0, rfl⟩
theorem dprog_93_method_2_code_0 : decode prog_93_method_2_code 0 = .ok (.aload_n 1, 1) := by decide +kernel
theorem dprog_93_method_2_code_1 : decode prog_93_method_2_code 1 = .ok (.iconst 0, 1) := by decide +kernel
theorem dprog_93_method_2_code_2 : decode prog_93_method_2_code 2 = .ok (.iaload, 1) := by decide +kernel
theorem dprog_93_method_2_code_3 : decode prog_93_method_2_code 3 = .ok (.iconst 4, 1) := by decide +kernel
theorem dprog_93_method_2_code_4 : decode prog_93_method_2_code 4 = .ok (.if_icmp .lt 26, 3) := by decide +kernel
theorem dprog_93_method_2_code_30 : decode prog_93_method_2_code 30 = .ok (.iconst 0, 1) := by decide +kernel
theorem dprog_93_method_2_code_7 : decode prog_93_method_2_code 7 = .ok (.aload_n 1, 1) := by decide +kernel
theorem dprog_93_method_2_code_8 : decode prog_93_method_2_code 8 = .ok (.iconst 0, 1) := by decide +kernel
theorem dprog_93_method_2_code_9 : decode prog_93_method_2_code 9 = .ok (.iaload, 1) := by decide +kernel
theorem dprog_93_method_2_code_10 : decode prog_93_method_2_code 10 = .ok (.bipush 8, 2) := by decide +kernel
theorem dprog_93_method_2_code_12 : decode prog_93_method_2_code 12 = .ok (.if_icmp .gt 18, 3) := by decide +kernel
theorem dprog_93_method_2_code_15 : decode prog_93_method_2_code 15 = .ok (.aload_n 1, 1) := by decide +kernel
theorem dprog_93_method_2_code_16 : decode prog_93_method_2_code 16 = .ok (.bipush 6, 2) := by decide +kernel
theorem dprog_93_method_2_code_18 : decode prog_93_method_2_code 18 = .ok (.iaload, 1) := by decide +kernel
theorem dprog_93_method_2_code_19 : decode prog_93_method_2_code 19 = .ok (.aload_n 1, 1) := by decide +kernel
theorem dprog_93_method_2_code_20 : decode prog_93_method_2_code 20 = .ok (.bipush 7, 2) := by decide +kernel
theorem dprog_93_method_2_code_22 : decode prog_93_method_2_code 22 = .ok (.iaload, 1) := by decide +kernel
theorem dprog_93_method_2_code_23 : decode prog_93_method_2_code 23 = .ok (.if_icmp .ne 7, 3) := by decide +kernel
theorem dprog_93_method_2_code_26 : decode prog_93_method_2_code 26 = .ok (.iconst 1, 1) := by decide +kernel
theorem dprog_93_method_2_code_27 : decode prog_93_method_2_code 27 = .ok (.goto 4, 3) := by decide +kernel
theorem dprog_93_method_2_code_31 : decode prog_93_method_2_code 31 = .ok (.ireturn, 1) := by decide +kernel
def f9 (a g h : Int32) : Int32 := (if a < (4 : Int32) then (0 : Int32) else (if (8 : Int32) < a then (0 : Int32) else (if g = h then (1 : Int32) else 0)))
theorem ef_rm9 (m_ : MethodId) (a : Addr) (u : Addr) : entryFrame m_ #[(.ref a), (.ref u)] 2 = mkF m_ 0 #[.val (.ref a), .val (.ref u)] [] := by first | (simp [entryFrame, mkF, argsToLocals, Value.category]; done) | rfl
theorem own_pn6 : plainName "com/example/banksum/banksum/uk/ExceptionRule$6" = true := by first | (simp [plainName, overriddenIn]; done) | decide +kernel
set_option maxRecDepth 65536 in
set_option maxHeartbeats 40000000 in
theorem rm9 (l : Launch) (Z : State) (a0 : Array Value) (hw : ∀ d ∈ tables_1, d.before a0 Z = true) (a : Addr) (u : Addr) (ku : ClassId) (e : Nat → Int32) (h0 : Heap) (n0 : Nat) (Z0 : n0 ≤ h0.size) (U : own_A Z h0 u ku .int 8 (fun x => .int (e x))) :
    own_Met l Z (⟨"com/example/banksum/banksum/uk/ExceptionRule$6", "foreignCurrency", "([I)Z"⟩ : MethodName) prog_93_method_2_code 2 (some .boolean) ({ frames := 0, cells := 0, slots := 0, locals := 0 } : Room) #[(.ref a), (.ref u)] h0 (fun v h L => v = some (.int (f9 (e 0) (e 6) (e 7))) ∧ Fr n0 L ∧ h = h0) := by
  refine own_body #[.val (.ref a), .val (.ref u)] (plainFor_of_name own_pn6) (fun m_ => ef_rm9 m_ a u) ?_
  intro p_ e_ s_ m_ below meth c_ s₁ X0 hx hby hml hret hlk hZ hown hnm e0
  have N0 := Fr.nil n0
  show own_Out p_ e_ below s_ _ _ _ s₁ (mkF m_ 0 #[.val (.ref a), .val (.ref u)] [])
  refine own_st s₁ (mkF m_ 31 #[.val (.ref a), .val (.ref u)] [(.int (if (e 0) < (4 : Int32) then (0 : Int32) else (if (8 : Int32) < (e 0) then (0 : Int32) else (if (e 6) = (e 7) then (1 : Int32) else 0))))]) (fun t_ k_ => ?_) ?_
  · refine XS.aloadN X0.here hx rfl (hb hby dprog_93_method_2_code_0) rfl rfl ?_
    show Steps p_.tables e_ below (s₁.setTop (mkF m_ 1 #[.val (.ref a), .val (.ref u)] [(.ref u)])) t_
    refine XS.iconst X0.here hx rfl (hb hby dprog_93_method_2_code_1) ?_
    show Steps p_.tables e_ below (s₁.setTop (mkF m_ 2 #[.val (.ref a), .val (.ref u)] [(.int (0 : Int32)), (.ref u)])) t_
    refine own_ldI X0 hx hZ e0 U 0 (by decide) (by decide) (hb hby dprog_93_method_2_code_2) _ ?_
    show Steps p_.tables e_ below (s₁.setTop (mkF m_ 3 #[.val (.ref a), .val (.ref u)] [(.int (e 0))])) t_
    refine XS.iconst X0.here hx rfl (hb hby dprog_93_method_2_code_3) ?_
    show Steps p_.tables e_ below (s₁.setTop (mkF m_ 4 #[.val (.ref a), .val (.ref u)] [(.int (4 : Int32)), (.int (e 0))])) t_
    have jn4 : ∀ t_, Steps p_.tables e_ below (s₁.setTop (mkF m_ 31 #[.val (.ref a), .val (.ref u)] [(.int (if (e 0) < (4 : Int32) then (0 : Int32) else (if (8 : Int32) < (e 0) then (0 : Int32) else (if (e 6) = (e 7) then (1 : Int32) else 0))))])) t_ → Steps p_.tables e_ below (s₁.setTop (mkF m_ 4 #[.val (.ref a), .val (.ref u)] [(.int (4 : Int32)), (.int (e 0))])) t_ := by
      intro t_ k_
      by_cases hc4 : (e 0) < (4 : Int32)
      · refine XS.icmpYes X0.here hx rfl (pc0 := 4) (pc' := 30) rfl (hb hby dprog_93_method_2_code_4) rfl (tlt hc4).1 (by decide) (by decide) ?_
        show Steps p_.tables e_ below (s₁.setTop (mkF m_ 30 #[.val (.ref a), .val (.ref u)] [])) t_
        refine XS.iconst X0.here hx rfl (hb hby dprog_93_method_2_code_30) ?_
        show Steps p_.tables e_ below (s₁.setTop (mkF m_ 31 #[.val (.ref a), .val (.ref u)] [(.int (0 : Int32))])) t_
        simp only [if_pos hc4] at k_
        exact k_
      · refine XS.icmpNo X0.here hx rfl (hb hby dprog_93_method_2_code_4) rfl (flt hc4).1 ?_
        show Steps p_.tables e_ below (s₁.setTop (mkF m_ 7 #[.val (.ref a), .val (.ref u)] [])) t_
        refine XS.aloadN X0.here hx rfl (hb hby dprog_93_method_2_code_7) rfl rfl ?_
        show Steps p_.tables e_ below (s₁.setTop (mkF m_ 8 #[.val (.ref a), .val (.ref u)] [(.ref u)])) t_
        refine XS.iconst X0.here hx rfl (hb hby dprog_93_method_2_code_8) ?_
        show Steps p_.tables e_ below (s₁.setTop (mkF m_ 9 #[.val (.ref a), .val (.ref u)] [(.int (0 : Int32)), (.ref u)])) t_
        refine own_ldI X0 hx hZ e0 U 0 (by decide) (by decide) (hb hby dprog_93_method_2_code_9) _ ?_
        show Steps p_.tables e_ below (s₁.setTop (mkF m_ 10 #[.val (.ref a), .val (.ref u)] [(.int (e 0))])) t_
        refine XS.bipush X0.here hx rfl (hb hby dprog_93_method_2_code_10) ?_
        show Steps p_.tables e_ below (s₁.setTop (mkF m_ 12 #[.val (.ref a), .val (.ref u)] [(.int (8 : Int32)), (.int (e 0))])) t_
        have jn12 : ∀ t_, Steps p_.tables e_ below (s₁.setTop (mkF m_ 31 #[.val (.ref a), .val (.ref u)] [(.int (if (8 : Int32) < (e 0) then (0 : Int32) else (if (e 6) = (e 7) then (1 : Int32) else 0)))])) t_ → Steps p_.tables e_ below (s₁.setTop (mkF m_ 12 #[.val (.ref a), .val (.ref u)] [(.int (8 : Int32)), (.int (e 0))])) t_ := by
          intro t_ k_
          by_cases hc12 : (8 : Int32) < (e 0)
          · refine XS.icmpYes X0.here hx rfl (pc0 := 12) (pc' := 30) rfl (hb hby dprog_93_method_2_code_12) rfl (tlt hc12).2.2.1 (by decide) (by decide) ?_
            show Steps p_.tables e_ below (s₁.setTop (mkF m_ 30 #[.val (.ref a), .val (.ref u)] [])) t_
            refine XS.iconst X0.here hx rfl (hb hby dprog_93_method_2_code_30) ?_
            show Steps p_.tables e_ below (s₁.setTop (mkF m_ 31 #[.val (.ref a), .val (.ref u)] [(.int (0 : Int32))])) t_
            simp only [if_pos hc12] at k_
            exact k_
          · refine XS.icmpNo X0.here hx rfl (hb hby dprog_93_method_2_code_12) rfl (flt hc12).2.2.1 ?_
            show Steps p_.tables e_ below (s₁.setTop (mkF m_ 15 #[.val (.ref a), .val (.ref u)] [])) t_
            refine XS.aloadN X0.here hx rfl (hb hby dprog_93_method_2_code_15) rfl rfl ?_
            show Steps p_.tables e_ below (s₁.setTop (mkF m_ 16 #[.val (.ref a), .val (.ref u)] [(.ref u)])) t_
            refine XS.bipush X0.here hx rfl (hb hby dprog_93_method_2_code_16) ?_
            show Steps p_.tables e_ below (s₁.setTop (mkF m_ 18 #[.val (.ref a), .val (.ref u)] [(.int (6 : Int32)), (.ref u)])) t_
            refine own_ldI X0 hx hZ e0 U 6 (by decide) (by decide) (hb hby dprog_93_method_2_code_18) _ ?_
            show Steps p_.tables e_ below (s₁.setTop (mkF m_ 19 #[.val (.ref a), .val (.ref u)] [(.int (e 6))])) t_
            refine XS.aloadN X0.here hx rfl (hb hby dprog_93_method_2_code_19) rfl rfl ?_
            show Steps p_.tables e_ below (s₁.setTop (mkF m_ 20 #[.val (.ref a), .val (.ref u)] [(.ref u), (.int (e 6))])) t_
            refine XS.bipush X0.here hx rfl (hb hby dprog_93_method_2_code_20) ?_
            show Steps p_.tables e_ below (s₁.setTop (mkF m_ 22 #[.val (.ref a), .val (.ref u)] [(.int (7 : Int32)), (.ref u), (.int (e 6))])) t_
            refine own_ldI X0 hx hZ e0 U 7 (by decide) (by decide) (hb hby dprog_93_method_2_code_22) _ ?_
            show Steps p_.tables e_ below (s₁.setTop (mkF m_ 23 #[.val (.ref a), .val (.ref u)] [(.int (e 7)), (.int (e 6))])) t_
            have jn23 : ∀ t_, Steps p_.tables e_ below (s₁.setTop (mkF m_ 31 #[.val (.ref a), .val (.ref u)] [(.int (if (e 6) = (e 7) then (1 : Int32) else 0))])) t_ → Steps p_.tables e_ below (s₁.setTop (mkF m_ 23 #[.val (.ref a), .val (.ref u)] [(.int (e 7)), (.int (e 6))])) t_ := by
              intro t_ k_
              by_cases hc23 : (e 6) = (e 7)
              · refine XS.icmpNo X0.here hx rfl (hb hby dprog_93_method_2_code_23) rfl (teq hc23).2 ?_
                show Steps p_.tables e_ below (s₁.setTop (mkF m_ 26 #[.val (.ref a), .val (.ref u)] [])) t_
                refine XS.iconst X0.here hx rfl (hb hby dprog_93_method_2_code_26) ?_
                show Steps p_.tables e_ below (s₁.setTop (mkF m_ 27 #[.val (.ref a), .val (.ref u)] [(.int (1 : Int32))])) t_
                refine XS.goto X0.here hx rfl (pc0 := 27) (pc' := 31) rfl (hb hby dprog_93_method_2_code_27) (by decide) (by decide) ?_
                show Steps p_.tables e_ below (s₁.setTop (mkF m_ 31 #[.val (.ref a), .val (.ref u)] [(.int (1 : Int32))])) t_
                simp only [if_pos hc23] at k_
                exact k_
              · refine XS.icmpYes X0.here hx rfl (pc0 := 23) (pc' := 30) rfl (hb hby dprog_93_method_2_code_23) rfl (feq hc23).2 (by decide) (by decide) ?_
                show Steps p_.tables e_ below (s₁.setTop (mkF m_ 30 #[.val (.ref a), .val (.ref u)] [])) t_
                refine XS.iconst X0.here hx rfl (hb hby dprog_93_method_2_code_30) ?_
                show Steps p_.tables e_ below (s₁.setTop (mkF m_ 31 #[.val (.ref a), .val (.ref u)] [(.int (0 : Int32))])) t_
                simp only [if_neg hc23] at k_
                exact k_
            refine jn23 _ ?_
            show Steps p_.tables e_ below (s₁.setTop (mkF m_ 31 #[.val (.ref a), .val (.ref u)] [(.int (if (e 6) = (e 7) then (1 : Int32) else 0))])) t_
            simp only [if_neg hc12] at k_
            exact k_
        refine jn12 _ ?_
        show Steps p_.tables e_ below (s₁.setTop (mkF m_ 31 #[.val (.ref a), .val (.ref u)] [(.int (if (8 : Int32) < (e 0) then (0 : Int32) else (if (e 6) = (e 7) then (1 : Int32) else 0)))])) t_
        simp only [if_neg hc4] at k_
        exact k_
    refine jn4 _ ?_
    show Steps p_.tables e_ below (s₁.setTop (mkF m_ 31 #[.val (.ref a), .val (.ref u)] [(.int (if (e 0) < (4 : Int32) then (0 : Int32) else (if (8 : Int32) < (e 0) then (0 : Int32) else (if (e 6) = (e 7) then (1 : Int32) else 0))))])) t_
    exact k_
  refine own_retN X0 hx hlk (t := .boolean) hret (by simp) (hb hby dprog_93_method_2_code_31) (by decide) (by decide) ?_
  rw [e0]
  rw [own_nz (by first | exact Or.inl rfl | exact Or.inr rfl | (repeat' split) <;> first | exact Or.inl rfl | exact Or.inr rfl)]
  exact ⟨rfl, N0, rfl⟩
def own_a (d : Int32) : Int32 := ((d &&& (15 : Int32)) % (10 : Int32))
def own_g (d : Int32) : Int32 := ((((d.toUInt32 >>> ((4 : Int32) &&& 31).toUInt32).toInt32) &&& (15 : Int32)) % (10 : Int32))
def own_h (d : Int32) : Int32 := ((((d.toUInt32 >>> ((8 : Int32) &&& 31).toUInt32).toInt32) &&& (15 : Int32)) % (10 : Int32))
theorem own_pd0 : parseMethodDescriptor "(I)Lcom/example/banksum/banksum/uk/ExceptionRule;" = some ⟨[.int], some (.object "com/example/banksum/banksum/uk/ExceptionRule")⟩ := by decide +kernel
theorem own_pd1 : parseMethodDescriptor "(I)I" = some ⟨[.int], some .int⟩ := by decide +kernel
theorem own_pd2 : parseMethodDescriptor "()Z" = some ⟨[], some .boolean⟩ := by decide +kernel
theorem own_pd3 : parseMethodDescriptor "([I)Z" = some ⟨[(.array .int)], some .boolean⟩ := by decide +kernel
theorem ef_rm0 (m_ : MethodId) (n : Int32) (t : Int32) (d : Int32) : entryFrame m_ #[(.int n), (.int t), (.int d)] maxLocals = mkF m_ 0 #[.val (.int n), .val (.int t), .val (.int d), .unset, .unset, .unset, .unset, .unset, .unset, .unset, .unset, .unset] [] := by first | (simp [entryFrame, mkF, argsToLocals, Value.category, maxLocals]; done) | rfl
set_option maxRecDepth 65536 in
set_option maxHeartbeats 40000000 in
theorem rm0 (l : Launch) (Z : State) (a0 : Array Value) (hw : ∀ d ∈ tables_1, d.before a0 Z = true) (n : Int32) (t : Int32) (d : Int32) (w0 w1 w2 w3 w4 w5 w6 w7 w8 w9 w10 w11 w12 : Addr) (h0 : Heap) (n0 : Nat) (Z0 : n0 ≤ h0.size) (O : Old Z n0 h0) (S_NONE : Sta Z Z.heap "com/example/banksum/banksum/uk/ExceptionRule" "NONE" "Lcom/example/banksum/banksum/uk/ExceptionRule;" (.ref w0)) (S_ADD_27 : Sta Z Z.heap "com/example/banksum/banksum/uk/ExceptionRule" "ADD_27" "Lcom/example/banksum/banksum/uk/ExceptionRule;" (.ref w1)) (S_EITHER_WEIGHTS_BY_A_AND_G : Sta Z Z.heap "com/example/banksum/banksum/uk/ExceptionRule" "EITHER_WEIGHTS_BY_A_AND_G" "Lcom/example/banksum/banksum/uk/ExceptionRule;" (.ref w2)) (S_SKIP_WHEN_C_IS_6_OR_9 : Sta Z Z.heap "com/example/banksum/banksum/uk/ExceptionRule" "SKIP_WHEN_C_IS_6_OR_9" "Lcom/example/banksum/banksum/uk/ExceptionRule;" (.ref w3)) (S_REMAINDER_IS_GH : Sta Z Z.heap "com/example/banksum/banksum/uk/ExceptionRule" "REMAINDER_IS_GH" "Lcom/example/banksum/banksum/uk/ExceptionRule;" (.ref w4)) (S_SUBSTITUTE_AND_CHECK_DIGIT : Sta Z Z.heap "com/example/banksum/banksum/uk/ExceptionRule" "SUBSTITUTE_AND_CHECK_DIGIT" "Lcom/example/banksum/banksum/uk/ExceptionRule;" (.ref w5)) (S_FOREIGN_CURRENCY : Sta Z Z.heap "com/example/banksum/banksum/uk/ExceptionRule" "FOREIGN_CURRENCY" "Lcom/example/banksum/banksum/uk/ExceptionRule;" (.ref w6)) (S_ZERO_U_TO_B_WHEN_G_IS_9 : Sta Z Z.heap "com/example/banksum/banksum/uk/ExceptionRule" "ZERO_U_TO_B_WHEN_G_IS_9" "Lcom/example/banksum/banksum/uk/ExceptionRule;" (.ref w7)) (S_SORTING_CODE_090126 : Sta Z Z.heap "com/example/banksum/banksum/uk/ExceptionRule" "SORTING_CODE_090126" "Lcom/example/banksum/banksum/uk/ExceptionRule;" (.ref w8)) (S_SORTING_CODE_309634 : Sta Z Z.heap "com/example/banksum/banksum/uk/ExceptionRule" "SORTING_CODE_309634" "Lcom/example/banksum/banksum/uk/ExceptionRule;" (.ref w9)) (S_EITHER_ZERO_U_TO_B_WHEN_AB_IS_09_OR_99_AND_G_IS_9 : Sta Z Z.heap "com/example/banksum/banksum/uk/ExceptionRule" "EITHER_ZERO_U_TO_B_WHEN_AB_IS_09_OR_99_AND_G_IS_9" "Lcom/example/banksum/banksum/uk/ExceptionRule;" (.ref w10)) (S_EITHER : Sta Z Z.heap "com/example/banksum/banksum/uk/ExceptionRule" "EITHER" "Lcom/example/banksum/banksum/uk/ExceptionRule;" (.ref w11)) (S_AGAIN_WITHOUT_H_WHEN_H_IS_0_1_OR_9 : Sta Z Z.heap "com/example/banksum/banksum/uk/ExceptionRule" "AGAIN_WITHOUT_H_WHEN_H_IS_0_1_OR_9" "Lcom/example/banksum/banksum/uk/ExceptionRule;" (.ref w12)) (E_w0 : Exa Z Z.heap w0 "com/example/banksum/banksum/uk/ExceptionRule") (E_w1 : Exa Z Z.heap w1 "com/example/banksum/banksum/uk/ExceptionRule$1") (E_w2 : Exa Z Z.heap w2 "com/example/banksum/banksum/uk/ExceptionRule$2") (E_w3 : Exa Z Z.heap w3 "com/example/banksum/banksum/uk/ExceptionRule$3") (E_w4 : Exa Z Z.heap w4 "com/example/banksum/banksum/uk/ExceptionRule$4") (E_w5 : Exa Z Z.heap w5 "com/example/banksum/banksum/uk/ExceptionRule$5") (E_w6 : Exa Z Z.heap w6 "com/example/banksum/banksum/uk/ExceptionRule$6") (E_w7 : Exa Z Z.heap w7 "com/example/banksum/banksum/uk/ExceptionRule$7") (E_w8 : Exa Z Z.heap w8 "com/example/banksum/banksum/uk/ExceptionRule$8") (E_w9 : Exa Z Z.heap w9 "com/example/banksum/banksum/uk/ExceptionRule$9") (E_w10 : Exa Z Z.heap w10 "com/example/banksum/banksum/uk/ExceptionRule$10") (E_w11 : Exa Z Z.heap w11 "com/example/banksum/banksum/uk/ExceptionRule$11") (E_w12 : Exa Z Z.heap w12 "com/example/banksum/banksum/uk/ExceptionRule$12") :
    own_Met l Z x code maxLocals ret room_1 #[(.int n), (.int t), (.int d)] h0 (fun v h L => v = some (.int 1) ∧ Fr n0 L) := by
  refine own_body #[.val (.int n), .val (.int t), .val (.int d), .unset, .unset, .unset, .unset, .unset, .unset, .unset, .unset, .unset] (plainFor_of_name own_pn1) (fun m_ => ef_rm0 m_ n t d) ?_
  intro p_ e_ s_ m_ below meth c_ s₁ X0 hx hby hml hret hlk hZ hown hnm e0
  have N0 := Fr.nil n0
  show own_Out p_ e_ below s_ _ _ _ s₁ (mkF m_ 0 #[.val (.int n), .val (.int t), .val (.int d), .unset, .unset, .unset, .unset, .unset, .unset, .unset, .unset, .unset] [])
  refine own_st s₁ (mkF m_ 2 #[.val (.int n), .val (.int t), .val (.int d), .unset, .unset, .unset, .unset, .unset, .unset, .unset, .unset, .unset] [(.int (13 : Int32))]) (fun t_ k_ => ?_) ?_
  · refine XS.bipush X0.here hx rfl (hb hby at_0) ?_
    show Steps p_.tables e_ below (s₁.setTop (mkF m_ 2 #[.val (.int n), .val (.int t), .val (.int d), .unset, .unset, .unset, .unset, .unset, .unset, .unset, .unset, .unset] [(.int (13 : Int32))])) t_
    exact k_
  obtain ⟨T1, h1, k1, X1, e1, E1, A1, O1, st1⟩ := newR X0 hx hZ hown (hw _ (List.mem_of_getElem? (i := 0) rfl)) (hw _ (List.mem_of_getElem? (i := 1) rfl)) e0 (g := (mkF m_ 2 #[.val (.int n), .val (.int t), .val (.int d), .unset, .unset, .unset, .unset, .unset, .unset, .unset, .unset, .unset] [(.int (13 : Int32))])) rfl (hb hby at_2) rfl (by decide) (cap := 13) (by decide) (by decide) (by decide) (by decide)
  obtain ⟨b1, g1⟩ : ∃ z, z = h0.size := ⟨_, rfl⟩
  rw [← g1] at A1 st1
  have g_b1 : n0 ≤ b1 := g1 ▸ Z0
  replace O := O.ext E1
  replace Z0 : n0 ≤ h1.size := Nat.le_trans Z0 E1.1
  have A_b1 : own_A Z h1 b1 k1 (.object "com/example/banksum/banksum/uk/ExceptionRule") 13 (fun x => (([.null, .null, .null, .null, .null, .null, .null, .null, .null, .null, .null, .null, .null] : List Value).getD x .null)) := own_A.newL A1 (by decide) 13 (by decide) .null rfl
  refine own_st T1 (mkF m_ 5 #[.val (.int n), .val (.int t), .val (.int d), .unset, .unset, .unset, .unset, .unset, .unset, .unset, .unset, .unset] [(.ref b1)]) st1 ?_
  refine own_st T1 (mkF m_ 7 #[.val (.int n), .val (.int t), .val (.int d), .unset, .unset, .unset, .unset, .unset, .unset, .unset, .unset, .unset] [(.int (0 : Int32)), (.ref b1), (.ref b1)]) (fun t_ k_ => ?_) ?_
  · refine XS.dup X1.here hx rfl (hb hby at_5) rfl rfl ?_
    show Steps p_.tables e_ below (T1.setTop (mkF m_ 6 #[.val (.int n), .val (.int t), .val (.int d), .unset, .unset, .unset, .unset, .unset, .unset, .unset, .unset, .unset] [(.ref b1), (.ref b1)])) t_
    refine XS.iconst X1.here hx rfl (hb hby at_6) ?_
    show Steps p_.tables e_ below (T1.setTop (mkF m_ 7 #[.val (.int n), .val (.int t), .val (.int d), .unset, .unset, .unset, .unset, .unset, .unset, .unset, .unset, .unset] [(.int (0 : Int32)), (.ref b1), (.ref b1)])) t_
    exact k_
  obtain ⟨T2, X2, e2, st2⟩ := getS2 X1 hx hZ hown (host := "") (Or.inl (hw _ (List.mem_of_getElem? (i := 2) rfl))) Via.refl e1 (S_NONE.ext O.2) (g := (mkF m_ 7 #[.val (.int n), .val (.int t), .val (.int d), .unset, .unset, .unset, .unset, .unset, .unset, .unset, .unset, .unset] [(.int (0 : Int32)), (.ref b1), (.ref b1)])) rfl (hb hby at_7)
  refine own_st T2 (mkF m_ 10 #[.val (.int n), .val (.int t), .val (.int d), .unset, .unset, .unset, .unset, .unset, .unset, .unset, .unset, .unset] [(.ref w0), (.int (0 : Int32)), (.ref b1), (.ref b1)]) st2 ?_
  obtain ⟨T3, h3, X3, e3, W3, st3⟩ := own_stR X2 hx hZ e2 A_b1 O1 (Or.inr ⟨_, rfl, Ins.of_exa (E_w0.ext O.2) (hw _ (List.mem_of_getElem? (i := 5) rfl))⟩) 0 (by decide) (by decide) (j := (0 : Int32)) (v := (.ref w0)) (Ls := #[.val (.int n), .val (.int t), .val (.int d), .unset, .unset, .unset, .unset, .unset, .unset, .unset, .unset, .unset]) (rest := [(.ref b1)]) (hb hby at_10)
  have N3 := Fr.snoc X3 N0 g_b1
  replace Z0 : n0 ≤ h3.size := W3.size ▸ Z0
  replace O := O.wr W3 g_b1
  replace A_b1 : own_A Z h3 b1 k1 (.object "com/example/banksum/banksum/uk/ExceptionRule") 13 (fun x => (([(.ref w0), .null, .null, .null, .null, .null, .null, .null, .null, .null, .null, .null, .null] : List Value).getD x .null)) := A_b1.setL (by decide) (Nat.le_of_ble_eq_true rfl) W3
  refine own_st T3 (mkF m_ 11 #[.val (.int n), .val (.int t), .val (.int d), .unset, .unset, .unset, .unset, .unset, .unset, .unset, .unset, .unset] [(.ref b1)]) st3 ?_
  refine own_st T3 (mkF m_ 13 #[.val (.int n), .val (.int t), .val (.int d), .unset, .unset, .unset, .unset, .unset, .unset, .unset, .unset, .unset] [(.int (1 : Int32)), (.ref b1), (.ref b1)]) (fun t_ k_ => ?_) ?_
  · refine XS.dup X3.here hx rfl (hb hby at_11) rfl rfl ?_
    show Steps p_.tables e_ below (T3.setTop (mkF m_ 12 #[.val (.int n), .val (.int t), .val (.int d), .unset, .unset, .unset, .unset, .unset, .unset, .unset, .unset, .unset] [(.ref b1), (.ref b1)])) t_
    refine XS.iconst X3.here hx rfl (hb hby at_12) ?_
    show Steps p_.tables e_ below (T3.setTop (mkF m_ 13 #[.val (.int n), .val (.int t), .val (.int d), .unset, .unset, .unset, .unset, .unset, .unset, .unset, .unset, .unset] [(.int (1 : Int32)), (.ref b1), (.ref b1)])) t_
    exact k_
  obtain ⟨T4, X4, e4, st4⟩ := getS2 X3 hx hZ hown (host := "") (Or.inl (hw _ (List.mem_of_getElem? (i := 6) rfl))) Via.refl e3 (S_ADD_27.ext O.2) (g := (mkF m_ 13 #[.val (.int n), .val (.int t), .val (.int d), .unset, .unset, .unset, .unset, .unset, .unset, .unset, .unset, .unset] [(.int (1 : Int32)), (.ref b1), (.ref b1)])) rfl (hb hby at_13)
  refine own_st T4 (mkF m_ 16 #[.val (.int n), .val (.int t), .val (.int d), .unset, .unset, .unset, .unset, .unset, .unset, .unset, .unset, .unset] [(.ref w1), (.int (1 : Int32)), (.ref b1), (.ref b1)]) st4 ?_
  obtain ⟨T5, h5, X5, e5, W5, st5⟩ := own_stR X4 hx hZ e4 A_b1 O1 (Or.inr ⟨_, rfl, Ins.of_exa (E_w1.ext O.2) (hw _ (List.mem_of_getElem? (i := 8) rfl))⟩) 1 (by decide) (by decide) (j := (1 : Int32)) (v := (.ref w1)) (Ls := #[.val (.int n), .val (.int t), .val (.int d), .unset, .unset, .unset, .unset, .unset, .unset, .unset, .unset, .unset]) (rest := [(.ref b1)]) (hb hby at_16)
  have N5 := Fr.snoc X5 N3 g_b1
  replace Z0 : n0 ≤ h5.size := W5.size ▸ Z0
  replace O := O.wr W5 g_b1
  replace A_b1 : own_A Z h5 b1 k1 (.object "com/example/banksum/banksum/uk/ExceptionRule") 13 (fun x => (([(.ref w0), (.ref w1), .null, .null, .null, .null, .null, .null, .null, .null, .null, .null, .null] : List Value).getD x .null)) := A_b1.setL (by decide) (Nat.le_of_ble_eq_true rfl) W5
  refine own_st T5 (mkF m_ 17 #[.val (.int n), .val (.int t), .val (.int d), .unset, .unset, .unset, .unset, .unset, .unset, .unset, .unset, .unset] [(.ref b1)]) st5 ?_
  refine own_st T5 (mkF m_ 19 #[.val (.int n), .val (.int t), .val (.int d), .unset, .unset, .unset, .unset, .unset, .unset, .unset, .unset, .unset] [(.int (2 : Int32)), (.ref b1), (.ref b1)]) (fun t_ k_ => ?_) ?_
  · refine XS.dup X5.here hx rfl (hb hby at_17) rfl rfl ?_
    show Steps p_.tables e_ below (T5.setTop (mkF m_ 18 #[.val (.int n), .val (.int t), .val (.int d), .unset, .unset, .unset, .unset, .unset, .unset, .unset, .unset, .unset] [(.ref b1), (.ref b1)])) t_
    refine XS.iconst X5.here hx rfl (hb hby at_18) ?_
    show Steps p_.tables e_ below (T5.setTop (mkF m_ 19 #[.val (.int n), .val (.int t), .val (.int d), .unset, .unset, .unset, .unset, .unset, .unset, .unset, .unset, .unset] [(.int (2 : Int32)), (.ref b1), (.ref b1)])) t_
    exact k_
  obtain ⟨T6, X6, e6, st6⟩ := getS2 X5 hx hZ hown (host := "") (Or.inl (hw _ (List.mem_of_getElem? (i := 9) rfl))) Via.refl e5 (S_EITHER_WEIGHTS_BY_A_AND_G.ext O.2) (g := (mkF m_ 19 #[.val (.int n), .val (.int t), .val (.int d), .unset, .unset, .unset, .unset, .unset, .unset, .unset, .unset, .unset] [(.int (2 : Int32)), (.ref b1), (.ref b1)])) rfl (hb hby at_19)
  refine own_st T6 (mkF m_ 22 #[.val (.int n), .val (.int t), .val (.int d), .unset, .unset, .unset, .unset, .unset, .unset, .unset, .unset, .unset] [(.ref w2), (.int (2 : Int32)), (.ref b1), (.ref b1)]) st6 ?_
  obtain ⟨T7, h7, X7, e7, W7, st7⟩ := own_stR X6 hx hZ e6 A_b1 O1 (Or.inr ⟨_, rfl, Ins.of_exa (E_w2.ext O.2) (hw _ (List.mem_of_getElem? (i := 11) rfl))⟩) 2 (by decide) (by decide) (j := (2 : Int32)) (v := (.ref w2)) (Ls := #[.val (.int n), .val (.int t), .val (.int d), .unset, .unset, .unset, .unset, .unset, .unset, .unset, .unset, .unset]) (rest := [(.ref b1)]) (hb hby at_22)
  have N7 := Fr.snoc X7 N5 g_b1
  replace Z0 : n0 ≤ h7.size := W7.size ▸ Z0
  replace O := O.wr W7 g_b1
  replace A_b1 : own_A Z h7 b1 k1 (.object "com/example/banksum/banksum/uk/ExceptionRule") 13 (fun x => (([(.ref w0), (.ref w1), (.ref w2), .null, .null, .null, .null, .null, .null, .null, .null, .null, .null] : List Value).getD x .null)) := A_b1.setL (by decide) (Nat.le_of_ble_eq_true rfl) W7
  refine own_st T7 (mkF m_ 23 #[.val (.int n), .val (.int t), .val (.int d), .unset, .unset, .unset, .unset, .unset, .unset, .unset, .unset, .unset] [(.ref b1)]) st7 ?_
  refine own_st T7 (mkF m_ 25 #[.val (.int n), .val (.int t), .val (.int d), .unset, .unset, .unset, .unset, .unset, .unset, .unset, .unset, .unset] [(.int (3 : Int32)), (.ref b1), (.ref b1)]) (fun t_ k_ => ?_) ?_
  · refine XS.dup X7.here hx rfl (hb hby at_23) rfl rfl ?_
    show Steps p_.tables e_ below (T7.setTop (mkF m_ 24 #[.val (.int n), .val (.int t), .val (.int d), .unset, .unset, .unset, .unset, .unset, .unset, .unset, .unset, .unset] [(.ref b1), (.ref b1)])) t_
    refine XS.iconst X7.here hx rfl (hb hby at_24) ?_
    show Steps p_.tables e_ below (T7.setTop (mkF m_ 25 #[.val (.int n), .val (.int t), .val (.int d), .unset, .unset, .unset, .unset, .unset, .unset, .unset, .unset, .unset] [(.int (3 : Int32)), (.ref b1), (.ref b1)])) t_
    exact k_
  obtain ⟨T8, X8, e8, st8⟩ := getS2 X7 hx hZ hown (host := "") (Or.inl (hw _ (List.mem_of_getElem? (i := 12) rfl))) Via.refl e7 (S_SKIP_WHEN_C_IS_6_OR_9.ext O.2) (g := (mkF m_ 25 #[.val (.int n), .val (.int t), .val (.int d), .unset, .unset, .unset, .unset, .unset, .unset, .unset, .unset, .unset] [(.int (3 : Int32)), (.ref b1), (.ref b1)])) rfl (hb hby at_25)
  refine own_st T8 (mkF m_ 28 #[.val (.int n), .val (.int t), .val (.int d), .unset, .unset, .unset, .unset, .unset, .unset, .unset, .unset, .unset] [(.ref w3), (.int (3 : Int32)), (.ref b1), (.ref b1)]) st8 ?_
  obtain ⟨T9, h9, X9, e9, W9, st9⟩ := own_stR X8 hx hZ e8 A_b1 O1 (Or.inr ⟨_, rfl, Ins.of_exa (E_w3.ext O.2) (hw _ (List.mem_of_getElem? (i := 14) rfl))⟩) 3 (by decide) (by decide) (j := (3 : Int32)) (v := (.ref w3)) (Ls := #[.val (.int n), .val (.int t), .val (.int d), .unset, .unset, .unset, .unset, .unset, .unset, .unset, .unset, .unset]) (rest := [(.ref b1)]) (hb hby at_28)
  have N9 := Fr.snoc X9 N7 g_b1
  replace Z0 : n0 ≤ h9.size := W9.size ▸ Z0
  replace O := O.wr W9 g_b1
  replace A_b1 : own_A Z h9 b1 k1 (.object "com/example/banksum/banksum/uk/ExceptionRule") 13 (fun x => (([(.ref w0), (.ref w1), (.ref w2), (.ref w3), .null, .null, .null, .null, .null, .null, .null, .null, .null] : List Value).getD x .null)) := A_b1.setL (by decide) (Nat.le_of_ble_eq_true rfl) W9
  refine own_st T9 (mkF m_ 29 #[.val (.int n), .val (.int t), .val (.int d), .unset, .unset, .unset, .unset, .unset, .unset, .unset, .unset, .unset] [(.ref b1)]) st9 ?_
  refine own_st T9 (mkF m_ 31 #[.val (.int n), .val (.int t), .val (.int d), .unset, .unset, .unset, .unset, .unset, .unset, .unset, .unset, .unset] [(.int (4 : Int32)), (.ref b1), (.ref b1)]) (fun t_ k_ => ?_) ?_
  · refine XS.dup X9.here hx rfl (hb hby at_29) rfl rfl ?_
    show Steps p_.tables e_ below (T9.setTop (mkF m_ 30 #[.val (.int n), .val (.int t), .val (.int d), .unset, .unset, .unset, .unset, .unset, .unset, .unset, .unset, .unset] [(.ref b1), (.ref b1)])) t_
    refine XS.iconst X9.here hx rfl (hb hby at_30) ?_
    show Steps p_.tables e_ below (T9.setTop (mkF m_ 31 #[.val (.int n), .val (.int t), .val (.int d), .unset, .unset, .unset, .unset, .unset, .unset, .unset, .unset, .unset] [(.int (4 : Int32)), (.ref b1), (.ref b1)])) t_
    exact k_
  obtain ⟨T10, X10, e10, st10⟩ := getS2 X9 hx hZ hown (host := "") (Or.inl (hw _ (List.mem_of_getElem? (i := 15) rfl))) Via.refl e9 (S_REMAINDER_IS_GH.ext O.2) (g := (mkF m_ 31 #[.val (.int n), .val (.int t), .val (.int d), .unset, .unset, .unset, .unset, .unset, .unset, .unset, .unset, .unset] [(.int (4 : Int32)), (.ref b1), (.ref b1)])) rfl (hb hby at_31)
  refine own_st T10 (mkF m_ 34 #[.val (.int n), .val (.int t), .val (.int d), .unset, .unset, .unset, .unset, .unset, .unset, .unset, .unset, .unset] [(.ref w4), (.int (4 : Int32)), (.ref b1), (.ref b1)]) st10 ?_
  obtain ⟨T11, h11, X11, e11, W11, st11⟩ := own_stR X10 hx hZ e10 A_b1 O1 (Or.inr ⟨_, rfl, Ins.of_exa (E_w4.ext O.2) (hw _ (List.mem_of_getElem? (i := 17) rfl))⟩) 4 (by decide) (by decide) (j := (4 : Int32)) (v := (.ref w4)) (Ls := #[.val (.int n), .val (.int t), .val (.int d), .unset, .unset, .unset, .unset, .unset, .unset, .unset, .unset, .unset]) (rest := [(.ref b1)]) (hb hby at_34)
  have N11 := Fr.snoc X11 N9 g_b1
  replace Z0 : n0 ≤ h11.size := W11.size ▸ Z0
  replace O := O.wr W11 g_b1
  replace A_b1 : own_A Z h11 b1 k1 (.object "com/example/banksum/banksum/uk/ExceptionRule") 13 (fun x => (([(.ref w0), (.ref w1), (.ref w2), (.ref w3), (.ref w4), .null, .null, .null, .null, .null, .null, .null, .null] : List Value).getD x .null)) := A_b1.setL (by decide) (Nat.le_of_ble_eq_true rfl) W11
  refine own_st T11 (mkF m_ 35 #[.val (.int n), .val (.int t), .val (.int d), .unset, .unset, .unset, .unset, .unset, .unset, .unset, .unset, .unset] [(.ref b1)]) st11 ?_
  refine own_st T11 (mkF m_ 37 #[.val (.int n), .val (.int t), .val (.int d), .unset, .unset, .unset, .unset, .unset, .unset, .unset, .unset, .unset] [(.int (5 : Int32)), (.ref b1), (.ref b1)]) (fun t_ k_ => ?_) ?_
  · refine XS.dup X11.here hx rfl (hb hby at_35) rfl rfl ?_
    show Steps p_.tables e_ below (T11.setTop (mkF m_ 36 #[.val (.int n), .val (.int t), .val (.int d), .unset, .unset, .unset, .unset, .unset, .unset, .unset, .unset, .unset] [(.ref b1), (.ref b1)])) t_
    refine XS.iconst X11.here hx rfl (hb hby at_36) ?_
    show Steps p_.tables e_ below (T11.setTop (mkF m_ 37 #[.val (.int n), .val (.int t), .val (.int d), .unset, .unset, .unset, .unset, .unset, .unset, .unset, .unset, .unset] [(.int (5 : Int32)), (.ref b1), (.ref b1)])) t_
    exact k_
  obtain ⟨T12, X12, e12, st12⟩ := getS2 X11 hx hZ hown (host := "") (Or.inl (hw _ (List.mem_of_getElem? (i := 18) rfl))) Via.refl e11 (S_SUBSTITUTE_AND_CHECK_DIGIT.ext O.2) (g := (mkF m_ 37 #[.val (.int n), .val (.int t), .val (.int d), .unset, .unset, .unset, .unset, .unset, .unset, .unset, .unset, .unset] [(.int (5 : Int32)), (.ref b1), (.ref b1)])) rfl (hb hby at_37)
  refine own_st T12 (mkF m_ 40 #[.val (.int n), .val (.int t), .val (.int d), .unset, .unset, .unset, .unset, .unset, .unset, .unset, .unset, .unset] [(.ref w5), (.int (5 : Int32)), (.ref b1), (.ref b1)]) st12 ?_
  obtain ⟨T13, h13, X13, e13, W13, st13⟩ := own_stR X12 hx hZ e12 A_b1 O1 (Or.inr ⟨_, rfl, Ins.of_exa (E_w5.ext O.2) (hw _ (List.mem_of_getElem? (i := 20) rfl))⟩) 5 (by decide) (by decide) (j := (5 : Int32)) (v := (.ref w5)) (Ls := #[.val (.int n), .val (.int t), .val (.int d), .unset, .unset, .unset, .unset, .unset, .unset, .unset, .unset, .unset]) (rest := [(.ref b1)]) (hb hby at_40)
  have N13 := Fr.snoc X13 N11 g_b1
  replace Z0 : n0 ≤ h13.size := W13.size ▸ Z0
  replace O := O.wr W13 g_b1
  replace A_b1 : own_A Z h13 b1 k1 (.object "com/example/banksum/banksum/uk/ExceptionRule") 13 (fun x => (([(.ref w0), (.ref w1), (.ref w2), (.ref w3), (.ref w4), (.ref w5), .null, .null, .null, .null, .null, .null, .null] : List Value).getD x .null)) := A_b1.setL (by decide) (Nat.le_of_ble_eq_true rfl) W13
  refine own_st T13 (mkF m_ 41 #[.val (.int n), .val (.int t), .val (.int d), .unset, .unset, .unset, .unset, .unset, .unset, .unset, .unset, .unset] [(.ref b1)]) st13 ?_
  refine own_st T13 (mkF m_ 44 #[.val (.int n), .val (.int t), .val (.int d), .unset, .unset, .unset, .unset, .unset, .unset, .unset, .unset, .unset] [(.int (6 : Int32)), (.ref b1), (.ref b1)]) (fun t_ k_ => ?_) ?_
  · refine XS.dup X13.here hx rfl (hb hby at_41) rfl rfl ?_
    show Steps p_.tables e_ below (T13.setTop (mkF m_ 42 #[.val (.int n), .val (.int t), .val (.int d), .unset, .unset, .unset, .unset, .unset, .unset, .unset, .unset, .unset] [(.ref b1), (.ref b1)])) t_
    refine XS.bipush X13.here hx rfl (hb hby at_42) ?_
    show Steps p_.tables e_ below (T13.setTop (mkF m_ 44 #[.val (.int n), .val (.int t), .val (.int d), .unset, .unset, .unset, .unset, .unset, .unset, .unset, .unset, .unset] [(.int (6 : Int32)), (.ref b1), (.ref b1)])) t_
    exact k_
  obtain ⟨T14, X14, e14, st14⟩ := getS2 X13 hx hZ hown (host := "") (Or.inl (hw _ (List.mem_of_getElem? (i := 21) rfl))) Via.refl e13 (S_FOREIGN_CURRENCY.ext O.2) (g := (mkF m_ 44 #[.val (.int n), .val (.int t), .val (.int d), .unset, .unset, .unset, .unset, .unset, .unset, .unset, .unset, .unset] [(.int (6 : Int32)), (.ref b1), (.ref b1)])) rfl (hb hby at_44)
  refine own_st T14 (mkF m_ 47 #[.val (.int n), .val (.int t), .val (.int d), .unset, .unset, .unset, .unset, .unset, .unset, .unset, .unset, .unset] [(.ref w6), (.int (6 : Int32)), (.ref b1), (.ref b1)]) st14 ?_
  obtain ⟨T15, h15, X15, e15, W15, st15⟩ := own_stR X14 hx hZ e14 A_b1 O1 (Or.inr ⟨_, rfl, Ins.of_exa (E_w6.ext O.2) (hw _ (List.mem_of_getElem? (i := 23) rfl))⟩) 6 (by decide) (by decide) (j := (6 : Int32)) (v := (.ref w6)) (Ls := #[.val (.int n), .val (.int t), .val (.int d), .unset, .unset, .unset, .unset, .unset, .unset, .unset, .unset, .unset]) (rest := [(.ref b1)]) (hb hby at_47)
  have N15 := Fr.snoc X15 N13 g_b1
  replace Z0 : n0 ≤ h15.size := W15.size ▸ Z0
  replace O := O.wr W15 g_b1
  replace A_b1 : own_A Z h15 b1 k1 (.object "com/example/banksum/banksum/uk/ExceptionRule") 13 (fun x => (([(.ref w0), (.ref w1), (.ref w2), (.ref w3), (.ref w4), (.ref w5), (.ref w6), .null, .null, .null, .null, .null, .null] : List Value).getD x .null)) := A_b1.setL (by decide) (Nat.le_of_ble_eq_true rfl) W15
  refine own_st T15 (mkF m_ 48 #[.val (.int n), .val (.int t), .val (.int d), .unset, .unset, .unset, .unset, .unset, .unset, .unset, .unset, .unset] [(.ref b1)]) st15 ?_
  refine own_st T15 (mkF m_ 51 #[.val (.int n), .val (.int t), .val (.int d), .unset, .unset, .unset, .unset, .unset, .unset, .unset, .unset, .unset] [(.int (7 : Int32)), (.ref b1), (.ref b1)]) (fun t_ k_ => ?_) ?_
  · refine XS.dup X15.here hx rfl (hb hby at_48) rfl rfl ?_
    show Steps p_.tables e_ below (T15.setTop (mkF m_ 49 #[.val (.int n), .val (.int t), .val (.int d), .unset, .unset, .unset, .unset, .unset, .unset, .unset, .unset, .unset] [(.ref b1), (.ref b1)])) t_
    refine XS.bipush X15.here hx rfl (hb hby at_49) ?_
    show Steps p_.tables e_ below (T15.setTop (mkF m_ 51 #[.val (.int n), .val (.int t), .val (.int d), .unset, .unset, .unset, .unset, .unset, .unset, .unset, .unset, .unset] [(.int (7 : Int32)), (.ref b1), (.ref b1)])) t_
    exact k_
  obtain ⟨T16, X16, e16, st16⟩ := getS2 X15 hx hZ hown (host := "") (Or.inl (hw _ (List.mem_of_getElem? (i := 24) rfl))) Via.refl e15 (S_ZERO_U_TO_B_WHEN_G_IS_9.ext O.2) (g := (mkF m_ 51 #[.val (.int n), .val (.int t), .val (.int d), .unset, .unset, .unset, .unset, .unset, .unset, .unset, .unset, .unset] [(.int (7 : Int32)), (.ref b1), (.ref b1)])) rfl (hb hby at_51)
  refine own_st T16 (mkF m_ 54 #[.val (.int n), .val (.int t), .val (.int d), .unset, .unset, .unset, .unset, .unset, .unset, .unset, .unset, .unset] [(.ref w7), (.int (7 : Int32)), (.ref b1), (.ref b1)]) st16 ?_
  obtain ⟨T17, h17, X17, e17, W17, st17⟩ := own_stR X16 hx hZ e16 A_b1 O1 (Or.inr ⟨_, rfl, Ins.of_exa (E_w7.ext O.2) (hw _ (List.mem_of_getElem? (i := 26) rfl))⟩) 7 (by decide) (by decide) (j := (7 : Int32)) (v := (.ref w7)) (Ls := #[.val (.int n), .val (.int t), .val (.int d), .unset, .unset, .unset, .unset, .unset, .unset, .unset, .unset, .unset]) (rest := [(.ref b1)]) (hb hby at_54)
  have N17 := Fr.snoc X17 N15 g_b1
  replace Z0 : n0 ≤ h17.size := W17.size ▸ Z0
  replace O := O.wr W17 g_b1
  replace A_b1 : own_A Z h17 b1 k1 (.object "com/example/banksum/banksum/uk/ExceptionRule") 13 (fun x => (([(.ref w0), (.ref w1), (.ref w2), (.ref w3), (.ref w4), (.ref w5), (.ref w6), (.ref w7), .null, .null, .null, .null, .null] : List Value).getD x .null)) := A_b1.setL (by decide) (Nat.le_of_ble_eq_true rfl) W17
  refine own_st T17 (mkF m_ 55 #[.val (.int n), .val (.int t), .val (.int d), .unset, .unset, .unset, .unset, .unset, .unset, .unset, .unset, .unset] [(.ref b1)]) st17 ?_
  refine own_st T17 (mkF m_ 58 #[.val (.int n), .val (.int t), .val (.int d), .unset, .unset, .unset, .unset, .unset, .unset, .unset, .unset, .unset] [(.int (8 : Int32)), (.ref b1), (.ref b1)]) (fun t_ k_ => ?_) ?_
  · refine XS.dup X17.here hx rfl (hb hby at_55) rfl rfl ?_
    show Steps p_.tables e_ below (T17.setTop (mkF m_ 56 #[.val (.int n), .val (.int t), .val (.int d), .unset, .unset, .unset, .unset, .unset, .unset, .unset, .unset, .unset] [(.ref b1), (.ref b1)])) t_
    refine XS.bipush X17.here hx rfl (hb hby at_56) ?_
    show Steps p_.tables e_ below (T17.setTop (mkF m_ 58 #[.val (.int n), .val (.int t), .val (.int d), .unset, .unset, .unset, .unset, .unset, .unset, .unset, .unset, .unset] [(.int (8 : Int32)), (.ref b1), (.ref b1)])) t_
    exact k_
  obtain ⟨T18, X18, e18, st18⟩ := getS2 X17 hx hZ hown (host := "") (Or.inl (hw _ (List.mem_of_getElem? (i := 27) rfl))) Via.refl e17 (S_SORTING_CODE_090126.ext O.2) (g := (mkF m_ 58 #[.val (.int n), .val (.int t), .val (.int d), .unset, .unset, .unset, .unset, .unset, .unset, .unset, .unset, .unset] [(.int (8 : Int32)), (.ref b1), (.ref b1)])) rfl (hb hby at_58)
  refine own_st T18 (mkF m_ 61 #[.val (.int n), .val (.int t), .val (.int d), .unset, .unset, .unset, .unset, .unset, .unset, .unset, .unset, .unset] [(.ref w8), (.int (8 : Int32)), (.ref b1), (.ref b1)]) st18 ?_
  obtain ⟨T19, h19, X19, e19, W19, st19⟩ := own_stR X18 hx hZ e18 A_b1 O1 (Or.inr ⟨_, rfl, Ins.of_exa (E_w8.ext O.2) (hw _ (List.mem_of_getElem? (i := 29) rfl))⟩) 8 (by decide) (by decide) (j := (8 : Int32)) (v := (.ref w8)) (Ls := #[.val (.int n), .val (.int t), .val (.int d), .unset, .unset, .unset, .unset, .unset, .unset, .unset, .unset, .unset]) (rest := [(.ref b1)]) (hb hby at_61)
  have N19 := Fr.snoc X19 N17 g_b1
  replace Z0 : n0 ≤ h19.size := W19.size ▸ Z0
  replace O := O.wr W19 g_b1
  replace A_b1 : own_A Z h19 b1 k1 (.object "com/example/banksum/banksum/uk/ExceptionRule") 13 (fun x => (([(.ref w0), (.ref w1), (.ref w2), (.ref w3), (.ref w4), (.ref w5), (.ref w6), (.ref w7), (.ref w8), .null, .null, .null, .null] : List Value).getD x .null)) := A_b1.setL (by decide) (Nat.le_of_ble_eq_true rfl) W19
  refine own_st T19 (mkF m_ 62 #[.val (.int n), .val (.int t), .val (.int d), .unset, .unset, .unset, .unset, .unset, .unset, .unset, .unset, .unset] [(.ref b1)]) st19 ?_
  refine own_st T19 (mkF m_ 65 #[.val (.int n), .val (.int t), .val (.int d), .unset, .unset, .unset, .unset, .unset, .unset, .unset, .unset, .unset] [(.int (9 : Int32)), (.ref b1), (.ref b1)]) (fun t_ k_ => ?_) ?_
  · refine XS.dup X19.here hx rfl (hb hby at_62) rfl rfl ?_
    show Steps p_.tables e_ below (T19.setTop (mkF m_ 63 #[.val (.int n), .val (.int t), .val (.int d), .unset, .unset, .unset, .unset, .unset, .unset, .unset, .unset, .unset] [(.ref b1), (.ref b1)])) t_
    refine XS.bipush X19.here hx rfl (hb hby at_63) ?_
    show Steps p_.tables e_ below (T19.setTop (mkF m_ 65 #[.val (.int n), .val (.int t), .val (.int d), .unset, .unset, .unset, .unset, .unset, .unset, .unset, .unset, .unset] [(.int (9 : Int32)), (.ref b1), (.ref b1)])) t_
    exact k_
  obtain ⟨T20, X20, e20, st20⟩ := getS2 X19 hx hZ hown (host := "") (Or.inl (hw _ (List.mem_of_getElem? (i := 30) rfl))) Via.refl e19 (S_SORTING_CODE_309634.ext O.2) (g := (mkF m_ 65 #[.val (.int n), .val (.int t), .val (.int d), .unset, .unset, .unset, .unset, .unset, .unset, .unset, .unset, .unset] [(.int (9 : Int32)), (.ref b1), (.ref b1)])) rfl (hb hby at_65)
  refine own_st T20 (mkF m_ 68 #[.val (.int n), .val (.int t), .val (.int d), .unset, .unset, .unset, .unset, .unset, .unset, .unset, .unset, .unset] [(.ref w9), (.int (9 : Int32)), (.ref b1), (.ref b1)]) st20 ?_
  obtain ⟨T21, h21, X21, e21, W21, st21⟩ := own_stR X20 hx hZ e20 A_b1 O1 (Or.inr ⟨_, rfl, Ins.of_exa (E_w9.ext O.2) (hw _ (List.mem_of_getElem? (i := 32) rfl))⟩) 9 (by decide) (by decide) (j := (9 : Int32)) (v := (.ref w9)) (Ls := #[.val (.int n), .val (.int t), .val (.int d), .unset, .unset, .unset, .unset, .unset, .unset, .unset, .unset, .unset]) (rest := [(.ref b1)]) (hb hby at_68)
  have N21 := Fr.snoc X21 N19 g_b1
  replace Z0 : n0 ≤ h21.size := W21.size ▸ Z0
  replace O := O.wr W21 g_b1
  replace A_b1 : own_A Z h21 b1 k1 (.object "com/example/banksum/banksum/uk/ExceptionRule") 13 (fun x => (([(.ref w0), (.ref w1), (.ref w2), (.ref w3), (.ref w4), (.ref w5), (.ref w6), (.ref w7), (.ref w8), (.ref w9), .null, .null, .null] : List Value).getD x .null)) := A_b1.setL (by decide) (Nat.le_of_ble_eq_true rfl) W21
  refine own_st T21 (mkF m_ 69 #[.val (.int n), .val (.int t), .val (.int d), .unset, .unset, .unset, .unset, .unset, .unset, .unset, .unset, .unset] [(.ref b1)]) st21 ?_
  refine own_st T21 (mkF m_ 72 #[.val (.int n), .val (.int t), .val (.int d), .unset, .unset, .unset, .unset, .unset, .unset, .unset, .unset, .unset] [(.int (10 : Int32)), (.ref b1), (.ref b1)]) (fun t_ k_ => ?_) ?_
  · refine XS.dup X21.here hx rfl (hb hby at_69) rfl rfl ?_
    show Steps p_.tables e_ below (T21.setTop (mkF m_ 70 #[.val (.int n), .val (.int t), .val (.int d), .unset, .unset, .unset, .unset, .unset, .unset, .unset, .unset, .unset] [(.ref b1), (.ref b1)])) t_
    refine XS.bipush X21.here hx rfl (hb hby at_70) ?_
    show Steps p_.tables e_ below (T21.setTop (mkF m_ 72 #[.val (.int n), .val (.int t), .val (.int d), .unset, .unset, .unset, .unset, .unset, .unset, .unset, .unset, .unset] [(.int (10 : Int32)), (.ref b1), (.ref b1)])) t_
    exact k_
  obtain ⟨T22, X22, e22, st22⟩ := getS2 X21 hx hZ hown (host := "") (Or.inl (hw _ (List.mem_of_getElem? (i := 33) rfl))) Via.refl e21 (S_EITHER_ZERO_U_TO_B_WHEN_AB_IS_09_OR_99_AND_G_IS_9.ext O.2) (g := (mkF m_ 72 #[.val (.int n), .val (.int t), .val (.int d), .unset, .unset, .unset, .unset, .unset, .unset, .unset, .unset, .unset] [(.int (10 : Int32)), (.ref b1), (.ref b1)])) rfl (hb hby at_72)
  refine own_st T22 (mkF m_ 75 #[.val (.int n), .val (.int t), .val (.int d), .unset, .unset, .unset, .unset, .unset, .unset, .unset, .unset, .unset] [(.ref w10), (.int (10 : Int32)), (.ref b1), (.ref b1)]) st22 ?_
  obtain ⟨T23, h23, X23, e23, W23, st23⟩ := own_stR X22 hx hZ e22 A_b1 O1 (Or.inr ⟨_, rfl, Ins.of_exa (E_w10.ext O.2) (hw _ (List.mem_of_getElem? (i := 35) rfl))⟩) 10 (by decide) (by decide) (j := (10 : Int32)) (v := (.ref w10)) (Ls := #[.val (.int n), .val (.int t), .val (.int d), .unset, .unset, .unset, .unset, .unset, .unset, .unset, .unset, .unset]) (rest := [(.ref b1)]) (hb hby at_75)
  have N23 := Fr.snoc X23 N21 g_b1
  replace Z0 : n0 ≤ h23.size := W23.size ▸ Z0
  replace O := O.wr W23 g_b1
  replace A_b1 : own_A Z h23 b1 k1 (.object "com/example/banksum/banksum/uk/ExceptionRule") 13 (fun x => (([(.ref w0), (.ref w1), (.ref w2), (.ref w3), (.ref w4), (.ref w5), (.ref w6), (.ref w7), (.ref w8), (.ref w9), (.ref w10), .null, .null] : List Value).getD x .null)) := A_b1.setL (by decide) (Nat.le_of_ble_eq_true rfl) W23
  refine own_st T23 (mkF m_ 76 #[.val (.int n), .val (.int t), .val (.int d), .unset, .unset, .unset, .unset, .unset, .unset, .unset, .unset, .unset] [(.ref b1)]) st23 ?_
  refine own_st T23 (mkF m_ 79 #[.val (.int n), .val (.int t), .val (.int d), .unset, .unset, .unset, .unset, .unset, .unset, .unset, .unset, .unset] [(.int (11 : Int32)), (.ref b1), (.ref b1)]) (fun t_ k_ => ?_) ?_
  · refine XS.dup X23.here hx rfl (hb hby at_76) rfl rfl ?_
    show Steps p_.tables e_ below (T23.setTop (mkF m_ 77 #[.val (.int n), .val (.int t), .val (.int d), .unset, .unset, .unset, .unset, .unset, .unset, .unset, .unset, .unset] [(.ref b1), (.ref b1)])) t_
    refine XS.bipush X23.here hx rfl (hb hby at_77) ?_
    show Steps p_.tables e_ below (T23.setTop (mkF m_ 79 #[.val (.int n), .val (.int t), .val (.int d), .unset, .unset, .unset, .unset, .unset, .unset, .unset, .unset, .unset] [(.int (11 : Int32)), (.ref b1), (.ref b1)])) t_
    exact k_
  obtain ⟨T24, X24, e24, st24⟩ := getS2 X23 hx hZ hown (host := "") (Or.inl (hw _ (List.mem_of_getElem? (i := 36) rfl))) Via.refl e23 (S_EITHER.ext O.2) (g := (mkF m_ 79 #[.val (.int n), .val (.int t), .val (.int d), .unset, .unset, .unset, .unset, .unset, .unset, .unset, .unset, .unset] [(.int (11 : Int32)), (.ref b1), (.ref b1)])) rfl (hb hby at_79)
  refine own_st T24 (mkF m_ 82 #[.val (.int n), .val (.int t), .val (.int d), .unset, .unset, .unset, .unset, .unset, .unset, .unset, .unset, .unset] [(.ref w11), (.int (11 : Int32)), (.ref b1), (.ref b1)]) st24 ?_
  obtain ⟨T25, h25, X25, e25, W25, st25⟩ := own_stR X24 hx hZ e24 A_b1 O1 (Or.inr ⟨_, rfl, Ins.of_exa (E_w11.ext O.2) (hw _ (List.mem_of_getElem? (i := 38) rfl))⟩) 11 (by decide) (by decide) (j := (11 : Int32)) (v := (.ref w11)) (Ls := #[.val (.int n), .val (.int t), .val (.int d), .unset, .unset, .unset, .unset, .unset, .unset, .unset, .unset, .unset]) (rest := [(.ref b1)]) (hb hby at_82)
  have N25 := Fr.snoc X25 N23 g_b1
  replace Z0 : n0 ≤ h25.size := W25.size ▸ Z0
  replace O := O.wr W25 g_b1
  replace A_b1 : own_A Z h25 b1 k1 (.object "com/example/banksum/banksum/uk/ExceptionRule") 13 (fun x => (([(.ref w0), (.ref w1), (.ref w2), (.ref w3), (.ref w4), (.ref w5), (.ref w6), (.ref w7), (.ref w8), (.ref w9), (.ref w10), (.ref w11), .null] : List Value).getD x .null)) := A_b1.setL (by decide) (Nat.le_of_ble_eq_true rfl) W25
  refine own_st T25 (mkF m_ 83 #[.val (.int n), .val (.int t), .val (.int d), .unset, .unset, .unset, .unset, .unset, .unset, .unset, .unset, .unset] [(.ref b1)]) st25 ?_
  refine own_st T25 (mkF m_ 86 #[.val (.int n), .val (.int t), .val (.int d), .unset, .unset, .unset, .unset, .unset, .unset, .unset, .unset, .unset] [(.int (12 : Int32)), (.ref b1), (.ref b1)]) (fun t_ k_ => ?_) ?_
  · refine XS.dup X25.here hx rfl (hb hby at_83) rfl rfl ?_
    show Steps p_.tables e_ below (T25.setTop (mkF m_ 84 #[.val (.int n), .val (.int t), .val (.int d), .unset, .unset, .unset, .unset, .unset, .unset, .unset, .unset, .unset] [(.ref b1), (.ref b1)])) t_
    refine XS.bipush X25.here hx rfl (hb hby at_84) ?_
    show Steps p_.tables e_ below (T25.setTop (mkF m_ 86 #[.val (.int n), .val (.int t), .val (.int d), .unset, .unset, .unset, .unset, .unset, .unset, .unset, .unset, .unset] [(.int (12 : Int32)), (.ref b1), (.ref b1)])) t_
    exact k_
  obtain ⟨T26, X26, e26, st26⟩ := getS2 X25 hx hZ hown (host := "") (Or.inl (hw _ (List.mem_of_getElem? (i := 39) rfl))) Via.refl e25 (S_AGAIN_WITHOUT_H_WHEN_H_IS_0_1_OR_9.ext O.2) (g := (mkF m_ 86 #[.val (.int n), .val (.int t), .val (.int d), .unset, .unset, .unset, .unset, .unset, .unset, .unset, .unset, .unset] [(.int (12 : Int32)), (.ref b1), (.ref b1)])) rfl (hb hby at_86)
  refine own_st T26 (mkF m_ 89 #[.val (.int n), .val (.int t), .val (.int d), .unset, .unset, .unset, .unset, .unset, .unset, .unset, .unset, .unset] [(.ref w12), (.int (12 : Int32)), (.ref b1), (.ref b1)]) st26 ?_
  obtain ⟨T27, h27, X27, e27, W27, st27⟩ := own_stR X26 hx hZ e26 A_b1 O1 (Or.inr ⟨_, rfl, Ins.of_exa (E_w12.ext O.2) (hw _ (List.mem_of_getElem? (i := 41) rfl))⟩) 12 (by decide) (by decide) (j := (12 : Int32)) (v := (.ref w12)) (Ls := #[.val (.int n), .val (.int t), .val (.int d), .unset, .unset, .unset, .unset, .unset, .unset, .unset, .unset, .unset]) (rest := [(.ref b1)]) (hb hby at_89)
  have N27 := Fr.snoc X27 N25 g_b1
  replace Z0 : n0 ≤ h27.size := W27.size ▸ Z0
  replace O := O.wr W27 g_b1
  replace A_b1 : own_A Z h27 b1 k1 (.object "com/example/banksum/banksum/uk/ExceptionRule") 13 (fun x => (([(.ref w0), (.ref w1), (.ref w2), (.ref w3), (.ref w4), (.ref w5), (.ref w6), (.ref w7), (.ref w8), (.ref w9), (.ref w10), (.ref w11), (.ref w12)] : List Value).getD x .null)) := A_b1.setL (by decide) (Nat.le_of_ble_eq_true rfl) W27
  refine own_st T27 (mkF m_ 90 #[.val (.int n), .val (.int t), .val (.int d), .unset, .unset, .unset, .unset, .unset, .unset, .unset, .unset, .unset] [(.ref b1)]) st27 ?_
  refine own_st T27 (mkF m_ 125 #[.val (.int n), .val (.int t), .val (.int d), .val (.ref b1), .val (.int (own_a d)), .val (.int (own_g d)), .val (.int (own_h d)), .unset, .unset, .unset, .unset, .unset] [(.int (8 : Int32))]) (fun t_ k_ => ?_) ?_
  · refine XS.astoreN X27.here hx rfl (hb hby at_90) rfl rfl (l' := #[.val (.int n), .val (.int t), .val (.int d), .val (.ref b1), .unset, .unset, .unset, .unset, .unset, .unset, .unset, .unset]) rfl ?_
    show Steps p_.tables e_ below (T27.setTop (mkF m_ 91 #[.val (.int n), .val (.int t), .val (.int d), .val (.ref b1), .unset, .unset, .unset, .unset, .unset, .unset, .unset, .unset] [])) t_
    refine XS.iloadN X27.here hx rfl (hb hby at_91) rfl ?_
    show Steps p_.tables e_ below (T27.setTop (mkF m_ 92 #[.val (.int n), .val (.int t), .val (.int d), .val (.ref b1), .unset, .unset, .unset, .unset, .unset, .unset, .unset, .unset] [(.int d)])) t_
    refine XS.bipush X27.here hx rfl (hb hby at_92) ?_
    show Steps p_.tables e_ below (T27.setTop (mkF m_ 94 #[.val (.int n), .val (.int t), .val (.int d), .val (.ref b1), .unset, .unset, .unset, .unset, .unset, .unset, .unset, .unset] [(.int (15 : Int32)), (.int d)])) t_
    refine XS.iand X27.here hx rfl (hb hby at_94) rfl ?_
    show Steps p_.tables e_ below (T27.setTop (mkF m_ 95 #[.val (.int n), .val (.int t), .val (.int d), .val (.ref b1), .unset, .unset, .unset, .unset, .unset, .unset, .unset, .unset] [(.int (d &&& (15 : Int32)))])) t_
    refine XS.bipush X27.here hx rfl (hb hby at_95) ?_
    show Steps p_.tables e_ below (T27.setTop (mkF m_ 97 #[.val (.int n), .val (.int t), .val (.int d), .val (.ref b1), .unset, .unset, .unset, .unset, .unset, .unset, .unset, .unset] [(.int (10 : Int32)), (.int (d &&& (15 : Int32)))])) t_
    refine iremM X27 hx rfl (hb hby at_97) rfl (by decide) ?_
    show Steps p_.tables e_ below (T27.setTop (mkF m_ 98 #[.val (.int n), .val (.int t), .val (.int d), .val (.ref b1), .unset, .unset, .unset, .unset, .unset, .unset, .unset, .unset] [(.int (own_a d))])) t_
    refine XS.istore X27.here hx rfl (hb hby at_98) rfl (l' := #[.val (.int n), .val (.int t), .val (.int d), .val (.ref b1), .val (.int (own_a d)), .unset, .unset, .unset, .unset, .unset, .unset, .unset]) rfl ?_
    show Steps p_.tables e_ below (T27.setTop (mkF m_ 100 #[.val (.int n), .val (.int t), .val (.int d), .val (.ref b1), .val (.int (own_a d)), .unset, .unset, .unset, .unset, .unset, .unset, .unset] [])) t_
    refine XS.iloadN X27.here hx rfl (hb hby at_100) rfl ?_
    show Steps p_.tables e_ below (T27.setTop (mkF m_ 101 #[.val (.int n), .val (.int t), .val (.int d), .val (.ref b1), .val (.int (own_a d)), .unset, .unset, .unset, .unset, .unset, .unset, .unset] [(.int d)])) t_
    refine XS.iconst X27.here hx rfl (hb hby at_101) ?_
    show Steps p_.tables e_ below (T27.setTop (mkF m_ 102 #[.val (.int n), .val (.int t), .val (.int d), .val (.ref b1), .val (.int (own_a d)), .unset, .unset, .unset, .unset, .unset, .unset, .unset] [(.int (4 : Int32)), (.int d)])) t_
    refine XS.iushr X27.here hx rfl (hb hby at_102) rfl ?_
    show Steps p_.tables e_ below (T27.setTop (mkF m_ 103 #[.val (.int n), .val (.int t), .val (.int d), .val (.ref b1), .val (.int (own_a d)), .unset, .unset, .unset, .unset, .unset, .unset, .unset] [(.int ((d.toUInt32 >>> ((4 : Int32) &&& 31).toUInt32).toInt32))])) t_
    refine XS.bipush X27.here hx rfl (hb hby at_103) ?_
    show Steps p_.tables e_ below (T27.setTop (mkF m_ 105 #[.val (.int n), .val (.int t), .val (.int d), .val (.ref b1), .val (.int (own_a d)), .unset, .unset, .unset, .unset, .unset, .unset, .unset] [(.int (15 : Int32)), (.int ((d.toUInt32 >>> ((4 : Int32) &&& 31).toUInt32).toInt32))])) t_
    refine XS.iand X27.here hx rfl (hb hby at_105) rfl ?_
    show Steps p_.tables e_ below (T27.setTop (mkF m_ 106 #[.val (.int n), .val (.int t), .val (.int d), .val (.ref b1), .val (.int (own_a d)), .unset, .unset, .unset, .unset, .unset, .unset, .unset] [(.int (((d.toUInt32 >>> ((4 : Int32) &&& 31).toUInt32).toInt32) &&& (15 : Int32)))])) t_
    refine XS.bipush X27.here hx rfl (hb hby at_106) ?_
    show Steps p_.tables e_ below (T27.setTop (mkF m_ 108 #[.val (.int n), .val (.int t), .val (.int d), .val (.ref b1), .val (.int (own_a d)), .unset, .unset, .unset, .unset, .unset, .unset, .unset] [(.int (10 : Int32)), (.int (((d.toUInt32 >>> ((4 : Int32) &&& 31).toUInt32).toInt32) &&& (15 : Int32)))])) t_
    refine iremM X27 hx rfl (hb hby at_108) rfl (by decide) ?_
    show Steps p_.tables e_ below (T27.setTop (mkF m_ 109 #[.val (.int n), .val (.int t), .val (.int d), .val (.ref b1), .val (.int (own_a d)), .unset, .unset, .unset, .unset, .unset, .unset, .unset] [(.int (own_g d))])) t_
    refine XS.istore X27.here hx rfl (hb hby at_109) rfl (l' := #[.val (.int n), .val (.int t), .val (.int d), .val (.ref b1), .val (.int (own_a d)), .val (.int (own_g d)), .unset, .unset, .unset, .unset, .unset, .unset]) rfl ?_
    show Steps p_.tables e_ below (T27.setTop (mkF m_ 111 #[.val (.int n), .val (.int t), .val (.int d), .val (.ref b1), .val (.int (own_a d)), .val (.int (own_g d)), .unset, .unset, .unset, .unset, .unset, .unset] [])) t_
    refine XS.iloadN X27.here hx rfl (hb hby at_111) rfl ?_
    show Steps p_.tables e_ below (T27.setTop (mkF m_ 112 #[.val (.int n), .val (.int t), .val (.int d), .val (.ref b1), .val (.int (own_a d)), .val (.int (own_g d)), .unset, .unset, .unset, .unset, .unset, .unset] [(.int d)])) t_
    refine XS.bipush X27.here hx rfl (hb hby at_112) ?_
    show Steps p_.tables e_ below (T27.setTop (mkF m_ 114 #[.val (.int n), .val (.int t), .val (.int d), .val (.ref b1), .val (.int (own_a d)), .val (.int (own_g d)), .unset, .unset, .unset, .unset, .unset, .unset] [(.int (8 : Int32)), (.int d)])) t_
    refine XS.iushr X27.here hx rfl (hb hby at_114) rfl ?_
    show Steps p_.tables e_ below (T27.setTop (mkF m_ 115 #[.val (.int n), .val (.int t), .val (.int d), .val (.ref b1), .val (.int (own_a d)), .val (.int (own_g d)), .unset, .unset, .unset, .unset, .unset, .unset] [(.int ((d.toUInt32 >>> ((8 : Int32) &&& 31).toUInt32).toInt32))])) t_
    refine XS.bipush X27.here hx rfl (hb hby at_115) ?_
    show Steps p_.tables e_ below (T27.setTop (mkF m_ 117 #[.val (.int n), .val (.int t), .val (.int d), .val (.ref b1), .val (.int (own_a d)), .val (.int (own_g d)), .unset, .unset, .unset, .unset, .unset, .unset] [(.int (15 : Int32)), (.int ((d.toUInt32 >>> ((8 : Int32) &&& 31).toUInt32).toInt32))])) t_
    refine XS.iand X27.here hx rfl (hb hby at_117) rfl ?_
    show Steps p_.tables e_ below (T27.setTop (mkF m_ 118 #[.val (.int n), .val (.int t), .val (.int d), .val (.ref b1), .val (.int (own_a d)), .val (.int (own_g d)), .unset, .unset, .unset, .unset, .unset, .unset] [(.int (((d.toUInt32 >>> ((8 : Int32) &&& 31).toUInt32).toInt32) &&& (15 : Int32)))])) t_
    refine XS.bipush X27.here hx rfl (hb hby at_118) ?_
    show Steps p_.tables e_ below (T27.setTop (mkF m_ 120 #[.val (.int n), .val (.int t), .val (.int d), .val (.ref b1), .val (.int (own_a d)), .val (.int (own_g d)), .unset, .unset, .unset, .unset, .unset, .unset] [(.int (10 : Int32)), (.int (((d.toUInt32 >>> ((8 : Int32) &&& 31).toUInt32).toInt32) &&& (15 : Int32)))])) t_
    refine iremM X27 hx rfl (hb hby at_120) rfl (by decide) ?_
    show Steps p_.tables e_ below (T27.setTop (mkF m_ 121 #[.val (.int n), .val (.int t), .val (.int d), .val (.ref b1), .val (.int (own_a d)), .val (.int (own_g d)), .unset, .unset, .unset, .unset, .unset, .unset] [(.int (own_h d))])) t_
    refine XS.istore X27.here hx rfl (hb hby at_121) rfl (l' := #[.val (.int n), .val (.int t), .val (.int d), .val (.ref b1), .val (.int (own_a d)), .val (.int (own_g d)), .val (.int (own_h d)), .unset, .unset, .unset, .unset, .unset]) rfl ?_
    show Steps p_.tables e_ below (T27.setTop (mkF m_ 123 #[.val (.int n), .val (.int t), .val (.int d), .val (.ref b1), .val (.int (own_a d)), .val (.int (own_g d)), .val (.int (own_h d)), .unset, .unset, .unset, .unset, .unset] [])) t_
    refine XS.bipush X27.here hx rfl (hb hby at_123) ?_
    show Steps p_.tables e_ below (T27.setTop (mkF m_ 125 #[.val (.int n), .val (.int t), .val (.int d), .val (.ref b1), .val (.int (own_a d)), .val (.int (own_g d)), .val (.int (own_h d)), .unset, .unset, .unset, .unset, .unset] [(.int (8 : Int32))])) t_
    exact k_
  obtain ⟨T28, h28, k28, X28, e28, E28, A28, st28⟩ := newP X27 hx hZ (hw _ (List.mem_of_getElem? (i := 42) rfl)) e27 (g := (mkF m_ 125 #[.val (.int n), .val (.int t), .val (.int d), .val (.ref b1), .val (.int (own_a d)), .val (.int (own_g d)), .val (.int (own_h d)), .unset, .unset, .unset, .unset, .unset] [(.int (8 : Int32))])) rfl (hb hby at_125) rfl (by decide) (cap := 8) (by decide) (by decide) (by decide) (by decide)
  obtain ⟨b28, g28⟩ : ∃ z, z = h27.size := ⟨_, rfl⟩
  rw [← g28] at A28 st28
  have g_b28 : n0 ≤ b28 := g28 ▸ Z0
  have ne_b1_b28 : b1 ≠ b28 := Nat.ne_of_lt (Nat.lt_of_lt_of_le A_b1.lt (Nat.le_of_eq g28.symm))
  replace O := O.ext E28
  replace A_b1 := A_b1.ext E28
  replace Z0 : n0 ≤ h28.size := Nat.le_trans Z0 E28.1
  have A_b28 : own_A Z h28 b28 k28 .int 8 (fun x => .int (([(0 : Int32), (0 : Int32), (0 : Int32), (0 : Int32), (0 : Int32), (0 : Int32), (0 : Int32), (0 : Int32)] : List Int32).getD x 0)) := own_A.newLI A28 (by decide) 8 (by decide) rfl
  refine own_st T28 (mkF m_ 127 #[.val (.int n), .val (.int t), .val (.int d), .val (.ref b1), .val (.int (own_a d)), .val (.int (own_g d)), .val (.int (own_h d)), .unset, .unset, .unset, .unset, .unset] [(.ref b28)]) st28 ?_
  refine own_st T28 (mkF m_ 134 #[.val (.int n), .val (.int t), .val (.int d), .val (.ref b1), .val (.int (own_a d)), .val (.int (own_g d)), .val (.int (own_h d)), .val (.ref b28), .unset, .unset, .unset, .unset] [(.int (own_a d)), (.int (0 : Int32)), (.ref b28)]) (fun t_ k_ => ?_) ?_
  · refine XS.astore X28.here hx rfl (hb hby at_127) rfl rfl (l' := #[.val (.int n), .val (.int t), .val (.int d), .val (.ref b1), .val (.int (own_a d)), .val (.int (own_g d)), .val (.int (own_h d)), .val (.ref b28), .unset, .unset, .unset, .unset]) rfl ?_
    show Steps p_.tables e_ below (T28.setTop (mkF m_ 129 #[.val (.int n), .val (.int t), .val (.int d), .val (.ref b1), .val (.int (own_a d)), .val (.int (own_g d)), .val (.int (own_h d)), .val (.ref b28), .unset, .unset, .unset, .unset] [])) t_
    refine XS.aload X28.here hx rfl (hb hby at_129) rfl rfl ?_
    show Steps p_.tables e_ below (T28.setTop (mkF m_ 131 #[.val (.int n), .val (.int t), .val (.int d), .val (.ref b1), .val (.int (own_a d)), .val (.int (own_g d)), .val (.int (own_h d)), .val (.ref b28), .unset, .unset, .unset, .unset] [(.ref b28)])) t_
    refine XS.iconst X28.here hx rfl (hb hby at_131) ?_
    show Steps p_.tables e_ below (T28.setTop (mkF m_ 132 #[.val (.int n), .val (.int t), .val (.int d), .val (.ref b1), .val (.int (own_a d)), .val (.int (own_g d)), .val (.int (own_h d)), .val (.ref b28), .unset, .unset, .unset, .unset] [(.int (0 : Int32)), (.ref b28)])) t_
    refine XS.iload X28.here hx rfl (hb hby at_132) rfl ?_
    show Steps p_.tables e_ below (T28.setTop (mkF m_ 134 #[.val (.int n), .val (.int t), .val (.int d), .val (.ref b1), .val (.int (own_a d)), .val (.int (own_g d)), .val (.int (own_h d)), .val (.ref b28), .unset, .unset, .unset, .unset] [(.int (own_a d)), (.int (0 : Int32)), (.ref b28)])) t_
    exact k_
  obtain ⟨T29, h29, X29, e29, W29, st29⟩ := own_stI X28 hx hZ e28 A_b28 0 (by decide) (by decide) (j := (0 : Int32)) (x := (own_a d)) (Ls := #[.val (.int n), .val (.int t), .val (.int d), .val (.ref b1), .val (.int (own_a d)), .val (.int (own_g d)), .val (.int (own_h d)), .val (.ref b28), .unset, .unset, .unset, .unset]) (rest := []) (hb hby at_134)
  have N29 := Fr.snoc X29 N27 g_b28
  replace Z0 : n0 ≤ h29.size := W29.size ▸ Z0
  replace O := O.wr W29 g_b28
  replace A_b1 := A_b1.other W29 ne_b1_b28
  replace A_b28 : own_A Z h29 b28 k28 .int 8 (fun x => .int (([(own_a d), (0 : Int32), (0 : Int32), (0 : Int32), (0 : Int32), (0 : Int32), (0 : Int32), (0 : Int32)] : List Int32).getD x 0)) := A_b28.setLI (by decide) (Nat.le_of_ble_eq_true rfl) W29
  refine own_st T29 (mkF m_ 135 #[.val (.int n), .val (.int t), .val (.int d), .val (.ref b1), .val (.int (own_a d)), .val (.int (own_g d)), .val (.int (own_h d)), .val (.ref b28), .unset, .unset, .unset, .unset] []) st29 ?_
  refine own_st T29 (mkF m_ 141 #[.val (.int n), .val (.int t), .val (.int d), .val (.ref b1), .val (.int (own_a d)), .val (.int (own_g d)), .val (.int (own_h d)), .val (.ref b28), .unset, .unset, .unset, .unset] [(.int (own_g d)), (.int (6 : Int32)), (.ref b28)]) (fun t_ k_ => ?_) ?_
  · refine XS.aload X29.here hx rfl (hb hby at_135) rfl rfl ?_
    show Steps p_.tables e_ below (T29.setTop (mkF m_ 137 #[.val (.int n), .val (.int t), .val (.int d), .val (.ref b1), .val (.int (own_a d)), .val (.int (own_g d)), .val (.int (own_h d)), .val (.ref b28), .unset, .unset, .unset, .unset] [(.ref b28)])) t_
    refine XS.bipush X29.here hx rfl (hb hby at_137) ?_
    show Steps p_.tables e_ below (T29.setTop (mkF m_ 139 #[.val (.int n), .val (.int t), .val (.int d), .val (.ref b1), .val (.int (own_a d)), .val (.int (own_g d)), .val (.int (own_h d)), .val (.ref b28), .unset, .unset, .unset, .unset] [(.int (6 : Int32)), (.ref b28)])) t_
    refine XS.iload X29.here hx rfl (hb hby at_139) rfl ?_
    show Steps p_.tables e_ below (T29.setTop (mkF m_ 141 #[.val (.int n), .val (.int t), .val (.int d), .val (.ref b1), .val (.int (own_a d)), .val (.int (own_g d)), .val (.int (own_h d)), .val (.ref b28), .unset, .unset, .unset, .unset] [(.int (own_g d)), (.int (6 : Int32)), (.ref b28)])) t_
    exact k_
  obtain ⟨T30, h30, X30, e30, W30, st30⟩ := own_stI X29 hx hZ e29 A_b28 6 (by decide) (by decide) (j := (6 : Int32)) (x := (own_g d)) (Ls := #[.val (.int n), .val (.int t), .val (.int d), .val (.ref b1), .val (.int (own_a d)), .val (.int (own_g d)), .val (.int (own_h d)), .val (.ref b28), .unset, .unset, .unset, .unset]) (rest := []) (hb hby at_141)
  have N30 := Fr.snoc X30 N29 g_b28
  replace Z0 : n0 ≤ h30.size := W30.size ▸ Z0
  replace O := O.wr W30 g_b28
  replace A_b1 := A_b1.other W30 ne_b1_b28
  replace A_b28 : own_A Z h30 b28 k28 .int 8 (fun x => .int (([(own_a d), (0 : Int32), (0 : Int32), (0 : Int32), (0 : Int32), (0 : Int32), (own_g d), (0 : Int32)] : List Int32).getD x 0)) := A_b28.setLI (by decide) (Nat.le_of_ble_eq_true rfl) W30
  refine own_st T30 (mkF m_ 142 #[.val (.int n), .val (.int t), .val (.int d), .val (.ref b1), .val (.int (own_a d)), .val (.int (own_g d)), .val (.int (own_h d)), .val (.ref b28), .unset, .unset, .unset, .unset] []) st30 ?_
  refine own_st T30 (mkF m_ 148 #[.val (.int n), .val (.int t), .val (.int d), .val (.ref b1), .val (.int (own_a d)), .val (.int (own_g d)), .val (.int (own_h d)), .val (.ref b28), .unset, .unset, .unset, .unset] [(.int (own_h d)), (.int (7 : Int32)), (.ref b28)]) (fun t_ k_ => ?_) ?_
  · refine XS.aload X30.here hx rfl (hb hby at_142) rfl rfl ?_
    show Steps p_.tables e_ below (T30.setTop (mkF m_ 144 #[.val (.int n), .val (.int t), .val (.int d), .val (.ref b1), .val (.int (own_a d)), .val (.int (own_g d)), .val (.int (own_h d)), .val (.ref b28), .unset, .unset, .unset, .unset] [(.ref b28)])) t_
    refine XS.bipush X30.here hx rfl (hb hby at_144) ?_
    show Steps p_.tables e_ below (T30.setTop (mkF m_ 146 #[.val (.int n), .val (.int t), .val (.int d), .val (.ref b1), .val (.int (own_a d)), .val (.int (own_g d)), .val (.int (own_h d)), .val (.ref b28), .unset, .unset, .unset, .unset] [(.int (7 : Int32)), (.ref b28)])) t_
    refine XS.iload X30.here hx rfl (hb hby at_146) rfl ?_
    show Steps p_.tables e_ below (T30.setTop (mkF m_ 148 #[.val (.int n), .val (.int t), .val (.int d), .val (.ref b1), .val (.int (own_a d)), .val (.int (own_g d)), .val (.int (own_h d)), .val (.ref b28), .unset, .unset, .unset, .unset] [(.int (own_h d)), (.int (7 : Int32)), (.ref b28)])) t_
    exact k_
  obtain ⟨T31, h31, X31, e31, W31, st31⟩ := own_stI X30 hx hZ e30 A_b28 7 (by decide) (by decide) (j := (7 : Int32)) (x := (own_h d)) (Ls := #[.val (.int n), .val (.int t), .val (.int d), .val (.ref b1), .val (.int (own_a d)), .val (.int (own_g d)), .val (.int (own_h d)), .val (.ref b28), .unset, .unset, .unset, .unset]) (rest := []) (hb hby at_148)
  have N31 := Fr.snoc X31 N30 g_b28
  replace Z0 : n0 ≤ h31.size := W31.size ▸ Z0
  replace O := O.wr W31 g_b28
  replace A_b1 := A_b1.other W31 ne_b1_b28
  replace A_b28 : own_A Z h31 b28 k28 .int 8 (fun x => .int (([(own_a d), (0 : Int32), (0 : Int32), (0 : Int32), (0 : Int32), (0 : Int32), (own_g d), (own_h d)] : List Int32).getD x 0)) := A_b28.setLI (by decide) (Nat.le_of_ble_eq_true rfl) W31
  refine own_st T31 (mkF m_ 149 #[.val (.int n), .val (.int t), .val (.int d), .val (.ref b1), .val (.int (own_a d)), .val (.int (own_g d)), .val (.int (own_h d)), .val (.ref b28), .unset, .unset, .unset, .unset] []) st31 ?_
  refine own_st T31 (mkF m_ 150 #[.val (.int n), .val (.int t), .val (.int d), .val (.ref b1), .val (.int (own_a d)), .val (.int (own_g d)), .val (.int (own_h d)), .val (.ref b28), .unset, .unset, .unset, .unset] [(.int n)]) (fun t_ k_ => ?_) ?_
  · refine XS.iloadN X31.here hx rfl (hb hby at_149) rfl ?_
    show Steps p_.tables e_ below (T31.setTop (mkF m_ 150 #[.val (.int n), .val (.int t), .val (.int d), .val (.ref b1), .val (.int (own_a d)), .val (.int (own_g d)), .val (.int (own_h d)), .val (.ref b28), .unset, .unset, .unset, .unset] [(.int n)])) t_
    exact k_
  refine own_callS X31 hx hZ hown (hw _ (List.mem_of_getElem? (i := 43) rfl)) (hw _ (List.mem_of_getElem? (i := 44) rfl)) (hw _ (List.mem_of_getElem? (i := 3) rfl)) (hw _ (List.mem_of_getElem? (i := 45) rfl)) (by decide) [(.int n)] [] (rm1 l Z a0 hw n w0 w1 w2 w3 w4 w5 w6 w7 w8 w9 w10 w11 w12 h31 n0 Z0 (S_NONE.ext O.2) (S_ADD_27.ext O.2) (S_EITHER_WEIGHTS_BY_A_AND_G.ext O.2) (S_SKIP_WHEN_C_IS_6_OR_9.ext O.2) (S_REMAINDER_IS_GH.ext O.2) (S_SUBSTITUTE_AND_CHECK_DIGIT.ext O.2) (S_FOREIGN_CURRENCY.ext O.2) (S_ZERO_U_TO_B_WHEN_G_IS_9.ext O.2) (S_SORTING_CODE_090126.ext O.2) (S_SORTING_CODE_309634.ext O.2) (S_EITHER_ZERO_U_TO_B_WHEN_AB_IS_09_OR_99_AND_G_IS_9.ext O.2) (S_EITHER.ext O.2) (S_AGAIN_WITHOUT_H_WHEN_H_IS_0_1_OR_9.ext O.2)) 0 (by decide) (by decide) e31 (by rw [hml]; rfl) (lenOf own_pd0 rfl) rfl (Nat.le_of_eq rfl) (hb hby at_150) (by decide) (by decide) ?_
  intro v32 T32 L32 X32 q32
  obtain ⟨hv32, N32q, e32⟩ := q32
  have N32 := Fr.app N31 N32q
  rcases hv32 with ⟨rfl, hn1, hn2, hn3, hn4, hn5, hn6, hn7, hn8, hn9, hn10, hn12, hn14⟩ | ⟨rfl, rfl⟩ | ⟨rfl, rfl⟩ | ⟨rfl, rfl⟩ | ⟨rfl, rfl⟩ | ⟨rfl, rfl⟩ | ⟨rfl, rfl⟩ | ⟨rfl, rfl⟩ | ⟨rfl, rfl⟩ | ⟨rfl, rfl⟩ | ⟨rfl, rfl⟩ | ⟨rfl, rfl⟩ | ⟨rfl, rfl⟩
  · show own_Out p_ e_ below s_ _ _ _ T32 (mkF m_ 153 #[.val (.int n), .val (.int t), .val (.int d), .val (.ref b1), .val (.int (own_a d)), .val (.int (own_g d)), .val (.int (own_h d)), .val (.ref b28), .unset, .unset, .unset, .unset] [(.ref w0)])
    refine own_st T32 (mkF m_ 159 #[.val (.int n), .val (.int t), .val (.int d), .val (.ref b1), .val (.int (own_a d)), .val (.int (own_g d)), .val (.int (own_h d)), .val (.ref b28), .val (.ref w0), .unset, .unset, .unset] [(.int n), (.ref b1), (.ref w0)]) (fun t_ k_ => ?_) ?_
    · refine XS.astore X32.here hx rfl (hb hby at_153) rfl rfl (l' := #[.val (.int n), .val (.int t), .val (.int d), .val (.ref b1), .val (.int (own_a d)), .val (.int (own_g d)), .val (.int (own_h d)), .val (.ref b28), .val (.ref w0), .unset, .unset, .unset]) rfl ?_
      show Steps p_.tables e_ below (T32.setTop (mkF m_ 155 #[.val (.int n), .val (.int t), .val (.int d), .val (.ref b1), .val (.int (own_a d)), .val (.int (own_g d)), .val (.int (own_h d)), .val (.ref b28), .val (.ref w0), .unset, .unset, .unset] [])) t_
      refine XS.aload X32.here hx rfl (hb hby at_155) rfl rfl ?_
      show Steps p_.tables e_ below (T32.setTop (mkF m_ 157 #[.val (.int n), .val (.int t), .val (.int d), .val (.ref b1), .val (.int (own_a d)), .val (.int (own_g d)), .val (.int (own_h d)), .val (.ref b28), .val (.ref w0), .unset, .unset, .unset] [(.ref w0)])) t_
      refine XS.aloadN X32.here hx rfl (hb hby at_157) rfl rfl ?_
      show Steps p_.tables e_ below (T32.setTop (mkF m_ 158 #[.val (.int n), .val (.int t), .val (.int d), .val (.ref b1), .val (.int (own_a d)), .val (.int (own_g d)), .val (.int (own_h d)), .val (.ref b28), .val (.ref w0), .unset, .unset, .unset] [(.ref b1), (.ref w0)])) t_
      refine XS.iloadN X32.here hx rfl (hb hby at_158) rfl ?_
      show Steps p_.tables e_ below (T32.setTop (mkF m_ 159 #[.val (.int n), .val (.int t), .val (.int d), .val (.ref b1), .val (.int (own_a d)), .val (.int (own_g d)), .val (.int (own_h d)), .val (.ref b28), .val (.ref w0), .unset, .unset, .unset] [(.int n), (.ref b1), (.ref w0)])) t_
      exact k_
    refine own_callS X32 hx hZ hown (hw _ (List.mem_of_getElem? (i := 47) rfl)) (hw _ (List.mem_of_getElem? (i := 48) rfl)) (hw _ (List.mem_of_getElem? (i := 49) rfl)) (hw _ (List.mem_of_getElem? (i := 50) rfl)) (by decide) [(.int n)] [(.ref b1), (.ref w0)] (rm2 l Z a0 hw n h31 n0 Z0) 2 (by decide) (by decide) e32 (by rw [hml]; rfl) (lenOf own_pd1 rfl) rfl (Nat.le_of_eq rfl) (hb hby at_159) (by decide) (by decide) ?_
    intro v33 T33 L33 X33 q33
    obtain ⟨rfl, N33q, e33⟩ := q33
    have N33 := Fr.app N32 N33q
    rw [show (f2 n) = 0 from own_ix0 hn1 hn2 hn3 hn4 hn5 hn6 hn7 hn8 hn9 hn10 hn12 hn14]
    show own_Out p_ e_ below s_ _ _ _ T33 (mkF m_ 162 #[.val (.int n), .val (.int t), .val (.int d), .val (.ref b1), .val (.int (own_a d)), .val (.int (own_g d)), .val (.int (own_h d)), .val (.ref b28), .val (.ref w0), .unset, .unset, .unset] [(.int (0 : Int32)), (.ref b1), (.ref w0)])
    refine own_st T33 (mkF m_ 186 #[.val (.int n), .val (.int t), .val (.int d), .val (.ref b1), .val (.int (own_a d)), .val (.int (own_g d)), .val (.int (own_h d)), .val (.ref b28), .val (.ref w0), .val (.int t), .unset, .unset] [(.int t), (.ref w0)]) (fun t_ k_ => ?_) ?_
    · refine own_ldR X33 hx hZ e33 A_b1 rfl 0 (by decide) (by decide) (hb hby at_162) _ ?_
      show Steps p_.tables e_ below (T33.setTop (mkF m_ 163 #[.val (.int n), .val (.int t), .val (.int d), .val (.ref b1), .val (.int (own_a d)), .val (.int (own_g d)), .val (.int (own_h d)), .val (.ref b28), .val (.ref w0), .unset, .unset, .unset] [(.ref w0), (.ref w0)])) t_
      refine Jvm.RoadKit.acmp (g := (mkF m_ 163 #[.val (.int n), .val (.int t), .val (.int d), .val (.ref b1), .val (.int (own_a d)), .val (.int (own_g d)), .val (.int (own_h d)), .val (.ref b28), .val (.ref w0), .unset, .unset, .unset] [(.ref w0), (.ref w0)])) X33 hx rfl rfl rfl (pc0 := 163) (pc' := 168) (same := true) rfl (hb hby at_163) rfl (decide_eq_true rfl) (by decide) (by decide) ?_
      show Steps p_.tables e_ below (T33.setTop (mkF m_ 168 #[.val (.int n), .val (.int t), .val (.int d), .val (.ref b1), .val (.int (own_a d)), .val (.int (own_g d)), .val (.int (own_h d)), .val (.ref b28), .val (.ref w0), .unset, .unset, .unset] [])) t_
      refine XS.iloadN X33.here hx rfl (hb hby at_168) rfl ?_
      show Steps p_.tables e_ below (T33.setTop (mkF m_ 169 #[.val (.int n), .val (.int t), .val (.int d), .val (.ref b1), .val (.int (own_a d)), .val (.int (own_g d)), .val (.int (own_h d)), .val (.ref b28), .val (.ref w0), .unset, .unset, .unset] [(.int n)])) t_
      refine XS.iconst X33.here hx rfl (hb hby at_169) ?_
      show Steps p_.tables e_ below (T33.setTop (mkF m_ 170 #[.val (.int n), .val (.int t), .val (.int d), .val (.ref b1), .val (.int (own_a d)), .val (.int (own_g d)), .val (.int (own_h d)), .val (.ref b28), .val (.ref w0), .unset, .unset, .unset] [(.int (1 : Int32)), (.int n)])) t_
      refine XS.icmpYes X33.here hx rfl (pc0 := 170) (pc' := 180) rfl (hb hby at_170) rfl (feq (hn1 : ¬ (n = (1 : Int32)))).2 (by decide) (by decide) ?_
      show Steps p_.tables e_ below (T33.setTop (mkF m_ 180 #[.val (.int n), .val (.int t), .val (.int d), .val (.ref b1), .val (.int (own_a d)), .val (.int (own_g d)), .val (.int (own_h d)), .val (.ref b28), .val (.ref w0), .unset, .unset, .unset] [])) t_
      refine XS.iloadN X33.here hx rfl (hb hby at_180) rfl ?_
      show Steps p_.tables e_ below (T33.setTop (mkF m_ 181 #[.val (.int n), .val (.int t), .val (.int d), .val (.ref b1), .val (.int (own_a d)), .val (.int (own_g d)), .val (.int (own_h d)), .val (.ref b28), .val (.ref w0), .unset, .unset, .unset] [(.int t)])) t_
      refine XS.istore X33.here hx rfl (hb hby at_181) rfl (l' := #[.val (.int n), .val (.int t), .val (.int d), .val (.ref b1), .val (.int (own_a d)), .val (.int (own_g d)), .val (.int (own_h d)), .val (.ref b28), .val (.ref w0), .val (.int t), .unset, .unset]) rfl ?_
      show Steps p_.tables e_ below (T33.setTop (mkF m_ 183 #[.val (.int n), .val (.int t), .val (.int d), .val (.ref b1), .val (.int (own_a d)), .val (.int (own_g d)), .val (.int (own_h d)), .val (.ref b28), .val (.ref w0), .val (.int t), .unset, .unset] [])) t_
      refine XS.aload X33.here hx rfl (hb hby at_183) rfl rfl ?_
      show Steps p_.tables e_ below (T33.setTop (mkF m_ 185 #[.val (.int n), .val (.int t), .val (.int d), .val (.ref b1), .val (.int (own_a d)), .val (.int (own_g d)), .val (.int (own_h d)), .val (.ref b28), .val (.ref w0), .val (.int t), .unset, .unset] [(.ref w0)])) t_
      refine XS.iloadN X33.here hx rfl (hb hby at_185) rfl ?_
      show Steps p_.tables e_ below (T33.setTop (mkF m_ 186 #[.val (.int n), .val (.int t), .val (.int d), .val (.ref b1), .val (.int (own_a d)), .val (.int (own_g d)), .val (.int (own_h d)), .val (.ref b28), .val (.ref w0), .val (.int t), .unset, .unset] [(.int t), (.ref w0)])) t_
      exact k_
    refine own_callV X33 hx hZ (y := (⟨"com/example/banksum/banksum/uk/ExceptionRule", "total", "(I)I"⟩ : MethodName)) (z := (⟨"com/example/banksum/banksum/uk/ExceptionRule", "total", "(I)I"⟩ : MethodName)) hown (hw _ (List.mem_of_getElem? (i := 51) rfl)) (hw _ (List.mem_of_getElem? (i := 52) rfl)) (notFace_of_selects (args := #[]) (mvT hZ (hw _ (List.mem_of_getElem? (i := 54) rfl)))) (hw _ (List.mem_of_getElem? (i := 54) rfl)) (hw _ (List.mem_of_getElem? (i := 53) rfl)) (hw _ (List.mem_of_getElem? (i := 3) rfl)) (hw _ (List.mem_of_getElem? (i := 55) rfl)) (by decide) w0 [(.int t)] [] (E_w0.ext O.2) (rm3 l Z a0 hw w0 t h31 n0 Z0) 0 (by decide) (by decide) e33 (by rw [hml]; rfl) (lenOf own_pd1 rfl) rfl (Nat.le_of_eq rfl) (hb hby at_186) (by decide) (by decide) ?_
    intro v34 T34 L34 X34 q34
    obtain ⟨rfl, N34q, e34⟩ := q34
    have N34 := Fr.app N33 N34q
    show own_Out p_ e_ below s_ _ _ _ T34 (mkF m_ 189 #[.val (.int n), .val (.int t), .val (.int d), .val (.ref b1), .val (.int (own_a d)), .val (.int (own_g d)), .val (.int (own_h d)), .val (.ref b28), .val (.ref w0), .val (.int t), .unset, .unset] [(.int (f3 w0 t))])
    refine own_st T34 (mkF m_ 222 #[.val (.int n), .val (.int t), .val (.int d), .val (.ref b1), .val (.int (own_a d)), .val (.int (own_g d)), .val (.int (own_h d)), .val (.ref b28), .val (.ref w0), .val (.int t), .val (.int (0 : Int32)), .unset] [(.ref w0)]) (fun t_ k_ => ?_) ?_
    · refine XS.iload X34.here hx rfl (hb hby at_189) rfl ?_
      show Steps p_.tables e_ below (T34.setTop (mkF m_ 191 #[.val (.int n), .val (.int t), .val (.int d), .val (.ref b1), .val (.int (own_a d)), .val (.int (own_g d)), .val (.int (own_h d)), .val (.ref b28), .val (.ref w0), .val (.int t), .unset, .unset] [(.int t), (.int (f3 w0 t))])) t_
      refine XS.icmpYes X34.here hx rfl (pc0 := 191) (pc' := 196) rfl (hb hby at_191) rfl (teq (rfl : (f3 w0 t) = t)).1 (by decide) (by decide) ?_
      show Steps p_.tables e_ below (T34.setTop (mkF m_ 196 #[.val (.int n), .val (.int t), .val (.int d), .val (.ref b1), .val (.int (own_a d)), .val (.int (own_g d)), .val (.int (own_h d)), .val (.ref b28), .val (.ref w0), .val (.int t), .unset, .unset] [])) t_
      refine XS.iloadN X34.here hx rfl (hb hby at_196) rfl ?_
      show Steps p_.tables e_ below (T34.setTop (mkF m_ 197 #[.val (.int n), .val (.int t), .val (.int d), .val (.ref b1), .val (.int (own_a d)), .val (.int (own_g d)), .val (.int (own_h d)), .val (.ref b28), .val (.ref w0), .val (.int t), .unset, .unset] [(.int n)])) t_
      refine XS.iconst X34.here hx rfl (hb hby at_197) ?_
      show Steps p_.tables e_ below (T34.setTop (mkF m_ 198 #[.val (.int n), .val (.int t), .val (.int d), .val (.ref b1), .val (.int (own_a d)), .val (.int (own_g d)), .val (.int (own_h d)), .val (.ref b28), .val (.ref w0), .val (.int t), .unset, .unset] [(.int (2 : Int32)), (.int n)])) t_
      refine XS.icmpNo X34.here hx rfl (hb hby at_198) rfl (feq (hn2 : ¬ (n = (2 : Int32)))).1 ?_
      show Steps p_.tables e_ below (T34.setTop (mkF m_ 201 #[.val (.int n), .val (.int t), .val (.int d), .val (.ref b1), .val (.int (own_a d)), .val (.int (own_g d)), .val (.int (own_h d)), .val (.ref b28), .val (.ref w0), .val (.int t), .unset, .unset] [])) t_
      refine XS.iloadN X34.here hx rfl (hb hby at_201) rfl ?_
      show Steps p_.tables e_ below (T34.setTop (mkF m_ 202 #[.val (.int n), .val (.int t), .val (.int d), .val (.ref b1), .val (.int (own_a d)), .val (.int (own_g d)), .val (.int (own_h d)), .val (.ref b28), .val (.ref w0), .val (.int t), .unset, .unset] [(.int n)])) t_
      refine XS.bipush X34.here hx rfl (hb hby at_202) ?_
      show Steps p_.tables e_ below (T34.setTop (mkF m_ 204 #[.val (.int n), .val (.int t), .val (.int d), .val (.ref b1), .val (.int (own_a d)), .val (.int (own_g d)), .val (.int (own_h d)), .val (.ref b28), .val (.ref w0), .val (.int t), .unset, .unset] [(.int (10 : Int32)), (.int n)])) t_
      refine XS.icmpNo X34.here hx rfl (hb hby at_204) rfl (feq (hn10 : ¬ (n = (10 : Int32)))).1 ?_
      show Steps p_.tables e_ below (T34.setTop (mkF m_ 207 #[.val (.int n), .val (.int t), .val (.int d), .val (.ref b1), .val (.int (own_a d)), .val (.int (own_g d)), .val (.int (own_h d)), .val (.ref b28), .val (.ref w0), .val (.int t), .unset, .unset] [])) t_
      refine XS.iloadN X34.here hx rfl (hb hby at_207) rfl ?_
      show Steps p_.tables e_ below (T34.setTop (mkF m_ 208 #[.val (.int n), .val (.int t), .val (.int d), .val (.ref b1), .val (.int (own_a d)), .val (.int (own_g d)), .val (.int (own_h d)), .val (.ref b28), .val (.ref w0), .val (.int t), .unset, .unset] [(.int n)])) t_
      refine XS.bipush X34.here hx rfl (hb hby at_208) ?_
      show Steps p_.tables e_ below (T34.setTop (mkF m_ 210 #[.val (.int n), .val (.int t), .val (.int d), .val (.ref b1), .val (.int (own_a d)), .val (.int (own_g d)), .val (.int (own_h d)), .val (.ref b28), .val (.ref w0), .val (.int t), .unset, .unset] [(.int (12 : Int32)), (.int n)])) t_
      refine XS.icmpYes X34.here hx rfl (pc0 := 210) (pc' := 217) rfl (hb hby at_210) rfl (feq (hn12 : ¬ (n = (12 : Int32)))).2 (by decide) (by decide) ?_
      show Steps p_.tables e_ below (T34.setTop (mkF m_ 217 #[.val (.int n), .val (.int t), .val (.int d), .val (.ref b1), .val (.int (own_a d)), .val (.int (own_g d)), .val (.int (own_h d)), .val (.ref b28), .val (.ref w0), .val (.int t), .unset, .unset] [])) t_
      refine XS.iconst X34.here hx rfl (hb hby at_217) ?_
      show Steps p_.tables e_ below (T34.setTop (mkF m_ 218 #[.val (.int n), .val (.int t), .val (.int d), .val (.ref b1), .val (.int (own_a d)), .val (.int (own_g d)), .val (.int (own_h d)), .val (.ref b28), .val (.ref w0), .val (.int t), .unset, .unset] [(.int (0 : Int32))])) t_
      refine XS.istore X34.here hx rfl (hb hby at_218) rfl (l' := #[.val (.int n), .val (.int t), .val (.int d), .val (.ref b1), .val (.int (own_a d)), .val (.int (own_g d)), .val (.int (own_h d)), .val (.ref b28), .val (.ref w0), .val (.int t), .val (.int (0 : Int32)), .unset]) rfl ?_
      show Steps p_.tables e_ below (T34.setTop (mkF m_ 220 #[.val (.int n), .val (.int t), .val (.int d), .val (.ref b1), .val (.int (own_a d)), .val (.int (own_g d)), .val (.int (own_h d)), .val (.ref b28), .val (.ref w0), .val (.int t), .val (.int (0 : Int32)), .unset] [])) t_
      refine XS.aload X34.here hx rfl (hb hby at_220) rfl rfl ?_
      show Steps p_.tables e_ below (T34.setTop (mkF m_ 222 #[.val (.int n), .val (.int t), .val (.int d), .val (.ref b1), .val (.int (own_a d)), .val (.int (own_g d)), .val (.int (own_h d)), .val (.ref b28), .val (.ref w0), .val (.int t), .val (.int (0 : Int32)), .unset] [(.ref w0)])) t_
      exact k_
    refine own_callV X34 hx hZ (y := (⟨"com/example/banksum/banksum/uk/ExceptionRule", "eitherPasses", "()Z"⟩ : MethodName)) (z := (⟨"com/example/banksum/banksum/uk/ExceptionRule", "eitherPasses", "()Z"⟩ : MethodName)) hown (hw _ (List.mem_of_getElem? (i := 56) rfl)) (hw _ (List.mem_of_getElem? (i := 57) rfl)) (notFace_of_selects (args := #[]) (mvT hZ (hw _ (List.mem_of_getElem? (i := 59) rfl)))) (hw _ (List.mem_of_getElem? (i := 59) rfl)) (hw _ (List.mem_of_getElem? (i := 58) rfl)) (hw _ (List.mem_of_getElem? (i := 3) rfl)) (hw _ (List.mem_of_getElem? (i := 60) rfl)) (by decide) w0 [] [] (E_w0.ext O.2) (rm4 l Z a0 hw w0 h31 n0 Z0) 0 (by decide) (by decide) e34 (by rw [hml]; rfl) (lenOf own_pd2 rfl) rfl (Nat.le_of_eq rfl) (hb hby at_222) (by decide) (by decide) ?_
    intro v35 T35 L35 X35 q35
    obtain ⟨rfl, N35q, e35⟩ := q35
    have N35 := Fr.app N34 N35q
    show own_Out p_ e_ below s_ _ _ _ T35 (mkF m_ 225 #[.val (.int n), .val (.int t), .val (.int d), .val (.ref b1), .val (.int (own_a d)), .val (.int (own_g d)), .val (.int (own_h d)), .val (.ref b28), .val (.ref w0), .val (.int t), .val (.int (0 : Int32)), .unset] [(.int (f4 w0))])
    refine own_st T35 (mkF m_ 269 #[.val (.int n), .val (.int t), .val (.int d), .val (.ref b1), .val (.int (own_a d)), .val (.int (own_g d)), .val (.int (own_h d)), .val (.ref b28), .val (.ref w0), .val (.int t), .val (.int (0 : Int32)), .val (.int (0 : Int32))] [(.ref b28), (.ref w0)]) (fun t_ k_ => ?_) ?_
    · refine XS.iload X35.here hx rfl (hb hby at_225) rfl ?_
      show Steps p_.tables e_ below (T35.setTop (mkF m_ 227 #[.val (.int n), .val (.int t), .val (.int d), .val (.ref b1), .val (.int (own_a d)), .val (.int (own_g d)), .val (.int (own_h d)), .val (.ref b28), .val (.ref w0), .val (.int t), .val (.int (0 : Int32)), .unset] [(.int (0 : Int32)), (.int (f4 w0))])) t_
      refine XS.icmpYes X35.here hx rfl (pc0 := 227) (pc' := 232) rfl (hb hby at_227) rfl (teq (rfl : (f4 w0) = (0 : Int32))).1 (by decide) (by decide) ?_
      show Steps p_.tables e_ below (T35.setTop (mkF m_ 232 #[.val (.int n), .val (.int t), .val (.int d), .val (.ref b1), .val (.int (own_a d)), .val (.int (own_g d)), .val (.int (own_h d)), .val (.ref b28), .val (.ref w0), .val (.int t), .val (.int (0 : Int32)), .unset] [])) t_
      refine XS.iloadN X35.here hx rfl (hb hby at_232) rfl ?_
      show Steps p_.tables e_ below (T35.setTop (mkF m_ 233 #[.val (.int n), .val (.int t), .val (.int d), .val (.ref b1), .val (.int (own_a d)), .val (.int (own_g d)), .val (.int (own_h d)), .val (.ref b28), .val (.ref w0), .val (.int t), .val (.int (0 : Int32)), .unset] [(.int n)])) t_
      refine XS.bipush X35.here hx rfl (hb hby at_233) ?_
      show Steps p_.tables e_ below (T35.setTop (mkF m_ 235 #[.val (.int n), .val (.int t), .val (.int d), .val (.ref b1), .val (.int (own_a d)), .val (.int (own_g d)), .val (.int (own_h d)), .val (.ref b28), .val (.ref w0), .val (.int t), .val (.int (0 : Int32)), .unset] [(.int (6 : Int32)), (.int n)])) t_
      refine XS.icmpYes X35.here hx rfl (pc0 := 235) (pc' := 262) rfl (hb hby at_235) rfl (feq (hn6 : ¬ (n = (6 : Int32)))).2 (by decide) (by decide) ?_
      show Steps p_.tables e_ below (T35.setTop (mkF m_ 262 #[.val (.int n), .val (.int t), .val (.int d), .val (.ref b1), .val (.int (own_a d)), .val (.int (own_g d)), .val (.int (own_h d)), .val (.ref b28), .val (.ref w0), .val (.int t), .val (.int (0 : Int32)), .unset] [])) t_
      refine XS.iconst X35.here hx rfl (hb hby at_262) ?_
      show Steps p_.tables e_ below (T35.setTop (mkF m_ 263 #[.val (.int n), .val (.int t), .val (.int d), .val (.ref b1), .val (.int (own_a d)), .val (.int (own_g d)), .val (.int (own_h d)), .val (.ref b28), .val (.ref w0), .val (.int t), .val (.int (0 : Int32)), .unset] [(.int (0 : Int32))])) t_
      refine XS.istore X35.here hx rfl (hb hby at_263) rfl (l' := #[.val (.int n), .val (.int t), .val (.int d), .val (.ref b1), .val (.int (own_a d)), .val (.int (own_g d)), .val (.int (own_h d)), .val (.ref b28), .val (.ref w0), .val (.int t), .val (.int (0 : Int32)), .val (.int (0 : Int32))]) rfl ?_
      show Steps p_.tables e_ below (T35.setTop (mkF m_ 265 #[.val (.int n), .val (.int t), .val (.int d), .val (.ref b1), .val (.int (own_a d)), .val (.int (own_g d)), .val (.int (own_h d)), .val (.ref b28), .val (.ref w0), .val (.int t), .val (.int (0 : Int32)), .val (.int (0 : Int32))] [])) t_
      refine XS.aload X35.here hx rfl (hb hby at_265) rfl rfl ?_
      show Steps p_.tables e_ below (T35.setTop (mkF m_ 267 #[.val (.int n), .val (.int t), .val (.int d), .val (.ref b1), .val (.int (own_a d)), .val (.int (own_g d)), .val (.int (own_h d)), .val (.ref b28), .val (.ref w0), .val (.int t), .val (.int (0 : Int32)), .val (.int (0 : Int32))] [(.ref w0)])) t_
      refine XS.aload X35.here hx rfl (hb hby at_267) rfl rfl ?_
      show Steps p_.tables e_ below (T35.setTop (mkF m_ 269 #[.val (.int n), .val (.int t), .val (.int d), .val (.ref b1), .val (.int (own_a d)), .val (.int (own_g d)), .val (.int (own_h d)), .val (.ref b28), .val (.ref w0), .val (.int t), .val (.int (0 : Int32)), .val (.int (0 : Int32))] [(.ref b28), (.ref w0)])) t_
      exact k_
    refine own_callV X35 hx hZ (y := (⟨"com/example/banksum/banksum/uk/ExceptionRule", "foreignCurrency", "([I)Z"⟩ : MethodName)) (z := (⟨"com/example/banksum/banksum/uk/ExceptionRule", "foreignCurrency", "([I)Z"⟩ : MethodName)) hown (hw _ (List.mem_of_getElem? (i := 61) rfl)) (hw _ (List.mem_of_getElem? (i := 62) rfl)) (notFace_of_selects (args := #[]) (mvT hZ (hw _ (List.mem_of_getElem? (i := 64) rfl)))) (hw _ (List.mem_of_getElem? (i := 64) rfl)) (hw _ (List.mem_of_getElem? (i := 63) rfl)) (hw _ (List.mem_of_getElem? (i := 3) rfl)) (hw _ (List.mem_of_getElem? (i := 65) rfl)) (by decide) w0 [(.ref b28)] [] (E_w0.ext O.2) (rm5 l Z a0 hw w0 b28 h31 n0 Z0) 0 (by decide) (by decide) e35 (by rw [hml]; rfl) (lenOf own_pd3 rfl) rfl (Nat.le_of_eq rfl) (hb hby at_269) (by decide) (by decide) ?_
    intro v36 T36 L36 X36 q36
    obtain ⟨rfl, N36q, e36⟩ := q36
    have N36 := Fr.app N35 N36q
    show own_Out p_ e_ below s_ _ _ _ T36 (mkF m_ 272 #[.val (.int n), .val (.int t), .val (.int d), .val (.ref b1), .val (.int (own_a d)), .val (.int (own_g d)), .val (.int (own_h d)), .val (.ref b28), .val (.ref w0), .val (.int t), .val (.int (0 : Int32)), .val (.int (0 : Int32))] [(.int (f5 w0 b28))])
    refine own_st T36 (mkF m_ 282 #[.val (.int n), .val (.int t), .val (.int d), .val (.ref b1), .val (.int (own_a d)), .val (.int (own_g d)), .val (.int (own_h d)), .val (.ref b28), .val (.ref w0), .val (.int t), .val (.int (0 : Int32)), .val (.int (0 : Int32))] [(.int (1 : Int32))]) (fun t_ k_ => ?_) ?_
    · refine XS.iload X36.here hx rfl (hb hby at_272) rfl ?_
      show Steps p_.tables e_ below (T36.setTop (mkF m_ 274 #[.val (.int n), .val (.int t), .val (.int d), .val (.ref b1), .val (.int (own_a d)), .val (.int (own_g d)), .val (.int (own_h d)), .val (.ref b28), .val (.ref w0), .val (.int t), .val (.int (0 : Int32)), .val (.int (0 : Int32))] [(.int (0 : Int32)), (.int (f5 w0 b28))])) t_
      refine XS.icmpNo X36.here hx rfl (hb hby at_274) rfl (teq (rfl : (f5 w0 b28) = (0 : Int32))).2 ?_
      show Steps p_.tables e_ below (T36.setTop (mkF m_ 277 #[.val (.int n), .val (.int t), .val (.int d), .val (.ref b1), .val (.int (own_a d)), .val (.int (own_g d)), .val (.int (own_h d)), .val (.ref b28), .val (.ref w0), .val (.int t), .val (.int (0 : Int32)), .val (.int (0 : Int32))] [])) t_
      refine XS.iconst X36.here hx rfl (hb hby at_277) ?_
      show Steps p_.tables e_ below (T36.setTop (mkF m_ 278 #[.val (.int n), .val (.int t), .val (.int d), .val (.ref b1), .val (.int (own_a d)), .val (.int (own_g d)), .val (.int (own_h d)), .val (.ref b28), .val (.ref w0), .val (.int t), .val (.int (0 : Int32)), .val (.int (0 : Int32))] [(.int (1 : Int32))])) t_
      refine XS.goto X36.here hx rfl (pc0 := 278) (pc' := 282) rfl (hb hby at_278) (by decide) (by decide) ?_
      show Steps p_.tables e_ below (T36.setTop (mkF m_ 282 #[.val (.int n), .val (.int t), .val (.int d), .val (.ref b1), .val (.int (own_a d)), .val (.int (own_g d)), .val (.int (own_h d)), .val (.ref b28), .val (.ref w0), .val (.int t), .val (.int (0 : Int32)), .val (.int (0 : Int32))] [(.int (1 : Int32))])) t_
      exact k_
    refine own_retN X36 hx hlk (t := .boolean) hret (by simp) (hb hby at_282) (by decide) (by decide) ?_
    exact ⟨rfl, N36⟩
  · show own_Out p_ e_ below s_ _ _ _ T32 (mkF m_ 153 #[.val (.int (1 : Int32)), .val (.int t), .val (.int d), .val (.ref b1), .val (.int (own_a d)), .val (.int (own_g d)), .val (.int (own_h d)), .val (.ref b28), .unset, .unset, .unset, .unset] [(.ref w1)])
    refine own_st T32 (mkF m_ 159 #[.val (.int (1 : Int32)), .val (.int t), .val (.int d), .val (.ref b1), .val (.int (own_a d)), .val (.int (own_g d)), .val (.int (own_h d)), .val (.ref b28), .val (.ref w1), .unset, .unset, .unset] [(.int (1 : Int32)), (.ref b1), (.ref w1)]) (fun t_ k_ => ?_) ?_
    · refine XS.astore X32.here hx rfl (hb hby at_153) rfl rfl (l' := #[.val (.int (1 : Int32)), .val (.int t), .val (.int d), .val (.ref b1), .val (.int (own_a d)), .val (.int (own_g d)), .val (.int (own_h d)), .val (.ref b28), .val (.ref w1), .unset, .unset, .unset]) rfl ?_
      show Steps p_.tables e_ below (T32.setTop (mkF m_ 155 #[.val (.int (1 : Int32)), .val (.int t), .val (.int d), .val (.ref b1), .val (.int (own_a d)), .val (.int (own_g d)), .val (.int (own_h d)), .val (.ref b28), .val (.ref w1), .unset, .unset, .unset] [])) t_
      refine XS.aload X32.here hx rfl (hb hby at_155) rfl rfl ?_
      show Steps p_.tables e_ below (T32.setTop (mkF m_ 157 #[.val (.int (1 : Int32)), .val (.int t), .val (.int d), .val (.ref b1), .val (.int (own_a d)), .val (.int (own_g d)), .val (.int (own_h d)), .val (.ref b28), .val (.ref w1), .unset, .unset, .unset] [(.ref w1)])) t_
      refine XS.aloadN X32.here hx rfl (hb hby at_157) rfl rfl ?_
      show Steps p_.tables e_ below (T32.setTop (mkF m_ 158 #[.val (.int (1 : Int32)), .val (.int t), .val (.int d), .val (.ref b1), .val (.int (own_a d)), .val (.int (own_g d)), .val (.int (own_h d)), .val (.ref b28), .val (.ref w1), .unset, .unset, .unset] [(.ref b1), (.ref w1)])) t_
      refine XS.iloadN X32.here hx rfl (hb hby at_158) rfl ?_
      show Steps p_.tables e_ below (T32.setTop (mkF m_ 159 #[.val (.int (1 : Int32)), .val (.int t), .val (.int d), .val (.ref b1), .val (.int (own_a d)), .val (.int (own_g d)), .val (.int (own_h d)), .val (.ref b28), .val (.ref w1), .unset, .unset, .unset] [(.int (1 : Int32)), (.ref b1), (.ref w1)])) t_
      exact k_
    refine own_callS X32 hx hZ hown (hw _ (List.mem_of_getElem? (i := 47) rfl)) (hw _ (List.mem_of_getElem? (i := 48) rfl)) (hw _ (List.mem_of_getElem? (i := 49) rfl)) (hw _ (List.mem_of_getElem? (i := 50) rfl)) (by decide) [(.int (1 : Int32))] [(.ref b1), (.ref w1)] (rm2 l Z a0 hw (1 : Int32) h31 n0 Z0) 2 (by decide) (by decide) e32 (by rw [hml]; rfl) (lenOf own_pd1 rfl) rfl (Nat.le_of_eq rfl) (hb hby at_159) (by decide) (by decide) ?_
    intro v37 T37 L37 X37 q37
    obtain ⟨rfl, N37q, e37⟩ := q37
    have N37 := Fr.app N32 N37q
    rw [show (f2 (1 : Int32)) = 1 from by decide]
    show own_Out p_ e_ below s_ _ _ _ T37 (mkF m_ 162 #[.val (.int (1 : Int32)), .val (.int t), .val (.int d), .val (.ref b1), .val (.int (own_a d)), .val (.int (own_g d)), .val (.int (own_h d)), .val (.ref b28), .val (.ref w1), .unset, .unset, .unset] [(.int (1 : Int32)), (.ref b1), (.ref w1)])
    refine own_st T37 (mkF m_ 186 #[.val (.int (1 : Int32)), .val (.int t), .val (.int d), .val (.ref b1), .val (.int (own_a d)), .val (.int (own_g d)), .val (.int (own_h d)), .val (.ref b28), .val (.ref w1), .val (.int (t + (27 : Int32))), .unset, .unset] [(.int t), (.ref w1)]) (fun t_ k_ => ?_) ?_
    · refine own_ldR X37 hx hZ e37 A_b1 rfl 1 (by decide) (by decide) (hb hby at_162) _ ?_
      show Steps p_.tables e_ below (T37.setTop (mkF m_ 163 #[.val (.int (1 : Int32)), .val (.int t), .val (.int d), .val (.ref b1), .val (.int (own_a d)), .val (.int (own_g d)), .val (.int (own_h d)), .val (.ref b28), .val (.ref w1), .unset, .unset, .unset] [(.ref w1), (.ref w1)])) t_
      refine Jvm.RoadKit.acmp (g := (mkF m_ 163 #[.val (.int (1 : Int32)), .val (.int t), .val (.int d), .val (.ref b1), .val (.int (own_a d)), .val (.int (own_g d)), .val (.int (own_h d)), .val (.ref b28), .val (.ref w1), .unset, .unset, .unset] [(.ref w1), (.ref w1)])) X37 hx rfl rfl rfl (pc0 := 163) (pc' := 168) (same := true) rfl (hb hby at_163) rfl (decide_eq_true rfl) (by decide) (by decide) ?_
      show Steps p_.tables e_ below (T37.setTop (mkF m_ 168 #[.val (.int (1 : Int32)), .val (.int t), .val (.int d), .val (.ref b1), .val (.int (own_a d)), .val (.int (own_g d)), .val (.int (own_h d)), .val (.ref b28), .val (.ref w1), .unset, .unset, .unset] [])) t_
      refine XS.iloadN X37.here hx rfl (hb hby at_168) rfl ?_
      show Steps p_.tables e_ below (T37.setTop (mkF m_ 169 #[.val (.int (1 : Int32)), .val (.int t), .val (.int d), .val (.ref b1), .val (.int (own_a d)), .val (.int (own_g d)), .val (.int (own_h d)), .val (.ref b28), .val (.ref w1), .unset, .unset, .unset] [(.int (1 : Int32))])) t_
      refine XS.iconst X37.here hx rfl (hb hby at_169) ?_
      show Steps p_.tables e_ below (T37.setTop (mkF m_ 170 #[.val (.int (1 : Int32)), .val (.int t), .val (.int d), .val (.ref b1), .val (.int (own_a d)), .val (.int (own_g d)), .val (.int (own_h d)), .val (.ref b28), .val (.ref w1), .unset, .unset, .unset] [(.int (1 : Int32)), (.int (1 : Int32))])) t_
      refine XS.icmpNo X37.here hx rfl (hb hby at_170) rfl (teq (by decide : (1 : Int32) = (1 : Int32))).2 ?_
      show Steps p_.tables e_ below (T37.setTop (mkF m_ 173 #[.val (.int (1 : Int32)), .val (.int t), .val (.int d), .val (.ref b1), .val (.int (own_a d)), .val (.int (own_g d)), .val (.int (own_h d)), .val (.ref b28), .val (.ref w1), .unset, .unset, .unset] [])) t_
      refine XS.iloadN X37.here hx rfl (hb hby at_173) rfl ?_
      show Steps p_.tables e_ below (T37.setTop (mkF m_ 174 #[.val (.int (1 : Int32)), .val (.int t), .val (.int d), .val (.ref b1), .val (.int (own_a d)), .val (.int (own_g d)), .val (.int (own_h d)), .val (.ref b28), .val (.ref w1), .unset, .unset, .unset] [(.int t)])) t_
      refine XS.bipush X37.here hx rfl (hb hby at_174) ?_
      show Steps p_.tables e_ below (T37.setTop (mkF m_ 176 #[.val (.int (1 : Int32)), .val (.int t), .val (.int d), .val (.ref b1), .val (.int (own_a d)), .val (.int (own_g d)), .val (.int (own_h d)), .val (.ref b28), .val (.ref w1), .unset, .unset, .unset] [(.int (27 : Int32)), (.int t)])) t_
      refine XS.iadd X37.here hx rfl (hb hby at_176) rfl ?_
      show Steps p_.tables e_ below (T37.setTop (mkF m_ 177 #[.val (.int (1 : Int32)), .val (.int t), .val (.int d), .val (.ref b1), .val (.int (own_a d)), .val (.int (own_g d)), .val (.int (own_h d)), .val (.ref b28), .val (.ref w1), .unset, .unset, .unset] [(.int (t + (27 : Int32)))])) t_
      refine XS.goto X37.here hx rfl (pc0 := 177) (pc' := 181) rfl (hb hby at_177) (by decide) (by decide) ?_
      show Steps p_.tables e_ below (T37.setTop (mkF m_ 181 #[.val (.int (1 : Int32)), .val (.int t), .val (.int d), .val (.ref b1), .val (.int (own_a d)), .val (.int (own_g d)), .val (.int (own_h d)), .val (.ref b28), .val (.ref w1), .unset, .unset, .unset] [(.int (t + (27 : Int32)))])) t_
      refine XS.istore X37.here hx rfl (hb hby at_181) rfl (l' := #[.val (.int (1 : Int32)), .val (.int t), .val (.int d), .val (.ref b1), .val (.int (own_a d)), .val (.int (own_g d)), .val (.int (own_h d)), .val (.ref b28), .val (.ref w1), .val (.int (t + (27 : Int32))), .unset, .unset]) rfl ?_
      show Steps p_.tables e_ below (T37.setTop (mkF m_ 183 #[.val (.int (1 : Int32)), .val (.int t), .val (.int d), .val (.ref b1), .val (.int (own_a d)), .val (.int (own_g d)), .val (.int (own_h d)), .val (.ref b28), .val (.ref w1), .val (.int (t + (27 : Int32))), .unset, .unset] [])) t_
      refine XS.aload X37.here hx rfl (hb hby at_183) rfl rfl ?_
      show Steps p_.tables e_ below (T37.setTop (mkF m_ 185 #[.val (.int (1 : Int32)), .val (.int t), .val (.int d), .val (.ref b1), .val (.int (own_a d)), .val (.int (own_g d)), .val (.int (own_h d)), .val (.ref b28), .val (.ref w1), .val (.int (t + (27 : Int32))), .unset, .unset] [(.ref w1)])) t_
      refine XS.iloadN X37.here hx rfl (hb hby at_185) rfl ?_
      show Steps p_.tables e_ below (T37.setTop (mkF m_ 186 #[.val (.int (1 : Int32)), .val (.int t), .val (.int d), .val (.ref b1), .val (.int (own_a d)), .val (.int (own_g d)), .val (.int (own_h d)), .val (.ref b28), .val (.ref w1), .val (.int (t + (27 : Int32))), .unset, .unset] [(.int t), (.ref w1)])) t_
      exact k_
    refine own_callV X37 hx hZ (y := (⟨"com/example/banksum/banksum/uk/ExceptionRule", "total", "(I)I"⟩ : MethodName)) (z := (⟨"com/example/banksum/banksum/uk/ExceptionRule$1", "total", "(I)I"⟩ : MethodName)) hown (hw _ (List.mem_of_getElem? (i := 51) rfl)) (hw _ (List.mem_of_getElem? (i := 52) rfl)) (notFace_of_selects (args := #[]) (mvT hZ (hw _ (List.mem_of_getElem? (i := 54) rfl)))) (hw _ (List.mem_of_getElem? (i := 67) rfl)) (hw _ (List.mem_of_getElem? (i := 68) rfl)) (hw _ (List.mem_of_getElem? (i := 69) rfl)) (hw _ (List.mem_of_getElem? (i := 70) rfl)) (by decide) w1 [(.int t)] [] (E_w1.ext O.2) (rm6 l Z a0 hw w1 t h31 n0 Z0) 0 (by decide) (by decide) e37 (by rw [hml]; rfl) (lenOf own_pd1 rfl) rfl (Nat.le_of_eq rfl) (hb hby at_186) (by decide) (by decide) ?_
    intro v38 T38 L38 X38 q38
    obtain ⟨rfl, N38q, e38⟩ := q38
    have N38 := Fr.app N37 N38q
    show own_Out p_ e_ below s_ _ _ _ T38 (mkF m_ 189 #[.val (.int (1 : Int32)), .val (.int t), .val (.int d), .val (.ref b1), .val (.int (own_a d)), .val (.int (own_g d)), .val (.int (own_h d)), .val (.ref b28), .val (.ref w1), .val (.int (t + (27 : Int32))), .unset, .unset] [(.int (f6 w1 t))])
    refine own_st T38 (mkF m_ 222 #[.val (.int (1 : Int32)), .val (.int t), .val (.int d), .val (.ref b1), .val (.int (own_a d)), .val (.int (own_g d)), .val (.int (own_h d)), .val (.ref b28), .val (.ref w1), .val (.int (t + (27 : Int32))), .val (.int (0 : Int32)), .unset] [(.ref w1)]) (fun t_ k_ => ?_) ?_
    · refine XS.iload X38.here hx rfl (hb hby at_189) rfl ?_
      show Steps p_.tables e_ below (T38.setTop (mkF m_ 191 #[.val (.int (1 : Int32)), .val (.int t), .val (.int d), .val (.ref b1), .val (.int (own_a d)), .val (.int (own_g d)), .val (.int (own_h d)), .val (.ref b28), .val (.ref w1), .val (.int (t + (27 : Int32))), .unset, .unset] [(.int (t + (27 : Int32))), (.int (f6 w1 t))])) t_
      refine XS.icmpYes X38.here hx rfl (pc0 := 191) (pc' := 196) rfl (hb hby at_191) rfl (teq (rfl : (f6 w1 t) = (t + (27 : Int32)))).1 (by decide) (by decide) ?_
      show Steps p_.tables e_ below (T38.setTop (mkF m_ 196 #[.val (.int (1 : Int32)), .val (.int t), .val (.int d), .val (.ref b1), .val (.int (own_a d)), .val (.int (own_g d)), .val (.int (own_h d)), .val (.ref b28), .val (.ref w1), .val (.int (t + (27 : Int32))), .unset, .unset] [])) t_
      refine XS.iloadN X38.here hx rfl (hb hby at_196) rfl ?_
      show Steps p_.tables e_ below (T38.setTop (mkF m_ 197 #[.val (.int (1 : Int32)), .val (.int t), .val (.int d), .val (.ref b1), .val (.int (own_a d)), .val (.int (own_g d)), .val (.int (own_h d)), .val (.ref b28), .val (.ref w1), .val (.int (t + (27 : Int32))), .unset, .unset] [(.int (1 : Int32))])) t_
      refine XS.iconst X38.here hx rfl (hb hby at_197) ?_
      show Steps p_.tables e_ below (T38.setTop (mkF m_ 198 #[.val (.int (1 : Int32)), .val (.int t), .val (.int d), .val (.ref b1), .val (.int (own_a d)), .val (.int (own_g d)), .val (.int (own_h d)), .val (.ref b28), .val (.ref w1), .val (.int (t + (27 : Int32))), .unset, .unset] [(.int (2 : Int32)), (.int (1 : Int32))])) t_
      refine XS.icmpNo X38.here hx rfl (hb hby at_198) rfl (feq (by decide : ¬ ((1 : Int32) = (2 : Int32)))).1 ?_
      show Steps p_.tables e_ below (T38.setTop (mkF m_ 201 #[.val (.int (1 : Int32)), .val (.int t), .val (.int d), .val (.ref b1), .val (.int (own_a d)), .val (.int (own_g d)), .val (.int (own_h d)), .val (.ref b28), .val (.ref w1), .val (.int (t + (27 : Int32))), .unset, .unset] [])) t_
      refine XS.iloadN X38.here hx rfl (hb hby at_201) rfl ?_
      show Steps p_.tables e_ below (T38.setTop (mkF m_ 202 #[.val (.int (1 : Int32)), .val (.int t), .val (.int d), .val (.ref b1), .val (.int (own_a d)), .val (.int (own_g d)), .val (.int (own_h d)), .val (.ref b28), .val (.ref w1), .val (.int (t + (27 : Int32))), .unset, .unset] [(.int (1 : Int32))])) t_
      refine XS.bipush X38.here hx rfl (hb hby at_202) ?_
      show Steps p_.tables e_ below (T38.setTop (mkF m_ 204 #[.val (.int (1 : Int32)), .val (.int t), .val (.int d), .val (.ref b1), .val (.int (own_a d)), .val (.int (own_g d)), .val (.int (own_h d)), .val (.ref b28), .val (.ref w1), .val (.int (t + (27 : Int32))), .unset, .unset] [(.int (10 : Int32)), (.int (1 : Int32))])) t_
      refine XS.icmpNo X38.here hx rfl (hb hby at_204) rfl (feq (by decide : ¬ ((1 : Int32) = (10 : Int32)))).1 ?_
      show Steps p_.tables e_ below (T38.setTop (mkF m_ 207 #[.val (.int (1 : Int32)), .val (.int t), .val (.int d), .val (.ref b1), .val (.int (own_a d)), .val (.int (own_g d)), .val (.int (own_h d)), .val (.ref b28), .val (.ref w1), .val (.int (t + (27 : Int32))), .unset, .unset] [])) t_
      refine XS.iloadN X38.here hx rfl (hb hby at_207) rfl ?_
      show Steps p_.tables e_ below (T38.setTop (mkF m_ 208 #[.val (.int (1 : Int32)), .val (.int t), .val (.int d), .val (.ref b1), .val (.int (own_a d)), .val (.int (own_g d)), .val (.int (own_h d)), .val (.ref b28), .val (.ref w1), .val (.int (t + (27 : Int32))), .unset, .unset] [(.int (1 : Int32))])) t_
      refine XS.bipush X38.here hx rfl (hb hby at_208) ?_
      show Steps p_.tables e_ below (T38.setTop (mkF m_ 210 #[.val (.int (1 : Int32)), .val (.int t), .val (.int d), .val (.ref b1), .val (.int (own_a d)), .val (.int (own_g d)), .val (.int (own_h d)), .val (.ref b28), .val (.ref w1), .val (.int (t + (27 : Int32))), .unset, .unset] [(.int (12 : Int32)), (.int (1 : Int32))])) t_
      refine XS.icmpYes X38.here hx rfl (pc0 := 210) (pc' := 217) rfl (hb hby at_210) rfl (feq (by decide : ¬ ((1 : Int32) = (12 : Int32)))).2 (by decide) (by decide) ?_
      show Steps p_.tables e_ below (T38.setTop (mkF m_ 217 #[.val (.int (1 : Int32)), .val (.int t), .val (.int d), .val (.ref b1), .val (.int (own_a d)), .val (.int (own_g d)), .val (.int (own_h d)), .val (.ref b28), .val (.ref w1), .val (.int (t + (27 : Int32))), .unset, .unset] [])) t_
      refine XS.iconst X38.here hx rfl (hb hby at_217) ?_
      show Steps p_.tables e_ below (T38.setTop (mkF m_ 218 #[.val (.int (1 : Int32)), .val (.int t), .val (.int d), .val (.ref b1), .val (.int (own_a d)), .val (.int (own_g d)), .val (.int (own_h d)), .val (.ref b28), .val (.ref w1), .val (.int (t + (27 : Int32))), .unset, .unset] [(.int (0 : Int32))])) t_
      refine XS.istore X38.here hx rfl (hb hby at_218) rfl (l' := #[.val (.int (1 : Int32)), .val (.int t), .val (.int d), .val (.ref b1), .val (.int (own_a d)), .val (.int (own_g d)), .val (.int (own_h d)), .val (.ref b28), .val (.ref w1), .val (.int (t + (27 : Int32))), .val (.int (0 : Int32)), .unset]) rfl ?_
      show Steps p_.tables e_ below (T38.setTop (mkF m_ 220 #[.val (.int (1 : Int32)), .val (.int t), .val (.int d), .val (.ref b1), .val (.int (own_a d)), .val (.int (own_g d)), .val (.int (own_h d)), .val (.ref b28), .val (.ref w1), .val (.int (t + (27 : Int32))), .val (.int (0 : Int32)), .unset] [])) t_
      refine XS.aload X38.here hx rfl (hb hby at_220) rfl rfl ?_
      show Steps p_.tables e_ below (T38.setTop (mkF m_ 222 #[.val (.int (1 : Int32)), .val (.int t), .val (.int d), .val (.ref b1), .val (.int (own_a d)), .val (.int (own_g d)), .val (.int (own_h d)), .val (.ref b28), .val (.ref w1), .val (.int (t + (27 : Int32))), .val (.int (0 : Int32)), .unset] [(.ref w1)])) t_
      exact k_
    refine own_callV X38 hx hZ (y := (⟨"com/example/banksum/banksum/uk/ExceptionRule", "eitherPasses", "()Z"⟩ : MethodName)) (z := (⟨"com/example/banksum/banksum/uk/ExceptionRule", "eitherPasses", "()Z"⟩ : MethodName)) hown (hw _ (List.mem_of_getElem? (i := 56) rfl)) (hw _ (List.mem_of_getElem? (i := 57) rfl)) (notFace_of_selects (args := #[]) (mvT hZ (hw _ (List.mem_of_getElem? (i := 71) rfl)))) (hw _ (List.mem_of_getElem? (i := 71) rfl)) (hw _ (List.mem_of_getElem? (i := 58) rfl)) (hw _ (List.mem_of_getElem? (i := 3) rfl)) (hw _ (List.mem_of_getElem? (i := 60) rfl)) (by decide) w1 [] [] (E_w1.ext O.2) (rm4 l Z a0 hw w1 h31 n0 Z0) 0 (by decide) (by decide) e38 (by rw [hml]; rfl) (lenOf own_pd2 rfl) rfl (Nat.le_of_eq rfl) (hb hby at_222) (by decide) (by decide) ?_
    intro v39 T39 L39 X39 q39
    obtain ⟨rfl, N39q, e39⟩ := q39
    have N39 := Fr.app N38 N39q
    show own_Out p_ e_ below s_ _ _ _ T39 (mkF m_ 225 #[.val (.int (1 : Int32)), .val (.int t), .val (.int d), .val (.ref b1), .val (.int (own_a d)), .val (.int (own_g d)), .val (.int (own_h d)), .val (.ref b28), .val (.ref w1), .val (.int (t + (27 : Int32))), .val (.int (0 : Int32)), .unset] [(.int (f4 w1))])
    refine own_st T39 (mkF m_ 269 #[.val (.int (1 : Int32)), .val (.int t), .val (.int d), .val (.ref b1), .val (.int (own_a d)), .val (.int (own_g d)), .val (.int (own_h d)), .val (.ref b28), .val (.ref w1), .val (.int (t + (27 : Int32))), .val (.int (0 : Int32)), .val (.int (0 : Int32))] [(.ref b28), (.ref w1)]) (fun t_ k_ => ?_) ?_
    · refine XS.iload X39.here hx rfl (hb hby at_225) rfl ?_
      show Steps p_.tables e_ below (T39.setTop (mkF m_ 227 #[.val (.int (1 : Int32)), .val (.int t), .val (.int d), .val (.ref b1), .val (.int (own_a d)), .val (.int (own_g d)), .val (.int (own_h d)), .val (.ref b28), .val (.ref w1), .val (.int (t + (27 : Int32))), .val (.int (0 : Int32)), .unset] [(.int (0 : Int32)), (.int (f4 w1))])) t_
      refine XS.icmpYes X39.here hx rfl (pc0 := 227) (pc' := 232) rfl (hb hby at_227) rfl (teq (rfl : (f4 w1) = (0 : Int32))).1 (by decide) (by decide) ?_
      show Steps p_.tables e_ below (T39.setTop (mkF m_ 232 #[.val (.int (1 : Int32)), .val (.int t), .val (.int d), .val (.ref b1), .val (.int (own_a d)), .val (.int (own_g d)), .val (.int (own_h d)), .val (.ref b28), .val (.ref w1), .val (.int (t + (27 : Int32))), .val (.int (0 : Int32)), .unset] [])) t_
      refine XS.iloadN X39.here hx rfl (hb hby at_232) rfl ?_
      show Steps p_.tables e_ below (T39.setTop (mkF m_ 233 #[.val (.int (1 : Int32)), .val (.int t), .val (.int d), .val (.ref b1), .val (.int (own_a d)), .val (.int (own_g d)), .val (.int (own_h d)), .val (.ref b28), .val (.ref w1), .val (.int (t + (27 : Int32))), .val (.int (0 : Int32)), .unset] [(.int (1 : Int32))])) t_
      refine XS.bipush X39.here hx rfl (hb hby at_233) ?_
      show Steps p_.tables e_ below (T39.setTop (mkF m_ 235 #[.val (.int (1 : Int32)), .val (.int t), .val (.int d), .val (.ref b1), .val (.int (own_a d)), .val (.int (own_g d)), .val (.int (own_h d)), .val (.ref b28), .val (.ref w1), .val (.int (t + (27 : Int32))), .val (.int (0 : Int32)), .unset] [(.int (6 : Int32)), (.int (1 : Int32))])) t_
      refine XS.icmpYes X39.here hx rfl (pc0 := 235) (pc' := 262) rfl (hb hby at_235) rfl (feq (by decide : ¬ ((1 : Int32) = (6 : Int32)))).2 (by decide) (by decide) ?_
      show Steps p_.tables e_ below (T39.setTop (mkF m_ 262 #[.val (.int (1 : Int32)), .val (.int t), .val (.int d), .val (.ref b1), .val (.int (own_a d)), .val (.int (own_g d)), .val (.int (own_h d)), .val (.ref b28), .val (.ref w1), .val (.int (t + (27 : Int32))), .val (.int (0 : Int32)), .unset] [])) t_
      refine XS.iconst X39.here hx rfl (hb hby at_262) ?_
      show Steps p_.tables e_ below (T39.setTop (mkF m_ 263 #[.val (.int (1 : Int32)), .val (.int t), .val (.int d), .val (.ref b1), .val (.int (own_a d)), .val (.int (own_g d)), .val (.int (own_h d)), .val (.ref b28), .val (.ref w1), .val (.int (t + (27 : Int32))), .val (.int (0 : Int32)), .unset] [(.int (0 : Int32))])) t_
      refine XS.istore X39.here hx rfl (hb hby at_263) rfl (l' := #[.val (.int (1 : Int32)), .val (.int t), .val (.int d), .val (.ref b1), .val (.int (own_a d)), .val (.int (own_g d)), .val (.int (own_h d)), .val (.ref b28), .val (.ref w1), .val (.int (t + (27 : Int32))), .val (.int (0 : Int32)), .val (.int (0 : Int32))]) rfl ?_
      show Steps p_.tables e_ below (T39.setTop (mkF m_ 265 #[.val (.int (1 : Int32)), .val (.int t), .val (.int d), .val (.ref b1), .val (.int (own_a d)), .val (.int (own_g d)), .val (.int (own_h d)), .val (.ref b28), .val (.ref w1), .val (.int (t + (27 : Int32))), .val (.int (0 : Int32)), .val (.int (0 : Int32))] [])) t_
      refine XS.aload X39.here hx rfl (hb hby at_265) rfl rfl ?_
      show Steps p_.tables e_ below (T39.setTop (mkF m_ 267 #[.val (.int (1 : Int32)), .val (.int t), .val (.int d), .val (.ref b1), .val (.int (own_a d)), .val (.int (own_g d)), .val (.int (own_h d)), .val (.ref b28), .val (.ref w1), .val (.int (t + (27 : Int32))), .val (.int (0 : Int32)), .val (.int (0 : Int32))] [(.ref w1)])) t_
      refine XS.aload X39.here hx rfl (hb hby at_267) rfl rfl ?_
      show Steps p_.tables e_ below (T39.setTop (mkF m_ 269 #[.val (.int (1 : Int32)), .val (.int t), .val (.int d), .val (.ref b1), .val (.int (own_a d)), .val (.int (own_g d)), .val (.int (own_h d)), .val (.ref b28), .val (.ref w1), .val (.int (t + (27 : Int32))), .val (.int (0 : Int32)), .val (.int (0 : Int32))] [(.ref b28), (.ref w1)])) t_
      exact k_
    refine own_callV X39 hx hZ (y := (⟨"com/example/banksum/banksum/uk/ExceptionRule", "foreignCurrency", "([I)Z"⟩ : MethodName)) (z := (⟨"com/example/banksum/banksum/uk/ExceptionRule", "foreignCurrency", "([I)Z"⟩ : MethodName)) hown (hw _ (List.mem_of_getElem? (i := 61) rfl)) (hw _ (List.mem_of_getElem? (i := 62) rfl)) (notFace_of_selects (args := #[]) (mvT hZ (hw _ (List.mem_of_getElem? (i := 72) rfl)))) (hw _ (List.mem_of_getElem? (i := 72) rfl)) (hw _ (List.mem_of_getElem? (i := 63) rfl)) (hw _ (List.mem_of_getElem? (i := 3) rfl)) (hw _ (List.mem_of_getElem? (i := 65) rfl)) (by decide) w1 [(.ref b28)] [] (E_w1.ext O.2) (rm5 l Z a0 hw w1 b28 h31 n0 Z0) 0 (by decide) (by decide) e39 (by rw [hml]; rfl) (lenOf own_pd3 rfl) rfl (Nat.le_of_eq rfl) (hb hby at_269) (by decide) (by decide) ?_
    intro v40 T40 L40 X40 q40
    obtain ⟨rfl, N40q, e40⟩ := q40
    have N40 := Fr.app N39 N40q
    show own_Out p_ e_ below s_ _ _ _ T40 (mkF m_ 272 #[.val (.int (1 : Int32)), .val (.int t), .val (.int d), .val (.ref b1), .val (.int (own_a d)), .val (.int (own_g d)), .val (.int (own_h d)), .val (.ref b28), .val (.ref w1), .val (.int (t + (27 : Int32))), .val (.int (0 : Int32)), .val (.int (0 : Int32))] [(.int (f5 w1 b28))])
    refine own_st T40 (mkF m_ 282 #[.val (.int (1 : Int32)), .val (.int t), .val (.int d), .val (.ref b1), .val (.int (own_a d)), .val (.int (own_g d)), .val (.int (own_h d)), .val (.ref b28), .val (.ref w1), .val (.int (t + (27 : Int32))), .val (.int (0 : Int32)), .val (.int (0 : Int32))] [(.int (1 : Int32))]) (fun t_ k_ => ?_) ?_
    · refine XS.iload X40.here hx rfl (hb hby at_272) rfl ?_
      show Steps p_.tables e_ below (T40.setTop (mkF m_ 274 #[.val (.int (1 : Int32)), .val (.int t), .val (.int d), .val (.ref b1), .val (.int (own_a d)), .val (.int (own_g d)), .val (.int (own_h d)), .val (.ref b28), .val (.ref w1), .val (.int (t + (27 : Int32))), .val (.int (0 : Int32)), .val (.int (0 : Int32))] [(.int (0 : Int32)), (.int (f5 w1 b28))])) t_
      refine XS.icmpNo X40.here hx rfl (hb hby at_274) rfl (teq (rfl : (f5 w1 b28) = (0 : Int32))).2 ?_
      show Steps p_.tables e_ below (T40.setTop (mkF m_ 277 #[.val (.int (1 : Int32)), .val (.int t), .val (.int d), .val (.ref b1), .val (.int (own_a d)), .val (.int (own_g d)), .val (.int (own_h d)), .val (.ref b28), .val (.ref w1), .val (.int (t + (27 : Int32))), .val (.int (0 : Int32)), .val (.int (0 : Int32))] [])) t_
      refine XS.iconst X40.here hx rfl (hb hby at_277) ?_
      show Steps p_.tables e_ below (T40.setTop (mkF m_ 278 #[.val (.int (1 : Int32)), .val (.int t), .val (.int d), .val (.ref b1), .val (.int (own_a d)), .val (.int (own_g d)), .val (.int (own_h d)), .val (.ref b28), .val (.ref w1), .val (.int (t + (27 : Int32))), .val (.int (0 : Int32)), .val (.int (0 : Int32))] [(.int (1 : Int32))])) t_
      refine XS.goto X40.here hx rfl (pc0 := 278) (pc' := 282) rfl (hb hby at_278) (by decide) (by decide) ?_
      show Steps p_.tables e_ below (T40.setTop (mkF m_ 282 #[.val (.int (1 : Int32)), .val (.int t), .val (.int d), .val (.ref b1), .val (.int (own_a d)), .val (.int (own_g d)), .val (.int (own_h d)), .val (.ref b28), .val (.ref w1), .val (.int (t + (27 : Int32))), .val (.int (0 : Int32)), .val (.int (0 : Int32))] [(.int (1 : Int32))])) t_
      exact k_
    refine own_retN X40 hx hlk (t := .boolean) hret (by simp) (hb hby at_282) (by decide) (by decide) ?_
    exact ⟨rfl, N40⟩
  · show own_Out p_ e_ below s_ _ _ _ T32 (mkF m_ 153 #[.val (.int (2 : Int32)), .val (.int t), .val (.int d), .val (.ref b1), .val (.int (own_a d)), .val (.int (own_g d)), .val (.int (own_h d)), .val (.ref b28), .unset, .unset, .unset, .unset] [(.ref w2)])
    refine own_st T32 (mkF m_ 159 #[.val (.int (2 : Int32)), .val (.int t), .val (.int d), .val (.ref b1), .val (.int (own_a d)), .val (.int (own_g d)), .val (.int (own_h d)), .val (.ref b28), .val (.ref w2), .unset, .unset, .unset] [(.int (2 : Int32)), (.ref b1), (.ref w2)]) (fun t_ k_ => ?_) ?_
    · refine XS.astore X32.here hx rfl (hb hby at_153) rfl rfl (l' := #[.val (.int (2 : Int32)), .val (.int t), .val (.int d), .val (.ref b1), .val (.int (own_a d)), .val (.int (own_g d)), .val (.int (own_h d)), .val (.ref b28), .val (.ref w2), .unset, .unset, .unset]) rfl ?_
      show Steps p_.tables e_ below (T32.setTop (mkF m_ 155 #[.val (.int (2 : Int32)), .val (.int t), .val (.int d), .val (.ref b1), .val (.int (own_a d)), .val (.int (own_g d)), .val (.int (own_h d)), .val (.ref b28), .val (.ref w2), .unset, .unset, .unset] [])) t_
      refine XS.aload X32.here hx rfl (hb hby at_155) rfl rfl ?_
      show Steps p_.tables e_ below (T32.setTop (mkF m_ 157 #[.val (.int (2 : Int32)), .val (.int t), .val (.int d), .val (.ref b1), .val (.int (own_a d)), .val (.int (own_g d)), .val (.int (own_h d)), .val (.ref b28), .val (.ref w2), .unset, .unset, .unset] [(.ref w2)])) t_
      refine XS.aloadN X32.here hx rfl (hb hby at_157) rfl rfl ?_
      show Steps p_.tables e_ below (T32.setTop (mkF m_ 158 #[.val (.int (2 : Int32)), .val (.int t), .val (.int d), .val (.ref b1), .val (.int (own_a d)), .val (.int (own_g d)), .val (.int (own_h d)), .val (.ref b28), .val (.ref w2), .unset, .unset, .unset] [(.ref b1), (.ref w2)])) t_
      refine XS.iloadN X32.here hx rfl (hb hby at_158) rfl ?_
      show Steps p_.tables e_ below (T32.setTop (mkF m_ 159 #[.val (.int (2 : Int32)), .val (.int t), .val (.int d), .val (.ref b1), .val (.int (own_a d)), .val (.int (own_g d)), .val (.int (own_h d)), .val (.ref b28), .val (.ref w2), .unset, .unset, .unset] [(.int (2 : Int32)), (.ref b1), (.ref w2)])) t_
      exact k_
    refine own_callS X32 hx hZ hown (hw _ (List.mem_of_getElem? (i := 47) rfl)) (hw _ (List.mem_of_getElem? (i := 48) rfl)) (hw _ (List.mem_of_getElem? (i := 49) rfl)) (hw _ (List.mem_of_getElem? (i := 50) rfl)) (by decide) [(.int (2 : Int32))] [(.ref b1), (.ref w2)] (rm2 l Z a0 hw (2 : Int32) h31 n0 Z0) 2 (by decide) (by decide) e32 (by rw [hml]; rfl) (lenOf own_pd1 rfl) rfl (Nat.le_of_eq rfl) (hb hby at_159) (by decide) (by decide) ?_
    intro v41 T41 L41 X41 q41
    obtain ⟨rfl, N41q, e41⟩ := q41
    have N41 := Fr.app N32 N41q
    rw [show (f2 (2 : Int32)) = 2 from by decide]
    show own_Out p_ e_ below s_ _ _ _ T41 (mkF m_ 162 #[.val (.int (2 : Int32)), .val (.int t), .val (.int d), .val (.ref b1), .val (.int (own_a d)), .val (.int (own_g d)), .val (.int (own_h d)), .val (.ref b28), .val (.ref w2), .unset, .unset, .unset] [(.int (2 : Int32)), (.ref b1), (.ref w2)])
    refine own_st T41 (mkF m_ 186 #[.val (.int (2 : Int32)), .val (.int t), .val (.int d), .val (.ref b1), .val (.int (own_a d)), .val (.int (own_g d)), .val (.int (own_h d)), .val (.ref b28), .val (.ref w2), .val (.int t), .unset, .unset] [(.int t), (.ref w2)]) (fun t_ k_ => ?_) ?_
    · refine own_ldR X41 hx hZ e41 A_b1 rfl 2 (by decide) (by decide) (hb hby at_162) _ ?_
      show Steps p_.tables e_ below (T41.setTop (mkF m_ 163 #[.val (.int (2 : Int32)), .val (.int t), .val (.int d), .val (.ref b1), .val (.int (own_a d)), .val (.int (own_g d)), .val (.int (own_h d)), .val (.ref b28), .val (.ref w2), .unset, .unset, .unset] [(.ref w2), (.ref w2)])) t_
      refine Jvm.RoadKit.acmp (g := (mkF m_ 163 #[.val (.int (2 : Int32)), .val (.int t), .val (.int d), .val (.ref b1), .val (.int (own_a d)), .val (.int (own_g d)), .val (.int (own_h d)), .val (.ref b28), .val (.ref w2), .unset, .unset, .unset] [(.ref w2), (.ref w2)])) X41 hx rfl rfl rfl (pc0 := 163) (pc' := 168) (same := true) rfl (hb hby at_163) rfl (decide_eq_true rfl) (by decide) (by decide) ?_
      show Steps p_.tables e_ below (T41.setTop (mkF m_ 168 #[.val (.int (2 : Int32)), .val (.int t), .val (.int d), .val (.ref b1), .val (.int (own_a d)), .val (.int (own_g d)), .val (.int (own_h d)), .val (.ref b28), .val (.ref w2), .unset, .unset, .unset] [])) t_
      refine XS.iloadN X41.here hx rfl (hb hby at_168) rfl ?_
      show Steps p_.tables e_ below (T41.setTop (mkF m_ 169 #[.val (.int (2 : Int32)), .val (.int t), .val (.int d), .val (.ref b1), .val (.int (own_a d)), .val (.int (own_g d)), .val (.int (own_h d)), .val (.ref b28), .val (.ref w2), .unset, .unset, .unset] [(.int (2 : Int32))])) t_
      refine XS.iconst X41.here hx rfl (hb hby at_169) ?_
      show Steps p_.tables e_ below (T41.setTop (mkF m_ 170 #[.val (.int (2 : Int32)), .val (.int t), .val (.int d), .val (.ref b1), .val (.int (own_a d)), .val (.int (own_g d)), .val (.int (own_h d)), .val (.ref b28), .val (.ref w2), .unset, .unset, .unset] [(.int (1 : Int32)), (.int (2 : Int32))])) t_
      refine XS.icmpYes X41.here hx rfl (pc0 := 170) (pc' := 180) rfl (hb hby at_170) rfl (feq (by decide : ¬ ((2 : Int32) = (1 : Int32)))).2 (by decide) (by decide) ?_
      show Steps p_.tables e_ below (T41.setTop (mkF m_ 180 #[.val (.int (2 : Int32)), .val (.int t), .val (.int d), .val (.ref b1), .val (.int (own_a d)), .val (.int (own_g d)), .val (.int (own_h d)), .val (.ref b28), .val (.ref w2), .unset, .unset, .unset] [])) t_
      refine XS.iloadN X41.here hx rfl (hb hby at_180) rfl ?_
      show Steps p_.tables e_ below (T41.setTop (mkF m_ 181 #[.val (.int (2 : Int32)), .val (.int t), .val (.int d), .val (.ref b1), .val (.int (own_a d)), .val (.int (own_g d)), .val (.int (own_h d)), .val (.ref b28), .val (.ref w2), .unset, .unset, .unset] [(.int t)])) t_
      refine XS.istore X41.here hx rfl (hb hby at_181) rfl (l' := #[.val (.int (2 : Int32)), .val (.int t), .val (.int d), .val (.ref b1), .val (.int (own_a d)), .val (.int (own_g d)), .val (.int (own_h d)), .val (.ref b28), .val (.ref w2), .val (.int t), .unset, .unset]) rfl ?_
      show Steps p_.tables e_ below (T41.setTop (mkF m_ 183 #[.val (.int (2 : Int32)), .val (.int t), .val (.int d), .val (.ref b1), .val (.int (own_a d)), .val (.int (own_g d)), .val (.int (own_h d)), .val (.ref b28), .val (.ref w2), .val (.int t), .unset, .unset] [])) t_
      refine XS.aload X41.here hx rfl (hb hby at_183) rfl rfl ?_
      show Steps p_.tables e_ below (T41.setTop (mkF m_ 185 #[.val (.int (2 : Int32)), .val (.int t), .val (.int d), .val (.ref b1), .val (.int (own_a d)), .val (.int (own_g d)), .val (.int (own_h d)), .val (.ref b28), .val (.ref w2), .val (.int t), .unset, .unset] [(.ref w2)])) t_
      refine XS.iloadN X41.here hx rfl (hb hby at_185) rfl ?_
      show Steps p_.tables e_ below (T41.setTop (mkF m_ 186 #[.val (.int (2 : Int32)), .val (.int t), .val (.int d), .val (.ref b1), .val (.int (own_a d)), .val (.int (own_g d)), .val (.int (own_h d)), .val (.ref b28), .val (.ref w2), .val (.int t), .unset, .unset] [(.int t), (.ref w2)])) t_
      exact k_
    refine own_callV X41 hx hZ (y := (⟨"com/example/banksum/banksum/uk/ExceptionRule", "total", "(I)I"⟩ : MethodName)) (z := (⟨"com/example/banksum/banksum/uk/ExceptionRule", "total", "(I)I"⟩ : MethodName)) hown (hw _ (List.mem_of_getElem? (i := 51) rfl)) (hw _ (List.mem_of_getElem? (i := 52) rfl)) (notFace_of_selects (args := #[]) (mvT hZ (hw _ (List.mem_of_getElem? (i := 89) rfl)))) (hw _ (List.mem_of_getElem? (i := 89) rfl)) (hw _ (List.mem_of_getElem? (i := 53) rfl)) (hw _ (List.mem_of_getElem? (i := 3) rfl)) (hw _ (List.mem_of_getElem? (i := 55) rfl)) (by decide) w2 [(.int t)] [] (E_w2.ext O.2) (rm3 l Z a0 hw w2 t h31 n0 Z0) 0 (by decide) (by decide) e41 (by rw [hml]; rfl) (lenOf own_pd1 rfl) rfl (Nat.le_of_eq rfl) (hb hby at_186) (by decide) (by decide) ?_
    intro v42 T42 L42 X42 q42
    obtain ⟨rfl, N42q, e42⟩ := q42
    have N42 := Fr.app N41 N42q
    show own_Out p_ e_ below s_ _ _ _ T42 (mkF m_ 189 #[.val (.int (2 : Int32)), .val (.int t), .val (.int d), .val (.ref b1), .val (.int (own_a d)), .val (.int (own_g d)), .val (.int (own_h d)), .val (.ref b28), .val (.ref w2), .val (.int t), .unset, .unset] [(.int (f3 w2 t))])
    refine own_st T42 (mkF m_ 222 #[.val (.int (2 : Int32)), .val (.int t), .val (.int d), .val (.ref b1), .val (.int (own_a d)), .val (.int (own_g d)), .val (.int (own_h d)), .val (.ref b28), .val (.ref w2), .val (.int t), .val (.int (1 : Int32)), .unset] [(.ref w2)]) (fun t_ k_ => ?_) ?_
    · refine XS.iload X42.here hx rfl (hb hby at_189) rfl ?_
      show Steps p_.tables e_ below (T42.setTop (mkF m_ 191 #[.val (.int (2 : Int32)), .val (.int t), .val (.int d), .val (.ref b1), .val (.int (own_a d)), .val (.int (own_g d)), .val (.int (own_h d)), .val (.ref b28), .val (.ref w2), .val (.int t), .unset, .unset] [(.int t), (.int (f3 w2 t))])) t_
      refine XS.icmpYes X42.here hx rfl (pc0 := 191) (pc' := 196) rfl (hb hby at_191) rfl (teq (rfl : (f3 w2 t) = t)).1 (by decide) (by decide) ?_
      show Steps p_.tables e_ below (T42.setTop (mkF m_ 196 #[.val (.int (2 : Int32)), .val (.int t), .val (.int d), .val (.ref b1), .val (.int (own_a d)), .val (.int (own_g d)), .val (.int (own_h d)), .val (.ref b28), .val (.ref w2), .val (.int t), .unset, .unset] [])) t_
      refine XS.iloadN X42.here hx rfl (hb hby at_196) rfl ?_
      show Steps p_.tables e_ below (T42.setTop (mkF m_ 197 #[.val (.int (2 : Int32)), .val (.int t), .val (.int d), .val (.ref b1), .val (.int (own_a d)), .val (.int (own_g d)), .val (.int (own_h d)), .val (.ref b28), .val (.ref w2), .val (.int t), .unset, .unset] [(.int (2 : Int32))])) t_
      refine XS.iconst X42.here hx rfl (hb hby at_197) ?_
      show Steps p_.tables e_ below (T42.setTop (mkF m_ 198 #[.val (.int (2 : Int32)), .val (.int t), .val (.int d), .val (.ref b1), .val (.int (own_a d)), .val (.int (own_g d)), .val (.int (own_h d)), .val (.ref b28), .val (.ref w2), .val (.int t), .unset, .unset] [(.int (2 : Int32)), (.int (2 : Int32))])) t_
      refine XS.icmpYes X42.here hx rfl (pc0 := 198) (pc' := 213) rfl (hb hby at_198) rfl (teq (by decide : (2 : Int32) = (2 : Int32))).1 (by decide) (by decide) ?_
      show Steps p_.tables e_ below (T42.setTop (mkF m_ 213 #[.val (.int (2 : Int32)), .val (.int t), .val (.int d), .val (.ref b1), .val (.int (own_a d)), .val (.int (own_g d)), .val (.int (own_h d)), .val (.ref b28), .val (.ref w2), .val (.int t), .unset, .unset] [])) t_
      refine XS.iconst X42.here hx rfl (hb hby at_213) ?_
      show Steps p_.tables e_ below (T42.setTop (mkF m_ 214 #[.val (.int (2 : Int32)), .val (.int t), .val (.int d), .val (.ref b1), .val (.int (own_a d)), .val (.int (own_g d)), .val (.int (own_h d)), .val (.ref b28), .val (.ref w2), .val (.int t), .unset, .unset] [(.int (1 : Int32))])) t_
      refine XS.goto X42.here hx rfl (pc0 := 214) (pc' := 218) rfl (hb hby at_214) (by decide) (by decide) ?_
      show Steps p_.tables e_ below (T42.setTop (mkF m_ 218 #[.val (.int (2 : Int32)), .val (.int t), .val (.int d), .val (.ref b1), .val (.int (own_a d)), .val (.int (own_g d)), .val (.int (own_h d)), .val (.ref b28), .val (.ref w2), .val (.int t), .unset, .unset] [(.int (1 : Int32))])) t_
      refine XS.istore X42.here hx rfl (hb hby at_218) rfl (l' := #[.val (.int (2 : Int32)), .val (.int t), .val (.int d), .val (.ref b1), .val (.int (own_a d)), .val (.int (own_g d)), .val (.int (own_h d)), .val (.ref b28), .val (.ref w2), .val (.int t), .val (.int (1 : Int32)), .unset]) rfl ?_
      show Steps p_.tables e_ below (T42.setTop (mkF m_ 220 #[.val (.int (2 : Int32)), .val (.int t), .val (.int d), .val (.ref b1), .val (.int (own_a d)), .val (.int (own_g d)), .val (.int (own_h d)), .val (.ref b28), .val (.ref w2), .val (.int t), .val (.int (1 : Int32)), .unset] [])) t_
      refine XS.aload X42.here hx rfl (hb hby at_220) rfl rfl ?_
      show Steps p_.tables e_ below (T42.setTop (mkF m_ 222 #[.val (.int (2 : Int32)), .val (.int t), .val (.int d), .val (.ref b1), .val (.int (own_a d)), .val (.int (own_g d)), .val (.int (own_h d)), .val (.ref b28), .val (.ref w2), .val (.int t), .val (.int (1 : Int32)), .unset] [(.ref w2)])) t_
      exact k_
    refine own_callV X42 hx hZ (y := (⟨"com/example/banksum/banksum/uk/ExceptionRule", "eitherPasses", "()Z"⟩ : MethodName)) (z := (⟨"com/example/banksum/banksum/uk/ExceptionRule$2", "eitherPasses", "()Z"⟩ : MethodName)) hown (hw _ (List.mem_of_getElem? (i := 56) rfl)) (hw _ (List.mem_of_getElem? (i := 57) rfl)) (notFace_of_selects (args := #[]) (mvT hZ (hw _ (List.mem_of_getElem? (i := 59) rfl)))) (hw _ (List.mem_of_getElem? (i := 90) rfl)) (hw _ (List.mem_of_getElem? (i := 91) rfl)) (hw _ (List.mem_of_getElem? (i := 92) rfl)) (hw _ (List.mem_of_getElem? (i := 93) rfl)) (by decide) w2 [] [] (E_w2.ext O.2) (rm8 l Z a0 hw w2 h31 n0 Z0) 0 (by decide) (by decide) e42 (by rw [hml]; rfl) (lenOf own_pd2 rfl) rfl (Nat.le_of_eq rfl) (hb hby at_222) (by decide) (by decide) ?_
    intro v43 T43 L43 X43 q43
    obtain ⟨rfl, N43q, e43⟩ := q43
    have N43 := Fr.app N42 N43q
    show own_Out p_ e_ below s_ _ _ _ T43 (mkF m_ 225 #[.val (.int (2 : Int32)), .val (.int t), .val (.int d), .val (.ref b1), .val (.int (own_a d)), .val (.int (own_g d)), .val (.int (own_h d)), .val (.ref b28), .val (.ref w2), .val (.int t), .val (.int (1 : Int32)), .unset] [(.int (f8 w2))])
    refine own_st T43 (mkF m_ 269 #[.val (.int (2 : Int32)), .val (.int t), .val (.int d), .val (.ref b1), .val (.int (own_a d)), .val (.int (own_g d)), .val (.int (own_h d)), .val (.ref b28), .val (.ref w2), .val (.int t), .val (.int (1 : Int32)), .val (.int (0 : Int32))] [(.ref b28), (.ref w2)]) (fun t_ k_ => ?_) ?_
    · refine XS.iload X43.here hx rfl (hb hby at_225) rfl ?_
      show Steps p_.tables e_ below (T43.setTop (mkF m_ 227 #[.val (.int (2 : Int32)), .val (.int t), .val (.int d), .val (.ref b1), .val (.int (own_a d)), .val (.int (own_g d)), .val (.int (own_h d)), .val (.ref b28), .val (.ref w2), .val (.int t), .val (.int (1 : Int32)), .unset] [(.int (1 : Int32)), (.int (f8 w2))])) t_
      refine XS.icmpYes X43.here hx rfl (pc0 := 227) (pc' := 232) rfl (hb hby at_227) rfl (teq (rfl : (f8 w2) = (1 : Int32))).1 (by decide) (by decide) ?_
      show Steps p_.tables e_ below (T43.setTop (mkF m_ 232 #[.val (.int (2 : Int32)), .val (.int t), .val (.int d), .val (.ref b1), .val (.int (own_a d)), .val (.int (own_g d)), .val (.int (own_h d)), .val (.ref b28), .val (.ref w2), .val (.int t), .val (.int (1 : Int32)), .unset] [])) t_
      refine XS.iloadN X43.here hx rfl (hb hby at_232) rfl ?_
      show Steps p_.tables e_ below (T43.setTop (mkF m_ 233 #[.val (.int (2 : Int32)), .val (.int t), .val (.int d), .val (.ref b1), .val (.int (own_a d)), .val (.int (own_g d)), .val (.int (own_h d)), .val (.ref b28), .val (.ref w2), .val (.int t), .val (.int (1 : Int32)), .unset] [(.int (2 : Int32))])) t_
      refine XS.bipush X43.here hx rfl (hb hby at_233) ?_
      show Steps p_.tables e_ below (T43.setTop (mkF m_ 235 #[.val (.int (2 : Int32)), .val (.int t), .val (.int d), .val (.ref b1), .val (.int (own_a d)), .val (.int (own_g d)), .val (.int (own_h d)), .val (.ref b28), .val (.ref w2), .val (.int t), .val (.int (1 : Int32)), .unset] [(.int (6 : Int32)), (.int (2 : Int32))])) t_
      refine XS.icmpYes X43.here hx rfl (pc0 := 235) (pc' := 262) rfl (hb hby at_235) rfl (feq (by decide : ¬ ((2 : Int32) = (6 : Int32)))).2 (by decide) (by decide) ?_
      show Steps p_.tables e_ below (T43.setTop (mkF m_ 262 #[.val (.int (2 : Int32)), .val (.int t), .val (.int d), .val (.ref b1), .val (.int (own_a d)), .val (.int (own_g d)), .val (.int (own_h d)), .val (.ref b28), .val (.ref w2), .val (.int t), .val (.int (1 : Int32)), .unset] [])) t_
      refine XS.iconst X43.here hx rfl (hb hby at_262) ?_
      show Steps p_.tables e_ below (T43.setTop (mkF m_ 263 #[.val (.int (2 : Int32)), .val (.int t), .val (.int d), .val (.ref b1), .val (.int (own_a d)), .val (.int (own_g d)), .val (.int (own_h d)), .val (.ref b28), .val (.ref w2), .val (.int t), .val (.int (1 : Int32)), .unset] [(.int (0 : Int32))])) t_
      refine XS.istore X43.here hx rfl (hb hby at_263) rfl (l' := #[.val (.int (2 : Int32)), .val (.int t), .val (.int d), .val (.ref b1), .val (.int (own_a d)), .val (.int (own_g d)), .val (.int (own_h d)), .val (.ref b28), .val (.ref w2), .val (.int t), .val (.int (1 : Int32)), .val (.int (0 : Int32))]) rfl ?_
      show Steps p_.tables e_ below (T43.setTop (mkF m_ 265 #[.val (.int (2 : Int32)), .val (.int t), .val (.int d), .val (.ref b1), .val (.int (own_a d)), .val (.int (own_g d)), .val (.int (own_h d)), .val (.ref b28), .val (.ref w2), .val (.int t), .val (.int (1 : Int32)), .val (.int (0 : Int32))] [])) t_
      refine XS.aload X43.here hx rfl (hb hby at_265) rfl rfl ?_
      show Steps p_.tables e_ below (T43.setTop (mkF m_ 267 #[.val (.int (2 : Int32)), .val (.int t), .val (.int d), .val (.ref b1), .val (.int (own_a d)), .val (.int (own_g d)), .val (.int (own_h d)), .val (.ref b28), .val (.ref w2), .val (.int t), .val (.int (1 : Int32)), .val (.int (0 : Int32))] [(.ref w2)])) t_
      refine XS.aload X43.here hx rfl (hb hby at_267) rfl rfl ?_
      show Steps p_.tables e_ below (T43.setTop (mkF m_ 269 #[.val (.int (2 : Int32)), .val (.int t), .val (.int d), .val (.ref b1), .val (.int (own_a d)), .val (.int (own_g d)), .val (.int (own_h d)), .val (.ref b28), .val (.ref w2), .val (.int t), .val (.int (1 : Int32)), .val (.int (0 : Int32))] [(.ref b28), (.ref w2)])) t_
      exact k_
    refine own_callV X43 hx hZ (y := (⟨"com/example/banksum/banksum/uk/ExceptionRule", "foreignCurrency", "([I)Z"⟩ : MethodName)) (z := (⟨"com/example/banksum/banksum/uk/ExceptionRule", "foreignCurrency", "([I)Z"⟩ : MethodName)) hown (hw _ (List.mem_of_getElem? (i := 61) rfl)) (hw _ (List.mem_of_getElem? (i := 62) rfl)) (notFace_of_selects (args := #[]) (mvT hZ (hw _ (List.mem_of_getElem? (i := 94) rfl)))) (hw _ (List.mem_of_getElem? (i := 94) rfl)) (hw _ (List.mem_of_getElem? (i := 63) rfl)) (hw _ (List.mem_of_getElem? (i := 3) rfl)) (hw _ (List.mem_of_getElem? (i := 65) rfl)) (by decide) w2 [(.ref b28)] [] (E_w2.ext O.2) (rm5 l Z a0 hw w2 b28 h31 n0 Z0) 0 (by decide) (by decide) e43 (by rw [hml]; rfl) (lenOf own_pd3 rfl) rfl (Nat.le_of_eq rfl) (hb hby at_269) (by decide) (by decide) ?_
    intro v44 T44 L44 X44 q44
    obtain ⟨rfl, N44q, e44⟩ := q44
    have N44 := Fr.app N43 N44q
    show own_Out p_ e_ below s_ _ _ _ T44 (mkF m_ 272 #[.val (.int (2 : Int32)), .val (.int t), .val (.int d), .val (.ref b1), .val (.int (own_a d)), .val (.int (own_g d)), .val (.int (own_h d)), .val (.ref b28), .val (.ref w2), .val (.int t), .val (.int (1 : Int32)), .val (.int (0 : Int32))] [(.int (f5 w2 b28))])
    refine own_st T44 (mkF m_ 282 #[.val (.int (2 : Int32)), .val (.int t), .val (.int d), .val (.ref b1), .val (.int (own_a d)), .val (.int (own_g d)), .val (.int (own_h d)), .val (.ref b28), .val (.ref w2), .val (.int t), .val (.int (1 : Int32)), .val (.int (0 : Int32))] [(.int (1 : Int32))]) (fun t_ k_ => ?_) ?_
    · refine XS.iload X44.here hx rfl (hb hby at_272) rfl ?_
      show Steps p_.tables e_ below (T44.setTop (mkF m_ 274 #[.val (.int (2 : Int32)), .val (.int t), .val (.int d), .val (.ref b1), .val (.int (own_a d)), .val (.int (own_g d)), .val (.int (own_h d)), .val (.ref b28), .val (.ref w2), .val (.int t), .val (.int (1 : Int32)), .val (.int (0 : Int32))] [(.int (0 : Int32)), (.int (f5 w2 b28))])) t_
      refine XS.icmpNo X44.here hx rfl (hb hby at_274) rfl (teq (rfl : (f5 w2 b28) = (0 : Int32))).2 ?_
      show Steps p_.tables e_ below (T44.setTop (mkF m_ 277 #[.val (.int (2 : Int32)), .val (.int t), .val (.int d), .val (.ref b1), .val (.int (own_a d)), .val (.int (own_g d)), .val (.int (own_h d)), .val (.ref b28), .val (.ref w2), .val (.int t), .val (.int (1 : Int32)), .val (.int (0 : Int32))] [])) t_
      refine XS.iconst X44.here hx rfl (hb hby at_277) ?_
      show Steps p_.tables e_ below (T44.setTop (mkF m_ 278 #[.val (.int (2 : Int32)), .val (.int t), .val (.int d), .val (.ref b1), .val (.int (own_a d)), .val (.int (own_g d)), .val (.int (own_h d)), .val (.ref b28), .val (.ref w2), .val (.int t), .val (.int (1 : Int32)), .val (.int (0 : Int32))] [(.int (1 : Int32))])) t_
      refine XS.goto X44.here hx rfl (pc0 := 278) (pc' := 282) rfl (hb hby at_278) (by decide) (by decide) ?_
      show Steps p_.tables e_ below (T44.setTop (mkF m_ 282 #[.val (.int (2 : Int32)), .val (.int t), .val (.int d), .val (.ref b1), .val (.int (own_a d)), .val (.int (own_g d)), .val (.int (own_h d)), .val (.ref b28), .val (.ref w2), .val (.int t), .val (.int (1 : Int32)), .val (.int (0 : Int32))] [(.int (1 : Int32))])) t_
      exact k_
    refine own_retN X44 hx hlk (t := .boolean) hret (by simp) (hb hby at_282) (by decide) (by decide) ?_
    exact ⟨rfl, N44⟩
  · show own_Out p_ e_ below s_ _ _ _ T32 (mkF m_ 153 #[.val (.int (3 : Int32)), .val (.int t), .val (.int d), .val (.ref b1), .val (.int (own_a d)), .val (.int (own_g d)), .val (.int (own_h d)), .val (.ref b28), .unset, .unset, .unset, .unset] [(.ref w3)])
    refine own_st T32 (mkF m_ 159 #[.val (.int (3 : Int32)), .val (.int t), .val (.int d), .val (.ref b1), .val (.int (own_a d)), .val (.int (own_g d)), .val (.int (own_h d)), .val (.ref b28), .val (.ref w3), .unset, .unset, .unset] [(.int (3 : Int32)), (.ref b1), (.ref w3)]) (fun t_ k_ => ?_) ?_
    · refine XS.astore X32.here hx rfl (hb hby at_153) rfl rfl (l' := #[.val (.int (3 : Int32)), .val (.int t), .val (.int d), .val (.ref b1), .val (.int (own_a d)), .val (.int (own_g d)), .val (.int (own_h d)), .val (.ref b28), .val (.ref w3), .unset, .unset, .unset]) rfl ?_
      show Steps p_.tables e_ below (T32.setTop (mkF m_ 155 #[.val (.int (3 : Int32)), .val (.int t), .val (.int d), .val (.ref b1), .val (.int (own_a d)), .val (.int (own_g d)), .val (.int (own_h d)), .val (.ref b28), .val (.ref w3), .unset, .unset, .unset] [])) t_
      refine XS.aload X32.here hx rfl (hb hby at_155) rfl rfl ?_
      show Steps p_.tables e_ below (T32.setTop (mkF m_ 157 #[.val (.int (3 : Int32)), .val (.int t), .val (.int d), .val (.ref b1), .val (.int (own_a d)), .val (.int (own_g d)), .val (.int (own_h d)), .val (.ref b28), .val (.ref w3), .unset, .unset, .unset] [(.ref w3)])) t_
      refine XS.aloadN X32.here hx rfl (hb hby at_157) rfl rfl ?_
      show Steps p_.tables e_ below (T32.setTop (mkF m_ 158 #[.val (.int (3 : Int32)), .val (.int t), .val (.int d), .val (.ref b1), .val (.int (own_a d)), .val (.int (own_g d)), .val (.int (own_h d)), .val (.ref b28), .val (.ref w3), .unset, .unset, .unset] [(.ref b1), (.ref w3)])) t_
      refine XS.iloadN X32.here hx rfl (hb hby at_158) rfl ?_
      show Steps p_.tables e_ below (T32.setTop (mkF m_ 159 #[.val (.int (3 : Int32)), .val (.int t), .val (.int d), .val (.ref b1), .val (.int (own_a d)), .val (.int (own_g d)), .val (.int (own_h d)), .val (.ref b28), .val (.ref w3), .unset, .unset, .unset] [(.int (3 : Int32)), (.ref b1), (.ref w3)])) t_
      exact k_
    refine own_callS X32 hx hZ hown (hw _ (List.mem_of_getElem? (i := 47) rfl)) (hw _ (List.mem_of_getElem? (i := 48) rfl)) (hw _ (List.mem_of_getElem? (i := 49) rfl)) (hw _ (List.mem_of_getElem? (i := 50) rfl)) (by decide) [(.int (3 : Int32))] [(.ref b1), (.ref w3)] (rm2 l Z a0 hw (3 : Int32) h31 n0 Z0) 2 (by decide) (by decide) e32 (by rw [hml]; rfl) (lenOf own_pd1 rfl) rfl (Nat.le_of_eq rfl) (hb hby at_159) (by decide) (by decide) ?_
    intro v45 T45 L45 X45 q45
    obtain ⟨rfl, N45q, e45⟩ := q45
    have N45 := Fr.app N32 N45q
    rw [show (f2 (3 : Int32)) = 3 from by decide]
    show own_Out p_ e_ below s_ _ _ _ T45 (mkF m_ 162 #[.val (.int (3 : Int32)), .val (.int t), .val (.int d), .val (.ref b1), .val (.int (own_a d)), .val (.int (own_g d)), .val (.int (own_h d)), .val (.ref b28), .val (.ref w3), .unset, .unset, .unset] [(.int (3 : Int32)), (.ref b1), (.ref w3)])
    refine own_st T45 (mkF m_ 186 #[.val (.int (3 : Int32)), .val (.int t), .val (.int d), .val (.ref b1), .val (.int (own_a d)), .val (.int (own_g d)), .val (.int (own_h d)), .val (.ref b28), .val (.ref w3), .val (.int t), .unset, .unset] [(.int t), (.ref w3)]) (fun t_ k_ => ?_) ?_
    · refine own_ldR X45 hx hZ e45 A_b1 rfl 3 (by decide) (by decide) (hb hby at_162) _ ?_
      show Steps p_.tables e_ below (T45.setTop (mkF m_ 163 #[.val (.int (3 : Int32)), .val (.int t), .val (.int d), .val (.ref b1), .val (.int (own_a d)), .val (.int (own_g d)), .val (.int (own_h d)), .val (.ref b28), .val (.ref w3), .unset, .unset, .unset] [(.ref w3), (.ref w3)])) t_
      refine Jvm.RoadKit.acmp (g := (mkF m_ 163 #[.val (.int (3 : Int32)), .val (.int t), .val (.int d), .val (.ref b1), .val (.int (own_a d)), .val (.int (own_g d)), .val (.int (own_h d)), .val (.ref b28), .val (.ref w3), .unset, .unset, .unset] [(.ref w3), (.ref w3)])) X45 hx rfl rfl rfl (pc0 := 163) (pc' := 168) (same := true) rfl (hb hby at_163) rfl (decide_eq_true rfl) (by decide) (by decide) ?_
      show Steps p_.tables e_ below (T45.setTop (mkF m_ 168 #[.val (.int (3 : Int32)), .val (.int t), .val (.int d), .val (.ref b1), .val (.int (own_a d)), .val (.int (own_g d)), .val (.int (own_h d)), .val (.ref b28), .val (.ref w3), .unset, .unset, .unset] [])) t_
      refine XS.iloadN X45.here hx rfl (hb hby at_168) rfl ?_
      show Steps p_.tables e_ below (T45.setTop (mkF m_ 169 #[.val (.int (3 : Int32)), .val (.int t), .val (.int d), .val (.ref b1), .val (.int (own_a d)), .val (.int (own_g d)), .val (.int (own_h d)), .val (.ref b28), .val (.ref w3), .unset, .unset, .unset] [(.int (3 : Int32))])) t_
      refine XS.iconst X45.here hx rfl (hb hby at_169) ?_
      show Steps p_.tables e_ below (T45.setTop (mkF m_ 170 #[.val (.int (3 : Int32)), .val (.int t), .val (.int d), .val (.ref b1), .val (.int (own_a d)), .val (.int (own_g d)), .val (.int (own_h d)), .val (.ref b28), .val (.ref w3), .unset, .unset, .unset] [(.int (1 : Int32)), (.int (3 : Int32))])) t_
      refine XS.icmpYes X45.here hx rfl (pc0 := 170) (pc' := 180) rfl (hb hby at_170) rfl (feq (by decide : ¬ ((3 : Int32) = (1 : Int32)))).2 (by decide) (by decide) ?_
      show Steps p_.tables e_ below (T45.setTop (mkF m_ 180 #[.val (.int (3 : Int32)), .val (.int t), .val (.int d), .val (.ref b1), .val (.int (own_a d)), .val (.int (own_g d)), .val (.int (own_h d)), .val (.ref b28), .val (.ref w3), .unset, .unset, .unset] [])) t_
      refine XS.iloadN X45.here hx rfl (hb hby at_180) rfl ?_
      show Steps p_.tables e_ below (T45.setTop (mkF m_ 181 #[.val (.int (3 : Int32)), .val (.int t), .val (.int d), .val (.ref b1), .val (.int (own_a d)), .val (.int (own_g d)), .val (.int (own_h d)), .val (.ref b28), .val (.ref w3), .unset, .unset, .unset] [(.int t)])) t_
      refine XS.istore X45.here hx rfl (hb hby at_181) rfl (l' := #[.val (.int (3 : Int32)), .val (.int t), .val (.int d), .val (.ref b1), .val (.int (own_a d)), .val (.int (own_g d)), .val (.int (own_h d)), .val (.ref b28), .val (.ref w3), .val (.int t), .unset, .unset]) rfl ?_
      show Steps p_.tables e_ below (T45.setTop (mkF m_ 183 #[.val (.int (3 : Int32)), .val (.int t), .val (.int d), .val (.ref b1), .val (.int (own_a d)), .val (.int (own_g d)), .val (.int (own_h d)), .val (.ref b28), .val (.ref w3), .val (.int t), .unset, .unset] [])) t_
      refine XS.aload X45.here hx rfl (hb hby at_183) rfl rfl ?_
      show Steps p_.tables e_ below (T45.setTop (mkF m_ 185 #[.val (.int (3 : Int32)), .val (.int t), .val (.int d), .val (.ref b1), .val (.int (own_a d)), .val (.int (own_g d)), .val (.int (own_h d)), .val (.ref b28), .val (.ref w3), .val (.int t), .unset, .unset] [(.ref w3)])) t_
      refine XS.iloadN X45.here hx rfl (hb hby at_185) rfl ?_
      show Steps p_.tables e_ below (T45.setTop (mkF m_ 186 #[.val (.int (3 : Int32)), .val (.int t), .val (.int d), .val (.ref b1), .val (.int (own_a d)), .val (.int (own_g d)), .val (.int (own_h d)), .val (.ref b28), .val (.ref w3), .val (.int t), .unset, .unset] [(.int t), (.ref w3)])) t_
      exact k_
    refine own_callV X45 hx hZ (y := (⟨"com/example/banksum/banksum/uk/ExceptionRule", "total", "(I)I"⟩ : MethodName)) (z := (⟨"com/example/banksum/banksum/uk/ExceptionRule", "total", "(I)I"⟩ : MethodName)) hown (hw _ (List.mem_of_getElem? (i := 51) rfl)) (hw _ (List.mem_of_getElem? (i := 52) rfl)) (notFace_of_selects (args := #[]) (mvT hZ (hw _ (List.mem_of_getElem? (i := 78) rfl)))) (hw _ (List.mem_of_getElem? (i := 78) rfl)) (hw _ (List.mem_of_getElem? (i := 53) rfl)) (hw _ (List.mem_of_getElem? (i := 3) rfl)) (hw _ (List.mem_of_getElem? (i := 55) rfl)) (by decide) w3 [(.int t)] [] (E_w3.ext O.2) (rm3 l Z a0 hw w3 t h31 n0 Z0) 0 (by decide) (by decide) e45 (by rw [hml]; rfl) (lenOf own_pd1 rfl) rfl (Nat.le_of_eq rfl) (hb hby at_186) (by decide) (by decide) ?_
    intro v46 T46 L46 X46 q46
    obtain ⟨rfl, N46q, e46⟩ := q46
    have N46 := Fr.app N45 N46q
    show own_Out p_ e_ below s_ _ _ _ T46 (mkF m_ 189 #[.val (.int (3 : Int32)), .val (.int t), .val (.int d), .val (.ref b1), .val (.int (own_a d)), .val (.int (own_g d)), .val (.int (own_h d)), .val (.ref b28), .val (.ref w3), .val (.int t), .unset, .unset] [(.int (f3 w3 t))])
    refine own_st T46 (mkF m_ 222 #[.val (.int (3 : Int32)), .val (.int t), .val (.int d), .val (.ref b1), .val (.int (own_a d)), .val (.int (own_g d)), .val (.int (own_h d)), .val (.ref b28), .val (.ref w3), .val (.int t), .val (.int (0 : Int32)), .unset] [(.ref w3)]) (fun t_ k_ => ?_) ?_
    · refine XS.iload X46.here hx rfl (hb hby at_189) rfl ?_
      show Steps p_.tables e_ below (T46.setTop (mkF m_ 191 #[.val (.int (3 : Int32)), .val (.int t), .val (.int d), .val (.ref b1), .val (.int (own_a d)), .val (.int (own_g d)), .val (.int (own_h d)), .val (.ref b28), .val (.ref w3), .val (.int t), .unset, .unset] [(.int t), (.int (f3 w3 t))])) t_
      refine XS.icmpYes X46.here hx rfl (pc0 := 191) (pc' := 196) rfl (hb hby at_191) rfl (teq (rfl : (f3 w3 t) = t)).1 (by decide) (by decide) ?_
      show Steps p_.tables e_ below (T46.setTop (mkF m_ 196 #[.val (.int (3 : Int32)), .val (.int t), .val (.int d), .val (.ref b1), .val (.int (own_a d)), .val (.int (own_g d)), .val (.int (own_h d)), .val (.ref b28), .val (.ref w3), .val (.int t), .unset, .unset] [])) t_
      refine XS.iloadN X46.here hx rfl (hb hby at_196) rfl ?_
      show Steps p_.tables e_ below (T46.setTop (mkF m_ 197 #[.val (.int (3 : Int32)), .val (.int t), .val (.int d), .val (.ref b1), .val (.int (own_a d)), .val (.int (own_g d)), .val (.int (own_h d)), .val (.ref b28), .val (.ref w3), .val (.int t), .unset, .unset] [(.int (3 : Int32))])) t_
      refine XS.iconst X46.here hx rfl (hb hby at_197) ?_
      show Steps p_.tables e_ below (T46.setTop (mkF m_ 198 #[.val (.int (3 : Int32)), .val (.int t), .val (.int d), .val (.ref b1), .val (.int (own_a d)), .val (.int (own_g d)), .val (.int (own_h d)), .val (.ref b28), .val (.ref w3), .val (.int t), .unset, .unset] [(.int (2 : Int32)), (.int (3 : Int32))])) t_
      refine XS.icmpNo X46.here hx rfl (hb hby at_198) rfl (feq (by decide : ¬ ((3 : Int32) = (2 : Int32)))).1 ?_
      show Steps p_.tables e_ below (T46.setTop (mkF m_ 201 #[.val (.int (3 : Int32)), .val (.int t), .val (.int d), .val (.ref b1), .val (.int (own_a d)), .val (.int (own_g d)), .val (.int (own_h d)), .val (.ref b28), .val (.ref w3), .val (.int t), .unset, .unset] [])) t_
      refine XS.iloadN X46.here hx rfl (hb hby at_201) rfl ?_
      show Steps p_.tables e_ below (T46.setTop (mkF m_ 202 #[.val (.int (3 : Int32)), .val (.int t), .val (.int d), .val (.ref b1), .val (.int (own_a d)), .val (.int (own_g d)), .val (.int (own_h d)), .val (.ref b28), .val (.ref w3), .val (.int t), .unset, .unset] [(.int (3 : Int32))])) t_
      refine XS.bipush X46.here hx rfl (hb hby at_202) ?_
      show Steps p_.tables e_ below (T46.setTop (mkF m_ 204 #[.val (.int (3 : Int32)), .val (.int t), .val (.int d), .val (.ref b1), .val (.int (own_a d)), .val (.int (own_g d)), .val (.int (own_h d)), .val (.ref b28), .val (.ref w3), .val (.int t), .unset, .unset] [(.int (10 : Int32)), (.int (3 : Int32))])) t_
      refine XS.icmpNo X46.here hx rfl (hb hby at_204) rfl (feq (by decide : ¬ ((3 : Int32) = (10 : Int32)))).1 ?_
      show Steps p_.tables e_ below (T46.setTop (mkF m_ 207 #[.val (.int (3 : Int32)), .val (.int t), .val (.int d), .val (.ref b1), .val (.int (own_a d)), .val (.int (own_g d)), .val (.int (own_h d)), .val (.ref b28), .val (.ref w3), .val (.int t), .unset, .unset] [])) t_
      refine XS.iloadN X46.here hx rfl (hb hby at_207) rfl ?_
      show Steps p_.tables e_ below (T46.setTop (mkF m_ 208 #[.val (.int (3 : Int32)), .val (.int t), .val (.int d), .val (.ref b1), .val (.int (own_a d)), .val (.int (own_g d)), .val (.int (own_h d)), .val (.ref b28), .val (.ref w3), .val (.int t), .unset, .unset] [(.int (3 : Int32))])) t_
      refine XS.bipush X46.here hx rfl (hb hby at_208) ?_
      show Steps p_.tables e_ below (T46.setTop (mkF m_ 210 #[.val (.int (3 : Int32)), .val (.int t), .val (.int d), .val (.ref b1), .val (.int (own_a d)), .val (.int (own_g d)), .val (.int (own_h d)), .val (.ref b28), .val (.ref w3), .val (.int t), .unset, .unset] [(.int (12 : Int32)), (.int (3 : Int32))])) t_
      refine XS.icmpYes X46.here hx rfl (pc0 := 210) (pc' := 217) rfl (hb hby at_210) rfl (feq (by decide : ¬ ((3 : Int32) = (12 : Int32)))).2 (by decide) (by decide) ?_
      show Steps p_.tables e_ below (T46.setTop (mkF m_ 217 #[.val (.int (3 : Int32)), .val (.int t), .val (.int d), .val (.ref b1), .val (.int (own_a d)), .val (.int (own_g d)), .val (.int (own_h d)), .val (.ref b28), .val (.ref w3), .val (.int t), .unset, .unset] [])) t_
      refine XS.iconst X46.here hx rfl (hb hby at_217) ?_
      show Steps p_.tables e_ below (T46.setTop (mkF m_ 218 #[.val (.int (3 : Int32)), .val (.int t), .val (.int d), .val (.ref b1), .val (.int (own_a d)), .val (.int (own_g d)), .val (.int (own_h d)), .val (.ref b28), .val (.ref w3), .val (.int t), .unset, .unset] [(.int (0 : Int32))])) t_
      refine XS.istore X46.here hx rfl (hb hby at_218) rfl (l' := #[.val (.int (3 : Int32)), .val (.int t), .val (.int d), .val (.ref b1), .val (.int (own_a d)), .val (.int (own_g d)), .val (.int (own_h d)), .val (.ref b28), .val (.ref w3), .val (.int t), .val (.int (0 : Int32)), .unset]) rfl ?_
      show Steps p_.tables e_ below (T46.setTop (mkF m_ 220 #[.val (.int (3 : Int32)), .val (.int t), .val (.int d), .val (.ref b1), .val (.int (own_a d)), .val (.int (own_g d)), .val (.int (own_h d)), .val (.ref b28), .val (.ref w3), .val (.int t), .val (.int (0 : Int32)), .unset] [])) t_
      refine XS.aload X46.here hx rfl (hb hby at_220) rfl rfl ?_
      show Steps p_.tables e_ below (T46.setTop (mkF m_ 222 #[.val (.int (3 : Int32)), .val (.int t), .val (.int d), .val (.ref b1), .val (.int (own_a d)), .val (.int (own_g d)), .val (.int (own_h d)), .val (.ref b28), .val (.ref w3), .val (.int t), .val (.int (0 : Int32)), .unset] [(.ref w3)])) t_
      exact k_
    refine own_callV X46 hx hZ (y := (⟨"com/example/banksum/banksum/uk/ExceptionRule", "eitherPasses", "()Z"⟩ : MethodName)) (z := (⟨"com/example/banksum/banksum/uk/ExceptionRule", "eitherPasses", "()Z"⟩ : MethodName)) hown (hw _ (List.mem_of_getElem? (i := 56) rfl)) (hw _ (List.mem_of_getElem? (i := 57) rfl)) (notFace_of_selects (args := #[]) (mvT hZ (hw _ (List.mem_of_getElem? (i := 79) rfl)))) (hw _ (List.mem_of_getElem? (i := 79) rfl)) (hw _ (List.mem_of_getElem? (i := 58) rfl)) (hw _ (List.mem_of_getElem? (i := 3) rfl)) (hw _ (List.mem_of_getElem? (i := 60) rfl)) (by decide) w3 [] [] (E_w3.ext O.2) (rm4 l Z a0 hw w3 h31 n0 Z0) 0 (by decide) (by decide) e46 (by rw [hml]; rfl) (lenOf own_pd2 rfl) rfl (Nat.le_of_eq rfl) (hb hby at_222) (by decide) (by decide) ?_
    intro v47 T47 L47 X47 q47
    obtain ⟨rfl, N47q, e47⟩ := q47
    have N47 := Fr.app N46 N47q
    show own_Out p_ e_ below s_ _ _ _ T47 (mkF m_ 225 #[.val (.int (3 : Int32)), .val (.int t), .val (.int d), .val (.ref b1), .val (.int (own_a d)), .val (.int (own_g d)), .val (.int (own_h d)), .val (.ref b28), .val (.ref w3), .val (.int t), .val (.int (0 : Int32)), .unset] [(.int (f4 w3))])
    refine own_st T47 (mkF m_ 269 #[.val (.int (3 : Int32)), .val (.int t), .val (.int d), .val (.ref b1), .val (.int (own_a d)), .val (.int (own_g d)), .val (.int (own_h d)), .val (.ref b28), .val (.ref w3), .val (.int t), .val (.int (0 : Int32)), .val (.int (0 : Int32))] [(.ref b28), (.ref w3)]) (fun t_ k_ => ?_) ?_
    · refine XS.iload X47.here hx rfl (hb hby at_225) rfl ?_
      show Steps p_.tables e_ below (T47.setTop (mkF m_ 227 #[.val (.int (3 : Int32)), .val (.int t), .val (.int d), .val (.ref b1), .val (.int (own_a d)), .val (.int (own_g d)), .val (.int (own_h d)), .val (.ref b28), .val (.ref w3), .val (.int t), .val (.int (0 : Int32)), .unset] [(.int (0 : Int32)), (.int (f4 w3))])) t_
      refine XS.icmpYes X47.here hx rfl (pc0 := 227) (pc' := 232) rfl (hb hby at_227) rfl (teq (rfl : (f4 w3) = (0 : Int32))).1 (by decide) (by decide) ?_
      show Steps p_.tables e_ below (T47.setTop (mkF m_ 232 #[.val (.int (3 : Int32)), .val (.int t), .val (.int d), .val (.ref b1), .val (.int (own_a d)), .val (.int (own_g d)), .val (.int (own_h d)), .val (.ref b28), .val (.ref w3), .val (.int t), .val (.int (0 : Int32)), .unset] [])) t_
      refine XS.iloadN X47.here hx rfl (hb hby at_232) rfl ?_
      show Steps p_.tables e_ below (T47.setTop (mkF m_ 233 #[.val (.int (3 : Int32)), .val (.int t), .val (.int d), .val (.ref b1), .val (.int (own_a d)), .val (.int (own_g d)), .val (.int (own_h d)), .val (.ref b28), .val (.ref w3), .val (.int t), .val (.int (0 : Int32)), .unset] [(.int (3 : Int32))])) t_
      refine XS.bipush X47.here hx rfl (hb hby at_233) ?_
      show Steps p_.tables e_ below (T47.setTop (mkF m_ 235 #[.val (.int (3 : Int32)), .val (.int t), .val (.int d), .val (.ref b1), .val (.int (own_a d)), .val (.int (own_g d)), .val (.int (own_h d)), .val (.ref b28), .val (.ref w3), .val (.int t), .val (.int (0 : Int32)), .unset] [(.int (6 : Int32)), (.int (3 : Int32))])) t_
      refine XS.icmpYes X47.here hx rfl (pc0 := 235) (pc' := 262) rfl (hb hby at_235) rfl (feq (by decide : ¬ ((3 : Int32) = (6 : Int32)))).2 (by decide) (by decide) ?_
      show Steps p_.tables e_ below (T47.setTop (mkF m_ 262 #[.val (.int (3 : Int32)), .val (.int t), .val (.int d), .val (.ref b1), .val (.int (own_a d)), .val (.int (own_g d)), .val (.int (own_h d)), .val (.ref b28), .val (.ref w3), .val (.int t), .val (.int (0 : Int32)), .unset] [])) t_
      refine XS.iconst X47.here hx rfl (hb hby at_262) ?_
      show Steps p_.tables e_ below (T47.setTop (mkF m_ 263 #[.val (.int (3 : Int32)), .val (.int t), .val (.int d), .val (.ref b1), .val (.int (own_a d)), .val (.int (own_g d)), .val (.int (own_h d)), .val (.ref b28), .val (.ref w3), .val (.int t), .val (.int (0 : Int32)), .unset] [(.int (0 : Int32))])) t_
      refine XS.istore X47.here hx rfl (hb hby at_263) rfl (l' := #[.val (.int (3 : Int32)), .val (.int t), .val (.int d), .val (.ref b1), .val (.int (own_a d)), .val (.int (own_g d)), .val (.int (own_h d)), .val (.ref b28), .val (.ref w3), .val (.int t), .val (.int (0 : Int32)), .val (.int (0 : Int32))]) rfl ?_
      show Steps p_.tables e_ below (T47.setTop (mkF m_ 265 #[.val (.int (3 : Int32)), .val (.int t), .val (.int d), .val (.ref b1), .val (.int (own_a d)), .val (.int (own_g d)), .val (.int (own_h d)), .val (.ref b28), .val (.ref w3), .val (.int t), .val (.int (0 : Int32)), .val (.int (0 : Int32))] [])) t_
      refine XS.aload X47.here hx rfl (hb hby at_265) rfl rfl ?_
      show Steps p_.tables e_ below (T47.setTop (mkF m_ 267 #[.val (.int (3 : Int32)), .val (.int t), .val (.int d), .val (.ref b1), .val (.int (own_a d)), .val (.int (own_g d)), .val (.int (own_h d)), .val (.ref b28), .val (.ref w3), .val (.int t), .val (.int (0 : Int32)), .val (.int (0 : Int32))] [(.ref w3)])) t_
      refine XS.aload X47.here hx rfl (hb hby at_267) rfl rfl ?_
      show Steps p_.tables e_ below (T47.setTop (mkF m_ 269 #[.val (.int (3 : Int32)), .val (.int t), .val (.int d), .val (.ref b1), .val (.int (own_a d)), .val (.int (own_g d)), .val (.int (own_h d)), .val (.ref b28), .val (.ref w3), .val (.int t), .val (.int (0 : Int32)), .val (.int (0 : Int32))] [(.ref b28), (.ref w3)])) t_
      exact k_
    refine own_callV X47 hx hZ (y := (⟨"com/example/banksum/banksum/uk/ExceptionRule", "foreignCurrency", "([I)Z"⟩ : MethodName)) (z := (⟨"com/example/banksum/banksum/uk/ExceptionRule", "foreignCurrency", "([I)Z"⟩ : MethodName)) hown (hw _ (List.mem_of_getElem? (i := 61) rfl)) (hw _ (List.mem_of_getElem? (i := 62) rfl)) (notFace_of_selects (args := #[]) (mvT hZ (hw _ (List.mem_of_getElem? (i := 80) rfl)))) (hw _ (List.mem_of_getElem? (i := 80) rfl)) (hw _ (List.mem_of_getElem? (i := 63) rfl)) (hw _ (List.mem_of_getElem? (i := 3) rfl)) (hw _ (List.mem_of_getElem? (i := 65) rfl)) (by decide) w3 [(.ref b28)] [] (E_w3.ext O.2) (rm5 l Z a0 hw w3 b28 h31 n0 Z0) 0 (by decide) (by decide) e47 (by rw [hml]; rfl) (lenOf own_pd3 rfl) rfl (Nat.le_of_eq rfl) (hb hby at_269) (by decide) (by decide) ?_
    intro v48 T48 L48 X48 q48
    obtain ⟨rfl, N48q, e48⟩ := q48
    have N48 := Fr.app N47 N48q
    show own_Out p_ e_ below s_ _ _ _ T48 (mkF m_ 272 #[.val (.int (3 : Int32)), .val (.int t), .val (.int d), .val (.ref b1), .val (.int (own_a d)), .val (.int (own_g d)), .val (.int (own_h d)), .val (.ref b28), .val (.ref w3), .val (.int t), .val (.int (0 : Int32)), .val (.int (0 : Int32))] [(.int (f5 w3 b28))])
    refine own_st T48 (mkF m_ 282 #[.val (.int (3 : Int32)), .val (.int t), .val (.int d), .val (.ref b1), .val (.int (own_a d)), .val (.int (own_g d)), .val (.int (own_h d)), .val (.ref b28), .val (.ref w3), .val (.int t), .val (.int (0 : Int32)), .val (.int (0 : Int32))] [(.int (1 : Int32))]) (fun t_ k_ => ?_) ?_
    · refine XS.iload X48.here hx rfl (hb hby at_272) rfl ?_
      show Steps p_.tables e_ below (T48.setTop (mkF m_ 274 #[.val (.int (3 : Int32)), .val (.int t), .val (.int d), .val (.ref b1), .val (.int (own_a d)), .val (.int (own_g d)), .val (.int (own_h d)), .val (.ref b28), .val (.ref w3), .val (.int t), .val (.int (0 : Int32)), .val (.int (0 : Int32))] [(.int (0 : Int32)), (.int (f5 w3 b28))])) t_
      refine XS.icmpNo X48.here hx rfl (hb hby at_274) rfl (teq (rfl : (f5 w3 b28) = (0 : Int32))).2 ?_
      show Steps p_.tables e_ below (T48.setTop (mkF m_ 277 #[.val (.int (3 : Int32)), .val (.int t), .val (.int d), .val (.ref b1), .val (.int (own_a d)), .val (.int (own_g d)), .val (.int (own_h d)), .val (.ref b28), .val (.ref w3), .val (.int t), .val (.int (0 : Int32)), .val (.int (0 : Int32))] [])) t_
      refine XS.iconst X48.here hx rfl (hb hby at_277) ?_
      show Steps p_.tables e_ below (T48.setTop (mkF m_ 278 #[.val (.int (3 : Int32)), .val (.int t), .val (.int d), .val (.ref b1), .val (.int (own_a d)), .val (.int (own_g d)), .val (.int (own_h d)), .val (.ref b28), .val (.ref w3), .val (.int t), .val (.int (0 : Int32)), .val (.int (0 : Int32))] [(.int (1 : Int32))])) t_
      refine XS.goto X48.here hx rfl (pc0 := 278) (pc' := 282) rfl (hb hby at_278) (by decide) (by decide) ?_
      show Steps p_.tables e_ below (T48.setTop (mkF m_ 282 #[.val (.int (3 : Int32)), .val (.int t), .val (.int d), .val (.ref b1), .val (.int (own_a d)), .val (.int (own_g d)), .val (.int (own_h d)), .val (.ref b28), .val (.ref w3), .val (.int t), .val (.int (0 : Int32)), .val (.int (0 : Int32))] [(.int (1 : Int32))])) t_
      exact k_
    refine own_retN X48 hx hlk (t := .boolean) hret (by simp) (hb hby at_282) (by decide) (by decide) ?_
    exact ⟨rfl, N48⟩
  · show own_Out p_ e_ below s_ _ _ _ T32 (mkF m_ 153 #[.val (.int (4 : Int32)), .val (.int t), .val (.int d), .val (.ref b1), .val (.int (own_a d)), .val (.int (own_g d)), .val (.int (own_h d)), .val (.ref b28), .unset, .unset, .unset, .unset] [(.ref w4)])
    refine own_st T32 (mkF m_ 159 #[.val (.int (4 : Int32)), .val (.int t), .val (.int d), .val (.ref b1), .val (.int (own_a d)), .val (.int (own_g d)), .val (.int (own_h d)), .val (.ref b28), .val (.ref w4), .unset, .unset, .unset] [(.int (4 : Int32)), (.ref b1), (.ref w4)]) (fun t_ k_ => ?_) ?_
    · refine XS.astore X32.here hx rfl (hb hby at_153) rfl rfl (l' := #[.val (.int (4 : Int32)), .val (.int t), .val (.int d), .val (.ref b1), .val (.int (own_a d)), .val (.int (own_g d)), .val (.int (own_h d)), .val (.ref b28), .val (.ref w4), .unset, .unset, .unset]) rfl ?_
      show Steps p_.tables e_ below (T32.setTop (mkF m_ 155 #[.val (.int (4 : Int32)), .val (.int t), .val (.int d), .val (.ref b1), .val (.int (own_a d)), .val (.int (own_g d)), .val (.int (own_h d)), .val (.ref b28), .val (.ref w4), .unset, .unset, .unset] [])) t_
      refine XS.aload X32.here hx rfl (hb hby at_155) rfl rfl ?_
      show Steps p_.tables e_ below (T32.setTop (mkF m_ 157 #[.val (.int (4 : Int32)), .val (.int t), .val (.int d), .val (.ref b1), .val (.int (own_a d)), .val (.int (own_g d)), .val (.int (own_h d)), .val (.ref b28), .val (.ref w4), .unset, .unset, .unset] [(.ref w4)])) t_
      refine XS.aloadN X32.here hx rfl (hb hby at_157) rfl rfl ?_
      show Steps p_.tables e_ below (T32.setTop (mkF m_ 158 #[.val (.int (4 : Int32)), .val (.int t), .val (.int d), .val (.ref b1), .val (.int (own_a d)), .val (.int (own_g d)), .val (.int (own_h d)), .val (.ref b28), .val (.ref w4), .unset, .unset, .unset] [(.ref b1), (.ref w4)])) t_
      refine XS.iloadN X32.here hx rfl (hb hby at_158) rfl ?_
      show Steps p_.tables e_ below (T32.setTop (mkF m_ 159 #[.val (.int (4 : Int32)), .val (.int t), .val (.int d), .val (.ref b1), .val (.int (own_a d)), .val (.int (own_g d)), .val (.int (own_h d)), .val (.ref b28), .val (.ref w4), .unset, .unset, .unset] [(.int (4 : Int32)), (.ref b1), (.ref w4)])) t_
      exact k_
    refine own_callS X32 hx hZ hown (hw _ (List.mem_of_getElem? (i := 47) rfl)) (hw _ (List.mem_of_getElem? (i := 48) rfl)) (hw _ (List.mem_of_getElem? (i := 49) rfl)) (hw _ (List.mem_of_getElem? (i := 50) rfl)) (by decide) [(.int (4 : Int32))] [(.ref b1), (.ref w4)] (rm2 l Z a0 hw (4 : Int32) h31 n0 Z0) 2 (by decide) (by decide) e32 (by rw [hml]; rfl) (lenOf own_pd1 rfl) rfl (Nat.le_of_eq rfl) (hb hby at_159) (by decide) (by decide) ?_
    intro v49 T49 L49 X49 q49
    obtain ⟨rfl, N49q, e49⟩ := q49
    have N49 := Fr.app N32 N49q
    rw [show (f2 (4 : Int32)) = 4 from by decide]
    show own_Out p_ e_ below s_ _ _ _ T49 (mkF m_ 162 #[.val (.int (4 : Int32)), .val (.int t), .val (.int d), .val (.ref b1), .val (.int (own_a d)), .val (.int (own_g d)), .val (.int (own_h d)), .val (.ref b28), .val (.ref w4), .unset, .unset, .unset] [(.int (4 : Int32)), (.ref b1), (.ref w4)])
    refine own_st T49 (mkF m_ 186 #[.val (.int (4 : Int32)), .val (.int t), .val (.int d), .val (.ref b1), .val (.int (own_a d)), .val (.int (own_g d)), .val (.int (own_h d)), .val (.ref b28), .val (.ref w4), .val (.int t), .unset, .unset] [(.int t), (.ref w4)]) (fun t_ k_ => ?_) ?_
    · refine own_ldR X49 hx hZ e49 A_b1 rfl 4 (by decide) (by decide) (hb hby at_162) _ ?_
      show Steps p_.tables e_ below (T49.setTop (mkF m_ 163 #[.val (.int (4 : Int32)), .val (.int t), .val (.int d), .val (.ref b1), .val (.int (own_a d)), .val (.int (own_g d)), .val (.int (own_h d)), .val (.ref b28), .val (.ref w4), .unset, .unset, .unset] [(.ref w4), (.ref w4)])) t_
      refine Jvm.RoadKit.acmp (g := (mkF m_ 163 #[.val (.int (4 : Int32)), .val (.int t), .val (.int d), .val (.ref b1), .val (.int (own_a d)), .val (.int (own_g d)), .val (.int (own_h d)), .val (.ref b28), .val (.ref w4), .unset, .unset, .unset] [(.ref w4), (.ref w4)])) X49 hx rfl rfl rfl (pc0 := 163) (pc' := 168) (same := true) rfl (hb hby at_163) rfl (decide_eq_true rfl) (by decide) (by decide) ?_
      show Steps p_.tables e_ below (T49.setTop (mkF m_ 168 #[.val (.int (4 : Int32)), .val (.int t), .val (.int d), .val (.ref b1), .val (.int (own_a d)), .val (.int (own_g d)), .val (.int (own_h d)), .val (.ref b28), .val (.ref w4), .unset, .unset, .unset] [])) t_
      refine XS.iloadN X49.here hx rfl (hb hby at_168) rfl ?_
      show Steps p_.tables e_ below (T49.setTop (mkF m_ 169 #[.val (.int (4 : Int32)), .val (.int t), .val (.int d), .val (.ref b1), .val (.int (own_a d)), .val (.int (own_g d)), .val (.int (own_h d)), .val (.ref b28), .val (.ref w4), .unset, .unset, .unset] [(.int (4 : Int32))])) t_
      refine XS.iconst X49.here hx rfl (hb hby at_169) ?_
      show Steps p_.tables e_ below (T49.setTop (mkF m_ 170 #[.val (.int (4 : Int32)), .val (.int t), .val (.int d), .val (.ref b1), .val (.int (own_a d)), .val (.int (own_g d)), .val (.int (own_h d)), .val (.ref b28), .val (.ref w4), .unset, .unset, .unset] [(.int (1 : Int32)), (.int (4 : Int32))])) t_
      refine XS.icmpYes X49.here hx rfl (pc0 := 170) (pc' := 180) rfl (hb hby at_170) rfl (feq (by decide : ¬ ((4 : Int32) = (1 : Int32)))).2 (by decide) (by decide) ?_
      show Steps p_.tables e_ below (T49.setTop (mkF m_ 180 #[.val (.int (4 : Int32)), .val (.int t), .val (.int d), .val (.ref b1), .val (.int (own_a d)), .val (.int (own_g d)), .val (.int (own_h d)), .val (.ref b28), .val (.ref w4), .unset, .unset, .unset] [])) t_
      refine XS.iloadN X49.here hx rfl (hb hby at_180) rfl ?_
      show Steps p_.tables e_ below (T49.setTop (mkF m_ 181 #[.val (.int (4 : Int32)), .val (.int t), .val (.int d), .val (.ref b1), .val (.int (own_a d)), .val (.int (own_g d)), .val (.int (own_h d)), .val (.ref b28), .val (.ref w4), .unset, .unset, .unset] [(.int t)])) t_
      refine XS.istore X49.here hx rfl (hb hby at_181) rfl (l' := #[.val (.int (4 : Int32)), .val (.int t), .val (.int d), .val (.ref b1), .val (.int (own_a d)), .val (.int (own_g d)), .val (.int (own_h d)), .val (.ref b28), .val (.ref w4), .val (.int t), .unset, .unset]) rfl ?_
      show Steps p_.tables e_ below (T49.setTop (mkF m_ 183 #[.val (.int (4 : Int32)), .val (.int t), .val (.int d), .val (.ref b1), .val (.int (own_a d)), .val (.int (own_g d)), .val (.int (own_h d)), .val (.ref b28), .val (.ref w4), .val (.int t), .unset, .unset] [])) t_
      refine XS.aload X49.here hx rfl (hb hby at_183) rfl rfl ?_
      show Steps p_.tables e_ below (T49.setTop (mkF m_ 185 #[.val (.int (4 : Int32)), .val (.int t), .val (.int d), .val (.ref b1), .val (.int (own_a d)), .val (.int (own_g d)), .val (.int (own_h d)), .val (.ref b28), .val (.ref w4), .val (.int t), .unset, .unset] [(.ref w4)])) t_
      refine XS.iloadN X49.here hx rfl (hb hby at_185) rfl ?_
      show Steps p_.tables e_ below (T49.setTop (mkF m_ 186 #[.val (.int (4 : Int32)), .val (.int t), .val (.int d), .val (.ref b1), .val (.int (own_a d)), .val (.int (own_g d)), .val (.int (own_h d)), .val (.ref b28), .val (.ref w4), .val (.int t), .unset, .unset] [(.int t), (.ref w4)])) t_
      exact k_
    refine own_callV X49 hx hZ (y := (⟨"com/example/banksum/banksum/uk/ExceptionRule", "total", "(I)I"⟩ : MethodName)) (z := (⟨"com/example/banksum/banksum/uk/ExceptionRule", "total", "(I)I"⟩ : MethodName)) hown (hw _ (List.mem_of_getElem? (i := 51) rfl)) (hw _ (List.mem_of_getElem? (i := 52) rfl)) (notFace_of_selects (args := #[]) (mvT hZ (hw _ (List.mem_of_getElem? (i := 119) rfl)))) (hw _ (List.mem_of_getElem? (i := 119) rfl)) (hw _ (List.mem_of_getElem? (i := 53) rfl)) (hw _ (List.mem_of_getElem? (i := 3) rfl)) (hw _ (List.mem_of_getElem? (i := 55) rfl)) (by decide) w4 [(.int t)] [] (E_w4.ext O.2) (rm3 l Z a0 hw w4 t h31 n0 Z0) 0 (by decide) (by decide) e49 (by rw [hml]; rfl) (lenOf own_pd1 rfl) rfl (Nat.le_of_eq rfl) (hb hby at_186) (by decide) (by decide) ?_
    intro v50 T50 L50 X50 q50
    obtain ⟨rfl, N50q, e50⟩ := q50
    have N50 := Fr.app N49 N50q
    show own_Out p_ e_ below s_ _ _ _ T50 (mkF m_ 189 #[.val (.int (4 : Int32)), .val (.int t), .val (.int d), .val (.ref b1), .val (.int (own_a d)), .val (.int (own_g d)), .val (.int (own_h d)), .val (.ref b28), .val (.ref w4), .val (.int t), .unset, .unset] [(.int (f3 w4 t))])
    refine own_st T50 (mkF m_ 222 #[.val (.int (4 : Int32)), .val (.int t), .val (.int d), .val (.ref b1), .val (.int (own_a d)), .val (.int (own_g d)), .val (.int (own_h d)), .val (.ref b28), .val (.ref w4), .val (.int t), .val (.int (0 : Int32)), .unset] [(.ref w4)]) (fun t_ k_ => ?_) ?_
    · refine XS.iload X50.here hx rfl (hb hby at_189) rfl ?_
      show Steps p_.tables e_ below (T50.setTop (mkF m_ 191 #[.val (.int (4 : Int32)), .val (.int t), .val (.int d), .val (.ref b1), .val (.int (own_a d)), .val (.int (own_g d)), .val (.int (own_h d)), .val (.ref b28), .val (.ref w4), .val (.int t), .unset, .unset] [(.int t), (.int (f3 w4 t))])) t_
      refine XS.icmpYes X50.here hx rfl (pc0 := 191) (pc' := 196) rfl (hb hby at_191) rfl (teq (rfl : (f3 w4 t) = t)).1 (by decide) (by decide) ?_
      show Steps p_.tables e_ below (T50.setTop (mkF m_ 196 #[.val (.int (4 : Int32)), .val (.int t), .val (.int d), .val (.ref b1), .val (.int (own_a d)), .val (.int (own_g d)), .val (.int (own_h d)), .val (.ref b28), .val (.ref w4), .val (.int t), .unset, .unset] [])) t_
      refine XS.iloadN X50.here hx rfl (hb hby at_196) rfl ?_
      show Steps p_.tables e_ below (T50.setTop (mkF m_ 197 #[.val (.int (4 : Int32)), .val (.int t), .val (.int d), .val (.ref b1), .val (.int (own_a d)), .val (.int (own_g d)), .val (.int (own_h d)), .val (.ref b28), .val (.ref w4), .val (.int t), .unset, .unset] [(.int (4 : Int32))])) t_
      refine XS.iconst X50.here hx rfl (hb hby at_197) ?_
      show Steps p_.tables e_ below (T50.setTop (mkF m_ 198 #[.val (.int (4 : Int32)), .val (.int t), .val (.int d), .val (.ref b1), .val (.int (own_a d)), .val (.int (own_g d)), .val (.int (own_h d)), .val (.ref b28), .val (.ref w4), .val (.int t), .unset, .unset] [(.int (2 : Int32)), (.int (4 : Int32))])) t_
      refine XS.icmpNo X50.here hx rfl (hb hby at_198) rfl (feq (by decide : ¬ ((4 : Int32) = (2 : Int32)))).1 ?_
      show Steps p_.tables e_ below (T50.setTop (mkF m_ 201 #[.val (.int (4 : Int32)), .val (.int t), .val (.int d), .val (.ref b1), .val (.int (own_a d)), .val (.int (own_g d)), .val (.int (own_h d)), .val (.ref b28), .val (.ref w4), .val (.int t), .unset, .unset] [])) t_
      refine XS.iloadN X50.here hx rfl (hb hby at_201) rfl ?_
      show Steps p_.tables e_ below (T50.setTop (mkF m_ 202 #[.val (.int (4 : Int32)), .val (.int t), .val (.int d), .val (.ref b1), .val (.int (own_a d)), .val (.int (own_g d)), .val (.int (own_h d)), .val (.ref b28), .val (.ref w4), .val (.int t), .unset, .unset] [(.int (4 : Int32))])) t_
      refine XS.bipush X50.here hx rfl (hb hby at_202) ?_
      show Steps p_.tables e_ below (T50.setTop (mkF m_ 204 #[.val (.int (4 : Int32)), .val (.int t), .val (.int d), .val (.ref b1), .val (.int (own_a d)), .val (.int (own_g d)), .val (.int (own_h d)), .val (.ref b28), .val (.ref w4), .val (.int t), .unset, .unset] [(.int (10 : Int32)), (.int (4 : Int32))])) t_
      refine XS.icmpNo X50.here hx rfl (hb hby at_204) rfl (feq (by decide : ¬ ((4 : Int32) = (10 : Int32)))).1 ?_
      show Steps p_.tables e_ below (T50.setTop (mkF m_ 207 #[.val (.int (4 : Int32)), .val (.int t), .val (.int d), .val (.ref b1), .val (.int (own_a d)), .val (.int (own_g d)), .val (.int (own_h d)), .val (.ref b28), .val (.ref w4), .val (.int t), .unset, .unset] [])) t_
      refine XS.iloadN X50.here hx rfl (hb hby at_207) rfl ?_
      show Steps p_.tables e_ below (T50.setTop (mkF m_ 208 #[.val (.int (4 : Int32)), .val (.int t), .val (.int d), .val (.ref b1), .val (.int (own_a d)), .val (.int (own_g d)), .val (.int (own_h d)), .val (.ref b28), .val (.ref w4), .val (.int t), .unset, .unset] [(.int (4 : Int32))])) t_
      refine XS.bipush X50.here hx rfl (hb hby at_208) ?_
      show Steps p_.tables e_ below (T50.setTop (mkF m_ 210 #[.val (.int (4 : Int32)), .val (.int t), .val (.int d), .val (.ref b1), .val (.int (own_a d)), .val (.int (own_g d)), .val (.int (own_h d)), .val (.ref b28), .val (.ref w4), .val (.int t), .unset, .unset] [(.int (12 : Int32)), (.int (4 : Int32))])) t_
      refine XS.icmpYes X50.here hx rfl (pc0 := 210) (pc' := 217) rfl (hb hby at_210) rfl (feq (by decide : ¬ ((4 : Int32) = (12 : Int32)))).2 (by decide) (by decide) ?_
      show Steps p_.tables e_ below (T50.setTop (mkF m_ 217 #[.val (.int (4 : Int32)), .val (.int t), .val (.int d), .val (.ref b1), .val (.int (own_a d)), .val (.int (own_g d)), .val (.int (own_h d)), .val (.ref b28), .val (.ref w4), .val (.int t), .unset, .unset] [])) t_
      refine XS.iconst X50.here hx rfl (hb hby at_217) ?_
      show Steps p_.tables e_ below (T50.setTop (mkF m_ 218 #[.val (.int (4 : Int32)), .val (.int t), .val (.int d), .val (.ref b1), .val (.int (own_a d)), .val (.int (own_g d)), .val (.int (own_h d)), .val (.ref b28), .val (.ref w4), .val (.int t), .unset, .unset] [(.int (0 : Int32))])) t_
      refine XS.istore X50.here hx rfl (hb hby at_218) rfl (l' := #[.val (.int (4 : Int32)), .val (.int t), .val (.int d), .val (.ref b1), .val (.int (own_a d)), .val (.int (own_g d)), .val (.int (own_h d)), .val (.ref b28), .val (.ref w4), .val (.int t), .val (.int (0 : Int32)), .unset]) rfl ?_
      show Steps p_.tables e_ below (T50.setTop (mkF m_ 220 #[.val (.int (4 : Int32)), .val (.int t), .val (.int d), .val (.ref b1), .val (.int (own_a d)), .val (.int (own_g d)), .val (.int (own_h d)), .val (.ref b28), .val (.ref w4), .val (.int t), .val (.int (0 : Int32)), .unset] [])) t_
      refine XS.aload X50.here hx rfl (hb hby at_220) rfl rfl ?_
      show Steps p_.tables e_ below (T50.setTop (mkF m_ 222 #[.val (.int (4 : Int32)), .val (.int t), .val (.int d), .val (.ref b1), .val (.int (own_a d)), .val (.int (own_g d)), .val (.int (own_h d)), .val (.ref b28), .val (.ref w4), .val (.int t), .val (.int (0 : Int32)), .unset] [(.ref w4)])) t_
      exact k_
    refine own_callV X50 hx hZ (y := (⟨"com/example/banksum/banksum/uk/ExceptionRule", "eitherPasses", "()Z"⟩ : MethodName)) (z := (⟨"com/example/banksum/banksum/uk/ExceptionRule", "eitherPasses", "()Z"⟩ : MethodName)) hown (hw _ (List.mem_of_getElem? (i := 56) rfl)) (hw _ (List.mem_of_getElem? (i := 57) rfl)) (notFace_of_selects (args := #[]) (mvT hZ (hw _ (List.mem_of_getElem? (i := 120) rfl)))) (hw _ (List.mem_of_getElem? (i := 120) rfl)) (hw _ (List.mem_of_getElem? (i := 58) rfl)) (hw _ (List.mem_of_getElem? (i := 3) rfl)) (hw _ (List.mem_of_getElem? (i := 60) rfl)) (by decide) w4 [] [] (E_w4.ext O.2) (rm4 l Z a0 hw w4 h31 n0 Z0) 0 (by decide) (by decide) e50 (by rw [hml]; rfl) (lenOf own_pd2 rfl) rfl (Nat.le_of_eq rfl) (hb hby at_222) (by decide) (by decide) ?_
    intro v51 T51 L51 X51 q51
    obtain ⟨rfl, N51q, e51⟩ := q51
    have N51 := Fr.app N50 N51q
    show own_Out p_ e_ below s_ _ _ _ T51 (mkF m_ 225 #[.val (.int (4 : Int32)), .val (.int t), .val (.int d), .val (.ref b1), .val (.int (own_a d)), .val (.int (own_g d)), .val (.int (own_h d)), .val (.ref b28), .val (.ref w4), .val (.int t), .val (.int (0 : Int32)), .unset] [(.int (f4 w4))])
    refine own_st T51 (mkF m_ 269 #[.val (.int (4 : Int32)), .val (.int t), .val (.int d), .val (.ref b1), .val (.int (own_a d)), .val (.int (own_g d)), .val (.int (own_h d)), .val (.ref b28), .val (.ref w4), .val (.int t), .val (.int (0 : Int32)), .val (.int (0 : Int32))] [(.ref b28), (.ref w4)]) (fun t_ k_ => ?_) ?_
    · refine XS.iload X51.here hx rfl (hb hby at_225) rfl ?_
      show Steps p_.tables e_ below (T51.setTop (mkF m_ 227 #[.val (.int (4 : Int32)), .val (.int t), .val (.int d), .val (.ref b1), .val (.int (own_a d)), .val (.int (own_g d)), .val (.int (own_h d)), .val (.ref b28), .val (.ref w4), .val (.int t), .val (.int (0 : Int32)), .unset] [(.int (0 : Int32)), (.int (f4 w4))])) t_
      refine XS.icmpYes X51.here hx rfl (pc0 := 227) (pc' := 232) rfl (hb hby at_227) rfl (teq (rfl : (f4 w4) = (0 : Int32))).1 (by decide) (by decide) ?_
      show Steps p_.tables e_ below (T51.setTop (mkF m_ 232 #[.val (.int (4 : Int32)), .val (.int t), .val (.int d), .val (.ref b1), .val (.int (own_a d)), .val (.int (own_g d)), .val (.int (own_h d)), .val (.ref b28), .val (.ref w4), .val (.int t), .val (.int (0 : Int32)), .unset] [])) t_
      refine XS.iloadN X51.here hx rfl (hb hby at_232) rfl ?_
      show Steps p_.tables e_ below (T51.setTop (mkF m_ 233 #[.val (.int (4 : Int32)), .val (.int t), .val (.int d), .val (.ref b1), .val (.int (own_a d)), .val (.int (own_g d)), .val (.int (own_h d)), .val (.ref b28), .val (.ref w4), .val (.int t), .val (.int (0 : Int32)), .unset] [(.int (4 : Int32))])) t_
      refine XS.bipush X51.here hx rfl (hb hby at_233) ?_
      show Steps p_.tables e_ below (T51.setTop (mkF m_ 235 #[.val (.int (4 : Int32)), .val (.int t), .val (.int d), .val (.ref b1), .val (.int (own_a d)), .val (.int (own_g d)), .val (.int (own_h d)), .val (.ref b28), .val (.ref w4), .val (.int t), .val (.int (0 : Int32)), .unset] [(.int (6 : Int32)), (.int (4 : Int32))])) t_
      refine XS.icmpYes X51.here hx rfl (pc0 := 235) (pc' := 262) rfl (hb hby at_235) rfl (feq (by decide : ¬ ((4 : Int32) = (6 : Int32)))).2 (by decide) (by decide) ?_
      show Steps p_.tables e_ below (T51.setTop (mkF m_ 262 #[.val (.int (4 : Int32)), .val (.int t), .val (.int d), .val (.ref b1), .val (.int (own_a d)), .val (.int (own_g d)), .val (.int (own_h d)), .val (.ref b28), .val (.ref w4), .val (.int t), .val (.int (0 : Int32)), .unset] [])) t_
      refine XS.iconst X51.here hx rfl (hb hby at_262) ?_
      show Steps p_.tables e_ below (T51.setTop (mkF m_ 263 #[.val (.int (4 : Int32)), .val (.int t), .val (.int d), .val (.ref b1), .val (.int (own_a d)), .val (.int (own_g d)), .val (.int (own_h d)), .val (.ref b28), .val (.ref w4), .val (.int t), .val (.int (0 : Int32)), .unset] [(.int (0 : Int32))])) t_
      refine XS.istore X51.here hx rfl (hb hby at_263) rfl (l' := #[.val (.int (4 : Int32)), .val (.int t), .val (.int d), .val (.ref b1), .val (.int (own_a d)), .val (.int (own_g d)), .val (.int (own_h d)), .val (.ref b28), .val (.ref w4), .val (.int t), .val (.int (0 : Int32)), .val (.int (0 : Int32))]) rfl ?_
      show Steps p_.tables e_ below (T51.setTop (mkF m_ 265 #[.val (.int (4 : Int32)), .val (.int t), .val (.int d), .val (.ref b1), .val (.int (own_a d)), .val (.int (own_g d)), .val (.int (own_h d)), .val (.ref b28), .val (.ref w4), .val (.int t), .val (.int (0 : Int32)), .val (.int (0 : Int32))] [])) t_
      refine XS.aload X51.here hx rfl (hb hby at_265) rfl rfl ?_
      show Steps p_.tables e_ below (T51.setTop (mkF m_ 267 #[.val (.int (4 : Int32)), .val (.int t), .val (.int d), .val (.ref b1), .val (.int (own_a d)), .val (.int (own_g d)), .val (.int (own_h d)), .val (.ref b28), .val (.ref w4), .val (.int t), .val (.int (0 : Int32)), .val (.int (0 : Int32))] [(.ref w4)])) t_
      refine XS.aload X51.here hx rfl (hb hby at_267) rfl rfl ?_
      show Steps p_.tables e_ below (T51.setTop (mkF m_ 269 #[.val (.int (4 : Int32)), .val (.int t), .val (.int d), .val (.ref b1), .val (.int (own_a d)), .val (.int (own_g d)), .val (.int (own_h d)), .val (.ref b28), .val (.ref w4), .val (.int t), .val (.int (0 : Int32)), .val (.int (0 : Int32))] [(.ref b28), (.ref w4)])) t_
      exact k_
    refine own_callV X51 hx hZ (y := (⟨"com/example/banksum/banksum/uk/ExceptionRule", "foreignCurrency", "([I)Z"⟩ : MethodName)) (z := (⟨"com/example/banksum/banksum/uk/ExceptionRule", "foreignCurrency", "([I)Z"⟩ : MethodName)) hown (hw _ (List.mem_of_getElem? (i := 61) rfl)) (hw _ (List.mem_of_getElem? (i := 62) rfl)) (notFace_of_selects (args := #[]) (mvT hZ (hw _ (List.mem_of_getElem? (i := 121) rfl)))) (hw _ (List.mem_of_getElem? (i := 121) rfl)) (hw _ (List.mem_of_getElem? (i := 63) rfl)) (hw _ (List.mem_of_getElem? (i := 3) rfl)) (hw _ (List.mem_of_getElem? (i := 65) rfl)) (by decide) w4 [(.ref b28)] [] (E_w4.ext O.2) (rm5 l Z a0 hw w4 b28 h31 n0 Z0) 0 (by decide) (by decide) e51 (by rw [hml]; rfl) (lenOf own_pd3 rfl) rfl (Nat.le_of_eq rfl) (hb hby at_269) (by decide) (by decide) ?_
    intro v52 T52 L52 X52 q52
    obtain ⟨rfl, N52q, e52⟩ := q52
    have N52 := Fr.app N51 N52q
    show own_Out p_ e_ below s_ _ _ _ T52 (mkF m_ 272 #[.val (.int (4 : Int32)), .val (.int t), .val (.int d), .val (.ref b1), .val (.int (own_a d)), .val (.int (own_g d)), .val (.int (own_h d)), .val (.ref b28), .val (.ref w4), .val (.int t), .val (.int (0 : Int32)), .val (.int (0 : Int32))] [(.int (f5 w4 b28))])
    refine own_st T52 (mkF m_ 282 #[.val (.int (4 : Int32)), .val (.int t), .val (.int d), .val (.ref b1), .val (.int (own_a d)), .val (.int (own_g d)), .val (.int (own_h d)), .val (.ref b28), .val (.ref w4), .val (.int t), .val (.int (0 : Int32)), .val (.int (0 : Int32))] [(.int (1 : Int32))]) (fun t_ k_ => ?_) ?_
    · refine XS.iload X52.here hx rfl (hb hby at_272) rfl ?_
      show Steps p_.tables e_ below (T52.setTop (mkF m_ 274 #[.val (.int (4 : Int32)), .val (.int t), .val (.int d), .val (.ref b1), .val (.int (own_a d)), .val (.int (own_g d)), .val (.int (own_h d)), .val (.ref b28), .val (.ref w4), .val (.int t), .val (.int (0 : Int32)), .val (.int (0 : Int32))] [(.int (0 : Int32)), (.int (f5 w4 b28))])) t_
      refine XS.icmpNo X52.here hx rfl (hb hby at_274) rfl (teq (rfl : (f5 w4 b28) = (0 : Int32))).2 ?_
      show Steps p_.tables e_ below (T52.setTop (mkF m_ 277 #[.val (.int (4 : Int32)), .val (.int t), .val (.int d), .val (.ref b1), .val (.int (own_a d)), .val (.int (own_g d)), .val (.int (own_h d)), .val (.ref b28), .val (.ref w4), .val (.int t), .val (.int (0 : Int32)), .val (.int (0 : Int32))] [])) t_
      refine XS.iconst X52.here hx rfl (hb hby at_277) ?_
      show Steps p_.tables e_ below (T52.setTop (mkF m_ 278 #[.val (.int (4 : Int32)), .val (.int t), .val (.int d), .val (.ref b1), .val (.int (own_a d)), .val (.int (own_g d)), .val (.int (own_h d)), .val (.ref b28), .val (.ref w4), .val (.int t), .val (.int (0 : Int32)), .val (.int (0 : Int32))] [(.int (1 : Int32))])) t_
      refine XS.goto X52.here hx rfl (pc0 := 278) (pc' := 282) rfl (hb hby at_278) (by decide) (by decide) ?_
      show Steps p_.tables e_ below (T52.setTop (mkF m_ 282 #[.val (.int (4 : Int32)), .val (.int t), .val (.int d), .val (.ref b1), .val (.int (own_a d)), .val (.int (own_g d)), .val (.int (own_h d)), .val (.ref b28), .val (.ref w4), .val (.int t), .val (.int (0 : Int32)), .val (.int (0 : Int32))] [(.int (1 : Int32))])) t_
      exact k_
    refine own_retN X52 hx hlk (t := .boolean) hret (by simp) (hb hby at_282) (by decide) (by decide) ?_
    exact ⟨rfl, N52⟩
  · show own_Out p_ e_ below s_ _ _ _ T32 (mkF m_ 153 #[.val (.int (5 : Int32)), .val (.int t), .val (.int d), .val (.ref b1), .val (.int (own_a d)), .val (.int (own_g d)), .val (.int (own_h d)), .val (.ref b28), .unset, .unset, .unset, .unset] [(.ref w5)])
    refine own_st T32 (mkF m_ 159 #[.val (.int (5 : Int32)), .val (.int t), .val (.int d), .val (.ref b1), .val (.int (own_a d)), .val (.int (own_g d)), .val (.int (own_h d)), .val (.ref b28), .val (.ref w5), .unset, .unset, .unset] [(.int (5 : Int32)), (.ref b1), (.ref w5)]) (fun t_ k_ => ?_) ?_
    · refine XS.astore X32.here hx rfl (hb hby at_153) rfl rfl (l' := #[.val (.int (5 : Int32)), .val (.int t), .val (.int d), .val (.ref b1), .val (.int (own_a d)), .val (.int (own_g d)), .val (.int (own_h d)), .val (.ref b28), .val (.ref w5), .unset, .unset, .unset]) rfl ?_
      show Steps p_.tables e_ below (T32.setTop (mkF m_ 155 #[.val (.int (5 : Int32)), .val (.int t), .val (.int d), .val (.ref b1), .val (.int (own_a d)), .val (.int (own_g d)), .val (.int (own_h d)), .val (.ref b28), .val (.ref w5), .unset, .unset, .unset] [])) t_
      refine XS.aload X32.here hx rfl (hb hby at_155) rfl rfl ?_
      show Steps p_.tables e_ below (T32.setTop (mkF m_ 157 #[.val (.int (5 : Int32)), .val (.int t), .val (.int d), .val (.ref b1), .val (.int (own_a d)), .val (.int (own_g d)), .val (.int (own_h d)), .val (.ref b28), .val (.ref w5), .unset, .unset, .unset] [(.ref w5)])) t_
      refine XS.aloadN X32.here hx rfl (hb hby at_157) rfl rfl ?_
      show Steps p_.tables e_ below (T32.setTop (mkF m_ 158 #[.val (.int (5 : Int32)), .val (.int t), .val (.int d), .val (.ref b1), .val (.int (own_a d)), .val (.int (own_g d)), .val (.int (own_h d)), .val (.ref b28), .val (.ref w5), .unset, .unset, .unset] [(.ref b1), (.ref w5)])) t_
      refine XS.iloadN X32.here hx rfl (hb hby at_158) rfl ?_
      show Steps p_.tables e_ below (T32.setTop (mkF m_ 159 #[.val (.int (5 : Int32)), .val (.int t), .val (.int d), .val (.ref b1), .val (.int (own_a d)), .val (.int (own_g d)), .val (.int (own_h d)), .val (.ref b28), .val (.ref w5), .unset, .unset, .unset] [(.int (5 : Int32)), (.ref b1), (.ref w5)])) t_
      exact k_
    refine own_callS X32 hx hZ hown (hw _ (List.mem_of_getElem? (i := 47) rfl)) (hw _ (List.mem_of_getElem? (i := 48) rfl)) (hw _ (List.mem_of_getElem? (i := 49) rfl)) (hw _ (List.mem_of_getElem? (i := 50) rfl)) (by decide) [(.int (5 : Int32))] [(.ref b1), (.ref w5)] (rm2 l Z a0 hw (5 : Int32) h31 n0 Z0) 2 (by decide) (by decide) e32 (by rw [hml]; rfl) (lenOf own_pd1 rfl) rfl (Nat.le_of_eq rfl) (hb hby at_159) (by decide) (by decide) ?_
    intro v53 T53 L53 X53 q53
    obtain ⟨rfl, N53q, e53⟩ := q53
    have N53 := Fr.app N32 N53q
    rw [show (f2 (5 : Int32)) = 5 from by decide]
    show own_Out p_ e_ below s_ _ _ _ T53 (mkF m_ 162 #[.val (.int (5 : Int32)), .val (.int t), .val (.int d), .val (.ref b1), .val (.int (own_a d)), .val (.int (own_g d)), .val (.int (own_h d)), .val (.ref b28), .val (.ref w5), .unset, .unset, .unset] [(.int (5 : Int32)), (.ref b1), (.ref w5)])
    refine own_st T53 (mkF m_ 186 #[.val (.int (5 : Int32)), .val (.int t), .val (.int d), .val (.ref b1), .val (.int (own_a d)), .val (.int (own_g d)), .val (.int (own_h d)), .val (.ref b28), .val (.ref w5), .val (.int t), .unset, .unset] [(.int t), (.ref w5)]) (fun t_ k_ => ?_) ?_
    · refine own_ldR X53 hx hZ e53 A_b1 rfl 5 (by decide) (by decide) (hb hby at_162) _ ?_
      show Steps p_.tables e_ below (T53.setTop (mkF m_ 163 #[.val (.int (5 : Int32)), .val (.int t), .val (.int d), .val (.ref b1), .val (.int (own_a d)), .val (.int (own_g d)), .val (.int (own_h d)), .val (.ref b28), .val (.ref w5), .unset, .unset, .unset] [(.ref w5), (.ref w5)])) t_
      refine Jvm.RoadKit.acmp (g := (mkF m_ 163 #[.val (.int (5 : Int32)), .val (.int t), .val (.int d), .val (.ref b1), .val (.int (own_a d)), .val (.int (own_g d)), .val (.int (own_h d)), .val (.ref b28), .val (.ref w5), .unset, .unset, .unset] [(.ref w5), (.ref w5)])) X53 hx rfl rfl rfl (pc0 := 163) (pc' := 168) (same := true) rfl (hb hby at_163) rfl (decide_eq_true rfl) (by decide) (by decide) ?_
      show Steps p_.tables e_ below (T53.setTop (mkF m_ 168 #[.val (.int (5 : Int32)), .val (.int t), .val (.int d), .val (.ref b1), .val (.int (own_a d)), .val (.int (own_g d)), .val (.int (own_h d)), .val (.ref b28), .val (.ref w5), .unset, .unset, .unset] [])) t_
      refine XS.iloadN X53.here hx rfl (hb hby at_168) rfl ?_
      show Steps p_.tables e_ below (T53.setTop (mkF m_ 169 #[.val (.int (5 : Int32)), .val (.int t), .val (.int d), .val (.ref b1), .val (.int (own_a d)), .val (.int (own_g d)), .val (.int (own_h d)), .val (.ref b28), .val (.ref w5), .unset, .unset, .unset] [(.int (5 : Int32))])) t_
      refine XS.iconst X53.here hx rfl (hb hby at_169) ?_
      show Steps p_.tables e_ below (T53.setTop (mkF m_ 170 #[.val (.int (5 : Int32)), .val (.int t), .val (.int d), .val (.ref b1), .val (.int (own_a d)), .val (.int (own_g d)), .val (.int (own_h d)), .val (.ref b28), .val (.ref w5), .unset, .unset, .unset] [(.int (1 : Int32)), (.int (5 : Int32))])) t_
      refine XS.icmpYes X53.here hx rfl (pc0 := 170) (pc' := 180) rfl (hb hby at_170) rfl (feq (by decide : ¬ ((5 : Int32) = (1 : Int32)))).2 (by decide) (by decide) ?_
      show Steps p_.tables e_ below (T53.setTop (mkF m_ 180 #[.val (.int (5 : Int32)), .val (.int t), .val (.int d), .val (.ref b1), .val (.int (own_a d)), .val (.int (own_g d)), .val (.int (own_h d)), .val (.ref b28), .val (.ref w5), .unset, .unset, .unset] [])) t_
      refine XS.iloadN X53.here hx rfl (hb hby at_180) rfl ?_
      show Steps p_.tables e_ below (T53.setTop (mkF m_ 181 #[.val (.int (5 : Int32)), .val (.int t), .val (.int d), .val (.ref b1), .val (.int (own_a d)), .val (.int (own_g d)), .val (.int (own_h d)), .val (.ref b28), .val (.ref w5), .unset, .unset, .unset] [(.int t)])) t_
      refine XS.istore X53.here hx rfl (hb hby at_181) rfl (l' := #[.val (.int (5 : Int32)), .val (.int t), .val (.int d), .val (.ref b1), .val (.int (own_a d)), .val (.int (own_g d)), .val (.int (own_h d)), .val (.ref b28), .val (.ref w5), .val (.int t), .unset, .unset]) rfl ?_
      show Steps p_.tables e_ below (T53.setTop (mkF m_ 183 #[.val (.int (5 : Int32)), .val (.int t), .val (.int d), .val (.ref b1), .val (.int (own_a d)), .val (.int (own_g d)), .val (.int (own_h d)), .val (.ref b28), .val (.ref w5), .val (.int t), .unset, .unset] [])) t_
      refine XS.aload X53.here hx rfl (hb hby at_183) rfl rfl ?_
      show Steps p_.tables e_ below (T53.setTop (mkF m_ 185 #[.val (.int (5 : Int32)), .val (.int t), .val (.int d), .val (.ref b1), .val (.int (own_a d)), .val (.int (own_g d)), .val (.int (own_h d)), .val (.ref b28), .val (.ref w5), .val (.int t), .unset, .unset] [(.ref w5)])) t_
      refine XS.iloadN X53.here hx rfl (hb hby at_185) rfl ?_
      show Steps p_.tables e_ below (T53.setTop (mkF m_ 186 #[.val (.int (5 : Int32)), .val (.int t), .val (.int d), .val (.ref b1), .val (.int (own_a d)), .val (.int (own_g d)), .val (.int (own_h d)), .val (.ref b28), .val (.ref w5), .val (.int t), .unset, .unset] [(.int t), (.ref w5)])) t_
      exact k_
    refine own_callV X53 hx hZ (y := (⟨"com/example/banksum/banksum/uk/ExceptionRule", "total", "(I)I"⟩ : MethodName)) (z := (⟨"com/example/banksum/banksum/uk/ExceptionRule", "total", "(I)I"⟩ : MethodName)) hown (hw _ (List.mem_of_getElem? (i := 51) rfl)) (hw _ (List.mem_of_getElem? (i := 52) rfl)) (notFace_of_selects (args := #[]) (mvT hZ (hw _ (List.mem_of_getElem? (i := 96) rfl)))) (hw _ (List.mem_of_getElem? (i := 96) rfl)) (hw _ (List.mem_of_getElem? (i := 53) rfl)) (hw _ (List.mem_of_getElem? (i := 3) rfl)) (hw _ (List.mem_of_getElem? (i := 55) rfl)) (by decide) w5 [(.int t)] [] (E_w5.ext O.2) (rm3 l Z a0 hw w5 t h31 n0 Z0) 0 (by decide) (by decide) e53 (by rw [hml]; rfl) (lenOf own_pd1 rfl) rfl (Nat.le_of_eq rfl) (hb hby at_186) (by decide) (by decide) ?_
    intro v54 T54 L54 X54 q54
    obtain ⟨rfl, N54q, e54⟩ := q54
    have N54 := Fr.app N53 N54q
    show own_Out p_ e_ below s_ _ _ _ T54 (mkF m_ 189 #[.val (.int (5 : Int32)), .val (.int t), .val (.int d), .val (.ref b1), .val (.int (own_a d)), .val (.int (own_g d)), .val (.int (own_h d)), .val (.ref b28), .val (.ref w5), .val (.int t), .unset, .unset] [(.int (f3 w5 t))])
    refine own_st T54 (mkF m_ 222 #[.val (.int (5 : Int32)), .val (.int t), .val (.int d), .val (.ref b1), .val (.int (own_a d)), .val (.int (own_g d)), .val (.int (own_h d)), .val (.ref b28), .val (.ref w5), .val (.int t), .val (.int (0 : Int32)), .unset] [(.ref w5)]) (fun t_ k_ => ?_) ?_
    · refine XS.iload X54.here hx rfl (hb hby at_189) rfl ?_
      show Steps p_.tables e_ below (T54.setTop (mkF m_ 191 #[.val (.int (5 : Int32)), .val (.int t), .val (.int d), .val (.ref b1), .val (.int (own_a d)), .val (.int (own_g d)), .val (.int (own_h d)), .val (.ref b28), .val (.ref w5), .val (.int t), .unset, .unset] [(.int t), (.int (f3 w5 t))])) t_
      refine XS.icmpYes X54.here hx rfl (pc0 := 191) (pc' := 196) rfl (hb hby at_191) rfl (teq (rfl : (f3 w5 t) = t)).1 (by decide) (by decide) ?_
      show Steps p_.tables e_ below (T54.setTop (mkF m_ 196 #[.val (.int (5 : Int32)), .val (.int t), .val (.int d), .val (.ref b1), .val (.int (own_a d)), .val (.int (own_g d)), .val (.int (own_h d)), .val (.ref b28), .val (.ref w5), .val (.int t), .unset, .unset] [])) t_
      refine XS.iloadN X54.here hx rfl (hb hby at_196) rfl ?_
      show Steps p_.tables e_ below (T54.setTop (mkF m_ 197 #[.val (.int (5 : Int32)), .val (.int t), .val (.int d), .val (.ref b1), .val (.int (own_a d)), .val (.int (own_g d)), .val (.int (own_h d)), .val (.ref b28), .val (.ref w5), .val (.int t), .unset, .unset] [(.int (5 : Int32))])) t_
      refine XS.iconst X54.here hx rfl (hb hby at_197) ?_
      show Steps p_.tables e_ below (T54.setTop (mkF m_ 198 #[.val (.int (5 : Int32)), .val (.int t), .val (.int d), .val (.ref b1), .val (.int (own_a d)), .val (.int (own_g d)), .val (.int (own_h d)), .val (.ref b28), .val (.ref w5), .val (.int t), .unset, .unset] [(.int (2 : Int32)), (.int (5 : Int32))])) t_
      refine XS.icmpNo X54.here hx rfl (hb hby at_198) rfl (feq (by decide : ¬ ((5 : Int32) = (2 : Int32)))).1 ?_
      show Steps p_.tables e_ below (T54.setTop (mkF m_ 201 #[.val (.int (5 : Int32)), .val (.int t), .val (.int d), .val (.ref b1), .val (.int (own_a d)), .val (.int (own_g d)), .val (.int (own_h d)), .val (.ref b28), .val (.ref w5), .val (.int t), .unset, .unset] [])) t_
      refine XS.iloadN X54.here hx rfl (hb hby at_201) rfl ?_
      show Steps p_.tables e_ below (T54.setTop (mkF m_ 202 #[.val (.int (5 : Int32)), .val (.int t), .val (.int d), .val (.ref b1), .val (.int (own_a d)), .val (.int (own_g d)), .val (.int (own_h d)), .val (.ref b28), .val (.ref w5), .val (.int t), .unset, .unset] [(.int (5 : Int32))])) t_
      refine XS.bipush X54.here hx rfl (hb hby at_202) ?_
      show Steps p_.tables e_ below (T54.setTop (mkF m_ 204 #[.val (.int (5 : Int32)), .val (.int t), .val (.int d), .val (.ref b1), .val (.int (own_a d)), .val (.int (own_g d)), .val (.int (own_h d)), .val (.ref b28), .val (.ref w5), .val (.int t), .unset, .unset] [(.int (10 : Int32)), (.int (5 : Int32))])) t_
      refine XS.icmpNo X54.here hx rfl (hb hby at_204) rfl (feq (by decide : ¬ ((5 : Int32) = (10 : Int32)))).1 ?_
      show Steps p_.tables e_ below (T54.setTop (mkF m_ 207 #[.val (.int (5 : Int32)), .val (.int t), .val (.int d), .val (.ref b1), .val (.int (own_a d)), .val (.int (own_g d)), .val (.int (own_h d)), .val (.ref b28), .val (.ref w5), .val (.int t), .unset, .unset] [])) t_
      refine XS.iloadN X54.here hx rfl (hb hby at_207) rfl ?_
      show Steps p_.tables e_ below (T54.setTop (mkF m_ 208 #[.val (.int (5 : Int32)), .val (.int t), .val (.int d), .val (.ref b1), .val (.int (own_a d)), .val (.int (own_g d)), .val (.int (own_h d)), .val (.ref b28), .val (.ref w5), .val (.int t), .unset, .unset] [(.int (5 : Int32))])) t_
      refine XS.bipush X54.here hx rfl (hb hby at_208) ?_
      show Steps p_.tables e_ below (T54.setTop (mkF m_ 210 #[.val (.int (5 : Int32)), .val (.int t), .val (.int d), .val (.ref b1), .val (.int (own_a d)), .val (.int (own_g d)), .val (.int (own_h d)), .val (.ref b28), .val (.ref w5), .val (.int t), .unset, .unset] [(.int (12 : Int32)), (.int (5 : Int32))])) t_
      refine XS.icmpYes X54.here hx rfl (pc0 := 210) (pc' := 217) rfl (hb hby at_210) rfl (feq (by decide : ¬ ((5 : Int32) = (12 : Int32)))).2 (by decide) (by decide) ?_
      show Steps p_.tables e_ below (T54.setTop (mkF m_ 217 #[.val (.int (5 : Int32)), .val (.int t), .val (.int d), .val (.ref b1), .val (.int (own_a d)), .val (.int (own_g d)), .val (.int (own_h d)), .val (.ref b28), .val (.ref w5), .val (.int t), .unset, .unset] [])) t_
      refine XS.iconst X54.here hx rfl (hb hby at_217) ?_
      show Steps p_.tables e_ below (T54.setTop (mkF m_ 218 #[.val (.int (5 : Int32)), .val (.int t), .val (.int d), .val (.ref b1), .val (.int (own_a d)), .val (.int (own_g d)), .val (.int (own_h d)), .val (.ref b28), .val (.ref w5), .val (.int t), .unset, .unset] [(.int (0 : Int32))])) t_
      refine XS.istore X54.here hx rfl (hb hby at_218) rfl (l' := #[.val (.int (5 : Int32)), .val (.int t), .val (.int d), .val (.ref b1), .val (.int (own_a d)), .val (.int (own_g d)), .val (.int (own_h d)), .val (.ref b28), .val (.ref w5), .val (.int t), .val (.int (0 : Int32)), .unset]) rfl ?_
      show Steps p_.tables e_ below (T54.setTop (mkF m_ 220 #[.val (.int (5 : Int32)), .val (.int t), .val (.int d), .val (.ref b1), .val (.int (own_a d)), .val (.int (own_g d)), .val (.int (own_h d)), .val (.ref b28), .val (.ref w5), .val (.int t), .val (.int (0 : Int32)), .unset] [])) t_
      refine XS.aload X54.here hx rfl (hb hby at_220) rfl rfl ?_
      show Steps p_.tables e_ below (T54.setTop (mkF m_ 222 #[.val (.int (5 : Int32)), .val (.int t), .val (.int d), .val (.ref b1), .val (.int (own_a d)), .val (.int (own_g d)), .val (.int (own_h d)), .val (.ref b28), .val (.ref w5), .val (.int t), .val (.int (0 : Int32)), .unset] [(.ref w5)])) t_
      exact k_
    refine own_callV X54 hx hZ (y := (⟨"com/example/banksum/banksum/uk/ExceptionRule", "eitherPasses", "()Z"⟩ : MethodName)) (z := (⟨"com/example/banksum/banksum/uk/ExceptionRule", "eitherPasses", "()Z"⟩ : MethodName)) hown (hw _ (List.mem_of_getElem? (i := 56) rfl)) (hw _ (List.mem_of_getElem? (i := 57) rfl)) (notFace_of_selects (args := #[]) (mvT hZ (hw _ (List.mem_of_getElem? (i := 97) rfl)))) (hw _ (List.mem_of_getElem? (i := 97) rfl)) (hw _ (List.mem_of_getElem? (i := 58) rfl)) (hw _ (List.mem_of_getElem? (i := 3) rfl)) (hw _ (List.mem_of_getElem? (i := 60) rfl)) (by decide) w5 [] [] (E_w5.ext O.2) (rm4 l Z a0 hw w5 h31 n0 Z0) 0 (by decide) (by decide) e54 (by rw [hml]; rfl) (lenOf own_pd2 rfl) rfl (Nat.le_of_eq rfl) (hb hby at_222) (by decide) (by decide) ?_
    intro v55 T55 L55 X55 q55
    obtain ⟨rfl, N55q, e55⟩ := q55
    have N55 := Fr.app N54 N55q
    show own_Out p_ e_ below s_ _ _ _ T55 (mkF m_ 225 #[.val (.int (5 : Int32)), .val (.int t), .val (.int d), .val (.ref b1), .val (.int (own_a d)), .val (.int (own_g d)), .val (.int (own_h d)), .val (.ref b28), .val (.ref w5), .val (.int t), .val (.int (0 : Int32)), .unset] [(.int (f4 w5))])
    refine own_st T55 (mkF m_ 269 #[.val (.int (5 : Int32)), .val (.int t), .val (.int d), .val (.ref b1), .val (.int (own_a d)), .val (.int (own_g d)), .val (.int (own_h d)), .val (.ref b28), .val (.ref w5), .val (.int t), .val (.int (0 : Int32)), .val (.int (0 : Int32))] [(.ref b28), (.ref w5)]) (fun t_ k_ => ?_) ?_
    · refine XS.iload X55.here hx rfl (hb hby at_225) rfl ?_
      show Steps p_.tables e_ below (T55.setTop (mkF m_ 227 #[.val (.int (5 : Int32)), .val (.int t), .val (.int d), .val (.ref b1), .val (.int (own_a d)), .val (.int (own_g d)), .val (.int (own_h d)), .val (.ref b28), .val (.ref w5), .val (.int t), .val (.int (0 : Int32)), .unset] [(.int (0 : Int32)), (.int (f4 w5))])) t_
      refine XS.icmpYes X55.here hx rfl (pc0 := 227) (pc' := 232) rfl (hb hby at_227) rfl (teq (rfl : (f4 w5) = (0 : Int32))).1 (by decide) (by decide) ?_
      show Steps p_.tables e_ below (T55.setTop (mkF m_ 232 #[.val (.int (5 : Int32)), .val (.int t), .val (.int d), .val (.ref b1), .val (.int (own_a d)), .val (.int (own_g d)), .val (.int (own_h d)), .val (.ref b28), .val (.ref w5), .val (.int t), .val (.int (0 : Int32)), .unset] [])) t_
      refine XS.iloadN X55.here hx rfl (hb hby at_232) rfl ?_
      show Steps p_.tables e_ below (T55.setTop (mkF m_ 233 #[.val (.int (5 : Int32)), .val (.int t), .val (.int d), .val (.ref b1), .val (.int (own_a d)), .val (.int (own_g d)), .val (.int (own_h d)), .val (.ref b28), .val (.ref w5), .val (.int t), .val (.int (0 : Int32)), .unset] [(.int (5 : Int32))])) t_
      refine XS.bipush X55.here hx rfl (hb hby at_233) ?_
      show Steps p_.tables e_ below (T55.setTop (mkF m_ 235 #[.val (.int (5 : Int32)), .val (.int t), .val (.int d), .val (.ref b1), .val (.int (own_a d)), .val (.int (own_g d)), .val (.int (own_h d)), .val (.ref b28), .val (.ref w5), .val (.int t), .val (.int (0 : Int32)), .unset] [(.int (6 : Int32)), (.int (5 : Int32))])) t_
      refine XS.icmpYes X55.here hx rfl (pc0 := 235) (pc' := 262) rfl (hb hby at_235) rfl (feq (by decide : ¬ ((5 : Int32) = (6 : Int32)))).2 (by decide) (by decide) ?_
      show Steps p_.tables e_ below (T55.setTop (mkF m_ 262 #[.val (.int (5 : Int32)), .val (.int t), .val (.int d), .val (.ref b1), .val (.int (own_a d)), .val (.int (own_g d)), .val (.int (own_h d)), .val (.ref b28), .val (.ref w5), .val (.int t), .val (.int (0 : Int32)), .unset] [])) t_
      refine XS.iconst X55.here hx rfl (hb hby at_262) ?_
      show Steps p_.tables e_ below (T55.setTop (mkF m_ 263 #[.val (.int (5 : Int32)), .val (.int t), .val (.int d), .val (.ref b1), .val (.int (own_a d)), .val (.int (own_g d)), .val (.int (own_h d)), .val (.ref b28), .val (.ref w5), .val (.int t), .val (.int (0 : Int32)), .unset] [(.int (0 : Int32))])) t_
      refine XS.istore X55.here hx rfl (hb hby at_263) rfl (l' := #[.val (.int (5 : Int32)), .val (.int t), .val (.int d), .val (.ref b1), .val (.int (own_a d)), .val (.int (own_g d)), .val (.int (own_h d)), .val (.ref b28), .val (.ref w5), .val (.int t), .val (.int (0 : Int32)), .val (.int (0 : Int32))]) rfl ?_
      show Steps p_.tables e_ below (T55.setTop (mkF m_ 265 #[.val (.int (5 : Int32)), .val (.int t), .val (.int d), .val (.ref b1), .val (.int (own_a d)), .val (.int (own_g d)), .val (.int (own_h d)), .val (.ref b28), .val (.ref w5), .val (.int t), .val (.int (0 : Int32)), .val (.int (0 : Int32))] [])) t_
      refine XS.aload X55.here hx rfl (hb hby at_265) rfl rfl ?_
      show Steps p_.tables e_ below (T55.setTop (mkF m_ 267 #[.val (.int (5 : Int32)), .val (.int t), .val (.int d), .val (.ref b1), .val (.int (own_a d)), .val (.int (own_g d)), .val (.int (own_h d)), .val (.ref b28), .val (.ref w5), .val (.int t), .val (.int (0 : Int32)), .val (.int (0 : Int32))] [(.ref w5)])) t_
      refine XS.aload X55.here hx rfl (hb hby at_267) rfl rfl ?_
      show Steps p_.tables e_ below (T55.setTop (mkF m_ 269 #[.val (.int (5 : Int32)), .val (.int t), .val (.int d), .val (.ref b1), .val (.int (own_a d)), .val (.int (own_g d)), .val (.int (own_h d)), .val (.ref b28), .val (.ref w5), .val (.int t), .val (.int (0 : Int32)), .val (.int (0 : Int32))] [(.ref b28), (.ref w5)])) t_
      exact k_
    refine own_callV X55 hx hZ (y := (⟨"com/example/banksum/banksum/uk/ExceptionRule", "foreignCurrency", "([I)Z"⟩ : MethodName)) (z := (⟨"com/example/banksum/banksum/uk/ExceptionRule", "foreignCurrency", "([I)Z"⟩ : MethodName)) hown (hw _ (List.mem_of_getElem? (i := 61) rfl)) (hw _ (List.mem_of_getElem? (i := 62) rfl)) (notFace_of_selects (args := #[]) (mvT hZ (hw _ (List.mem_of_getElem? (i := 98) rfl)))) (hw _ (List.mem_of_getElem? (i := 98) rfl)) (hw _ (List.mem_of_getElem? (i := 63) rfl)) (hw _ (List.mem_of_getElem? (i := 3) rfl)) (hw _ (List.mem_of_getElem? (i := 65) rfl)) (by decide) w5 [(.ref b28)] [] (E_w5.ext O.2) (rm5 l Z a0 hw w5 b28 h31 n0 Z0) 0 (by decide) (by decide) e55 (by rw [hml]; rfl) (lenOf own_pd3 rfl) rfl (Nat.le_of_eq rfl) (hb hby at_269) (by decide) (by decide) ?_
    intro v56 T56 L56 X56 q56
    obtain ⟨rfl, N56q, e56⟩ := q56
    have N56 := Fr.app N55 N56q
    show own_Out p_ e_ below s_ _ _ _ T56 (mkF m_ 272 #[.val (.int (5 : Int32)), .val (.int t), .val (.int d), .val (.ref b1), .val (.int (own_a d)), .val (.int (own_g d)), .val (.int (own_h d)), .val (.ref b28), .val (.ref w5), .val (.int t), .val (.int (0 : Int32)), .val (.int (0 : Int32))] [(.int (f5 w5 b28))])
    refine own_st T56 (mkF m_ 282 #[.val (.int (5 : Int32)), .val (.int t), .val (.int d), .val (.ref b1), .val (.int (own_a d)), .val (.int (own_g d)), .val (.int (own_h d)), .val (.ref b28), .val (.ref w5), .val (.int t), .val (.int (0 : Int32)), .val (.int (0 : Int32))] [(.int (1 : Int32))]) (fun t_ k_ => ?_) ?_
    · refine XS.iload X56.here hx rfl (hb hby at_272) rfl ?_
      show Steps p_.tables e_ below (T56.setTop (mkF m_ 274 #[.val (.int (5 : Int32)), .val (.int t), .val (.int d), .val (.ref b1), .val (.int (own_a d)), .val (.int (own_g d)), .val (.int (own_h d)), .val (.ref b28), .val (.ref w5), .val (.int t), .val (.int (0 : Int32)), .val (.int (0 : Int32))] [(.int (0 : Int32)), (.int (f5 w5 b28))])) t_
      refine XS.icmpNo X56.here hx rfl (hb hby at_274) rfl (teq (rfl : (f5 w5 b28) = (0 : Int32))).2 ?_
      show Steps p_.tables e_ below (T56.setTop (mkF m_ 277 #[.val (.int (5 : Int32)), .val (.int t), .val (.int d), .val (.ref b1), .val (.int (own_a d)), .val (.int (own_g d)), .val (.int (own_h d)), .val (.ref b28), .val (.ref w5), .val (.int t), .val (.int (0 : Int32)), .val (.int (0 : Int32))] [])) t_
      refine XS.iconst X56.here hx rfl (hb hby at_277) ?_
      show Steps p_.tables e_ below (T56.setTop (mkF m_ 278 #[.val (.int (5 : Int32)), .val (.int t), .val (.int d), .val (.ref b1), .val (.int (own_a d)), .val (.int (own_g d)), .val (.int (own_h d)), .val (.ref b28), .val (.ref w5), .val (.int t), .val (.int (0 : Int32)), .val (.int (0 : Int32))] [(.int (1 : Int32))])) t_
      refine XS.goto X56.here hx rfl (pc0 := 278) (pc' := 282) rfl (hb hby at_278) (by decide) (by decide) ?_
      show Steps p_.tables e_ below (T56.setTop (mkF m_ 282 #[.val (.int (5 : Int32)), .val (.int t), .val (.int d), .val (.ref b1), .val (.int (own_a d)), .val (.int (own_g d)), .val (.int (own_h d)), .val (.ref b28), .val (.ref w5), .val (.int t), .val (.int (0 : Int32)), .val (.int (0 : Int32))] [(.int (1 : Int32))])) t_
      exact k_
    refine own_retN X56 hx hlk (t := .boolean) hret (by simp) (hb hby at_282) (by decide) (by decide) ?_
    exact ⟨rfl, N56⟩
  · show own_Out p_ e_ below s_ _ _ _ T32 (mkF m_ 153 #[.val (.int (6 : Int32)), .val (.int t), .val (.int d), .val (.ref b1), .val (.int (own_a d)), .val (.int (own_g d)), .val (.int (own_h d)), .val (.ref b28), .unset, .unset, .unset, .unset] [(.ref w6)])
    refine own_st T32 (mkF m_ 159 #[.val (.int (6 : Int32)), .val (.int t), .val (.int d), .val (.ref b1), .val (.int (own_a d)), .val (.int (own_g d)), .val (.int (own_h d)), .val (.ref b28), .val (.ref w6), .unset, .unset, .unset] [(.int (6 : Int32)), (.ref b1), (.ref w6)]) (fun t_ k_ => ?_) ?_
    · refine XS.astore X32.here hx rfl (hb hby at_153) rfl rfl (l' := #[.val (.int (6 : Int32)), .val (.int t), .val (.int d), .val (.ref b1), .val (.int (own_a d)), .val (.int (own_g d)), .val (.int (own_h d)), .val (.ref b28), .val (.ref w6), .unset, .unset, .unset]) rfl ?_
      show Steps p_.tables e_ below (T32.setTop (mkF m_ 155 #[.val (.int (6 : Int32)), .val (.int t), .val (.int d), .val (.ref b1), .val (.int (own_a d)), .val (.int (own_g d)), .val (.int (own_h d)), .val (.ref b28), .val (.ref w6), .unset, .unset, .unset] [])) t_
      refine XS.aload X32.here hx rfl (hb hby at_155) rfl rfl ?_
      show Steps p_.tables e_ below (T32.setTop (mkF m_ 157 #[.val (.int (6 : Int32)), .val (.int t), .val (.int d), .val (.ref b1), .val (.int (own_a d)), .val (.int (own_g d)), .val (.int (own_h d)), .val (.ref b28), .val (.ref w6), .unset, .unset, .unset] [(.ref w6)])) t_
      refine XS.aloadN X32.here hx rfl (hb hby at_157) rfl rfl ?_
      show Steps p_.tables e_ below (T32.setTop (mkF m_ 158 #[.val (.int (6 : Int32)), .val (.int t), .val (.int d), .val (.ref b1), .val (.int (own_a d)), .val (.int (own_g d)), .val (.int (own_h d)), .val (.ref b28), .val (.ref w6), .unset, .unset, .unset] [(.ref b1), (.ref w6)])) t_
      refine XS.iloadN X32.here hx rfl (hb hby at_158) rfl ?_
      show Steps p_.tables e_ below (T32.setTop (mkF m_ 159 #[.val (.int (6 : Int32)), .val (.int t), .val (.int d), .val (.ref b1), .val (.int (own_a d)), .val (.int (own_g d)), .val (.int (own_h d)), .val (.ref b28), .val (.ref w6), .unset, .unset, .unset] [(.int (6 : Int32)), (.ref b1), (.ref w6)])) t_
      exact k_
    refine own_callS X32 hx hZ hown (hw _ (List.mem_of_getElem? (i := 47) rfl)) (hw _ (List.mem_of_getElem? (i := 48) rfl)) (hw _ (List.mem_of_getElem? (i := 49) rfl)) (hw _ (List.mem_of_getElem? (i := 50) rfl)) (by decide) [(.int (6 : Int32))] [(.ref b1), (.ref w6)] (rm2 l Z a0 hw (6 : Int32) h31 n0 Z0) 2 (by decide) (by decide) e32 (by rw [hml]; rfl) (lenOf own_pd1 rfl) rfl (Nat.le_of_eq rfl) (hb hby at_159) (by decide) (by decide) ?_
    intro v57 T57 L57 X57 q57
    obtain ⟨rfl, N57q, e57⟩ := q57
    have N57 := Fr.app N32 N57q
    rw [show (f2 (6 : Int32)) = 6 from by decide]
    show own_Out p_ e_ below s_ _ _ _ T57 (mkF m_ 162 #[.val (.int (6 : Int32)), .val (.int t), .val (.int d), .val (.ref b1), .val (.int (own_a d)), .val (.int (own_g d)), .val (.int (own_h d)), .val (.ref b28), .val (.ref w6), .unset, .unset, .unset] [(.int (6 : Int32)), (.ref b1), (.ref w6)])
    refine own_st T57 (mkF m_ 186 #[.val (.int (6 : Int32)), .val (.int t), .val (.int d), .val (.ref b1), .val (.int (own_a d)), .val (.int (own_g d)), .val (.int (own_h d)), .val (.ref b28), .val (.ref w6), .val (.int t), .unset, .unset] [(.int t), (.ref w6)]) (fun t_ k_ => ?_) ?_
    · refine own_ldR X57 hx hZ e57 A_b1 rfl 6 (by decide) (by decide) (hb hby at_162) _ ?_
      show Steps p_.tables e_ below (T57.setTop (mkF m_ 163 #[.val (.int (6 : Int32)), .val (.int t), .val (.int d), .val (.ref b1), .val (.int (own_a d)), .val (.int (own_g d)), .val (.int (own_h d)), .val (.ref b28), .val (.ref w6), .unset, .unset, .unset] [(.ref w6), (.ref w6)])) t_
      refine Jvm.RoadKit.acmp (g := (mkF m_ 163 #[.val (.int (6 : Int32)), .val (.int t), .val (.int d), .val (.ref b1), .val (.int (own_a d)), .val (.int (own_g d)), .val (.int (own_h d)), .val (.ref b28), .val (.ref w6), .unset, .unset, .unset] [(.ref w6), (.ref w6)])) X57 hx rfl rfl rfl (pc0 := 163) (pc' := 168) (same := true) rfl (hb hby at_163) rfl (decide_eq_true rfl) (by decide) (by decide) ?_
      show Steps p_.tables e_ below (T57.setTop (mkF m_ 168 #[.val (.int (6 : Int32)), .val (.int t), .val (.int d), .val (.ref b1), .val (.int (own_a d)), .val (.int (own_g d)), .val (.int (own_h d)), .val (.ref b28), .val (.ref w6), .unset, .unset, .unset] [])) t_
      refine XS.iloadN X57.here hx rfl (hb hby at_168) rfl ?_
      show Steps p_.tables e_ below (T57.setTop (mkF m_ 169 #[.val (.int (6 : Int32)), .val (.int t), .val (.int d), .val (.ref b1), .val (.int (own_a d)), .val (.int (own_g d)), .val (.int (own_h d)), .val (.ref b28), .val (.ref w6), .unset, .unset, .unset] [(.int (6 : Int32))])) t_
      refine XS.iconst X57.here hx rfl (hb hby at_169) ?_
      show Steps p_.tables e_ below (T57.setTop (mkF m_ 170 #[.val (.int (6 : Int32)), .val (.int t), .val (.int d), .val (.ref b1), .val (.int (own_a d)), .val (.int (own_g d)), .val (.int (own_h d)), .val (.ref b28), .val (.ref w6), .unset, .unset, .unset] [(.int (1 : Int32)), (.int (6 : Int32))])) t_
      refine XS.icmpYes X57.here hx rfl (pc0 := 170) (pc' := 180) rfl (hb hby at_170) rfl (feq (by decide : ¬ ((6 : Int32) = (1 : Int32)))).2 (by decide) (by decide) ?_
      show Steps p_.tables e_ below (T57.setTop (mkF m_ 180 #[.val (.int (6 : Int32)), .val (.int t), .val (.int d), .val (.ref b1), .val (.int (own_a d)), .val (.int (own_g d)), .val (.int (own_h d)), .val (.ref b28), .val (.ref w6), .unset, .unset, .unset] [])) t_
      refine XS.iloadN X57.here hx rfl (hb hby at_180) rfl ?_
      show Steps p_.tables e_ below (T57.setTop (mkF m_ 181 #[.val (.int (6 : Int32)), .val (.int t), .val (.int d), .val (.ref b1), .val (.int (own_a d)), .val (.int (own_g d)), .val (.int (own_h d)), .val (.ref b28), .val (.ref w6), .unset, .unset, .unset] [(.int t)])) t_
      refine XS.istore X57.here hx rfl (hb hby at_181) rfl (l' := #[.val (.int (6 : Int32)), .val (.int t), .val (.int d), .val (.ref b1), .val (.int (own_a d)), .val (.int (own_g d)), .val (.int (own_h d)), .val (.ref b28), .val (.ref w6), .val (.int t), .unset, .unset]) rfl ?_
      show Steps p_.tables e_ below (T57.setTop (mkF m_ 183 #[.val (.int (6 : Int32)), .val (.int t), .val (.int d), .val (.ref b1), .val (.int (own_a d)), .val (.int (own_g d)), .val (.int (own_h d)), .val (.ref b28), .val (.ref w6), .val (.int t), .unset, .unset] [])) t_
      refine XS.aload X57.here hx rfl (hb hby at_183) rfl rfl ?_
      show Steps p_.tables e_ below (T57.setTop (mkF m_ 185 #[.val (.int (6 : Int32)), .val (.int t), .val (.int d), .val (.ref b1), .val (.int (own_a d)), .val (.int (own_g d)), .val (.int (own_h d)), .val (.ref b28), .val (.ref w6), .val (.int t), .unset, .unset] [(.ref w6)])) t_
      refine XS.iloadN X57.here hx rfl (hb hby at_185) rfl ?_
      show Steps p_.tables e_ below (T57.setTop (mkF m_ 186 #[.val (.int (6 : Int32)), .val (.int t), .val (.int d), .val (.ref b1), .val (.int (own_a d)), .val (.int (own_g d)), .val (.int (own_h d)), .val (.ref b28), .val (.ref w6), .val (.int t), .unset, .unset] [(.int t), (.ref w6)])) t_
      exact k_
    refine own_callV X57 hx hZ (y := (⟨"com/example/banksum/banksum/uk/ExceptionRule", "total", "(I)I"⟩ : MethodName)) (z := (⟨"com/example/banksum/banksum/uk/ExceptionRule", "total", "(I)I"⟩ : MethodName)) hown (hw _ (List.mem_of_getElem? (i := 51) rfl)) (hw _ (List.mem_of_getElem? (i := 52) rfl)) (notFace_of_selects (args := #[]) (mvT hZ (hw _ (List.mem_of_getElem? (i := 108) rfl)))) (hw _ (List.mem_of_getElem? (i := 108) rfl)) (hw _ (List.mem_of_getElem? (i := 53) rfl)) (hw _ (List.mem_of_getElem? (i := 3) rfl)) (hw _ (List.mem_of_getElem? (i := 55) rfl)) (by decide) w6 [(.int t)] [] (E_w6.ext O.2) (rm3 l Z a0 hw w6 t h31 n0 Z0) 0 (by decide) (by decide) e57 (by rw [hml]; rfl) (lenOf own_pd1 rfl) rfl (Nat.le_of_eq rfl) (hb hby at_186) (by decide) (by decide) ?_
    intro v58 T58 L58 X58 q58
    obtain ⟨rfl, N58q, e58⟩ := q58
    have N58 := Fr.app N57 N58q
    show own_Out p_ e_ below s_ _ _ _ T58 (mkF m_ 189 #[.val (.int (6 : Int32)), .val (.int t), .val (.int d), .val (.ref b1), .val (.int (own_a d)), .val (.int (own_g d)), .val (.int (own_h d)), .val (.ref b28), .val (.ref w6), .val (.int t), .unset, .unset] [(.int (f3 w6 t))])
    refine own_st T58 (mkF m_ 222 #[.val (.int (6 : Int32)), .val (.int t), .val (.int d), .val (.ref b1), .val (.int (own_a d)), .val (.int (own_g d)), .val (.int (own_h d)), .val (.ref b28), .val (.ref w6), .val (.int t), .val (.int (0 : Int32)), .unset] [(.ref w6)]) (fun t_ k_ => ?_) ?_
    · refine XS.iload X58.here hx rfl (hb hby at_189) rfl ?_
      show Steps p_.tables e_ below (T58.setTop (mkF m_ 191 #[.val (.int (6 : Int32)), .val (.int t), .val (.int d), .val (.ref b1), .val (.int (own_a d)), .val (.int (own_g d)), .val (.int (own_h d)), .val (.ref b28), .val (.ref w6), .val (.int t), .unset, .unset] [(.int t), (.int (f3 w6 t))])) t_
      refine XS.icmpYes X58.here hx rfl (pc0 := 191) (pc' := 196) rfl (hb hby at_191) rfl (teq (rfl : (f3 w6 t) = t)).1 (by decide) (by decide) ?_
      show Steps p_.tables e_ below (T58.setTop (mkF m_ 196 #[.val (.int (6 : Int32)), .val (.int t), .val (.int d), .val (.ref b1), .val (.int (own_a d)), .val (.int (own_g d)), .val (.int (own_h d)), .val (.ref b28), .val (.ref w6), .val (.int t), .unset, .unset] [])) t_
      refine XS.iloadN X58.here hx rfl (hb hby at_196) rfl ?_
      show Steps p_.tables e_ below (T58.setTop (mkF m_ 197 #[.val (.int (6 : Int32)), .val (.int t), .val (.int d), .val (.ref b1), .val (.int (own_a d)), .val (.int (own_g d)), .val (.int (own_h d)), .val (.ref b28), .val (.ref w6), .val (.int t), .unset, .unset] [(.int (6 : Int32))])) t_
      refine XS.iconst X58.here hx rfl (hb hby at_197) ?_
      show Steps p_.tables e_ below (T58.setTop (mkF m_ 198 #[.val (.int (6 : Int32)), .val (.int t), .val (.int d), .val (.ref b1), .val (.int (own_a d)), .val (.int (own_g d)), .val (.int (own_h d)), .val (.ref b28), .val (.ref w6), .val (.int t), .unset, .unset] [(.int (2 : Int32)), (.int (6 : Int32))])) t_
      refine XS.icmpNo X58.here hx rfl (hb hby at_198) rfl (feq (by decide : ¬ ((6 : Int32) = (2 : Int32)))).1 ?_
      show Steps p_.tables e_ below (T58.setTop (mkF m_ 201 #[.val (.int (6 : Int32)), .val (.int t), .val (.int d), .val (.ref b1), .val (.int (own_a d)), .val (.int (own_g d)), .val (.int (own_h d)), .val (.ref b28), .val (.ref w6), .val (.int t), .unset, .unset] [])) t_
      refine XS.iloadN X58.here hx rfl (hb hby at_201) rfl ?_
      show Steps p_.tables e_ below (T58.setTop (mkF m_ 202 #[.val (.int (6 : Int32)), .val (.int t), .val (.int d), .val (.ref b1), .val (.int (own_a d)), .val (.int (own_g d)), .val (.int (own_h d)), .val (.ref b28), .val (.ref w6), .val (.int t), .unset, .unset] [(.int (6 : Int32))])) t_
      refine XS.bipush X58.here hx rfl (hb hby at_202) ?_
      show Steps p_.tables e_ below (T58.setTop (mkF m_ 204 #[.val (.int (6 : Int32)), .val (.int t), .val (.int d), .val (.ref b1), .val (.int (own_a d)), .val (.int (own_g d)), .val (.int (own_h d)), .val (.ref b28), .val (.ref w6), .val (.int t), .unset, .unset] [(.int (10 : Int32)), (.int (6 : Int32))])) t_
      refine XS.icmpNo X58.here hx rfl (hb hby at_204) rfl (feq (by decide : ¬ ((6 : Int32) = (10 : Int32)))).1 ?_
      show Steps p_.tables e_ below (T58.setTop (mkF m_ 207 #[.val (.int (6 : Int32)), .val (.int t), .val (.int d), .val (.ref b1), .val (.int (own_a d)), .val (.int (own_g d)), .val (.int (own_h d)), .val (.ref b28), .val (.ref w6), .val (.int t), .unset, .unset] [])) t_
      refine XS.iloadN X58.here hx rfl (hb hby at_207) rfl ?_
      show Steps p_.tables e_ below (T58.setTop (mkF m_ 208 #[.val (.int (6 : Int32)), .val (.int t), .val (.int d), .val (.ref b1), .val (.int (own_a d)), .val (.int (own_g d)), .val (.int (own_h d)), .val (.ref b28), .val (.ref w6), .val (.int t), .unset, .unset] [(.int (6 : Int32))])) t_
      refine XS.bipush X58.here hx rfl (hb hby at_208) ?_
      show Steps p_.tables e_ below (T58.setTop (mkF m_ 210 #[.val (.int (6 : Int32)), .val (.int t), .val (.int d), .val (.ref b1), .val (.int (own_a d)), .val (.int (own_g d)), .val (.int (own_h d)), .val (.ref b28), .val (.ref w6), .val (.int t), .unset, .unset] [(.int (12 : Int32)), (.int (6 : Int32))])) t_
      refine XS.icmpYes X58.here hx rfl (pc0 := 210) (pc' := 217) rfl (hb hby at_210) rfl (feq (by decide : ¬ ((6 : Int32) = (12 : Int32)))).2 (by decide) (by decide) ?_
      show Steps p_.tables e_ below (T58.setTop (mkF m_ 217 #[.val (.int (6 : Int32)), .val (.int t), .val (.int d), .val (.ref b1), .val (.int (own_a d)), .val (.int (own_g d)), .val (.int (own_h d)), .val (.ref b28), .val (.ref w6), .val (.int t), .unset, .unset] [])) t_
      refine XS.iconst X58.here hx rfl (hb hby at_217) ?_
      show Steps p_.tables e_ below (T58.setTop (mkF m_ 218 #[.val (.int (6 : Int32)), .val (.int t), .val (.int d), .val (.ref b1), .val (.int (own_a d)), .val (.int (own_g d)), .val (.int (own_h d)), .val (.ref b28), .val (.ref w6), .val (.int t), .unset, .unset] [(.int (0 : Int32))])) t_
      refine XS.istore X58.here hx rfl (hb hby at_218) rfl (l' := #[.val (.int (6 : Int32)), .val (.int t), .val (.int d), .val (.ref b1), .val (.int (own_a d)), .val (.int (own_g d)), .val (.int (own_h d)), .val (.ref b28), .val (.ref w6), .val (.int t), .val (.int (0 : Int32)), .unset]) rfl ?_
      show Steps p_.tables e_ below (T58.setTop (mkF m_ 220 #[.val (.int (6 : Int32)), .val (.int t), .val (.int d), .val (.ref b1), .val (.int (own_a d)), .val (.int (own_g d)), .val (.int (own_h d)), .val (.ref b28), .val (.ref w6), .val (.int t), .val (.int (0 : Int32)), .unset] [])) t_
      refine XS.aload X58.here hx rfl (hb hby at_220) rfl rfl ?_
      show Steps p_.tables e_ below (T58.setTop (mkF m_ 222 #[.val (.int (6 : Int32)), .val (.int t), .val (.int d), .val (.ref b1), .val (.int (own_a d)), .val (.int (own_g d)), .val (.int (own_h d)), .val (.ref b28), .val (.ref w6), .val (.int t), .val (.int (0 : Int32)), .unset] [(.ref w6)])) t_
      exact k_
    refine own_callV X58 hx hZ (y := (⟨"com/example/banksum/banksum/uk/ExceptionRule", "eitherPasses", "()Z"⟩ : MethodName)) (z := (⟨"com/example/banksum/banksum/uk/ExceptionRule", "eitherPasses", "()Z"⟩ : MethodName)) hown (hw _ (List.mem_of_getElem? (i := 56) rfl)) (hw _ (List.mem_of_getElem? (i := 57) rfl)) (notFace_of_selects (args := #[]) (mvT hZ (hw _ (List.mem_of_getElem? (i := 109) rfl)))) (hw _ (List.mem_of_getElem? (i := 109) rfl)) (hw _ (List.mem_of_getElem? (i := 58) rfl)) (hw _ (List.mem_of_getElem? (i := 3) rfl)) (hw _ (List.mem_of_getElem? (i := 60) rfl)) (by decide) w6 [] [] (E_w6.ext O.2) (rm4 l Z a0 hw w6 h31 n0 Z0) 0 (by decide) (by decide) e58 (by rw [hml]; rfl) (lenOf own_pd2 rfl) rfl (Nat.le_of_eq rfl) (hb hby at_222) (by decide) (by decide) ?_
    intro v59 T59 L59 X59 q59
    obtain ⟨rfl, N59q, e59⟩ := q59
    have N59 := Fr.app N58 N59q
    show own_Out p_ e_ below s_ _ _ _ T59 (mkF m_ 225 #[.val (.int (6 : Int32)), .val (.int t), .val (.int d), .val (.ref b1), .val (.int (own_a d)), .val (.int (own_g d)), .val (.int (own_h d)), .val (.ref b28), .val (.ref w6), .val (.int t), .val (.int (0 : Int32)), .unset] [(.int (f4 w6))])
    refine own_st T59 (mkF m_ 269 #[.val (.int (6 : Int32)), .val (.int t), .val (.int d), .val (.ref b1), .val (.int (own_a d)), .val (.int (own_g d)), .val (.int (own_h d)), .val (.ref b28), .val (.ref w6), .val (.int t), .val (.int (0 : Int32)), .val (.int (if (own_a d) < (4 : Int32) then (0 : Int32) else (if (8 : Int32) < (own_a d) then (0 : Int32) else (if (own_g d) = (own_h d) then (1 : Int32) else 0))))] [(.ref b28), (.ref w6)]) (fun t_ k_ => ?_) ?_
    · refine XS.iload X59.here hx rfl (hb hby at_225) rfl ?_
      show Steps p_.tables e_ below (T59.setTop (mkF m_ 227 #[.val (.int (6 : Int32)), .val (.int t), .val (.int d), .val (.ref b1), .val (.int (own_a d)), .val (.int (own_g d)), .val (.int (own_h d)), .val (.ref b28), .val (.ref w6), .val (.int t), .val (.int (0 : Int32)), .unset] [(.int (0 : Int32)), (.int (f4 w6))])) t_
      refine XS.icmpYes X59.here hx rfl (pc0 := 227) (pc' := 232) rfl (hb hby at_227) rfl (teq (rfl : (f4 w6) = (0 : Int32))).1 (by decide) (by decide) ?_
      show Steps p_.tables e_ below (T59.setTop (mkF m_ 232 #[.val (.int (6 : Int32)), .val (.int t), .val (.int d), .val (.ref b1), .val (.int (own_a d)), .val (.int (own_g d)), .val (.int (own_h d)), .val (.ref b28), .val (.ref w6), .val (.int t), .val (.int (0 : Int32)), .unset] [])) t_
      refine XS.iloadN X59.here hx rfl (hb hby at_232) rfl ?_
      show Steps p_.tables e_ below (T59.setTop (mkF m_ 233 #[.val (.int (6 : Int32)), .val (.int t), .val (.int d), .val (.ref b1), .val (.int (own_a d)), .val (.int (own_g d)), .val (.int (own_h d)), .val (.ref b28), .val (.ref w6), .val (.int t), .val (.int (0 : Int32)), .unset] [(.int (6 : Int32))])) t_
      refine XS.bipush X59.here hx rfl (hb hby at_233) ?_
      show Steps p_.tables e_ below (T59.setTop (mkF m_ 235 #[.val (.int (6 : Int32)), .val (.int t), .val (.int d), .val (.ref b1), .val (.int (own_a d)), .val (.int (own_g d)), .val (.int (own_h d)), .val (.ref b28), .val (.ref w6), .val (.int t), .val (.int (0 : Int32)), .unset] [(.int (6 : Int32)), (.int (6 : Int32))])) t_
      refine XS.icmpNo X59.here hx rfl (hb hby at_235) rfl (teq (by decide : (6 : Int32) = (6 : Int32))).2 ?_
      show Steps p_.tables e_ below (T59.setTop (mkF m_ 238 #[.val (.int (6 : Int32)), .val (.int t), .val (.int d), .val (.ref b1), .val (.int (own_a d)), .val (.int (own_g d)), .val (.int (own_h d)), .val (.ref b28), .val (.ref w6), .val (.int t), .val (.int (0 : Int32)), .unset] [])) t_
      refine XS.iload X59.here hx rfl (hb hby at_238) rfl ?_
      show Steps p_.tables e_ below (T59.setTop (mkF m_ 240 #[.val (.int (6 : Int32)), .val (.int t), .val (.int d), .val (.ref b1), .val (.int (own_a d)), .val (.int (own_g d)), .val (.int (own_h d)), .val (.ref b28), .val (.ref w6), .val (.int t), .val (.int (0 : Int32)), .unset] [(.int (own_a d))])) t_
      refine XS.iconst X59.here hx rfl (hb hby at_240) ?_
      show Steps p_.tables e_ below (T59.setTop (mkF m_ 241 #[.val (.int (6 : Int32)), .val (.int t), .val (.int d), .val (.ref b1), .val (.int (own_a d)), .val (.int (own_g d)), .val (.int (own_h d)), .val (.ref b28), .val (.ref w6), .val (.int t), .val (.int (0 : Int32)), .unset] [(.int (4 : Int32)), (.int (own_a d))])) t_
      have jn241 : ∀ t_, Steps p_.tables e_ below (T59.setTop (mkF m_ 263 #[.val (.int (6 : Int32)), .val (.int t), .val (.int d), .val (.ref b1), .val (.int (own_a d)), .val (.int (own_g d)), .val (.int (own_h d)), .val (.ref b28), .val (.ref w6), .val (.int t), .val (.int (0 : Int32)), .unset] [(.int (if (own_a d) < (4 : Int32) then (0 : Int32) else (if (8 : Int32) < (own_a d) then (0 : Int32) else (if (own_g d) = (own_h d) then (1 : Int32) else 0))))])) t_ → Steps p_.tables e_ below (T59.setTop (mkF m_ 241 #[.val (.int (6 : Int32)), .val (.int t), .val (.int d), .val (.ref b1), .val (.int (own_a d)), .val (.int (own_g d)), .val (.int (own_h d)), .val (.ref b28), .val (.ref w6), .val (.int t), .val (.int (0 : Int32)), .unset] [(.int (4 : Int32)), (.int (own_a d))])) t_ := by
        intro t_ k_
        by_cases hc241 : (own_a d) < (4 : Int32)
        · refine XS.icmpYes X59.here hx rfl (pc0 := 241) (pc' := 262) rfl (hb hby at_241) rfl (tlt hc241).1 (by decide) (by decide) ?_
          show Steps p_.tables e_ below (T59.setTop (mkF m_ 262 #[.val (.int (6 : Int32)), .val (.int t), .val (.int d), .val (.ref b1), .val (.int (own_a d)), .val (.int (own_g d)), .val (.int (own_h d)), .val (.ref b28), .val (.ref w6), .val (.int t), .val (.int (0 : Int32)), .unset] [])) t_
          refine XS.iconst X59.here hx rfl (hb hby at_262) ?_
          show Steps p_.tables e_ below (T59.setTop (mkF m_ 263 #[.val (.int (6 : Int32)), .val (.int t), .val (.int d), .val (.ref b1), .val (.int (own_a d)), .val (.int (own_g d)), .val (.int (own_h d)), .val (.ref b28), .val (.ref w6), .val (.int t), .val (.int (0 : Int32)), .unset] [(.int (0 : Int32))])) t_
          simp only [if_pos hc241] at k_
          exact k_
        · refine XS.icmpNo X59.here hx rfl (hb hby at_241) rfl (flt hc241).1 ?_
          show Steps p_.tables e_ below (T59.setTop (mkF m_ 244 #[.val (.int (6 : Int32)), .val (.int t), .val (.int d), .val (.ref b1), .val (.int (own_a d)), .val (.int (own_g d)), .val (.int (own_h d)), .val (.ref b28), .val (.ref w6), .val (.int t), .val (.int (0 : Int32)), .unset] [])) t_
          refine XS.iload X59.here hx rfl (hb hby at_244) rfl ?_
          show Steps p_.tables e_ below (T59.setTop (mkF m_ 246 #[.val (.int (6 : Int32)), .val (.int t), .val (.int d), .val (.ref b1), .val (.int (own_a d)), .val (.int (own_g d)), .val (.int (own_h d)), .val (.ref b28), .val (.ref w6), .val (.int t), .val (.int (0 : Int32)), .unset] [(.int (own_a d))])) t_
          refine XS.bipush X59.here hx rfl (hb hby at_246) ?_
          show Steps p_.tables e_ below (T59.setTop (mkF m_ 248 #[.val (.int (6 : Int32)), .val (.int t), .val (.int d), .val (.ref b1), .val (.int (own_a d)), .val (.int (own_g d)), .val (.int (own_h d)), .val (.ref b28), .val (.ref w6), .val (.int t), .val (.int (0 : Int32)), .unset] [(.int (8 : Int32)), (.int (own_a d))])) t_
          have jn248 : ∀ t_, Steps p_.tables e_ below (T59.setTop (mkF m_ 263 #[.val (.int (6 : Int32)), .val (.int t), .val (.int d), .val (.ref b1), .val (.int (own_a d)), .val (.int (own_g d)), .val (.int (own_h d)), .val (.ref b28), .val (.ref w6), .val (.int t), .val (.int (0 : Int32)), .unset] [(.int (if (8 : Int32) < (own_a d) then (0 : Int32) else (if (own_g d) = (own_h d) then (1 : Int32) else 0)))])) t_ → Steps p_.tables e_ below (T59.setTop (mkF m_ 248 #[.val (.int (6 : Int32)), .val (.int t), .val (.int d), .val (.ref b1), .val (.int (own_a d)), .val (.int (own_g d)), .val (.int (own_h d)), .val (.ref b28), .val (.ref w6), .val (.int t), .val (.int (0 : Int32)), .unset] [(.int (8 : Int32)), (.int (own_a d))])) t_ := by
            intro t_ k_
            by_cases hc248 : (8 : Int32) < (own_a d)
            · refine XS.icmpYes X59.here hx rfl (pc0 := 248) (pc' := 262) rfl (hb hby at_248) rfl (tlt hc248).2.2.1 (by decide) (by decide) ?_
              show Steps p_.tables e_ below (T59.setTop (mkF m_ 262 #[.val (.int (6 : Int32)), .val (.int t), .val (.int d), .val (.ref b1), .val (.int (own_a d)), .val (.int (own_g d)), .val (.int (own_h d)), .val (.ref b28), .val (.ref w6), .val (.int t), .val (.int (0 : Int32)), .unset] [])) t_
              refine XS.iconst X59.here hx rfl (hb hby at_262) ?_
              show Steps p_.tables e_ below (T59.setTop (mkF m_ 263 #[.val (.int (6 : Int32)), .val (.int t), .val (.int d), .val (.ref b1), .val (.int (own_a d)), .val (.int (own_g d)), .val (.int (own_h d)), .val (.ref b28), .val (.ref w6), .val (.int t), .val (.int (0 : Int32)), .unset] [(.int (0 : Int32))])) t_
              simp only [if_pos hc248] at k_
              exact k_
            · refine XS.icmpNo X59.here hx rfl (hb hby at_248) rfl (flt hc248).2.2.1 ?_
              show Steps p_.tables e_ below (T59.setTop (mkF m_ 251 #[.val (.int (6 : Int32)), .val (.int t), .val (.int d), .val (.ref b1), .val (.int (own_a d)), .val (.int (own_g d)), .val (.int (own_h d)), .val (.ref b28), .val (.ref w6), .val (.int t), .val (.int (0 : Int32)), .unset] [])) t_
              refine XS.iload X59.here hx rfl (hb hby at_251) rfl ?_
              show Steps p_.tables e_ below (T59.setTop (mkF m_ 253 #[.val (.int (6 : Int32)), .val (.int t), .val (.int d), .val (.ref b1), .val (.int (own_a d)), .val (.int (own_g d)), .val (.int (own_h d)), .val (.ref b28), .val (.ref w6), .val (.int t), .val (.int (0 : Int32)), .unset] [(.int (own_g d))])) t_
              refine XS.iload X59.here hx rfl (hb hby at_253) rfl ?_
              show Steps p_.tables e_ below (T59.setTop (mkF m_ 255 #[.val (.int (6 : Int32)), .val (.int t), .val (.int d), .val (.ref b1), .val (.int (own_a d)), .val (.int (own_g d)), .val (.int (own_h d)), .val (.ref b28), .val (.ref w6), .val (.int t), .val (.int (0 : Int32)), .unset] [(.int (own_h d)), (.int (own_g d))])) t_
              have jn255 : ∀ t_, Steps p_.tables e_ below (T59.setTop (mkF m_ 263 #[.val (.int (6 : Int32)), .val (.int t), .val (.int d), .val (.ref b1), .val (.int (own_a d)), .val (.int (own_g d)), .val (.int (own_h d)), .val (.ref b28), .val (.ref w6), .val (.int t), .val (.int (0 : Int32)), .unset] [(.int (if (own_g d) = (own_h d) then (1 : Int32) else 0))])) t_ → Steps p_.tables e_ below (T59.setTop (mkF m_ 255 #[.val (.int (6 : Int32)), .val (.int t), .val (.int d), .val (.ref b1), .val (.int (own_a d)), .val (.int (own_g d)), .val (.int (own_h d)), .val (.ref b28), .val (.ref w6), .val (.int t), .val (.int (0 : Int32)), .unset] [(.int (own_h d)), (.int (own_g d))])) t_ := by
                intro t_ k_
                by_cases hc255 : (own_g d) = (own_h d)
                · refine XS.icmpNo X59.here hx rfl (hb hby at_255) rfl (teq hc255).2 ?_
                  show Steps p_.tables e_ below (T59.setTop (mkF m_ 258 #[.val (.int (6 : Int32)), .val (.int t), .val (.int d), .val (.ref b1), .val (.int (own_a d)), .val (.int (own_g d)), .val (.int (own_h d)), .val (.ref b28), .val (.ref w6), .val (.int t), .val (.int (0 : Int32)), .unset] [])) t_
                  refine XS.iconst X59.here hx rfl (hb hby at_258) ?_
                  show Steps p_.tables e_ below (T59.setTop (mkF m_ 259 #[.val (.int (6 : Int32)), .val (.int t), .val (.int d), .val (.ref b1), .val (.int (own_a d)), .val (.int (own_g d)), .val (.int (own_h d)), .val (.ref b28), .val (.ref w6), .val (.int t), .val (.int (0 : Int32)), .unset] [(.int (1 : Int32))])) t_
                  refine XS.goto X59.here hx rfl (pc0 := 259) (pc' := 263) rfl (hb hby at_259) (by decide) (by decide) ?_
                  show Steps p_.tables e_ below (T59.setTop (mkF m_ 263 #[.val (.int (6 : Int32)), .val (.int t), .val (.int d), .val (.ref b1), .val (.int (own_a d)), .val (.int (own_g d)), .val (.int (own_h d)), .val (.ref b28), .val (.ref w6), .val (.int t), .val (.int (0 : Int32)), .unset] [(.int (1 : Int32))])) t_
                  simp only [if_pos hc255] at k_
                  exact k_
                · refine XS.icmpYes X59.here hx rfl (pc0 := 255) (pc' := 262) rfl (hb hby at_255) rfl (feq hc255).2 (by decide) (by decide) ?_
                  show Steps p_.tables e_ below (T59.setTop (mkF m_ 262 #[.val (.int (6 : Int32)), .val (.int t), .val (.int d), .val (.ref b1), .val (.int (own_a d)), .val (.int (own_g d)), .val (.int (own_h d)), .val (.ref b28), .val (.ref w6), .val (.int t), .val (.int (0 : Int32)), .unset] [])) t_
                  refine XS.iconst X59.here hx rfl (hb hby at_262) ?_
                  show Steps p_.tables e_ below (T59.setTop (mkF m_ 263 #[.val (.int (6 : Int32)), .val (.int t), .val (.int d), .val (.ref b1), .val (.int (own_a d)), .val (.int (own_g d)), .val (.int (own_h d)), .val (.ref b28), .val (.ref w6), .val (.int t), .val (.int (0 : Int32)), .unset] [(.int (0 : Int32))])) t_
                  simp only [if_neg hc255] at k_
                  exact k_
              refine jn255 _ ?_
              show Steps p_.tables e_ below (T59.setTop (mkF m_ 263 #[.val (.int (6 : Int32)), .val (.int t), .val (.int d), .val (.ref b1), .val (.int (own_a d)), .val (.int (own_g d)), .val (.int (own_h d)), .val (.ref b28), .val (.ref w6), .val (.int t), .val (.int (0 : Int32)), .unset] [(.int (if (own_g d) = (own_h d) then (1 : Int32) else 0))])) t_
              simp only [if_neg hc248] at k_
              exact k_
          refine jn248 _ ?_
          show Steps p_.tables e_ below (T59.setTop (mkF m_ 263 #[.val (.int (6 : Int32)), .val (.int t), .val (.int d), .val (.ref b1), .val (.int (own_a d)), .val (.int (own_g d)), .val (.int (own_h d)), .val (.ref b28), .val (.ref w6), .val (.int t), .val (.int (0 : Int32)), .unset] [(.int (if (8 : Int32) < (own_a d) then (0 : Int32) else (if (own_g d) = (own_h d) then (1 : Int32) else 0)))])) t_
          simp only [if_neg hc241] at k_
          exact k_
      refine jn241 _ ?_
      show Steps p_.tables e_ below (T59.setTop (mkF m_ 263 #[.val (.int (6 : Int32)), .val (.int t), .val (.int d), .val (.ref b1), .val (.int (own_a d)), .val (.int (own_g d)), .val (.int (own_h d)), .val (.ref b28), .val (.ref w6), .val (.int t), .val (.int (0 : Int32)), .unset] [(.int (if (own_a d) < (4 : Int32) then (0 : Int32) else (if (8 : Int32) < (own_a d) then (0 : Int32) else (if (own_g d) = (own_h d) then (1 : Int32) else 0))))])) t_
      refine XS.istore X59.here hx rfl (hb hby at_263) rfl (l' := #[.val (.int (6 : Int32)), .val (.int t), .val (.int d), .val (.ref b1), .val (.int (own_a d)), .val (.int (own_g d)), .val (.int (own_h d)), .val (.ref b28), .val (.ref w6), .val (.int t), .val (.int (0 : Int32)), .val (.int (if (own_a d) < (4 : Int32) then (0 : Int32) else (if (8 : Int32) < (own_a d) then (0 : Int32) else (if (own_g d) = (own_h d) then (1 : Int32) else 0))))]) rfl ?_
      show Steps p_.tables e_ below (T59.setTop (mkF m_ 265 #[.val (.int (6 : Int32)), .val (.int t), .val (.int d), .val (.ref b1), .val (.int (own_a d)), .val (.int (own_g d)), .val (.int (own_h d)), .val (.ref b28), .val (.ref w6), .val (.int t), .val (.int (0 : Int32)), .val (.int (if (own_a d) < (4 : Int32) then (0 : Int32) else (if (8 : Int32) < (own_a d) then (0 : Int32) else (if (own_g d) = (own_h d) then (1 : Int32) else 0))))] [])) t_
      refine XS.aload X59.here hx rfl (hb hby at_265) rfl rfl ?_
      show Steps p_.tables e_ below (T59.setTop (mkF m_ 267 #[.val (.int (6 : Int32)), .val (.int t), .val (.int d), .val (.ref b1), .val (.int (own_a d)), .val (.int (own_g d)), .val (.int (own_h d)), .val (.ref b28), .val (.ref w6), .val (.int t), .val (.int (0 : Int32)), .val (.int (if (own_a d) < (4 : Int32) then (0 : Int32) else (if (8 : Int32) < (own_a d) then (0 : Int32) else (if (own_g d) = (own_h d) then (1 : Int32) else 0))))] [(.ref w6)])) t_
      refine XS.aload X59.here hx rfl (hb hby at_267) rfl rfl ?_
      show Steps p_.tables e_ below (T59.setTop (mkF m_ 269 #[.val (.int (6 : Int32)), .val (.int t), .val (.int d), .val (.ref b1), .val (.int (own_a d)), .val (.int (own_g d)), .val (.int (own_h d)), .val (.ref b28), .val (.ref w6), .val (.int t), .val (.int (0 : Int32)), .val (.int (if (own_a d) < (4 : Int32) then (0 : Int32) else (if (8 : Int32) < (own_a d) then (0 : Int32) else (if (own_g d) = (own_h d) then (1 : Int32) else 0))))] [(.ref b28), (.ref w6)])) t_
      exact k_
    refine own_callV X59 hx hZ (y := (⟨"com/example/banksum/banksum/uk/ExceptionRule", "foreignCurrency", "([I)Z"⟩ : MethodName)) (z := (⟨"com/example/banksum/banksum/uk/ExceptionRule$6", "foreignCurrency", "([I)Z"⟩ : MethodName)) hown (hw _ (List.mem_of_getElem? (i := 61) rfl)) (hw _ (List.mem_of_getElem? (i := 62) rfl)) (notFace_of_selects (args := #[]) (mvT hZ (hw _ (List.mem_of_getElem? (i := 64) rfl)))) (hw _ (List.mem_of_getElem? (i := 110) rfl)) (hw _ (List.mem_of_getElem? (i := 111) rfl)) (hw _ (List.mem_of_getElem? (i := 112) rfl)) (hw _ (List.mem_of_getElem? (i := 113) rfl)) (by decide) w6 [(.ref b28)] [] (E_w6.ext O.2) (rm9 l Z a0 hw w6 b28 k28 (fun x => (([(own_a d), (0 : Int32), (0 : Int32), (0 : Int32), (0 : Int32), (0 : Int32), (own_g d), (own_h d)] : List Int32).getD x 0)) h31 n0 Z0 A_b28) 0 (by decide) (by decide) e59 (by rw [hml]; rfl) (lenOf own_pd3 rfl) rfl (Nat.le_of_eq rfl) (hb hby at_269) (by decide) (by decide) ?_
    intro v60 T60 L60 X60 q60
    obtain ⟨rfl, N60q, e60⟩ := q60
    have N60 := Fr.app N59 N60q
    show own_Out p_ e_ below s_ _ _ _ T60 (mkF m_ 272 #[.val (.int (6 : Int32)), .val (.int t), .val (.int d), .val (.ref b1), .val (.int (own_a d)), .val (.int (own_g d)), .val (.int (own_h d)), .val (.ref b28), .val (.ref w6), .val (.int t), .val (.int (0 : Int32)), .val (.int (if (own_a d) < (4 : Int32) then (0 : Int32) else (if (8 : Int32) < (own_a d) then (0 : Int32) else (if (own_g d) = (own_h d) then (1 : Int32) else 0))))] [(.int (f9 (own_a d) (own_g d) (own_h d)))])
    refine own_st T60 (mkF m_ 282 #[.val (.int (6 : Int32)), .val (.int t), .val (.int d), .val (.ref b1), .val (.int (own_a d)), .val (.int (own_g d)), .val (.int (own_h d)), .val (.ref b28), .val (.ref w6), .val (.int t), .val (.int (0 : Int32)), .val (.int (if (own_a d) < (4 : Int32) then (0 : Int32) else (if (8 : Int32) < (own_a d) then (0 : Int32) else (if (own_g d) = (own_h d) then (1 : Int32) else 0))))] [(.int (1 : Int32))]) (fun t_ k_ => ?_) ?_
    · refine XS.iload X60.here hx rfl (hb hby at_272) rfl ?_
      show Steps p_.tables e_ below (T60.setTop (mkF m_ 274 #[.val (.int (6 : Int32)), .val (.int t), .val (.int d), .val (.ref b1), .val (.int (own_a d)), .val (.int (own_g d)), .val (.int (own_h d)), .val (.ref b28), .val (.ref w6), .val (.int t), .val (.int (0 : Int32)), .val (.int (if (own_a d) < (4 : Int32) then (0 : Int32) else (if (8 : Int32) < (own_a d) then (0 : Int32) else (if (own_g d) = (own_h d) then (1 : Int32) else 0))))] [(.int (if (own_a d) < (4 : Int32) then (0 : Int32) else (if (8 : Int32) < (own_a d) then (0 : Int32) else (if (own_g d) = (own_h d) then (1 : Int32) else 0)))), (.int (f9 (own_a d) (own_g d) (own_h d)))])) t_
      refine XS.icmpNo X60.here hx rfl (hb hby at_274) rfl (teq (rfl : (f9 (own_a d) (own_g d) (own_h d)) = (if (own_a d) < (4 : Int32) then (0 : Int32) else (if (8 : Int32) < (own_a d) then (0 : Int32) else (if (own_g d) = (own_h d) then (1 : Int32) else 0))))).2 ?_
      show Steps p_.tables e_ below (T60.setTop (mkF m_ 277 #[.val (.int (6 : Int32)), .val (.int t), .val (.int d), .val (.ref b1), .val (.int (own_a d)), .val (.int (own_g d)), .val (.int (own_h d)), .val (.ref b28), .val (.ref w6), .val (.int t), .val (.int (0 : Int32)), .val (.int (if (own_a d) < (4 : Int32) then (0 : Int32) else (if (8 : Int32) < (own_a d) then (0 : Int32) else (if (own_g d) = (own_h d) then (1 : Int32) else 0))))] [])) t_
      refine XS.iconst X60.here hx rfl (hb hby at_277) ?_
      show Steps p_.tables e_ below (T60.setTop (mkF m_ 278 #[.val (.int (6 : Int32)), .val (.int t), .val (.int d), .val (.ref b1), .val (.int (own_a d)), .val (.int (own_g d)), .val (.int (own_h d)), .val (.ref b28), .val (.ref w6), .val (.int t), .val (.int (0 : Int32)), .val (.int (if (own_a d) < (4 : Int32) then (0 : Int32) else (if (8 : Int32) < (own_a d) then (0 : Int32) else (if (own_g d) = (own_h d) then (1 : Int32) else 0))))] [(.int (1 : Int32))])) t_
      refine XS.goto X60.here hx rfl (pc0 := 278) (pc' := 282) rfl (hb hby at_278) (by decide) (by decide) ?_
      show Steps p_.tables e_ below (T60.setTop (mkF m_ 282 #[.val (.int (6 : Int32)), .val (.int t), .val (.int d), .val (.ref b1), .val (.int (own_a d)), .val (.int (own_g d)), .val (.int (own_h d)), .val (.ref b28), .val (.ref w6), .val (.int t), .val (.int (0 : Int32)), .val (.int (if (own_a d) < (4 : Int32) then (0 : Int32) else (if (8 : Int32) < (own_a d) then (0 : Int32) else (if (own_g d) = (own_h d) then (1 : Int32) else 0))))] [(.int (1 : Int32))])) t_
      exact k_
    refine own_retN X60 hx hlk (t := .boolean) hret (by simp) (hb hby at_282) (by decide) (by decide) ?_
    exact ⟨rfl, N60⟩
  · show own_Out p_ e_ below s_ _ _ _ T32 (mkF m_ 153 #[.val (.int (7 : Int32)), .val (.int t), .val (.int d), .val (.ref b1), .val (.int (own_a d)), .val (.int (own_g d)), .val (.int (own_h d)), .val (.ref b28), .unset, .unset, .unset, .unset] [(.ref w7)])
    refine own_st T32 (mkF m_ 159 #[.val (.int (7 : Int32)), .val (.int t), .val (.int d), .val (.ref b1), .val (.int (own_a d)), .val (.int (own_g d)), .val (.int (own_h d)), .val (.ref b28), .val (.ref w7), .unset, .unset, .unset] [(.int (7 : Int32)), (.ref b1), (.ref w7)]) (fun t_ k_ => ?_) ?_
    · refine XS.astore X32.here hx rfl (hb hby at_153) rfl rfl (l' := #[.val (.int (7 : Int32)), .val (.int t), .val (.int d), .val (.ref b1), .val (.int (own_a d)), .val (.int (own_g d)), .val (.int (own_h d)), .val (.ref b28), .val (.ref w7), .unset, .unset, .unset]) rfl ?_
      show Steps p_.tables e_ below (T32.setTop (mkF m_ 155 #[.val (.int (7 : Int32)), .val (.int t), .val (.int d), .val (.ref b1), .val (.int (own_a d)), .val (.int (own_g d)), .val (.int (own_h d)), .val (.ref b28), .val (.ref w7), .unset, .unset, .unset] [])) t_
      refine XS.aload X32.here hx rfl (hb hby at_155) rfl rfl ?_
      show Steps p_.tables e_ below (T32.setTop (mkF m_ 157 #[.val (.int (7 : Int32)), .val (.int t), .val (.int d), .val (.ref b1), .val (.int (own_a d)), .val (.int (own_g d)), .val (.int (own_h d)), .val (.ref b28), .val (.ref w7), .unset, .unset, .unset] [(.ref w7)])) t_
      refine XS.aloadN X32.here hx rfl (hb hby at_157) rfl rfl ?_
      show Steps p_.tables e_ below (T32.setTop (mkF m_ 158 #[.val (.int (7 : Int32)), .val (.int t), .val (.int d), .val (.ref b1), .val (.int (own_a d)), .val (.int (own_g d)), .val (.int (own_h d)), .val (.ref b28), .val (.ref w7), .unset, .unset, .unset] [(.ref b1), (.ref w7)])) t_
      refine XS.iloadN X32.here hx rfl (hb hby at_158) rfl ?_
      show Steps p_.tables e_ below (T32.setTop (mkF m_ 159 #[.val (.int (7 : Int32)), .val (.int t), .val (.int d), .val (.ref b1), .val (.int (own_a d)), .val (.int (own_g d)), .val (.int (own_h d)), .val (.ref b28), .val (.ref w7), .unset, .unset, .unset] [(.int (7 : Int32)), (.ref b1), (.ref w7)])) t_
      exact k_
    refine own_callS X32 hx hZ hown (hw _ (List.mem_of_getElem? (i := 47) rfl)) (hw _ (List.mem_of_getElem? (i := 48) rfl)) (hw _ (List.mem_of_getElem? (i := 49) rfl)) (hw _ (List.mem_of_getElem? (i := 50) rfl)) (by decide) [(.int (7 : Int32))] [(.ref b1), (.ref w7)] (rm2 l Z a0 hw (7 : Int32) h31 n0 Z0) 2 (by decide) (by decide) e32 (by rw [hml]; rfl) (lenOf own_pd1 rfl) rfl (Nat.le_of_eq rfl) (hb hby at_159) (by decide) (by decide) ?_
    intro v61 T61 L61 X61 q61
    obtain ⟨rfl, N61q, e61⟩ := q61
    have N61 := Fr.app N32 N61q
    rw [show (f2 (7 : Int32)) = 7 from by decide]
    show own_Out p_ e_ below s_ _ _ _ T61 (mkF m_ 162 #[.val (.int (7 : Int32)), .val (.int t), .val (.int d), .val (.ref b1), .val (.int (own_a d)), .val (.int (own_g d)), .val (.int (own_h d)), .val (.ref b28), .val (.ref w7), .unset, .unset, .unset] [(.int (7 : Int32)), (.ref b1), (.ref w7)])
    refine own_st T61 (mkF m_ 186 #[.val (.int (7 : Int32)), .val (.int t), .val (.int d), .val (.ref b1), .val (.int (own_a d)), .val (.int (own_g d)), .val (.int (own_h d)), .val (.ref b28), .val (.ref w7), .val (.int t), .unset, .unset] [(.int t), (.ref w7)]) (fun t_ k_ => ?_) ?_
    · refine own_ldR X61 hx hZ e61 A_b1 rfl 7 (by decide) (by decide) (hb hby at_162) _ ?_
      show Steps p_.tables e_ below (T61.setTop (mkF m_ 163 #[.val (.int (7 : Int32)), .val (.int t), .val (.int d), .val (.ref b1), .val (.int (own_a d)), .val (.int (own_g d)), .val (.int (own_h d)), .val (.ref b28), .val (.ref w7), .unset, .unset, .unset] [(.ref w7), (.ref w7)])) t_
      refine Jvm.RoadKit.acmp (g := (mkF m_ 163 #[.val (.int (7 : Int32)), .val (.int t), .val (.int d), .val (.ref b1), .val (.int (own_a d)), .val (.int (own_g d)), .val (.int (own_h d)), .val (.ref b28), .val (.ref w7), .unset, .unset, .unset] [(.ref w7), (.ref w7)])) X61 hx rfl rfl rfl (pc0 := 163) (pc' := 168) (same := true) rfl (hb hby at_163) rfl (decide_eq_true rfl) (by decide) (by decide) ?_
      show Steps p_.tables e_ below (T61.setTop (mkF m_ 168 #[.val (.int (7 : Int32)), .val (.int t), .val (.int d), .val (.ref b1), .val (.int (own_a d)), .val (.int (own_g d)), .val (.int (own_h d)), .val (.ref b28), .val (.ref w7), .unset, .unset, .unset] [])) t_
      refine XS.iloadN X61.here hx rfl (hb hby at_168) rfl ?_
      show Steps p_.tables e_ below (T61.setTop (mkF m_ 169 #[.val (.int (7 : Int32)), .val (.int t), .val (.int d), .val (.ref b1), .val (.int (own_a d)), .val (.int (own_g d)), .val (.int (own_h d)), .val (.ref b28), .val (.ref w7), .unset, .unset, .unset] [(.int (7 : Int32))])) t_
      refine XS.iconst X61.here hx rfl (hb hby at_169) ?_
      show Steps p_.tables e_ below (T61.setTop (mkF m_ 170 #[.val (.int (7 : Int32)), .val (.int t), .val (.int d), .val (.ref b1), .val (.int (own_a d)), .val (.int (own_g d)), .val (.int (own_h d)), .val (.ref b28), .val (.ref w7), .unset, .unset, .unset] [(.int (1 : Int32)), (.int (7 : Int32))])) t_
      refine XS.icmpYes X61.here hx rfl (pc0 := 170) (pc' := 180) rfl (hb hby at_170) rfl (feq (by decide : ¬ ((7 : Int32) = (1 : Int32)))).2 (by decide) (by decide) ?_
      show Steps p_.tables e_ below (T61.setTop (mkF m_ 180 #[.val (.int (7 : Int32)), .val (.int t), .val (.int d), .val (.ref b1), .val (.int (own_a d)), .val (.int (own_g d)), .val (.int (own_h d)), .val (.ref b28), .val (.ref w7), .unset, .unset, .unset] [])) t_
      refine XS.iloadN X61.here hx rfl (hb hby at_180) rfl ?_
      show Steps p_.tables e_ below (T61.setTop (mkF m_ 181 #[.val (.int (7 : Int32)), .val (.int t), .val (.int d), .val (.ref b1), .val (.int (own_a d)), .val (.int (own_g d)), .val (.int (own_h d)), .val (.ref b28), .val (.ref w7), .unset, .unset, .unset] [(.int t)])) t_
      refine XS.istore X61.here hx rfl (hb hby at_181) rfl (l' := #[.val (.int (7 : Int32)), .val (.int t), .val (.int d), .val (.ref b1), .val (.int (own_a d)), .val (.int (own_g d)), .val (.int (own_h d)), .val (.ref b28), .val (.ref w7), .val (.int t), .unset, .unset]) rfl ?_
      show Steps p_.tables e_ below (T61.setTop (mkF m_ 183 #[.val (.int (7 : Int32)), .val (.int t), .val (.int d), .val (.ref b1), .val (.int (own_a d)), .val (.int (own_g d)), .val (.int (own_h d)), .val (.ref b28), .val (.ref w7), .val (.int t), .unset, .unset] [])) t_
      refine XS.aload X61.here hx rfl (hb hby at_183) rfl rfl ?_
      show Steps p_.tables e_ below (T61.setTop (mkF m_ 185 #[.val (.int (7 : Int32)), .val (.int t), .val (.int d), .val (.ref b1), .val (.int (own_a d)), .val (.int (own_g d)), .val (.int (own_h d)), .val (.ref b28), .val (.ref w7), .val (.int t), .unset, .unset] [(.ref w7)])) t_
      refine XS.iloadN X61.here hx rfl (hb hby at_185) rfl ?_
      show Steps p_.tables e_ below (T61.setTop (mkF m_ 186 #[.val (.int (7 : Int32)), .val (.int t), .val (.int d), .val (.ref b1), .val (.int (own_a d)), .val (.int (own_g d)), .val (.int (own_h d)), .val (.ref b28), .val (.ref w7), .val (.int t), .unset, .unset] [(.int t), (.ref w7)])) t_
      exact k_
    refine own_callV X61 hx hZ (y := (⟨"com/example/banksum/banksum/uk/ExceptionRule", "total", "(I)I"⟩ : MethodName)) (z := (⟨"com/example/banksum/banksum/uk/ExceptionRule", "total", "(I)I"⟩ : MethodName)) hown (hw _ (List.mem_of_getElem? (i := 51) rfl)) (hw _ (List.mem_of_getElem? (i := 52) rfl)) (notFace_of_selects (args := #[]) (mvT hZ (hw _ (List.mem_of_getElem? (i := 115) rfl)))) (hw _ (List.mem_of_getElem? (i := 115) rfl)) (hw _ (List.mem_of_getElem? (i := 53) rfl)) (hw _ (List.mem_of_getElem? (i := 3) rfl)) (hw _ (List.mem_of_getElem? (i := 55) rfl)) (by decide) w7 [(.int t)] [] (E_w7.ext O.2) (rm3 l Z a0 hw w7 t h31 n0 Z0) 0 (by decide) (by decide) e61 (by rw [hml]; rfl) (lenOf own_pd1 rfl) rfl (Nat.le_of_eq rfl) (hb hby at_186) (by decide) (by decide) ?_
    intro v62 T62 L62 X62 q62
    obtain ⟨rfl, N62q, e62⟩ := q62
    have N62 := Fr.app N61 N62q
    show own_Out p_ e_ below s_ _ _ _ T62 (mkF m_ 189 #[.val (.int (7 : Int32)), .val (.int t), .val (.int d), .val (.ref b1), .val (.int (own_a d)), .val (.int (own_g d)), .val (.int (own_h d)), .val (.ref b28), .val (.ref w7), .val (.int t), .unset, .unset] [(.int (f3 w7 t))])
    refine own_st T62 (mkF m_ 222 #[.val (.int (7 : Int32)), .val (.int t), .val (.int d), .val (.ref b1), .val (.int (own_a d)), .val (.int (own_g d)), .val (.int (own_h d)), .val (.ref b28), .val (.ref w7), .val (.int t), .val (.int (0 : Int32)), .unset] [(.ref w7)]) (fun t_ k_ => ?_) ?_
    · refine XS.iload X62.here hx rfl (hb hby at_189) rfl ?_
      show Steps p_.tables e_ below (T62.setTop (mkF m_ 191 #[.val (.int (7 : Int32)), .val (.int t), .val (.int d), .val (.ref b1), .val (.int (own_a d)), .val (.int (own_g d)), .val (.int (own_h d)), .val (.ref b28), .val (.ref w7), .val (.int t), .unset, .unset] [(.int t), (.int (f3 w7 t))])) t_
      refine XS.icmpYes X62.here hx rfl (pc0 := 191) (pc' := 196) rfl (hb hby at_191) rfl (teq (rfl : (f3 w7 t) = t)).1 (by decide) (by decide) ?_
      show Steps p_.tables e_ below (T62.setTop (mkF m_ 196 #[.val (.int (7 : Int32)), .val (.int t), .val (.int d), .val (.ref b1), .val (.int (own_a d)), .val (.int (own_g d)), .val (.int (own_h d)), .val (.ref b28), .val (.ref w7), .val (.int t), .unset, .unset] [])) t_
      refine XS.iloadN X62.here hx rfl (hb hby at_196) rfl ?_
      show Steps p_.tables e_ below (T62.setTop (mkF m_ 197 #[.val (.int (7 : Int32)), .val (.int t), .val (.int d), .val (.ref b1), .val (.int (own_a d)), .val (.int (own_g d)), .val (.int (own_h d)), .val (.ref b28), .val (.ref w7), .val (.int t), .unset, .unset] [(.int (7 : Int32))])) t_
      refine XS.iconst X62.here hx rfl (hb hby at_197) ?_
      show Steps p_.tables e_ below (T62.setTop (mkF m_ 198 #[.val (.int (7 : Int32)), .val (.int t), .val (.int d), .val (.ref b1), .val (.int (own_a d)), .val (.int (own_g d)), .val (.int (own_h d)), .val (.ref b28), .val (.ref w7), .val (.int t), .unset, .unset] [(.int (2 : Int32)), (.int (7 : Int32))])) t_
      refine XS.icmpNo X62.here hx rfl (hb hby at_198) rfl (feq (by decide : ¬ ((7 : Int32) = (2 : Int32)))).1 ?_
      show Steps p_.tables e_ below (T62.setTop (mkF m_ 201 #[.val (.int (7 : Int32)), .val (.int t), .val (.int d), .val (.ref b1), .val (.int (own_a d)), .val (.int (own_g d)), .val (.int (own_h d)), .val (.ref b28), .val (.ref w7), .val (.int t), .unset, .unset] [])) t_
      refine XS.iloadN X62.here hx rfl (hb hby at_201) rfl ?_
      show Steps p_.tables e_ below (T62.setTop (mkF m_ 202 #[.val (.int (7 : Int32)), .val (.int t), .val (.int d), .val (.ref b1), .val (.int (own_a d)), .val (.int (own_g d)), .val (.int (own_h d)), .val (.ref b28), .val (.ref w7), .val (.int t), .unset, .unset] [(.int (7 : Int32))])) t_
      refine XS.bipush X62.here hx rfl (hb hby at_202) ?_
      show Steps p_.tables e_ below (T62.setTop (mkF m_ 204 #[.val (.int (7 : Int32)), .val (.int t), .val (.int d), .val (.ref b1), .val (.int (own_a d)), .val (.int (own_g d)), .val (.int (own_h d)), .val (.ref b28), .val (.ref w7), .val (.int t), .unset, .unset] [(.int (10 : Int32)), (.int (7 : Int32))])) t_
      refine XS.icmpNo X62.here hx rfl (hb hby at_204) rfl (feq (by decide : ¬ ((7 : Int32) = (10 : Int32)))).1 ?_
      show Steps p_.tables e_ below (T62.setTop (mkF m_ 207 #[.val (.int (7 : Int32)), .val (.int t), .val (.int d), .val (.ref b1), .val (.int (own_a d)), .val (.int (own_g d)), .val (.int (own_h d)), .val (.ref b28), .val (.ref w7), .val (.int t), .unset, .unset] [])) t_
      refine XS.iloadN X62.here hx rfl (hb hby at_207) rfl ?_
      show Steps p_.tables e_ below (T62.setTop (mkF m_ 208 #[.val (.int (7 : Int32)), .val (.int t), .val (.int d), .val (.ref b1), .val (.int (own_a d)), .val (.int (own_g d)), .val (.int (own_h d)), .val (.ref b28), .val (.ref w7), .val (.int t), .unset, .unset] [(.int (7 : Int32))])) t_
      refine XS.bipush X62.here hx rfl (hb hby at_208) ?_
      show Steps p_.tables e_ below (T62.setTop (mkF m_ 210 #[.val (.int (7 : Int32)), .val (.int t), .val (.int d), .val (.ref b1), .val (.int (own_a d)), .val (.int (own_g d)), .val (.int (own_h d)), .val (.ref b28), .val (.ref w7), .val (.int t), .unset, .unset] [(.int (12 : Int32)), (.int (7 : Int32))])) t_
      refine XS.icmpYes X62.here hx rfl (pc0 := 210) (pc' := 217) rfl (hb hby at_210) rfl (feq (by decide : ¬ ((7 : Int32) = (12 : Int32)))).2 (by decide) (by decide) ?_
      show Steps p_.tables e_ below (T62.setTop (mkF m_ 217 #[.val (.int (7 : Int32)), .val (.int t), .val (.int d), .val (.ref b1), .val (.int (own_a d)), .val (.int (own_g d)), .val (.int (own_h d)), .val (.ref b28), .val (.ref w7), .val (.int t), .unset, .unset] [])) t_
      refine XS.iconst X62.here hx rfl (hb hby at_217) ?_
      show Steps p_.tables e_ below (T62.setTop (mkF m_ 218 #[.val (.int (7 : Int32)), .val (.int t), .val (.int d), .val (.ref b1), .val (.int (own_a d)), .val (.int (own_g d)), .val (.int (own_h d)), .val (.ref b28), .val (.ref w7), .val (.int t), .unset, .unset] [(.int (0 : Int32))])) t_
      refine XS.istore X62.here hx rfl (hb hby at_218) rfl (l' := #[.val (.int (7 : Int32)), .val (.int t), .val (.int d), .val (.ref b1), .val (.int (own_a d)), .val (.int (own_g d)), .val (.int (own_h d)), .val (.ref b28), .val (.ref w7), .val (.int t), .val (.int (0 : Int32)), .unset]) rfl ?_
      show Steps p_.tables e_ below (T62.setTop (mkF m_ 220 #[.val (.int (7 : Int32)), .val (.int t), .val (.int d), .val (.ref b1), .val (.int (own_a d)), .val (.int (own_g d)), .val (.int (own_h d)), .val (.ref b28), .val (.ref w7), .val (.int t), .val (.int (0 : Int32)), .unset] [])) t_
      refine XS.aload X62.here hx rfl (hb hby at_220) rfl rfl ?_
      show Steps p_.tables e_ below (T62.setTop (mkF m_ 222 #[.val (.int (7 : Int32)), .val (.int t), .val (.int d), .val (.ref b1), .val (.int (own_a d)), .val (.int (own_g d)), .val (.int (own_h d)), .val (.ref b28), .val (.ref w7), .val (.int t), .val (.int (0 : Int32)), .unset] [(.ref w7)])) t_
      exact k_
    refine own_callV X62 hx hZ (y := (⟨"com/example/banksum/banksum/uk/ExceptionRule", "eitherPasses", "()Z"⟩ : MethodName)) (z := (⟨"com/example/banksum/banksum/uk/ExceptionRule", "eitherPasses", "()Z"⟩ : MethodName)) hown (hw _ (List.mem_of_getElem? (i := 56) rfl)) (hw _ (List.mem_of_getElem? (i := 57) rfl)) (notFace_of_selects (args := #[]) (mvT hZ (hw _ (List.mem_of_getElem? (i := 116) rfl)))) (hw _ (List.mem_of_getElem? (i := 116) rfl)) (hw _ (List.mem_of_getElem? (i := 58) rfl)) (hw _ (List.mem_of_getElem? (i := 3) rfl)) (hw _ (List.mem_of_getElem? (i := 60) rfl)) (by decide) w7 [] [] (E_w7.ext O.2) (rm4 l Z a0 hw w7 h31 n0 Z0) 0 (by decide) (by decide) e62 (by rw [hml]; rfl) (lenOf own_pd2 rfl) rfl (Nat.le_of_eq rfl) (hb hby at_222) (by decide) (by decide) ?_
    intro v63 T63 L63 X63 q63
    obtain ⟨rfl, N63q, e63⟩ := q63
    have N63 := Fr.app N62 N63q
    show own_Out p_ e_ below s_ _ _ _ T63 (mkF m_ 225 #[.val (.int (7 : Int32)), .val (.int t), .val (.int d), .val (.ref b1), .val (.int (own_a d)), .val (.int (own_g d)), .val (.int (own_h d)), .val (.ref b28), .val (.ref w7), .val (.int t), .val (.int (0 : Int32)), .unset] [(.int (f4 w7))])
    refine own_st T63 (mkF m_ 269 #[.val (.int (7 : Int32)), .val (.int t), .val (.int d), .val (.ref b1), .val (.int (own_a d)), .val (.int (own_g d)), .val (.int (own_h d)), .val (.ref b28), .val (.ref w7), .val (.int t), .val (.int (0 : Int32)), .val (.int (0 : Int32))] [(.ref b28), (.ref w7)]) (fun t_ k_ => ?_) ?_
    · refine XS.iload X63.here hx rfl (hb hby at_225) rfl ?_
      show Steps p_.tables e_ below (T63.setTop (mkF m_ 227 #[.val (.int (7 : Int32)), .val (.int t), .val (.int d), .val (.ref b1), .val (.int (own_a d)), .val (.int (own_g d)), .val (.int (own_h d)), .val (.ref b28), .val (.ref w7), .val (.int t), .val (.int (0 : Int32)), .unset] [(.int (0 : Int32)), (.int (f4 w7))])) t_
      refine XS.icmpYes X63.here hx rfl (pc0 := 227) (pc' := 232) rfl (hb hby at_227) rfl (teq (rfl : (f4 w7) = (0 : Int32))).1 (by decide) (by decide) ?_
      show Steps p_.tables e_ below (T63.setTop (mkF m_ 232 #[.val (.int (7 : Int32)), .val (.int t), .val (.int d), .val (.ref b1), .val (.int (own_a d)), .val (.int (own_g d)), .val (.int (own_h d)), .val (.ref b28), .val (.ref w7), .val (.int t), .val (.int (0 : Int32)), .unset] [])) t_
      refine XS.iloadN X63.here hx rfl (hb hby at_232) rfl ?_
      show Steps p_.tables e_ below (T63.setTop (mkF m_ 233 #[.val (.int (7 : Int32)), .val (.int t), .val (.int d), .val (.ref b1), .val (.int (own_a d)), .val (.int (own_g d)), .val (.int (own_h d)), .val (.ref b28), .val (.ref w7), .val (.int t), .val (.int (0 : Int32)), .unset] [(.int (7 : Int32))])) t_
      refine XS.bipush X63.here hx rfl (hb hby at_233) ?_
      show Steps p_.tables e_ below (T63.setTop (mkF m_ 235 #[.val (.int (7 : Int32)), .val (.int t), .val (.int d), .val (.ref b1), .val (.int (own_a d)), .val (.int (own_g d)), .val (.int (own_h d)), .val (.ref b28), .val (.ref w7), .val (.int t), .val (.int (0 : Int32)), .unset] [(.int (6 : Int32)), (.int (7 : Int32))])) t_
      refine XS.icmpYes X63.here hx rfl (pc0 := 235) (pc' := 262) rfl (hb hby at_235) rfl (feq (by decide : ¬ ((7 : Int32) = (6 : Int32)))).2 (by decide) (by decide) ?_
      show Steps p_.tables e_ below (T63.setTop (mkF m_ 262 #[.val (.int (7 : Int32)), .val (.int t), .val (.int d), .val (.ref b1), .val (.int (own_a d)), .val (.int (own_g d)), .val (.int (own_h d)), .val (.ref b28), .val (.ref w7), .val (.int t), .val (.int (0 : Int32)), .unset] [])) t_
      refine XS.iconst X63.here hx rfl (hb hby at_262) ?_
      show Steps p_.tables e_ below (T63.setTop (mkF m_ 263 #[.val (.int (7 : Int32)), .val (.int t), .val (.int d), .val (.ref b1), .val (.int (own_a d)), .val (.int (own_g d)), .val (.int (own_h d)), .val (.ref b28), .val (.ref w7), .val (.int t), .val (.int (0 : Int32)), .unset] [(.int (0 : Int32))])) t_
      refine XS.istore X63.here hx rfl (hb hby at_263) rfl (l' := #[.val (.int (7 : Int32)), .val (.int t), .val (.int d), .val (.ref b1), .val (.int (own_a d)), .val (.int (own_g d)), .val (.int (own_h d)), .val (.ref b28), .val (.ref w7), .val (.int t), .val (.int (0 : Int32)), .val (.int (0 : Int32))]) rfl ?_
      show Steps p_.tables e_ below (T63.setTop (mkF m_ 265 #[.val (.int (7 : Int32)), .val (.int t), .val (.int d), .val (.ref b1), .val (.int (own_a d)), .val (.int (own_g d)), .val (.int (own_h d)), .val (.ref b28), .val (.ref w7), .val (.int t), .val (.int (0 : Int32)), .val (.int (0 : Int32))] [])) t_
      refine XS.aload X63.here hx rfl (hb hby at_265) rfl rfl ?_
      show Steps p_.tables e_ below (T63.setTop (mkF m_ 267 #[.val (.int (7 : Int32)), .val (.int t), .val (.int d), .val (.ref b1), .val (.int (own_a d)), .val (.int (own_g d)), .val (.int (own_h d)), .val (.ref b28), .val (.ref w7), .val (.int t), .val (.int (0 : Int32)), .val (.int (0 : Int32))] [(.ref w7)])) t_
      refine XS.aload X63.here hx rfl (hb hby at_267) rfl rfl ?_
      show Steps p_.tables e_ below (T63.setTop (mkF m_ 269 #[.val (.int (7 : Int32)), .val (.int t), .val (.int d), .val (.ref b1), .val (.int (own_a d)), .val (.int (own_g d)), .val (.int (own_h d)), .val (.ref b28), .val (.ref w7), .val (.int t), .val (.int (0 : Int32)), .val (.int (0 : Int32))] [(.ref b28), (.ref w7)])) t_
      exact k_
    refine own_callV X63 hx hZ (y := (⟨"com/example/banksum/banksum/uk/ExceptionRule", "foreignCurrency", "([I)Z"⟩ : MethodName)) (z := (⟨"com/example/banksum/banksum/uk/ExceptionRule", "foreignCurrency", "([I)Z"⟩ : MethodName)) hown (hw _ (List.mem_of_getElem? (i := 61) rfl)) (hw _ (List.mem_of_getElem? (i := 62) rfl)) (notFace_of_selects (args := #[]) (mvT hZ (hw _ (List.mem_of_getElem? (i := 117) rfl)))) (hw _ (List.mem_of_getElem? (i := 117) rfl)) (hw _ (List.mem_of_getElem? (i := 63) rfl)) (hw _ (List.mem_of_getElem? (i := 3) rfl)) (hw _ (List.mem_of_getElem? (i := 65) rfl)) (by decide) w7 [(.ref b28)] [] (E_w7.ext O.2) (rm5 l Z a0 hw w7 b28 h31 n0 Z0) 0 (by decide) (by decide) e63 (by rw [hml]; rfl) (lenOf own_pd3 rfl) rfl (Nat.le_of_eq rfl) (hb hby at_269) (by decide) (by decide) ?_
    intro v64 T64 L64 X64 q64
    obtain ⟨rfl, N64q, e64⟩ := q64
    have N64 := Fr.app N63 N64q
    show own_Out p_ e_ below s_ _ _ _ T64 (mkF m_ 272 #[.val (.int (7 : Int32)), .val (.int t), .val (.int d), .val (.ref b1), .val (.int (own_a d)), .val (.int (own_g d)), .val (.int (own_h d)), .val (.ref b28), .val (.ref w7), .val (.int t), .val (.int (0 : Int32)), .val (.int (0 : Int32))] [(.int (f5 w7 b28))])
    refine own_st T64 (mkF m_ 282 #[.val (.int (7 : Int32)), .val (.int t), .val (.int d), .val (.ref b1), .val (.int (own_a d)), .val (.int (own_g d)), .val (.int (own_h d)), .val (.ref b28), .val (.ref w7), .val (.int t), .val (.int (0 : Int32)), .val (.int (0 : Int32))] [(.int (1 : Int32))]) (fun t_ k_ => ?_) ?_
    · refine XS.iload X64.here hx rfl (hb hby at_272) rfl ?_
      show Steps p_.tables e_ below (T64.setTop (mkF m_ 274 #[.val (.int (7 : Int32)), .val (.int t), .val (.int d), .val (.ref b1), .val (.int (own_a d)), .val (.int (own_g d)), .val (.int (own_h d)), .val (.ref b28), .val (.ref w7), .val (.int t), .val (.int (0 : Int32)), .val (.int (0 : Int32))] [(.int (0 : Int32)), (.int (f5 w7 b28))])) t_
      refine XS.icmpNo X64.here hx rfl (hb hby at_274) rfl (teq (rfl : (f5 w7 b28) = (0 : Int32))).2 ?_
      show Steps p_.tables e_ below (T64.setTop (mkF m_ 277 #[.val (.int (7 : Int32)), .val (.int t), .val (.int d), .val (.ref b1), .val (.int (own_a d)), .val (.int (own_g d)), .val (.int (own_h d)), .val (.ref b28), .val (.ref w7), .val (.int t), .val (.int (0 : Int32)), .val (.int (0 : Int32))] [])) t_
      refine XS.iconst X64.here hx rfl (hb hby at_277) ?_
      show Steps p_.tables e_ below (T64.setTop (mkF m_ 278 #[.val (.int (7 : Int32)), .val (.int t), .val (.int d), .val (.ref b1), .val (.int (own_a d)), .val (.int (own_g d)), .val (.int (own_h d)), .val (.ref b28), .val (.ref w7), .val (.int t), .val (.int (0 : Int32)), .val (.int (0 : Int32))] [(.int (1 : Int32))])) t_
      refine XS.goto X64.here hx rfl (pc0 := 278) (pc' := 282) rfl (hb hby at_278) (by decide) (by decide) ?_
      show Steps p_.tables e_ below (T64.setTop (mkF m_ 282 #[.val (.int (7 : Int32)), .val (.int t), .val (.int d), .val (.ref b1), .val (.int (own_a d)), .val (.int (own_g d)), .val (.int (own_h d)), .val (.ref b28), .val (.ref w7), .val (.int t), .val (.int (0 : Int32)), .val (.int (0 : Int32))] [(.int (1 : Int32))])) t_
      exact k_
    refine own_retN X64 hx hlk (t := .boolean) hret (by simp) (hb hby at_282) (by decide) (by decide) ?_
    exact ⟨rfl, N64⟩
  · show own_Out p_ e_ below s_ _ _ _ T32 (mkF m_ 153 #[.val (.int (8 : Int32)), .val (.int t), .val (.int d), .val (.ref b1), .val (.int (own_a d)), .val (.int (own_g d)), .val (.int (own_h d)), .val (.ref b28), .unset, .unset, .unset, .unset] [(.ref w8)])
    refine own_st T32 (mkF m_ 159 #[.val (.int (8 : Int32)), .val (.int t), .val (.int d), .val (.ref b1), .val (.int (own_a d)), .val (.int (own_g d)), .val (.int (own_h d)), .val (.ref b28), .val (.ref w8), .unset, .unset, .unset] [(.int (8 : Int32)), (.ref b1), (.ref w8)]) (fun t_ k_ => ?_) ?_
    · refine XS.astore X32.here hx rfl (hb hby at_153) rfl rfl (l' := #[.val (.int (8 : Int32)), .val (.int t), .val (.int d), .val (.ref b1), .val (.int (own_a d)), .val (.int (own_g d)), .val (.int (own_h d)), .val (.ref b28), .val (.ref w8), .unset, .unset, .unset]) rfl ?_
      show Steps p_.tables e_ below (T32.setTop (mkF m_ 155 #[.val (.int (8 : Int32)), .val (.int t), .val (.int d), .val (.ref b1), .val (.int (own_a d)), .val (.int (own_g d)), .val (.int (own_h d)), .val (.ref b28), .val (.ref w8), .unset, .unset, .unset] [])) t_
      refine XS.aload X32.here hx rfl (hb hby at_155) rfl rfl ?_
      show Steps p_.tables e_ below (T32.setTop (mkF m_ 157 #[.val (.int (8 : Int32)), .val (.int t), .val (.int d), .val (.ref b1), .val (.int (own_a d)), .val (.int (own_g d)), .val (.int (own_h d)), .val (.ref b28), .val (.ref w8), .unset, .unset, .unset] [(.ref w8)])) t_
      refine XS.aloadN X32.here hx rfl (hb hby at_157) rfl rfl ?_
      show Steps p_.tables e_ below (T32.setTop (mkF m_ 158 #[.val (.int (8 : Int32)), .val (.int t), .val (.int d), .val (.ref b1), .val (.int (own_a d)), .val (.int (own_g d)), .val (.int (own_h d)), .val (.ref b28), .val (.ref w8), .unset, .unset, .unset] [(.ref b1), (.ref w8)])) t_
      refine XS.iloadN X32.here hx rfl (hb hby at_158) rfl ?_
      show Steps p_.tables e_ below (T32.setTop (mkF m_ 159 #[.val (.int (8 : Int32)), .val (.int t), .val (.int d), .val (.ref b1), .val (.int (own_a d)), .val (.int (own_g d)), .val (.int (own_h d)), .val (.ref b28), .val (.ref w8), .unset, .unset, .unset] [(.int (8 : Int32)), (.ref b1), (.ref w8)])) t_
      exact k_
    refine own_callS X32 hx hZ hown (hw _ (List.mem_of_getElem? (i := 47) rfl)) (hw _ (List.mem_of_getElem? (i := 48) rfl)) (hw _ (List.mem_of_getElem? (i := 49) rfl)) (hw _ (List.mem_of_getElem? (i := 50) rfl)) (by decide) [(.int (8 : Int32))] [(.ref b1), (.ref w8)] (rm2 l Z a0 hw (8 : Int32) h31 n0 Z0) 2 (by decide) (by decide) e32 (by rw [hml]; rfl) (lenOf own_pd1 rfl) rfl (Nat.le_of_eq rfl) (hb hby at_159) (by decide) (by decide) ?_
    intro v65 T65 L65 X65 q65
    obtain ⟨rfl, N65q, e65⟩ := q65
    have N65 := Fr.app N32 N65q
    rw [show (f2 (8 : Int32)) = 8 from by decide]
    show own_Out p_ e_ below s_ _ _ _ T65 (mkF m_ 162 #[.val (.int (8 : Int32)), .val (.int t), .val (.int d), .val (.ref b1), .val (.int (own_a d)), .val (.int (own_g d)), .val (.int (own_h d)), .val (.ref b28), .val (.ref w8), .unset, .unset, .unset] [(.int (8 : Int32)), (.ref b1), (.ref w8)])
    refine own_st T65 (mkF m_ 186 #[.val (.int (8 : Int32)), .val (.int t), .val (.int d), .val (.ref b1), .val (.int (own_a d)), .val (.int (own_g d)), .val (.int (own_h d)), .val (.ref b28), .val (.ref w8), .val (.int t), .unset, .unset] [(.int t), (.ref w8)]) (fun t_ k_ => ?_) ?_
    · refine own_ldR X65 hx hZ e65 A_b1 rfl 8 (by decide) (by decide) (hb hby at_162) _ ?_
      show Steps p_.tables e_ below (T65.setTop (mkF m_ 163 #[.val (.int (8 : Int32)), .val (.int t), .val (.int d), .val (.ref b1), .val (.int (own_a d)), .val (.int (own_g d)), .val (.int (own_h d)), .val (.ref b28), .val (.ref w8), .unset, .unset, .unset] [(.ref w8), (.ref w8)])) t_
      refine Jvm.RoadKit.acmp (g := (mkF m_ 163 #[.val (.int (8 : Int32)), .val (.int t), .val (.int d), .val (.ref b1), .val (.int (own_a d)), .val (.int (own_g d)), .val (.int (own_h d)), .val (.ref b28), .val (.ref w8), .unset, .unset, .unset] [(.ref w8), (.ref w8)])) X65 hx rfl rfl rfl (pc0 := 163) (pc' := 168) (same := true) rfl (hb hby at_163) rfl (decide_eq_true rfl) (by decide) (by decide) ?_
      show Steps p_.tables e_ below (T65.setTop (mkF m_ 168 #[.val (.int (8 : Int32)), .val (.int t), .val (.int d), .val (.ref b1), .val (.int (own_a d)), .val (.int (own_g d)), .val (.int (own_h d)), .val (.ref b28), .val (.ref w8), .unset, .unset, .unset] [])) t_
      refine XS.iloadN X65.here hx rfl (hb hby at_168) rfl ?_
      show Steps p_.tables e_ below (T65.setTop (mkF m_ 169 #[.val (.int (8 : Int32)), .val (.int t), .val (.int d), .val (.ref b1), .val (.int (own_a d)), .val (.int (own_g d)), .val (.int (own_h d)), .val (.ref b28), .val (.ref w8), .unset, .unset, .unset] [(.int (8 : Int32))])) t_
      refine XS.iconst X65.here hx rfl (hb hby at_169) ?_
      show Steps p_.tables e_ below (T65.setTop (mkF m_ 170 #[.val (.int (8 : Int32)), .val (.int t), .val (.int d), .val (.ref b1), .val (.int (own_a d)), .val (.int (own_g d)), .val (.int (own_h d)), .val (.ref b28), .val (.ref w8), .unset, .unset, .unset] [(.int (1 : Int32)), (.int (8 : Int32))])) t_
      refine XS.icmpYes X65.here hx rfl (pc0 := 170) (pc' := 180) rfl (hb hby at_170) rfl (feq (by decide : ¬ ((8 : Int32) = (1 : Int32)))).2 (by decide) (by decide) ?_
      show Steps p_.tables e_ below (T65.setTop (mkF m_ 180 #[.val (.int (8 : Int32)), .val (.int t), .val (.int d), .val (.ref b1), .val (.int (own_a d)), .val (.int (own_g d)), .val (.int (own_h d)), .val (.ref b28), .val (.ref w8), .unset, .unset, .unset] [])) t_
      refine XS.iloadN X65.here hx rfl (hb hby at_180) rfl ?_
      show Steps p_.tables e_ below (T65.setTop (mkF m_ 181 #[.val (.int (8 : Int32)), .val (.int t), .val (.int d), .val (.ref b1), .val (.int (own_a d)), .val (.int (own_g d)), .val (.int (own_h d)), .val (.ref b28), .val (.ref w8), .unset, .unset, .unset] [(.int t)])) t_
      refine XS.istore X65.here hx rfl (hb hby at_181) rfl (l' := #[.val (.int (8 : Int32)), .val (.int t), .val (.int d), .val (.ref b1), .val (.int (own_a d)), .val (.int (own_g d)), .val (.int (own_h d)), .val (.ref b28), .val (.ref w8), .val (.int t), .unset, .unset]) rfl ?_
      show Steps p_.tables e_ below (T65.setTop (mkF m_ 183 #[.val (.int (8 : Int32)), .val (.int t), .val (.int d), .val (.ref b1), .val (.int (own_a d)), .val (.int (own_g d)), .val (.int (own_h d)), .val (.ref b28), .val (.ref w8), .val (.int t), .unset, .unset] [])) t_
      refine XS.aload X65.here hx rfl (hb hby at_183) rfl rfl ?_
      show Steps p_.tables e_ below (T65.setTop (mkF m_ 185 #[.val (.int (8 : Int32)), .val (.int t), .val (.int d), .val (.ref b1), .val (.int (own_a d)), .val (.int (own_g d)), .val (.int (own_h d)), .val (.ref b28), .val (.ref w8), .val (.int t), .unset, .unset] [(.ref w8)])) t_
      refine XS.iloadN X65.here hx rfl (hb hby at_185) rfl ?_
      show Steps p_.tables e_ below (T65.setTop (mkF m_ 186 #[.val (.int (8 : Int32)), .val (.int t), .val (.int d), .val (.ref b1), .val (.int (own_a d)), .val (.int (own_g d)), .val (.int (own_h d)), .val (.ref b28), .val (.ref w8), .val (.int t), .unset, .unset] [(.int t), (.ref w8)])) t_
      exact k_
    refine own_callV X65 hx hZ (y := (⟨"com/example/banksum/banksum/uk/ExceptionRule", "total", "(I)I"⟩ : MethodName)) (z := (⟨"com/example/banksum/banksum/uk/ExceptionRule", "total", "(I)I"⟩ : MethodName)) hown (hw _ (List.mem_of_getElem? (i := 51) rfl)) (hw _ (List.mem_of_getElem? (i := 52) rfl)) (notFace_of_selects (args := #[]) (mvT hZ (hw _ (List.mem_of_getElem? (i := 74) rfl)))) (hw _ (List.mem_of_getElem? (i := 74) rfl)) (hw _ (List.mem_of_getElem? (i := 53) rfl)) (hw _ (List.mem_of_getElem? (i := 3) rfl)) (hw _ (List.mem_of_getElem? (i := 55) rfl)) (by decide) w8 [(.int t)] [] (E_w8.ext O.2) (rm3 l Z a0 hw w8 t h31 n0 Z0) 0 (by decide) (by decide) e65 (by rw [hml]; rfl) (lenOf own_pd1 rfl) rfl (Nat.le_of_eq rfl) (hb hby at_186) (by decide) (by decide) ?_
    intro v66 T66 L66 X66 q66
    obtain ⟨rfl, N66q, e66⟩ := q66
    have N66 := Fr.app N65 N66q
    show own_Out p_ e_ below s_ _ _ _ T66 (mkF m_ 189 #[.val (.int (8 : Int32)), .val (.int t), .val (.int d), .val (.ref b1), .val (.int (own_a d)), .val (.int (own_g d)), .val (.int (own_h d)), .val (.ref b28), .val (.ref w8), .val (.int t), .unset, .unset] [(.int (f3 w8 t))])
    refine own_st T66 (mkF m_ 222 #[.val (.int (8 : Int32)), .val (.int t), .val (.int d), .val (.ref b1), .val (.int (own_a d)), .val (.int (own_g d)), .val (.int (own_h d)), .val (.ref b28), .val (.ref w8), .val (.int t), .val (.int (0 : Int32)), .unset] [(.ref w8)]) (fun t_ k_ => ?_) ?_
    · refine XS.iload X66.here hx rfl (hb hby at_189) rfl ?_
      show Steps p_.tables e_ below (T66.setTop (mkF m_ 191 #[.val (.int (8 : Int32)), .val (.int t), .val (.int d), .val (.ref b1), .val (.int (own_a d)), .val (.int (own_g d)), .val (.int (own_h d)), .val (.ref b28), .val (.ref w8), .val (.int t), .unset, .unset] [(.int t), (.int (f3 w8 t))])) t_
      refine XS.icmpYes X66.here hx rfl (pc0 := 191) (pc' := 196) rfl (hb hby at_191) rfl (teq (rfl : (f3 w8 t) = t)).1 (by decide) (by decide) ?_
      show Steps p_.tables e_ below (T66.setTop (mkF m_ 196 #[.val (.int (8 : Int32)), .val (.int t), .val (.int d), .val (.ref b1), .val (.int (own_a d)), .val (.int (own_g d)), .val (.int (own_h d)), .val (.ref b28), .val (.ref w8), .val (.int t), .unset, .unset] [])) t_
      refine XS.iloadN X66.here hx rfl (hb hby at_196) rfl ?_
      show Steps p_.tables e_ below (T66.setTop (mkF m_ 197 #[.val (.int (8 : Int32)), .val (.int t), .val (.int d), .val (.ref b1), .val (.int (own_a d)), .val (.int (own_g d)), .val (.int (own_h d)), .val (.ref b28), .val (.ref w8), .val (.int t), .unset, .unset] [(.int (8 : Int32))])) t_
      refine XS.iconst X66.here hx rfl (hb hby at_197) ?_
      show Steps p_.tables e_ below (T66.setTop (mkF m_ 198 #[.val (.int (8 : Int32)), .val (.int t), .val (.int d), .val (.ref b1), .val (.int (own_a d)), .val (.int (own_g d)), .val (.int (own_h d)), .val (.ref b28), .val (.ref w8), .val (.int t), .unset, .unset] [(.int (2 : Int32)), (.int (8 : Int32))])) t_
      refine XS.icmpNo X66.here hx rfl (hb hby at_198) rfl (feq (by decide : ¬ ((8 : Int32) = (2 : Int32)))).1 ?_
      show Steps p_.tables e_ below (T66.setTop (mkF m_ 201 #[.val (.int (8 : Int32)), .val (.int t), .val (.int d), .val (.ref b1), .val (.int (own_a d)), .val (.int (own_g d)), .val (.int (own_h d)), .val (.ref b28), .val (.ref w8), .val (.int t), .unset, .unset] [])) t_
      refine XS.iloadN X66.here hx rfl (hb hby at_201) rfl ?_
      show Steps p_.tables e_ below (T66.setTop (mkF m_ 202 #[.val (.int (8 : Int32)), .val (.int t), .val (.int d), .val (.ref b1), .val (.int (own_a d)), .val (.int (own_g d)), .val (.int (own_h d)), .val (.ref b28), .val (.ref w8), .val (.int t), .unset, .unset] [(.int (8 : Int32))])) t_
      refine XS.bipush X66.here hx rfl (hb hby at_202) ?_
      show Steps p_.tables e_ below (T66.setTop (mkF m_ 204 #[.val (.int (8 : Int32)), .val (.int t), .val (.int d), .val (.ref b1), .val (.int (own_a d)), .val (.int (own_g d)), .val (.int (own_h d)), .val (.ref b28), .val (.ref w8), .val (.int t), .unset, .unset] [(.int (10 : Int32)), (.int (8 : Int32))])) t_
      refine XS.icmpNo X66.here hx rfl (hb hby at_204) rfl (feq (by decide : ¬ ((8 : Int32) = (10 : Int32)))).1 ?_
      show Steps p_.tables e_ below (T66.setTop (mkF m_ 207 #[.val (.int (8 : Int32)), .val (.int t), .val (.int d), .val (.ref b1), .val (.int (own_a d)), .val (.int (own_g d)), .val (.int (own_h d)), .val (.ref b28), .val (.ref w8), .val (.int t), .unset, .unset] [])) t_
      refine XS.iloadN X66.here hx rfl (hb hby at_207) rfl ?_
      show Steps p_.tables e_ below (T66.setTop (mkF m_ 208 #[.val (.int (8 : Int32)), .val (.int t), .val (.int d), .val (.ref b1), .val (.int (own_a d)), .val (.int (own_g d)), .val (.int (own_h d)), .val (.ref b28), .val (.ref w8), .val (.int t), .unset, .unset] [(.int (8 : Int32))])) t_
      refine XS.bipush X66.here hx rfl (hb hby at_208) ?_
      show Steps p_.tables e_ below (T66.setTop (mkF m_ 210 #[.val (.int (8 : Int32)), .val (.int t), .val (.int d), .val (.ref b1), .val (.int (own_a d)), .val (.int (own_g d)), .val (.int (own_h d)), .val (.ref b28), .val (.ref w8), .val (.int t), .unset, .unset] [(.int (12 : Int32)), (.int (8 : Int32))])) t_
      refine XS.icmpYes X66.here hx rfl (pc0 := 210) (pc' := 217) rfl (hb hby at_210) rfl (feq (by decide : ¬ ((8 : Int32) = (12 : Int32)))).2 (by decide) (by decide) ?_
      show Steps p_.tables e_ below (T66.setTop (mkF m_ 217 #[.val (.int (8 : Int32)), .val (.int t), .val (.int d), .val (.ref b1), .val (.int (own_a d)), .val (.int (own_g d)), .val (.int (own_h d)), .val (.ref b28), .val (.ref w8), .val (.int t), .unset, .unset] [])) t_
      refine XS.iconst X66.here hx rfl (hb hby at_217) ?_
      show Steps p_.tables e_ below (T66.setTop (mkF m_ 218 #[.val (.int (8 : Int32)), .val (.int t), .val (.int d), .val (.ref b1), .val (.int (own_a d)), .val (.int (own_g d)), .val (.int (own_h d)), .val (.ref b28), .val (.ref w8), .val (.int t), .unset, .unset] [(.int (0 : Int32))])) t_
      refine XS.istore X66.here hx rfl (hb hby at_218) rfl (l' := #[.val (.int (8 : Int32)), .val (.int t), .val (.int d), .val (.ref b1), .val (.int (own_a d)), .val (.int (own_g d)), .val (.int (own_h d)), .val (.ref b28), .val (.ref w8), .val (.int t), .val (.int (0 : Int32)), .unset]) rfl ?_
      show Steps p_.tables e_ below (T66.setTop (mkF m_ 220 #[.val (.int (8 : Int32)), .val (.int t), .val (.int d), .val (.ref b1), .val (.int (own_a d)), .val (.int (own_g d)), .val (.int (own_h d)), .val (.ref b28), .val (.ref w8), .val (.int t), .val (.int (0 : Int32)), .unset] [])) t_
      refine XS.aload X66.here hx rfl (hb hby at_220) rfl rfl ?_
      show Steps p_.tables e_ below (T66.setTop (mkF m_ 222 #[.val (.int (8 : Int32)), .val (.int t), .val (.int d), .val (.ref b1), .val (.int (own_a d)), .val (.int (own_g d)), .val (.int (own_h d)), .val (.ref b28), .val (.ref w8), .val (.int t), .val (.int (0 : Int32)), .unset] [(.ref w8)])) t_
      exact k_
    refine own_callV X66 hx hZ (y := (⟨"com/example/banksum/banksum/uk/ExceptionRule", "eitherPasses", "()Z"⟩ : MethodName)) (z := (⟨"com/example/banksum/banksum/uk/ExceptionRule", "eitherPasses", "()Z"⟩ : MethodName)) hown (hw _ (List.mem_of_getElem? (i := 56) rfl)) (hw _ (List.mem_of_getElem? (i := 57) rfl)) (notFace_of_selects (args := #[]) (mvT hZ (hw _ (List.mem_of_getElem? (i := 75) rfl)))) (hw _ (List.mem_of_getElem? (i := 75) rfl)) (hw _ (List.mem_of_getElem? (i := 58) rfl)) (hw _ (List.mem_of_getElem? (i := 3) rfl)) (hw _ (List.mem_of_getElem? (i := 60) rfl)) (by decide) w8 [] [] (E_w8.ext O.2) (rm4 l Z a0 hw w8 h31 n0 Z0) 0 (by decide) (by decide) e66 (by rw [hml]; rfl) (lenOf own_pd2 rfl) rfl (Nat.le_of_eq rfl) (hb hby at_222) (by decide) (by decide) ?_
    intro v67 T67 L67 X67 q67
    obtain ⟨rfl, N67q, e67⟩ := q67
    have N67 := Fr.app N66 N67q
    show own_Out p_ e_ below s_ _ _ _ T67 (mkF m_ 225 #[.val (.int (8 : Int32)), .val (.int t), .val (.int d), .val (.ref b1), .val (.int (own_a d)), .val (.int (own_g d)), .val (.int (own_h d)), .val (.ref b28), .val (.ref w8), .val (.int t), .val (.int (0 : Int32)), .unset] [(.int (f4 w8))])
    refine own_st T67 (mkF m_ 269 #[.val (.int (8 : Int32)), .val (.int t), .val (.int d), .val (.ref b1), .val (.int (own_a d)), .val (.int (own_g d)), .val (.int (own_h d)), .val (.ref b28), .val (.ref w8), .val (.int t), .val (.int (0 : Int32)), .val (.int (0 : Int32))] [(.ref b28), (.ref w8)]) (fun t_ k_ => ?_) ?_
    · refine XS.iload X67.here hx rfl (hb hby at_225) rfl ?_
      show Steps p_.tables e_ below (T67.setTop (mkF m_ 227 #[.val (.int (8 : Int32)), .val (.int t), .val (.int d), .val (.ref b1), .val (.int (own_a d)), .val (.int (own_g d)), .val (.int (own_h d)), .val (.ref b28), .val (.ref w8), .val (.int t), .val (.int (0 : Int32)), .unset] [(.int (0 : Int32)), (.int (f4 w8))])) t_
      refine XS.icmpYes X67.here hx rfl (pc0 := 227) (pc' := 232) rfl (hb hby at_227) rfl (teq (rfl : (f4 w8) = (0 : Int32))).1 (by decide) (by decide) ?_
      show Steps p_.tables e_ below (T67.setTop (mkF m_ 232 #[.val (.int (8 : Int32)), .val (.int t), .val (.int d), .val (.ref b1), .val (.int (own_a d)), .val (.int (own_g d)), .val (.int (own_h d)), .val (.ref b28), .val (.ref w8), .val (.int t), .val (.int (0 : Int32)), .unset] [])) t_
      refine XS.iloadN X67.here hx rfl (hb hby at_232) rfl ?_
      show Steps p_.tables e_ below (T67.setTop (mkF m_ 233 #[.val (.int (8 : Int32)), .val (.int t), .val (.int d), .val (.ref b1), .val (.int (own_a d)), .val (.int (own_g d)), .val (.int (own_h d)), .val (.ref b28), .val (.ref w8), .val (.int t), .val (.int (0 : Int32)), .unset] [(.int (8 : Int32))])) t_
      refine XS.bipush X67.here hx rfl (hb hby at_233) ?_
      show Steps p_.tables e_ below (T67.setTop (mkF m_ 235 #[.val (.int (8 : Int32)), .val (.int t), .val (.int d), .val (.ref b1), .val (.int (own_a d)), .val (.int (own_g d)), .val (.int (own_h d)), .val (.ref b28), .val (.ref w8), .val (.int t), .val (.int (0 : Int32)), .unset] [(.int (6 : Int32)), (.int (8 : Int32))])) t_
      refine XS.icmpYes X67.here hx rfl (pc0 := 235) (pc' := 262) rfl (hb hby at_235) rfl (feq (by decide : ¬ ((8 : Int32) = (6 : Int32)))).2 (by decide) (by decide) ?_
      show Steps p_.tables e_ below (T67.setTop (mkF m_ 262 #[.val (.int (8 : Int32)), .val (.int t), .val (.int d), .val (.ref b1), .val (.int (own_a d)), .val (.int (own_g d)), .val (.int (own_h d)), .val (.ref b28), .val (.ref w8), .val (.int t), .val (.int (0 : Int32)), .unset] [])) t_
      refine XS.iconst X67.here hx rfl (hb hby at_262) ?_
      show Steps p_.tables e_ below (T67.setTop (mkF m_ 263 #[.val (.int (8 : Int32)), .val (.int t), .val (.int d), .val (.ref b1), .val (.int (own_a d)), .val (.int (own_g d)), .val (.int (own_h d)), .val (.ref b28), .val (.ref w8), .val (.int t), .val (.int (0 : Int32)), .unset] [(.int (0 : Int32))])) t_
      refine XS.istore X67.here hx rfl (hb hby at_263) rfl (l' := #[.val (.int (8 : Int32)), .val (.int t), .val (.int d), .val (.ref b1), .val (.int (own_a d)), .val (.int (own_g d)), .val (.int (own_h d)), .val (.ref b28), .val (.ref w8), .val (.int t), .val (.int (0 : Int32)), .val (.int (0 : Int32))]) rfl ?_
      show Steps p_.tables e_ below (T67.setTop (mkF m_ 265 #[.val (.int (8 : Int32)), .val (.int t), .val (.int d), .val (.ref b1), .val (.int (own_a d)), .val (.int (own_g d)), .val (.int (own_h d)), .val (.ref b28), .val (.ref w8), .val (.int t), .val (.int (0 : Int32)), .val (.int (0 : Int32))] [])) t_
      refine XS.aload X67.here hx rfl (hb hby at_265) rfl rfl ?_
      show Steps p_.tables e_ below (T67.setTop (mkF m_ 267 #[.val (.int (8 : Int32)), .val (.int t), .val (.int d), .val (.ref b1), .val (.int (own_a d)), .val (.int (own_g d)), .val (.int (own_h d)), .val (.ref b28), .val (.ref w8), .val (.int t), .val (.int (0 : Int32)), .val (.int (0 : Int32))] [(.ref w8)])) t_
      refine XS.aload X67.here hx rfl (hb hby at_267) rfl rfl ?_
      show Steps p_.tables e_ below (T67.setTop (mkF m_ 269 #[.val (.int (8 : Int32)), .val (.int t), .val (.int d), .val (.ref b1), .val (.int (own_a d)), .val (.int (own_g d)), .val (.int (own_h d)), .val (.ref b28), .val (.ref w8), .val (.int t), .val (.int (0 : Int32)), .val (.int (0 : Int32))] [(.ref b28), (.ref w8)])) t_
      exact k_
    refine own_callV X67 hx hZ (y := (⟨"com/example/banksum/banksum/uk/ExceptionRule", "foreignCurrency", "([I)Z"⟩ : MethodName)) (z := (⟨"com/example/banksum/banksum/uk/ExceptionRule", "foreignCurrency", "([I)Z"⟩ : MethodName)) hown (hw _ (List.mem_of_getElem? (i := 61) rfl)) (hw _ (List.mem_of_getElem? (i := 62) rfl)) (notFace_of_selects (args := #[]) (mvT hZ (hw _ (List.mem_of_getElem? (i := 76) rfl)))) (hw _ (List.mem_of_getElem? (i := 76) rfl)) (hw _ (List.mem_of_getElem? (i := 63) rfl)) (hw _ (List.mem_of_getElem? (i := 3) rfl)) (hw _ (List.mem_of_getElem? (i := 65) rfl)) (by decide) w8 [(.ref b28)] [] (E_w8.ext O.2) (rm5 l Z a0 hw w8 b28 h31 n0 Z0) 0 (by decide) (by decide) e67 (by rw [hml]; rfl) (lenOf own_pd3 rfl) rfl (Nat.le_of_eq rfl) (hb hby at_269) (by decide) (by decide) ?_
    intro v68 T68 L68 X68 q68
    obtain ⟨rfl, N68q, e68⟩ := q68
    have N68 := Fr.app N67 N68q
    show own_Out p_ e_ below s_ _ _ _ T68 (mkF m_ 272 #[.val (.int (8 : Int32)), .val (.int t), .val (.int d), .val (.ref b1), .val (.int (own_a d)), .val (.int (own_g d)), .val (.int (own_h d)), .val (.ref b28), .val (.ref w8), .val (.int t), .val (.int (0 : Int32)), .val (.int (0 : Int32))] [(.int (f5 w8 b28))])
    refine own_st T68 (mkF m_ 282 #[.val (.int (8 : Int32)), .val (.int t), .val (.int d), .val (.ref b1), .val (.int (own_a d)), .val (.int (own_g d)), .val (.int (own_h d)), .val (.ref b28), .val (.ref w8), .val (.int t), .val (.int (0 : Int32)), .val (.int (0 : Int32))] [(.int (1 : Int32))]) (fun t_ k_ => ?_) ?_
    · refine XS.iload X68.here hx rfl (hb hby at_272) rfl ?_
      show Steps p_.tables e_ below (T68.setTop (mkF m_ 274 #[.val (.int (8 : Int32)), .val (.int t), .val (.int d), .val (.ref b1), .val (.int (own_a d)), .val (.int (own_g d)), .val (.int (own_h d)), .val (.ref b28), .val (.ref w8), .val (.int t), .val (.int (0 : Int32)), .val (.int (0 : Int32))] [(.int (0 : Int32)), (.int (f5 w8 b28))])) t_
      refine XS.icmpNo X68.here hx rfl (hb hby at_274) rfl (teq (rfl : (f5 w8 b28) = (0 : Int32))).2 ?_
      show Steps p_.tables e_ below (T68.setTop (mkF m_ 277 #[.val (.int (8 : Int32)), .val (.int t), .val (.int d), .val (.ref b1), .val (.int (own_a d)), .val (.int (own_g d)), .val (.int (own_h d)), .val (.ref b28), .val (.ref w8), .val (.int t), .val (.int (0 : Int32)), .val (.int (0 : Int32))] [])) t_
      refine XS.iconst X68.here hx rfl (hb hby at_277) ?_
      show Steps p_.tables e_ below (T68.setTop (mkF m_ 278 #[.val (.int (8 : Int32)), .val (.int t), .val (.int d), .val (.ref b1), .val (.int (own_a d)), .val (.int (own_g d)), .val (.int (own_h d)), .val (.ref b28), .val (.ref w8), .val (.int t), .val (.int (0 : Int32)), .val (.int (0 : Int32))] [(.int (1 : Int32))])) t_
      refine XS.goto X68.here hx rfl (pc0 := 278) (pc' := 282) rfl (hb hby at_278) (by decide) (by decide) ?_
      show Steps p_.tables e_ below (T68.setTop (mkF m_ 282 #[.val (.int (8 : Int32)), .val (.int t), .val (.int d), .val (.ref b1), .val (.int (own_a d)), .val (.int (own_g d)), .val (.int (own_h d)), .val (.ref b28), .val (.ref w8), .val (.int t), .val (.int (0 : Int32)), .val (.int (0 : Int32))] [(.int (1 : Int32))])) t_
      exact k_
    refine own_retN X68 hx hlk (t := .boolean) hret (by simp) (hb hby at_282) (by decide) (by decide) ?_
    exact ⟨rfl, N68⟩
  · show own_Out p_ e_ below s_ _ _ _ T32 (mkF m_ 153 #[.val (.int (9 : Int32)), .val (.int t), .val (.int d), .val (.ref b1), .val (.int (own_a d)), .val (.int (own_g d)), .val (.int (own_h d)), .val (.ref b28), .unset, .unset, .unset, .unset] [(.ref w9)])
    refine own_st T32 (mkF m_ 159 #[.val (.int (9 : Int32)), .val (.int t), .val (.int d), .val (.ref b1), .val (.int (own_a d)), .val (.int (own_g d)), .val (.int (own_h d)), .val (.ref b28), .val (.ref w9), .unset, .unset, .unset] [(.int (9 : Int32)), (.ref b1), (.ref w9)]) (fun t_ k_ => ?_) ?_
    · refine XS.astore X32.here hx rfl (hb hby at_153) rfl rfl (l' := #[.val (.int (9 : Int32)), .val (.int t), .val (.int d), .val (.ref b1), .val (.int (own_a d)), .val (.int (own_g d)), .val (.int (own_h d)), .val (.ref b28), .val (.ref w9), .unset, .unset, .unset]) rfl ?_
      show Steps p_.tables e_ below (T32.setTop (mkF m_ 155 #[.val (.int (9 : Int32)), .val (.int t), .val (.int d), .val (.ref b1), .val (.int (own_a d)), .val (.int (own_g d)), .val (.int (own_h d)), .val (.ref b28), .val (.ref w9), .unset, .unset, .unset] [])) t_
      refine XS.aload X32.here hx rfl (hb hby at_155) rfl rfl ?_
      show Steps p_.tables e_ below (T32.setTop (mkF m_ 157 #[.val (.int (9 : Int32)), .val (.int t), .val (.int d), .val (.ref b1), .val (.int (own_a d)), .val (.int (own_g d)), .val (.int (own_h d)), .val (.ref b28), .val (.ref w9), .unset, .unset, .unset] [(.ref w9)])) t_
      refine XS.aloadN X32.here hx rfl (hb hby at_157) rfl rfl ?_
      show Steps p_.tables e_ below (T32.setTop (mkF m_ 158 #[.val (.int (9 : Int32)), .val (.int t), .val (.int d), .val (.ref b1), .val (.int (own_a d)), .val (.int (own_g d)), .val (.int (own_h d)), .val (.ref b28), .val (.ref w9), .unset, .unset, .unset] [(.ref b1), (.ref w9)])) t_
      refine XS.iloadN X32.here hx rfl (hb hby at_158) rfl ?_
      show Steps p_.tables e_ below (T32.setTop (mkF m_ 159 #[.val (.int (9 : Int32)), .val (.int t), .val (.int d), .val (.ref b1), .val (.int (own_a d)), .val (.int (own_g d)), .val (.int (own_h d)), .val (.ref b28), .val (.ref w9), .unset, .unset, .unset] [(.int (9 : Int32)), (.ref b1), (.ref w9)])) t_
      exact k_
    refine own_callS X32 hx hZ hown (hw _ (List.mem_of_getElem? (i := 47) rfl)) (hw _ (List.mem_of_getElem? (i := 48) rfl)) (hw _ (List.mem_of_getElem? (i := 49) rfl)) (hw _ (List.mem_of_getElem? (i := 50) rfl)) (by decide) [(.int (9 : Int32))] [(.ref b1), (.ref w9)] (rm2 l Z a0 hw (9 : Int32) h31 n0 Z0) 2 (by decide) (by decide) e32 (by rw [hml]; rfl) (lenOf own_pd1 rfl) rfl (Nat.le_of_eq rfl) (hb hby at_159) (by decide) (by decide) ?_
    intro v69 T69 L69 X69 q69
    obtain ⟨rfl, N69q, e69⟩ := q69
    have N69 := Fr.app N32 N69q
    rw [show (f2 (9 : Int32)) = 9 from by decide]
    show own_Out p_ e_ below s_ _ _ _ T69 (mkF m_ 162 #[.val (.int (9 : Int32)), .val (.int t), .val (.int d), .val (.ref b1), .val (.int (own_a d)), .val (.int (own_g d)), .val (.int (own_h d)), .val (.ref b28), .val (.ref w9), .unset, .unset, .unset] [(.int (9 : Int32)), (.ref b1), (.ref w9)])
    refine own_st T69 (mkF m_ 186 #[.val (.int (9 : Int32)), .val (.int t), .val (.int d), .val (.ref b1), .val (.int (own_a d)), .val (.int (own_g d)), .val (.int (own_h d)), .val (.ref b28), .val (.ref w9), .val (.int t), .unset, .unset] [(.int t), (.ref w9)]) (fun t_ k_ => ?_) ?_
    · refine own_ldR X69 hx hZ e69 A_b1 rfl 9 (by decide) (by decide) (hb hby at_162) _ ?_
      show Steps p_.tables e_ below (T69.setTop (mkF m_ 163 #[.val (.int (9 : Int32)), .val (.int t), .val (.int d), .val (.ref b1), .val (.int (own_a d)), .val (.int (own_g d)), .val (.int (own_h d)), .val (.ref b28), .val (.ref w9), .unset, .unset, .unset] [(.ref w9), (.ref w9)])) t_
      refine Jvm.RoadKit.acmp (g := (mkF m_ 163 #[.val (.int (9 : Int32)), .val (.int t), .val (.int d), .val (.ref b1), .val (.int (own_a d)), .val (.int (own_g d)), .val (.int (own_h d)), .val (.ref b28), .val (.ref w9), .unset, .unset, .unset] [(.ref w9), (.ref w9)])) X69 hx rfl rfl rfl (pc0 := 163) (pc' := 168) (same := true) rfl (hb hby at_163) rfl (decide_eq_true rfl) (by decide) (by decide) ?_
      show Steps p_.tables e_ below (T69.setTop (mkF m_ 168 #[.val (.int (9 : Int32)), .val (.int t), .val (.int d), .val (.ref b1), .val (.int (own_a d)), .val (.int (own_g d)), .val (.int (own_h d)), .val (.ref b28), .val (.ref w9), .unset, .unset, .unset] [])) t_
      refine XS.iloadN X69.here hx rfl (hb hby at_168) rfl ?_
      show Steps p_.tables e_ below (T69.setTop (mkF m_ 169 #[.val (.int (9 : Int32)), .val (.int t), .val (.int d), .val (.ref b1), .val (.int (own_a d)), .val (.int (own_g d)), .val (.int (own_h d)), .val (.ref b28), .val (.ref w9), .unset, .unset, .unset] [(.int (9 : Int32))])) t_
      refine XS.iconst X69.here hx rfl (hb hby at_169) ?_
      show Steps p_.tables e_ below (T69.setTop (mkF m_ 170 #[.val (.int (9 : Int32)), .val (.int t), .val (.int d), .val (.ref b1), .val (.int (own_a d)), .val (.int (own_g d)), .val (.int (own_h d)), .val (.ref b28), .val (.ref w9), .unset, .unset, .unset] [(.int (1 : Int32)), (.int (9 : Int32))])) t_
      refine XS.icmpYes X69.here hx rfl (pc0 := 170) (pc' := 180) rfl (hb hby at_170) rfl (feq (by decide : ¬ ((9 : Int32) = (1 : Int32)))).2 (by decide) (by decide) ?_
      show Steps p_.tables e_ below (T69.setTop (mkF m_ 180 #[.val (.int (9 : Int32)), .val (.int t), .val (.int d), .val (.ref b1), .val (.int (own_a d)), .val (.int (own_g d)), .val (.int (own_h d)), .val (.ref b28), .val (.ref w9), .unset, .unset, .unset] [])) t_
      refine XS.iloadN X69.here hx rfl (hb hby at_180) rfl ?_
      show Steps p_.tables e_ below (T69.setTop (mkF m_ 181 #[.val (.int (9 : Int32)), .val (.int t), .val (.int d), .val (.ref b1), .val (.int (own_a d)), .val (.int (own_g d)), .val (.int (own_h d)), .val (.ref b28), .val (.ref w9), .unset, .unset, .unset] [(.int t)])) t_
      refine XS.istore X69.here hx rfl (hb hby at_181) rfl (l' := #[.val (.int (9 : Int32)), .val (.int t), .val (.int d), .val (.ref b1), .val (.int (own_a d)), .val (.int (own_g d)), .val (.int (own_h d)), .val (.ref b28), .val (.ref w9), .val (.int t), .unset, .unset]) rfl ?_
      show Steps p_.tables e_ below (T69.setTop (mkF m_ 183 #[.val (.int (9 : Int32)), .val (.int t), .val (.int d), .val (.ref b1), .val (.int (own_a d)), .val (.int (own_g d)), .val (.int (own_h d)), .val (.ref b28), .val (.ref w9), .val (.int t), .unset, .unset] [])) t_
      refine XS.aload X69.here hx rfl (hb hby at_183) rfl rfl ?_
      show Steps p_.tables e_ below (T69.setTop (mkF m_ 185 #[.val (.int (9 : Int32)), .val (.int t), .val (.int d), .val (.ref b1), .val (.int (own_a d)), .val (.int (own_g d)), .val (.int (own_h d)), .val (.ref b28), .val (.ref w9), .val (.int t), .unset, .unset] [(.ref w9)])) t_
      refine XS.iloadN X69.here hx rfl (hb hby at_185) rfl ?_
      show Steps p_.tables e_ below (T69.setTop (mkF m_ 186 #[.val (.int (9 : Int32)), .val (.int t), .val (.int d), .val (.ref b1), .val (.int (own_a d)), .val (.int (own_g d)), .val (.int (own_h d)), .val (.ref b28), .val (.ref w9), .val (.int t), .unset, .unset] [(.int t), (.ref w9)])) t_
      exact k_
    refine own_callV X69 hx hZ (y := (⟨"com/example/banksum/banksum/uk/ExceptionRule", "total", "(I)I"⟩ : MethodName)) (z := (⟨"com/example/banksum/banksum/uk/ExceptionRule", "total", "(I)I"⟩ : MethodName)) hown (hw _ (List.mem_of_getElem? (i := 51) rfl)) (hw _ (List.mem_of_getElem? (i := 52) rfl)) (notFace_of_selects (args := #[]) (mvT hZ (hw _ (List.mem_of_getElem? (i := 104) rfl)))) (hw _ (List.mem_of_getElem? (i := 104) rfl)) (hw _ (List.mem_of_getElem? (i := 53) rfl)) (hw _ (List.mem_of_getElem? (i := 3) rfl)) (hw _ (List.mem_of_getElem? (i := 55) rfl)) (by decide) w9 [(.int t)] [] (E_w9.ext O.2) (rm3 l Z a0 hw w9 t h31 n0 Z0) 0 (by decide) (by decide) e69 (by rw [hml]; rfl) (lenOf own_pd1 rfl) rfl (Nat.le_of_eq rfl) (hb hby at_186) (by decide) (by decide) ?_
    intro v70 T70 L70 X70 q70
    obtain ⟨rfl, N70q, e70⟩ := q70
    have N70 := Fr.app N69 N70q
    show own_Out p_ e_ below s_ _ _ _ T70 (mkF m_ 189 #[.val (.int (9 : Int32)), .val (.int t), .val (.int d), .val (.ref b1), .val (.int (own_a d)), .val (.int (own_g d)), .val (.int (own_h d)), .val (.ref b28), .val (.ref w9), .val (.int t), .unset, .unset] [(.int (f3 w9 t))])
    refine own_st T70 (mkF m_ 222 #[.val (.int (9 : Int32)), .val (.int t), .val (.int d), .val (.ref b1), .val (.int (own_a d)), .val (.int (own_g d)), .val (.int (own_h d)), .val (.ref b28), .val (.ref w9), .val (.int t), .val (.int (0 : Int32)), .unset] [(.ref w9)]) (fun t_ k_ => ?_) ?_
    · refine XS.iload X70.here hx rfl (hb hby at_189) rfl ?_
      show Steps p_.tables e_ below (T70.setTop (mkF m_ 191 #[.val (.int (9 : Int32)), .val (.int t), .val (.int d), .val (.ref b1), .val (.int (own_a d)), .val (.int (own_g d)), .val (.int (own_h d)), .val (.ref b28), .val (.ref w9), .val (.int t), .unset, .unset] [(.int t), (.int (f3 w9 t))])) t_
      refine XS.icmpYes X70.here hx rfl (pc0 := 191) (pc' := 196) rfl (hb hby at_191) rfl (teq (rfl : (f3 w9 t) = t)).1 (by decide) (by decide) ?_
      show Steps p_.tables e_ below (T70.setTop (mkF m_ 196 #[.val (.int (9 : Int32)), .val (.int t), .val (.int d), .val (.ref b1), .val (.int (own_a d)), .val (.int (own_g d)), .val (.int (own_h d)), .val (.ref b28), .val (.ref w9), .val (.int t), .unset, .unset] [])) t_
      refine XS.iloadN X70.here hx rfl (hb hby at_196) rfl ?_
      show Steps p_.tables e_ below (T70.setTop (mkF m_ 197 #[.val (.int (9 : Int32)), .val (.int t), .val (.int d), .val (.ref b1), .val (.int (own_a d)), .val (.int (own_g d)), .val (.int (own_h d)), .val (.ref b28), .val (.ref w9), .val (.int t), .unset, .unset] [(.int (9 : Int32))])) t_
      refine XS.iconst X70.here hx rfl (hb hby at_197) ?_
      show Steps p_.tables e_ below (T70.setTop (mkF m_ 198 #[.val (.int (9 : Int32)), .val (.int t), .val (.int d), .val (.ref b1), .val (.int (own_a d)), .val (.int (own_g d)), .val (.int (own_h d)), .val (.ref b28), .val (.ref w9), .val (.int t), .unset, .unset] [(.int (2 : Int32)), (.int (9 : Int32))])) t_
      refine XS.icmpNo X70.here hx rfl (hb hby at_198) rfl (feq (by decide : ¬ ((9 : Int32) = (2 : Int32)))).1 ?_
      show Steps p_.tables e_ below (T70.setTop (mkF m_ 201 #[.val (.int (9 : Int32)), .val (.int t), .val (.int d), .val (.ref b1), .val (.int (own_a d)), .val (.int (own_g d)), .val (.int (own_h d)), .val (.ref b28), .val (.ref w9), .val (.int t), .unset, .unset] [])) t_
      refine XS.iloadN X70.here hx rfl (hb hby at_201) rfl ?_
      show Steps p_.tables e_ below (T70.setTop (mkF m_ 202 #[.val (.int (9 : Int32)), .val (.int t), .val (.int d), .val (.ref b1), .val (.int (own_a d)), .val (.int (own_g d)), .val (.int (own_h d)), .val (.ref b28), .val (.ref w9), .val (.int t), .unset, .unset] [(.int (9 : Int32))])) t_
      refine XS.bipush X70.here hx rfl (hb hby at_202) ?_
      show Steps p_.tables e_ below (T70.setTop (mkF m_ 204 #[.val (.int (9 : Int32)), .val (.int t), .val (.int d), .val (.ref b1), .val (.int (own_a d)), .val (.int (own_g d)), .val (.int (own_h d)), .val (.ref b28), .val (.ref w9), .val (.int t), .unset, .unset] [(.int (10 : Int32)), (.int (9 : Int32))])) t_
      refine XS.icmpNo X70.here hx rfl (hb hby at_204) rfl (feq (by decide : ¬ ((9 : Int32) = (10 : Int32)))).1 ?_
      show Steps p_.tables e_ below (T70.setTop (mkF m_ 207 #[.val (.int (9 : Int32)), .val (.int t), .val (.int d), .val (.ref b1), .val (.int (own_a d)), .val (.int (own_g d)), .val (.int (own_h d)), .val (.ref b28), .val (.ref w9), .val (.int t), .unset, .unset] [])) t_
      refine XS.iloadN X70.here hx rfl (hb hby at_207) rfl ?_
      show Steps p_.tables e_ below (T70.setTop (mkF m_ 208 #[.val (.int (9 : Int32)), .val (.int t), .val (.int d), .val (.ref b1), .val (.int (own_a d)), .val (.int (own_g d)), .val (.int (own_h d)), .val (.ref b28), .val (.ref w9), .val (.int t), .unset, .unset] [(.int (9 : Int32))])) t_
      refine XS.bipush X70.here hx rfl (hb hby at_208) ?_
      show Steps p_.tables e_ below (T70.setTop (mkF m_ 210 #[.val (.int (9 : Int32)), .val (.int t), .val (.int d), .val (.ref b1), .val (.int (own_a d)), .val (.int (own_g d)), .val (.int (own_h d)), .val (.ref b28), .val (.ref w9), .val (.int t), .unset, .unset] [(.int (12 : Int32)), (.int (9 : Int32))])) t_
      refine XS.icmpYes X70.here hx rfl (pc0 := 210) (pc' := 217) rfl (hb hby at_210) rfl (feq (by decide : ¬ ((9 : Int32) = (12 : Int32)))).2 (by decide) (by decide) ?_
      show Steps p_.tables e_ below (T70.setTop (mkF m_ 217 #[.val (.int (9 : Int32)), .val (.int t), .val (.int d), .val (.ref b1), .val (.int (own_a d)), .val (.int (own_g d)), .val (.int (own_h d)), .val (.ref b28), .val (.ref w9), .val (.int t), .unset, .unset] [])) t_
      refine XS.iconst X70.here hx rfl (hb hby at_217) ?_
      show Steps p_.tables e_ below (T70.setTop (mkF m_ 218 #[.val (.int (9 : Int32)), .val (.int t), .val (.int d), .val (.ref b1), .val (.int (own_a d)), .val (.int (own_g d)), .val (.int (own_h d)), .val (.ref b28), .val (.ref w9), .val (.int t), .unset, .unset] [(.int (0 : Int32))])) t_
      refine XS.istore X70.here hx rfl (hb hby at_218) rfl (l' := #[.val (.int (9 : Int32)), .val (.int t), .val (.int d), .val (.ref b1), .val (.int (own_a d)), .val (.int (own_g d)), .val (.int (own_h d)), .val (.ref b28), .val (.ref w9), .val (.int t), .val (.int (0 : Int32)), .unset]) rfl ?_
      show Steps p_.tables e_ below (T70.setTop (mkF m_ 220 #[.val (.int (9 : Int32)), .val (.int t), .val (.int d), .val (.ref b1), .val (.int (own_a d)), .val (.int (own_g d)), .val (.int (own_h d)), .val (.ref b28), .val (.ref w9), .val (.int t), .val (.int (0 : Int32)), .unset] [])) t_
      refine XS.aload X70.here hx rfl (hb hby at_220) rfl rfl ?_
      show Steps p_.tables e_ below (T70.setTop (mkF m_ 222 #[.val (.int (9 : Int32)), .val (.int t), .val (.int d), .val (.ref b1), .val (.int (own_a d)), .val (.int (own_g d)), .val (.int (own_h d)), .val (.ref b28), .val (.ref w9), .val (.int t), .val (.int (0 : Int32)), .unset] [(.ref w9)])) t_
      exact k_
    refine own_callV X70 hx hZ (y := (⟨"com/example/banksum/banksum/uk/ExceptionRule", "eitherPasses", "()Z"⟩ : MethodName)) (z := (⟨"com/example/banksum/banksum/uk/ExceptionRule", "eitherPasses", "()Z"⟩ : MethodName)) hown (hw _ (List.mem_of_getElem? (i := 56) rfl)) (hw _ (List.mem_of_getElem? (i := 57) rfl)) (notFace_of_selects (args := #[]) (mvT hZ (hw _ (List.mem_of_getElem? (i := 105) rfl)))) (hw _ (List.mem_of_getElem? (i := 105) rfl)) (hw _ (List.mem_of_getElem? (i := 58) rfl)) (hw _ (List.mem_of_getElem? (i := 3) rfl)) (hw _ (List.mem_of_getElem? (i := 60) rfl)) (by decide) w9 [] [] (E_w9.ext O.2) (rm4 l Z a0 hw w9 h31 n0 Z0) 0 (by decide) (by decide) e70 (by rw [hml]; rfl) (lenOf own_pd2 rfl) rfl (Nat.le_of_eq rfl) (hb hby at_222) (by decide) (by decide) ?_
    intro v71 T71 L71 X71 q71
    obtain ⟨rfl, N71q, e71⟩ := q71
    have N71 := Fr.app N70 N71q
    show own_Out p_ e_ below s_ _ _ _ T71 (mkF m_ 225 #[.val (.int (9 : Int32)), .val (.int t), .val (.int d), .val (.ref b1), .val (.int (own_a d)), .val (.int (own_g d)), .val (.int (own_h d)), .val (.ref b28), .val (.ref w9), .val (.int t), .val (.int (0 : Int32)), .unset] [(.int (f4 w9))])
    refine own_st T71 (mkF m_ 269 #[.val (.int (9 : Int32)), .val (.int t), .val (.int d), .val (.ref b1), .val (.int (own_a d)), .val (.int (own_g d)), .val (.int (own_h d)), .val (.ref b28), .val (.ref w9), .val (.int t), .val (.int (0 : Int32)), .val (.int (0 : Int32))] [(.ref b28), (.ref w9)]) (fun t_ k_ => ?_) ?_
    · refine XS.iload X71.here hx rfl (hb hby at_225) rfl ?_
      show Steps p_.tables e_ below (T71.setTop (mkF m_ 227 #[.val (.int (9 : Int32)), .val (.int t), .val (.int d), .val (.ref b1), .val (.int (own_a d)), .val (.int (own_g d)), .val (.int (own_h d)), .val (.ref b28), .val (.ref w9), .val (.int t), .val (.int (0 : Int32)), .unset] [(.int (0 : Int32)), (.int (f4 w9))])) t_
      refine XS.icmpYes X71.here hx rfl (pc0 := 227) (pc' := 232) rfl (hb hby at_227) rfl (teq (rfl : (f4 w9) = (0 : Int32))).1 (by decide) (by decide) ?_
      show Steps p_.tables e_ below (T71.setTop (mkF m_ 232 #[.val (.int (9 : Int32)), .val (.int t), .val (.int d), .val (.ref b1), .val (.int (own_a d)), .val (.int (own_g d)), .val (.int (own_h d)), .val (.ref b28), .val (.ref w9), .val (.int t), .val (.int (0 : Int32)), .unset] [])) t_
      refine XS.iloadN X71.here hx rfl (hb hby at_232) rfl ?_
      show Steps p_.tables e_ below (T71.setTop (mkF m_ 233 #[.val (.int (9 : Int32)), .val (.int t), .val (.int d), .val (.ref b1), .val (.int (own_a d)), .val (.int (own_g d)), .val (.int (own_h d)), .val (.ref b28), .val (.ref w9), .val (.int t), .val (.int (0 : Int32)), .unset] [(.int (9 : Int32))])) t_
      refine XS.bipush X71.here hx rfl (hb hby at_233) ?_
      show Steps p_.tables e_ below (T71.setTop (mkF m_ 235 #[.val (.int (9 : Int32)), .val (.int t), .val (.int d), .val (.ref b1), .val (.int (own_a d)), .val (.int (own_g d)), .val (.int (own_h d)), .val (.ref b28), .val (.ref w9), .val (.int t), .val (.int (0 : Int32)), .unset] [(.int (6 : Int32)), (.int (9 : Int32))])) t_
      refine XS.icmpYes X71.here hx rfl (pc0 := 235) (pc' := 262) rfl (hb hby at_235) rfl (feq (by decide : ¬ ((9 : Int32) = (6 : Int32)))).2 (by decide) (by decide) ?_
      show Steps p_.tables e_ below (T71.setTop (mkF m_ 262 #[.val (.int (9 : Int32)), .val (.int t), .val (.int d), .val (.ref b1), .val (.int (own_a d)), .val (.int (own_g d)), .val (.int (own_h d)), .val (.ref b28), .val (.ref w9), .val (.int t), .val (.int (0 : Int32)), .unset] [])) t_
      refine XS.iconst X71.here hx rfl (hb hby at_262) ?_
      show Steps p_.tables e_ below (T71.setTop (mkF m_ 263 #[.val (.int (9 : Int32)), .val (.int t), .val (.int d), .val (.ref b1), .val (.int (own_a d)), .val (.int (own_g d)), .val (.int (own_h d)), .val (.ref b28), .val (.ref w9), .val (.int t), .val (.int (0 : Int32)), .unset] [(.int (0 : Int32))])) t_
      refine XS.istore X71.here hx rfl (hb hby at_263) rfl (l' := #[.val (.int (9 : Int32)), .val (.int t), .val (.int d), .val (.ref b1), .val (.int (own_a d)), .val (.int (own_g d)), .val (.int (own_h d)), .val (.ref b28), .val (.ref w9), .val (.int t), .val (.int (0 : Int32)), .val (.int (0 : Int32))]) rfl ?_
      show Steps p_.tables e_ below (T71.setTop (mkF m_ 265 #[.val (.int (9 : Int32)), .val (.int t), .val (.int d), .val (.ref b1), .val (.int (own_a d)), .val (.int (own_g d)), .val (.int (own_h d)), .val (.ref b28), .val (.ref w9), .val (.int t), .val (.int (0 : Int32)), .val (.int (0 : Int32))] [])) t_
      refine XS.aload X71.here hx rfl (hb hby at_265) rfl rfl ?_
      show Steps p_.tables e_ below (T71.setTop (mkF m_ 267 #[.val (.int (9 : Int32)), .val (.int t), .val (.int d), .val (.ref b1), .val (.int (own_a d)), .val (.int (own_g d)), .val (.int (own_h d)), .val (.ref b28), .val (.ref w9), .val (.int t), .val (.int (0 : Int32)), .val (.int (0 : Int32))] [(.ref w9)])) t_
      refine XS.aload X71.here hx rfl (hb hby at_267) rfl rfl ?_
      show Steps p_.tables e_ below (T71.setTop (mkF m_ 269 #[.val (.int (9 : Int32)), .val (.int t), .val (.int d), .val (.ref b1), .val (.int (own_a d)), .val (.int (own_g d)), .val (.int (own_h d)), .val (.ref b28), .val (.ref w9), .val (.int t), .val (.int (0 : Int32)), .val (.int (0 : Int32))] [(.ref b28), (.ref w9)])) t_
      exact k_
    refine own_callV X71 hx hZ (y := (⟨"com/example/banksum/banksum/uk/ExceptionRule", "foreignCurrency", "([I)Z"⟩ : MethodName)) (z := (⟨"com/example/banksum/banksum/uk/ExceptionRule", "foreignCurrency", "([I)Z"⟩ : MethodName)) hown (hw _ (List.mem_of_getElem? (i := 61) rfl)) (hw _ (List.mem_of_getElem? (i := 62) rfl)) (notFace_of_selects (args := #[]) (mvT hZ (hw _ (List.mem_of_getElem? (i := 106) rfl)))) (hw _ (List.mem_of_getElem? (i := 106) rfl)) (hw _ (List.mem_of_getElem? (i := 63) rfl)) (hw _ (List.mem_of_getElem? (i := 3) rfl)) (hw _ (List.mem_of_getElem? (i := 65) rfl)) (by decide) w9 [(.ref b28)] [] (E_w9.ext O.2) (rm5 l Z a0 hw w9 b28 h31 n0 Z0) 0 (by decide) (by decide) e71 (by rw [hml]; rfl) (lenOf own_pd3 rfl) rfl (Nat.le_of_eq rfl) (hb hby at_269) (by decide) (by decide) ?_
    intro v72 T72 L72 X72 q72
    obtain ⟨rfl, N72q, e72⟩ := q72
    have N72 := Fr.app N71 N72q
    show own_Out p_ e_ below s_ _ _ _ T72 (mkF m_ 272 #[.val (.int (9 : Int32)), .val (.int t), .val (.int d), .val (.ref b1), .val (.int (own_a d)), .val (.int (own_g d)), .val (.int (own_h d)), .val (.ref b28), .val (.ref w9), .val (.int t), .val (.int (0 : Int32)), .val (.int (0 : Int32))] [(.int (f5 w9 b28))])
    refine own_st T72 (mkF m_ 282 #[.val (.int (9 : Int32)), .val (.int t), .val (.int d), .val (.ref b1), .val (.int (own_a d)), .val (.int (own_g d)), .val (.int (own_h d)), .val (.ref b28), .val (.ref w9), .val (.int t), .val (.int (0 : Int32)), .val (.int (0 : Int32))] [(.int (1 : Int32))]) (fun t_ k_ => ?_) ?_
    · refine XS.iload X72.here hx rfl (hb hby at_272) rfl ?_
      show Steps p_.tables e_ below (T72.setTop (mkF m_ 274 #[.val (.int (9 : Int32)), .val (.int t), .val (.int d), .val (.ref b1), .val (.int (own_a d)), .val (.int (own_g d)), .val (.int (own_h d)), .val (.ref b28), .val (.ref w9), .val (.int t), .val (.int (0 : Int32)), .val (.int (0 : Int32))] [(.int (0 : Int32)), (.int (f5 w9 b28))])) t_
      refine XS.icmpNo X72.here hx rfl (hb hby at_274) rfl (teq (rfl : (f5 w9 b28) = (0 : Int32))).2 ?_
      show Steps p_.tables e_ below (T72.setTop (mkF m_ 277 #[.val (.int (9 : Int32)), .val (.int t), .val (.int d), .val (.ref b1), .val (.int (own_a d)), .val (.int (own_g d)), .val (.int (own_h d)), .val (.ref b28), .val (.ref w9), .val (.int t), .val (.int (0 : Int32)), .val (.int (0 : Int32))] [])) t_
      refine XS.iconst X72.here hx rfl (hb hby at_277) ?_
      show Steps p_.tables e_ below (T72.setTop (mkF m_ 278 #[.val (.int (9 : Int32)), .val (.int t), .val (.int d), .val (.ref b1), .val (.int (own_a d)), .val (.int (own_g d)), .val (.int (own_h d)), .val (.ref b28), .val (.ref w9), .val (.int t), .val (.int (0 : Int32)), .val (.int (0 : Int32))] [(.int (1 : Int32))])) t_
      refine XS.goto X72.here hx rfl (pc0 := 278) (pc' := 282) rfl (hb hby at_278) (by decide) (by decide) ?_
      show Steps p_.tables e_ below (T72.setTop (mkF m_ 282 #[.val (.int (9 : Int32)), .val (.int t), .val (.int d), .val (.ref b1), .val (.int (own_a d)), .val (.int (own_g d)), .val (.int (own_h d)), .val (.ref b28), .val (.ref w9), .val (.int t), .val (.int (0 : Int32)), .val (.int (0 : Int32))] [(.int (1 : Int32))])) t_
      exact k_
    refine own_retN X72 hx hlk (t := .boolean) hret (by simp) (hb hby at_282) (by decide) (by decide) ?_
    exact ⟨rfl, N72⟩
  · show own_Out p_ e_ below s_ _ _ _ T32 (mkF m_ 153 #[.val (.int (10 : Int32)), .val (.int t), .val (.int d), .val (.ref b1), .val (.int (own_a d)), .val (.int (own_g d)), .val (.int (own_h d)), .val (.ref b28), .unset, .unset, .unset, .unset] [(.ref w10)])
    refine own_st T32 (mkF m_ 159 #[.val (.int (10 : Int32)), .val (.int t), .val (.int d), .val (.ref b1), .val (.int (own_a d)), .val (.int (own_g d)), .val (.int (own_h d)), .val (.ref b28), .val (.ref w10), .unset, .unset, .unset] [(.int (10 : Int32)), (.ref b1), (.ref w10)]) (fun t_ k_ => ?_) ?_
    · refine XS.astore X32.here hx rfl (hb hby at_153) rfl rfl (l' := #[.val (.int (10 : Int32)), .val (.int t), .val (.int d), .val (.ref b1), .val (.int (own_a d)), .val (.int (own_g d)), .val (.int (own_h d)), .val (.ref b28), .val (.ref w10), .unset, .unset, .unset]) rfl ?_
      show Steps p_.tables e_ below (T32.setTop (mkF m_ 155 #[.val (.int (10 : Int32)), .val (.int t), .val (.int d), .val (.ref b1), .val (.int (own_a d)), .val (.int (own_g d)), .val (.int (own_h d)), .val (.ref b28), .val (.ref w10), .unset, .unset, .unset] [])) t_
      refine XS.aload X32.here hx rfl (hb hby at_155) rfl rfl ?_
      show Steps p_.tables e_ below (T32.setTop (mkF m_ 157 #[.val (.int (10 : Int32)), .val (.int t), .val (.int d), .val (.ref b1), .val (.int (own_a d)), .val (.int (own_g d)), .val (.int (own_h d)), .val (.ref b28), .val (.ref w10), .unset, .unset, .unset] [(.ref w10)])) t_
      refine XS.aloadN X32.here hx rfl (hb hby at_157) rfl rfl ?_
      show Steps p_.tables e_ below (T32.setTop (mkF m_ 158 #[.val (.int (10 : Int32)), .val (.int t), .val (.int d), .val (.ref b1), .val (.int (own_a d)), .val (.int (own_g d)), .val (.int (own_h d)), .val (.ref b28), .val (.ref w10), .unset, .unset, .unset] [(.ref b1), (.ref w10)])) t_
      refine XS.iloadN X32.here hx rfl (hb hby at_158) rfl ?_
      show Steps p_.tables e_ below (T32.setTop (mkF m_ 159 #[.val (.int (10 : Int32)), .val (.int t), .val (.int d), .val (.ref b1), .val (.int (own_a d)), .val (.int (own_g d)), .val (.int (own_h d)), .val (.ref b28), .val (.ref w10), .unset, .unset, .unset] [(.int (10 : Int32)), (.ref b1), (.ref w10)])) t_
      exact k_
    refine own_callS X32 hx hZ hown (hw _ (List.mem_of_getElem? (i := 47) rfl)) (hw _ (List.mem_of_getElem? (i := 48) rfl)) (hw _ (List.mem_of_getElem? (i := 49) rfl)) (hw _ (List.mem_of_getElem? (i := 50) rfl)) (by decide) [(.int (10 : Int32))] [(.ref b1), (.ref w10)] (rm2 l Z a0 hw (10 : Int32) h31 n0 Z0) 2 (by decide) (by decide) e32 (by rw [hml]; rfl) (lenOf own_pd1 rfl) rfl (Nat.le_of_eq rfl) (hb hby at_159) (by decide) (by decide) ?_
    intro v73 T73 L73 X73 q73
    obtain ⟨rfl, N73q, e73⟩ := q73
    have N73 := Fr.app N32 N73q
    rw [show (f2 (10 : Int32)) = 10 from by decide]
    show own_Out p_ e_ below s_ _ _ _ T73 (mkF m_ 162 #[.val (.int (10 : Int32)), .val (.int t), .val (.int d), .val (.ref b1), .val (.int (own_a d)), .val (.int (own_g d)), .val (.int (own_h d)), .val (.ref b28), .val (.ref w10), .unset, .unset, .unset] [(.int (10 : Int32)), (.ref b1), (.ref w10)])
    refine own_st T73 (mkF m_ 186 #[.val (.int (10 : Int32)), .val (.int t), .val (.int d), .val (.ref b1), .val (.int (own_a d)), .val (.int (own_g d)), .val (.int (own_h d)), .val (.ref b28), .val (.ref w10), .val (.int t), .unset, .unset] [(.int t), (.ref w10)]) (fun t_ k_ => ?_) ?_
    · refine own_ldR X73 hx hZ e73 A_b1 rfl 10 (by decide) (by decide) (hb hby at_162) _ ?_
      show Steps p_.tables e_ below (T73.setTop (mkF m_ 163 #[.val (.int (10 : Int32)), .val (.int t), .val (.int d), .val (.ref b1), .val (.int (own_a d)), .val (.int (own_g d)), .val (.int (own_h d)), .val (.ref b28), .val (.ref w10), .unset, .unset, .unset] [(.ref w10), (.ref w10)])) t_
      refine Jvm.RoadKit.acmp (g := (mkF m_ 163 #[.val (.int (10 : Int32)), .val (.int t), .val (.int d), .val (.ref b1), .val (.int (own_a d)), .val (.int (own_g d)), .val (.int (own_h d)), .val (.ref b28), .val (.ref w10), .unset, .unset, .unset] [(.ref w10), (.ref w10)])) X73 hx rfl rfl rfl (pc0 := 163) (pc' := 168) (same := true) rfl (hb hby at_163) rfl (decide_eq_true rfl) (by decide) (by decide) ?_
      show Steps p_.tables e_ below (T73.setTop (mkF m_ 168 #[.val (.int (10 : Int32)), .val (.int t), .val (.int d), .val (.ref b1), .val (.int (own_a d)), .val (.int (own_g d)), .val (.int (own_h d)), .val (.ref b28), .val (.ref w10), .unset, .unset, .unset] [])) t_
      refine XS.iloadN X73.here hx rfl (hb hby at_168) rfl ?_
      show Steps p_.tables e_ below (T73.setTop (mkF m_ 169 #[.val (.int (10 : Int32)), .val (.int t), .val (.int d), .val (.ref b1), .val (.int (own_a d)), .val (.int (own_g d)), .val (.int (own_h d)), .val (.ref b28), .val (.ref w10), .unset, .unset, .unset] [(.int (10 : Int32))])) t_
      refine XS.iconst X73.here hx rfl (hb hby at_169) ?_
      show Steps p_.tables e_ below (T73.setTop (mkF m_ 170 #[.val (.int (10 : Int32)), .val (.int t), .val (.int d), .val (.ref b1), .val (.int (own_a d)), .val (.int (own_g d)), .val (.int (own_h d)), .val (.ref b28), .val (.ref w10), .unset, .unset, .unset] [(.int (1 : Int32)), (.int (10 : Int32))])) t_
      refine XS.icmpYes X73.here hx rfl (pc0 := 170) (pc' := 180) rfl (hb hby at_170) rfl (feq (by decide : ¬ ((10 : Int32) = (1 : Int32)))).2 (by decide) (by decide) ?_
      show Steps p_.tables e_ below (T73.setTop (mkF m_ 180 #[.val (.int (10 : Int32)), .val (.int t), .val (.int d), .val (.ref b1), .val (.int (own_a d)), .val (.int (own_g d)), .val (.int (own_h d)), .val (.ref b28), .val (.ref w10), .unset, .unset, .unset] [])) t_
      refine XS.iloadN X73.here hx rfl (hb hby at_180) rfl ?_
      show Steps p_.tables e_ below (T73.setTop (mkF m_ 181 #[.val (.int (10 : Int32)), .val (.int t), .val (.int d), .val (.ref b1), .val (.int (own_a d)), .val (.int (own_g d)), .val (.int (own_h d)), .val (.ref b28), .val (.ref w10), .unset, .unset, .unset] [(.int t)])) t_
      refine XS.istore X73.here hx rfl (hb hby at_181) rfl (l' := #[.val (.int (10 : Int32)), .val (.int t), .val (.int d), .val (.ref b1), .val (.int (own_a d)), .val (.int (own_g d)), .val (.int (own_h d)), .val (.ref b28), .val (.ref w10), .val (.int t), .unset, .unset]) rfl ?_
      show Steps p_.tables e_ below (T73.setTop (mkF m_ 183 #[.val (.int (10 : Int32)), .val (.int t), .val (.int d), .val (.ref b1), .val (.int (own_a d)), .val (.int (own_g d)), .val (.int (own_h d)), .val (.ref b28), .val (.ref w10), .val (.int t), .unset, .unset] [])) t_
      refine XS.aload X73.here hx rfl (hb hby at_183) rfl rfl ?_
      show Steps p_.tables e_ below (T73.setTop (mkF m_ 185 #[.val (.int (10 : Int32)), .val (.int t), .val (.int d), .val (.ref b1), .val (.int (own_a d)), .val (.int (own_g d)), .val (.int (own_h d)), .val (.ref b28), .val (.ref w10), .val (.int t), .unset, .unset] [(.ref w10)])) t_
      refine XS.iloadN X73.here hx rfl (hb hby at_185) rfl ?_
      show Steps p_.tables e_ below (T73.setTop (mkF m_ 186 #[.val (.int (10 : Int32)), .val (.int t), .val (.int d), .val (.ref b1), .val (.int (own_a d)), .val (.int (own_g d)), .val (.int (own_h d)), .val (.ref b28), .val (.ref w10), .val (.int t), .unset, .unset] [(.int t), (.ref w10)])) t_
      exact k_
    refine own_callV X73 hx hZ (y := (⟨"com/example/banksum/banksum/uk/ExceptionRule", "total", "(I)I"⟩ : MethodName)) (z := (⟨"com/example/banksum/banksum/uk/ExceptionRule", "total", "(I)I"⟩ : MethodName)) hown (hw _ (List.mem_of_getElem? (i := 51) rfl)) (hw _ (List.mem_of_getElem? (i := 52) rfl)) (notFace_of_selects (args := #[]) (mvT hZ (hw _ (List.mem_of_getElem? (i := 82) rfl)))) (hw _ (List.mem_of_getElem? (i := 82) rfl)) (hw _ (List.mem_of_getElem? (i := 53) rfl)) (hw _ (List.mem_of_getElem? (i := 3) rfl)) (hw _ (List.mem_of_getElem? (i := 55) rfl)) (by decide) w10 [(.int t)] [] (E_w10.ext O.2) (rm3 l Z a0 hw w10 t h31 n0 Z0) 0 (by decide) (by decide) e73 (by rw [hml]; rfl) (lenOf own_pd1 rfl) rfl (Nat.le_of_eq rfl) (hb hby at_186) (by decide) (by decide) ?_
    intro v74 T74 L74 X74 q74
    obtain ⟨rfl, N74q, e74⟩ := q74
    have N74 := Fr.app N73 N74q
    show own_Out p_ e_ below s_ _ _ _ T74 (mkF m_ 189 #[.val (.int (10 : Int32)), .val (.int t), .val (.int d), .val (.ref b1), .val (.int (own_a d)), .val (.int (own_g d)), .val (.int (own_h d)), .val (.ref b28), .val (.ref w10), .val (.int t), .unset, .unset] [(.int (f3 w10 t))])
    refine own_st T74 (mkF m_ 222 #[.val (.int (10 : Int32)), .val (.int t), .val (.int d), .val (.ref b1), .val (.int (own_a d)), .val (.int (own_g d)), .val (.int (own_h d)), .val (.ref b28), .val (.ref w10), .val (.int t), .val (.int (1 : Int32)), .unset] [(.ref w10)]) (fun t_ k_ => ?_) ?_
    · refine XS.iload X74.here hx rfl (hb hby at_189) rfl ?_
      show Steps p_.tables e_ below (T74.setTop (mkF m_ 191 #[.val (.int (10 : Int32)), .val (.int t), .val (.int d), .val (.ref b1), .val (.int (own_a d)), .val (.int (own_g d)), .val (.int (own_h d)), .val (.ref b28), .val (.ref w10), .val (.int t), .unset, .unset] [(.int t), (.int (f3 w10 t))])) t_
      refine XS.icmpYes X74.here hx rfl (pc0 := 191) (pc' := 196) rfl (hb hby at_191) rfl (teq (rfl : (f3 w10 t) = t)).1 (by decide) (by decide) ?_
      show Steps p_.tables e_ below (T74.setTop (mkF m_ 196 #[.val (.int (10 : Int32)), .val (.int t), .val (.int d), .val (.ref b1), .val (.int (own_a d)), .val (.int (own_g d)), .val (.int (own_h d)), .val (.ref b28), .val (.ref w10), .val (.int t), .unset, .unset] [])) t_
      refine XS.iloadN X74.here hx rfl (hb hby at_196) rfl ?_
      show Steps p_.tables e_ below (T74.setTop (mkF m_ 197 #[.val (.int (10 : Int32)), .val (.int t), .val (.int d), .val (.ref b1), .val (.int (own_a d)), .val (.int (own_g d)), .val (.int (own_h d)), .val (.ref b28), .val (.ref w10), .val (.int t), .unset, .unset] [(.int (10 : Int32))])) t_
      refine XS.iconst X74.here hx rfl (hb hby at_197) ?_
      show Steps p_.tables e_ below (T74.setTop (mkF m_ 198 #[.val (.int (10 : Int32)), .val (.int t), .val (.int d), .val (.ref b1), .val (.int (own_a d)), .val (.int (own_g d)), .val (.int (own_h d)), .val (.ref b28), .val (.ref w10), .val (.int t), .unset, .unset] [(.int (2 : Int32)), (.int (10 : Int32))])) t_
      refine XS.icmpNo X74.here hx rfl (hb hby at_198) rfl (feq (by decide : ¬ ((10 : Int32) = (2 : Int32)))).1 ?_
      show Steps p_.tables e_ below (T74.setTop (mkF m_ 201 #[.val (.int (10 : Int32)), .val (.int t), .val (.int d), .val (.ref b1), .val (.int (own_a d)), .val (.int (own_g d)), .val (.int (own_h d)), .val (.ref b28), .val (.ref w10), .val (.int t), .unset, .unset] [])) t_
      refine XS.iloadN X74.here hx rfl (hb hby at_201) rfl ?_
      show Steps p_.tables e_ below (T74.setTop (mkF m_ 202 #[.val (.int (10 : Int32)), .val (.int t), .val (.int d), .val (.ref b1), .val (.int (own_a d)), .val (.int (own_g d)), .val (.int (own_h d)), .val (.ref b28), .val (.ref w10), .val (.int t), .unset, .unset] [(.int (10 : Int32))])) t_
      refine XS.bipush X74.here hx rfl (hb hby at_202) ?_
      show Steps p_.tables e_ below (T74.setTop (mkF m_ 204 #[.val (.int (10 : Int32)), .val (.int t), .val (.int d), .val (.ref b1), .val (.int (own_a d)), .val (.int (own_g d)), .val (.int (own_h d)), .val (.ref b28), .val (.ref w10), .val (.int t), .unset, .unset] [(.int (10 : Int32)), (.int (10 : Int32))])) t_
      refine XS.icmpYes X74.here hx rfl (pc0 := 204) (pc' := 213) rfl (hb hby at_204) rfl (teq (by decide : (10 : Int32) = (10 : Int32))).1 (by decide) (by decide) ?_
      show Steps p_.tables e_ below (T74.setTop (mkF m_ 213 #[.val (.int (10 : Int32)), .val (.int t), .val (.int d), .val (.ref b1), .val (.int (own_a d)), .val (.int (own_g d)), .val (.int (own_h d)), .val (.ref b28), .val (.ref w10), .val (.int t), .unset, .unset] [])) t_
      refine XS.iconst X74.here hx rfl (hb hby at_213) ?_
      show Steps p_.tables e_ below (T74.setTop (mkF m_ 214 #[.val (.int (10 : Int32)), .val (.int t), .val (.int d), .val (.ref b1), .val (.int (own_a d)), .val (.int (own_g d)), .val (.int (own_h d)), .val (.ref b28), .val (.ref w10), .val (.int t), .unset, .unset] [(.int (1 : Int32))])) t_
      refine XS.goto X74.here hx rfl (pc0 := 214) (pc' := 218) rfl (hb hby at_214) (by decide) (by decide) ?_
      show Steps p_.tables e_ below (T74.setTop (mkF m_ 218 #[.val (.int (10 : Int32)), .val (.int t), .val (.int d), .val (.ref b1), .val (.int (own_a d)), .val (.int (own_g d)), .val (.int (own_h d)), .val (.ref b28), .val (.ref w10), .val (.int t), .unset, .unset] [(.int (1 : Int32))])) t_
      refine XS.istore X74.here hx rfl (hb hby at_218) rfl (l' := #[.val (.int (10 : Int32)), .val (.int t), .val (.int d), .val (.ref b1), .val (.int (own_a d)), .val (.int (own_g d)), .val (.int (own_h d)), .val (.ref b28), .val (.ref w10), .val (.int t), .val (.int (1 : Int32)), .unset]) rfl ?_
      show Steps p_.tables e_ below (T74.setTop (mkF m_ 220 #[.val (.int (10 : Int32)), .val (.int t), .val (.int d), .val (.ref b1), .val (.int (own_a d)), .val (.int (own_g d)), .val (.int (own_h d)), .val (.ref b28), .val (.ref w10), .val (.int t), .val (.int (1 : Int32)), .unset] [])) t_
      refine XS.aload X74.here hx rfl (hb hby at_220) rfl rfl ?_
      show Steps p_.tables e_ below (T74.setTop (mkF m_ 222 #[.val (.int (10 : Int32)), .val (.int t), .val (.int d), .val (.ref b1), .val (.int (own_a d)), .val (.int (own_g d)), .val (.int (own_h d)), .val (.ref b28), .val (.ref w10), .val (.int t), .val (.int (1 : Int32)), .unset] [(.ref w10)])) t_
      exact k_
    refine own_callV X74 hx hZ (y := (⟨"com/example/banksum/banksum/uk/ExceptionRule", "eitherPasses", "()Z"⟩ : MethodName)) (z := (⟨"com/example/banksum/banksum/uk/ExceptionRule$10", "eitherPasses", "()Z"⟩ : MethodName)) hown (hw _ (List.mem_of_getElem? (i := 56) rfl)) (hw _ (List.mem_of_getElem? (i := 57) rfl)) (notFace_of_selects (args := #[]) (mvT hZ (hw _ (List.mem_of_getElem? (i := 59) rfl)))) (hw _ (List.mem_of_getElem? (i := 83) rfl)) (hw _ (List.mem_of_getElem? (i := 84) rfl)) (hw _ (List.mem_of_getElem? (i := 85) rfl)) (hw _ (List.mem_of_getElem? (i := 86) rfl)) (by decide) w10 [] [] (E_w10.ext O.2) (rm7 l Z a0 hw w10 h31 n0 Z0) 0 (by decide) (by decide) e74 (by rw [hml]; rfl) (lenOf own_pd2 rfl) rfl (Nat.le_of_eq rfl) (hb hby at_222) (by decide) (by decide) ?_
    intro v75 T75 L75 X75 q75
    obtain ⟨rfl, N75q, e75⟩ := q75
    have N75 := Fr.app N74 N75q
    show own_Out p_ e_ below s_ _ _ _ T75 (mkF m_ 225 #[.val (.int (10 : Int32)), .val (.int t), .val (.int d), .val (.ref b1), .val (.int (own_a d)), .val (.int (own_g d)), .val (.int (own_h d)), .val (.ref b28), .val (.ref w10), .val (.int t), .val (.int (1 : Int32)), .unset] [(.int (f7 w10))])
    refine own_st T75 (mkF m_ 269 #[.val (.int (10 : Int32)), .val (.int t), .val (.int d), .val (.ref b1), .val (.int (own_a d)), .val (.int (own_g d)), .val (.int (own_h d)), .val (.ref b28), .val (.ref w10), .val (.int t), .val (.int (1 : Int32)), .val (.int (0 : Int32))] [(.ref b28), (.ref w10)]) (fun t_ k_ => ?_) ?_
    · refine XS.iload X75.here hx rfl (hb hby at_225) rfl ?_
      show Steps p_.tables e_ below (T75.setTop (mkF m_ 227 #[.val (.int (10 : Int32)), .val (.int t), .val (.int d), .val (.ref b1), .val (.int (own_a d)), .val (.int (own_g d)), .val (.int (own_h d)), .val (.ref b28), .val (.ref w10), .val (.int t), .val (.int (1 : Int32)), .unset] [(.int (1 : Int32)), (.int (f7 w10))])) t_
      refine XS.icmpYes X75.here hx rfl (pc0 := 227) (pc' := 232) rfl (hb hby at_227) rfl (teq (rfl : (f7 w10) = (1 : Int32))).1 (by decide) (by decide) ?_
      show Steps p_.tables e_ below (T75.setTop (mkF m_ 232 #[.val (.int (10 : Int32)), .val (.int t), .val (.int d), .val (.ref b1), .val (.int (own_a d)), .val (.int (own_g d)), .val (.int (own_h d)), .val (.ref b28), .val (.ref w10), .val (.int t), .val (.int (1 : Int32)), .unset] [])) t_
      refine XS.iloadN X75.here hx rfl (hb hby at_232) rfl ?_
      show Steps p_.tables e_ below (T75.setTop (mkF m_ 233 #[.val (.int (10 : Int32)), .val (.int t), .val (.int d), .val (.ref b1), .val (.int (own_a d)), .val (.int (own_g d)), .val (.int (own_h d)), .val (.ref b28), .val (.ref w10), .val (.int t), .val (.int (1 : Int32)), .unset] [(.int (10 : Int32))])) t_
      refine XS.bipush X75.here hx rfl (hb hby at_233) ?_
      show Steps p_.tables e_ below (T75.setTop (mkF m_ 235 #[.val (.int (10 : Int32)), .val (.int t), .val (.int d), .val (.ref b1), .val (.int (own_a d)), .val (.int (own_g d)), .val (.int (own_h d)), .val (.ref b28), .val (.ref w10), .val (.int t), .val (.int (1 : Int32)), .unset] [(.int (6 : Int32)), (.int (10 : Int32))])) t_
      refine XS.icmpYes X75.here hx rfl (pc0 := 235) (pc' := 262) rfl (hb hby at_235) rfl (feq (by decide : ¬ ((10 : Int32) = (6 : Int32)))).2 (by decide) (by decide) ?_
      show Steps p_.tables e_ below (T75.setTop (mkF m_ 262 #[.val (.int (10 : Int32)), .val (.int t), .val (.int d), .val (.ref b1), .val (.int (own_a d)), .val (.int (own_g d)), .val (.int (own_h d)), .val (.ref b28), .val (.ref w10), .val (.int t), .val (.int (1 : Int32)), .unset] [])) t_
      refine XS.iconst X75.here hx rfl (hb hby at_262) ?_
      show Steps p_.tables e_ below (T75.setTop (mkF m_ 263 #[.val (.int (10 : Int32)), .val (.int t), .val (.int d), .val (.ref b1), .val (.int (own_a d)), .val (.int (own_g d)), .val (.int (own_h d)), .val (.ref b28), .val (.ref w10), .val (.int t), .val (.int (1 : Int32)), .unset] [(.int (0 : Int32))])) t_
      refine XS.istore X75.here hx rfl (hb hby at_263) rfl (l' := #[.val (.int (10 : Int32)), .val (.int t), .val (.int d), .val (.ref b1), .val (.int (own_a d)), .val (.int (own_g d)), .val (.int (own_h d)), .val (.ref b28), .val (.ref w10), .val (.int t), .val (.int (1 : Int32)), .val (.int (0 : Int32))]) rfl ?_
      show Steps p_.tables e_ below (T75.setTop (mkF m_ 265 #[.val (.int (10 : Int32)), .val (.int t), .val (.int d), .val (.ref b1), .val (.int (own_a d)), .val (.int (own_g d)), .val (.int (own_h d)), .val (.ref b28), .val (.ref w10), .val (.int t), .val (.int (1 : Int32)), .val (.int (0 : Int32))] [])) t_
      refine XS.aload X75.here hx rfl (hb hby at_265) rfl rfl ?_
      show Steps p_.tables e_ below (T75.setTop (mkF m_ 267 #[.val (.int (10 : Int32)), .val (.int t), .val (.int d), .val (.ref b1), .val (.int (own_a d)), .val (.int (own_g d)), .val (.int (own_h d)), .val (.ref b28), .val (.ref w10), .val (.int t), .val (.int (1 : Int32)), .val (.int (0 : Int32))] [(.ref w10)])) t_
      refine XS.aload X75.here hx rfl (hb hby at_267) rfl rfl ?_
      show Steps p_.tables e_ below (T75.setTop (mkF m_ 269 #[.val (.int (10 : Int32)), .val (.int t), .val (.int d), .val (.ref b1), .val (.int (own_a d)), .val (.int (own_g d)), .val (.int (own_h d)), .val (.ref b28), .val (.ref w10), .val (.int t), .val (.int (1 : Int32)), .val (.int (0 : Int32))] [(.ref b28), (.ref w10)])) t_
      exact k_
    refine own_callV X75 hx hZ (y := (⟨"com/example/banksum/banksum/uk/ExceptionRule", "foreignCurrency", "([I)Z"⟩ : MethodName)) (z := (⟨"com/example/banksum/banksum/uk/ExceptionRule", "foreignCurrency", "([I)Z"⟩ : MethodName)) hown (hw _ (List.mem_of_getElem? (i := 61) rfl)) (hw _ (List.mem_of_getElem? (i := 62) rfl)) (notFace_of_selects (args := #[]) (mvT hZ (hw _ (List.mem_of_getElem? (i := 87) rfl)))) (hw _ (List.mem_of_getElem? (i := 87) rfl)) (hw _ (List.mem_of_getElem? (i := 63) rfl)) (hw _ (List.mem_of_getElem? (i := 3) rfl)) (hw _ (List.mem_of_getElem? (i := 65) rfl)) (by decide) w10 [(.ref b28)] [] (E_w10.ext O.2) (rm5 l Z a0 hw w10 b28 h31 n0 Z0) 0 (by decide) (by decide) e75 (by rw [hml]; rfl) (lenOf own_pd3 rfl) rfl (Nat.le_of_eq rfl) (hb hby at_269) (by decide) (by decide) ?_
    intro v76 T76 L76 X76 q76
    obtain ⟨rfl, N76q, e76⟩ := q76
    have N76 := Fr.app N75 N76q
    show own_Out p_ e_ below s_ _ _ _ T76 (mkF m_ 272 #[.val (.int (10 : Int32)), .val (.int t), .val (.int d), .val (.ref b1), .val (.int (own_a d)), .val (.int (own_g d)), .val (.int (own_h d)), .val (.ref b28), .val (.ref w10), .val (.int t), .val (.int (1 : Int32)), .val (.int (0 : Int32))] [(.int (f5 w10 b28))])
    refine own_st T76 (mkF m_ 282 #[.val (.int (10 : Int32)), .val (.int t), .val (.int d), .val (.ref b1), .val (.int (own_a d)), .val (.int (own_g d)), .val (.int (own_h d)), .val (.ref b28), .val (.ref w10), .val (.int t), .val (.int (1 : Int32)), .val (.int (0 : Int32))] [(.int (1 : Int32))]) (fun t_ k_ => ?_) ?_
    · refine XS.iload X76.here hx rfl (hb hby at_272) rfl ?_
      show Steps p_.tables e_ below (T76.setTop (mkF m_ 274 #[.val (.int (10 : Int32)), .val (.int t), .val (.int d), .val (.ref b1), .val (.int (own_a d)), .val (.int (own_g d)), .val (.int (own_h d)), .val (.ref b28), .val (.ref w10), .val (.int t), .val (.int (1 : Int32)), .val (.int (0 : Int32))] [(.int (0 : Int32)), (.int (f5 w10 b28))])) t_
      refine XS.icmpNo X76.here hx rfl (hb hby at_274) rfl (teq (rfl : (f5 w10 b28) = (0 : Int32))).2 ?_
      show Steps p_.tables e_ below (T76.setTop (mkF m_ 277 #[.val (.int (10 : Int32)), .val (.int t), .val (.int d), .val (.ref b1), .val (.int (own_a d)), .val (.int (own_g d)), .val (.int (own_h d)), .val (.ref b28), .val (.ref w10), .val (.int t), .val (.int (1 : Int32)), .val (.int (0 : Int32))] [])) t_
      refine XS.iconst X76.here hx rfl (hb hby at_277) ?_
      show Steps p_.tables e_ below (T76.setTop (mkF m_ 278 #[.val (.int (10 : Int32)), .val (.int t), .val (.int d), .val (.ref b1), .val (.int (own_a d)), .val (.int (own_g d)), .val (.int (own_h d)), .val (.ref b28), .val (.ref w10), .val (.int t), .val (.int (1 : Int32)), .val (.int (0 : Int32))] [(.int (1 : Int32))])) t_
      refine XS.goto X76.here hx rfl (pc0 := 278) (pc' := 282) rfl (hb hby at_278) (by decide) (by decide) ?_
      show Steps p_.tables e_ below (T76.setTop (mkF m_ 282 #[.val (.int (10 : Int32)), .val (.int t), .val (.int d), .val (.ref b1), .val (.int (own_a d)), .val (.int (own_g d)), .val (.int (own_h d)), .val (.ref b28), .val (.ref w10), .val (.int t), .val (.int (1 : Int32)), .val (.int (0 : Int32))] [(.int (1 : Int32))])) t_
      exact k_
    refine own_retN X76 hx hlk (t := .boolean) hret (by simp) (hb hby at_282) (by decide) (by decide) ?_
    exact ⟨rfl, N76⟩
  · show own_Out p_ e_ below s_ _ _ _ T32 (mkF m_ 153 #[.val (.int (12 : Int32)), .val (.int t), .val (.int d), .val (.ref b1), .val (.int (own_a d)), .val (.int (own_g d)), .val (.int (own_h d)), .val (.ref b28), .unset, .unset, .unset, .unset] [(.ref w11)])
    refine own_st T32 (mkF m_ 159 #[.val (.int (12 : Int32)), .val (.int t), .val (.int d), .val (.ref b1), .val (.int (own_a d)), .val (.int (own_g d)), .val (.int (own_h d)), .val (.ref b28), .val (.ref w11), .unset, .unset, .unset] [(.int (12 : Int32)), (.ref b1), (.ref w11)]) (fun t_ k_ => ?_) ?_
    · refine XS.astore X32.here hx rfl (hb hby at_153) rfl rfl (l' := #[.val (.int (12 : Int32)), .val (.int t), .val (.int d), .val (.ref b1), .val (.int (own_a d)), .val (.int (own_g d)), .val (.int (own_h d)), .val (.ref b28), .val (.ref w11), .unset, .unset, .unset]) rfl ?_
      show Steps p_.tables e_ below (T32.setTop (mkF m_ 155 #[.val (.int (12 : Int32)), .val (.int t), .val (.int d), .val (.ref b1), .val (.int (own_a d)), .val (.int (own_g d)), .val (.int (own_h d)), .val (.ref b28), .val (.ref w11), .unset, .unset, .unset] [])) t_
      refine XS.aload X32.here hx rfl (hb hby at_155) rfl rfl ?_
      show Steps p_.tables e_ below (T32.setTop (mkF m_ 157 #[.val (.int (12 : Int32)), .val (.int t), .val (.int d), .val (.ref b1), .val (.int (own_a d)), .val (.int (own_g d)), .val (.int (own_h d)), .val (.ref b28), .val (.ref w11), .unset, .unset, .unset] [(.ref w11)])) t_
      refine XS.aloadN X32.here hx rfl (hb hby at_157) rfl rfl ?_
      show Steps p_.tables e_ below (T32.setTop (mkF m_ 158 #[.val (.int (12 : Int32)), .val (.int t), .val (.int d), .val (.ref b1), .val (.int (own_a d)), .val (.int (own_g d)), .val (.int (own_h d)), .val (.ref b28), .val (.ref w11), .unset, .unset, .unset] [(.ref b1), (.ref w11)])) t_
      refine XS.iloadN X32.here hx rfl (hb hby at_158) rfl ?_
      show Steps p_.tables e_ below (T32.setTop (mkF m_ 159 #[.val (.int (12 : Int32)), .val (.int t), .val (.int d), .val (.ref b1), .val (.int (own_a d)), .val (.int (own_g d)), .val (.int (own_h d)), .val (.ref b28), .val (.ref w11), .unset, .unset, .unset] [(.int (12 : Int32)), (.ref b1), (.ref w11)])) t_
      exact k_
    refine own_callS X32 hx hZ hown (hw _ (List.mem_of_getElem? (i := 47) rfl)) (hw _ (List.mem_of_getElem? (i := 48) rfl)) (hw _ (List.mem_of_getElem? (i := 49) rfl)) (hw _ (List.mem_of_getElem? (i := 50) rfl)) (by decide) [(.int (12 : Int32))] [(.ref b1), (.ref w11)] (rm2 l Z a0 hw (12 : Int32) h31 n0 Z0) 2 (by decide) (by decide) e32 (by rw [hml]; rfl) (lenOf own_pd1 rfl) rfl (Nat.le_of_eq rfl) (hb hby at_159) (by decide) (by decide) ?_
    intro v77 T77 L77 X77 q77
    obtain ⟨rfl, N77q, e77⟩ := q77
    have N77 := Fr.app N32 N77q
    rw [show (f2 (12 : Int32)) = 11 from by decide]
    show own_Out p_ e_ below s_ _ _ _ T77 (mkF m_ 162 #[.val (.int (12 : Int32)), .val (.int t), .val (.int d), .val (.ref b1), .val (.int (own_a d)), .val (.int (own_g d)), .val (.int (own_h d)), .val (.ref b28), .val (.ref w11), .unset, .unset, .unset] [(.int (11 : Int32)), (.ref b1), (.ref w11)])
    refine own_st T77 (mkF m_ 186 #[.val (.int (12 : Int32)), .val (.int t), .val (.int d), .val (.ref b1), .val (.int (own_a d)), .val (.int (own_g d)), .val (.int (own_h d)), .val (.ref b28), .val (.ref w11), .val (.int t), .unset, .unset] [(.int t), (.ref w11)]) (fun t_ k_ => ?_) ?_
    · refine own_ldR X77 hx hZ e77 A_b1 rfl 11 (by decide) (by decide) (hb hby at_162) _ ?_
      show Steps p_.tables e_ below (T77.setTop (mkF m_ 163 #[.val (.int (12 : Int32)), .val (.int t), .val (.int d), .val (.ref b1), .val (.int (own_a d)), .val (.int (own_g d)), .val (.int (own_h d)), .val (.ref b28), .val (.ref w11), .unset, .unset, .unset] [(.ref w11), (.ref w11)])) t_
      refine Jvm.RoadKit.acmp (g := (mkF m_ 163 #[.val (.int (12 : Int32)), .val (.int t), .val (.int d), .val (.ref b1), .val (.int (own_a d)), .val (.int (own_g d)), .val (.int (own_h d)), .val (.ref b28), .val (.ref w11), .unset, .unset, .unset] [(.ref w11), (.ref w11)])) X77 hx rfl rfl rfl (pc0 := 163) (pc' := 168) (same := true) rfl (hb hby at_163) rfl (decide_eq_true rfl) (by decide) (by decide) ?_
      show Steps p_.tables e_ below (T77.setTop (mkF m_ 168 #[.val (.int (12 : Int32)), .val (.int t), .val (.int d), .val (.ref b1), .val (.int (own_a d)), .val (.int (own_g d)), .val (.int (own_h d)), .val (.ref b28), .val (.ref w11), .unset, .unset, .unset] [])) t_
      refine XS.iloadN X77.here hx rfl (hb hby at_168) rfl ?_
      show Steps p_.tables e_ below (T77.setTop (mkF m_ 169 #[.val (.int (12 : Int32)), .val (.int t), .val (.int d), .val (.ref b1), .val (.int (own_a d)), .val (.int (own_g d)), .val (.int (own_h d)), .val (.ref b28), .val (.ref w11), .unset, .unset, .unset] [(.int (12 : Int32))])) t_
      refine XS.iconst X77.here hx rfl (hb hby at_169) ?_
      show Steps p_.tables e_ below (T77.setTop (mkF m_ 170 #[.val (.int (12 : Int32)), .val (.int t), .val (.int d), .val (.ref b1), .val (.int (own_a d)), .val (.int (own_g d)), .val (.int (own_h d)), .val (.ref b28), .val (.ref w11), .unset, .unset, .unset] [(.int (1 : Int32)), (.int (12 : Int32))])) t_
      refine XS.icmpYes X77.here hx rfl (pc0 := 170) (pc' := 180) rfl (hb hby at_170) rfl (feq (by decide : ¬ ((12 : Int32) = (1 : Int32)))).2 (by decide) (by decide) ?_
      show Steps p_.tables e_ below (T77.setTop (mkF m_ 180 #[.val (.int (12 : Int32)), .val (.int t), .val (.int d), .val (.ref b1), .val (.int (own_a d)), .val (.int (own_g d)), .val (.int (own_h d)), .val (.ref b28), .val (.ref w11), .unset, .unset, .unset] [])) t_
      refine XS.iloadN X77.here hx rfl (hb hby at_180) rfl ?_
      show Steps p_.tables e_ below (T77.setTop (mkF m_ 181 #[.val (.int (12 : Int32)), .val (.int t), .val (.int d), .val (.ref b1), .val (.int (own_a d)), .val (.int (own_g d)), .val (.int (own_h d)), .val (.ref b28), .val (.ref w11), .unset, .unset, .unset] [(.int t)])) t_
      refine XS.istore X77.here hx rfl (hb hby at_181) rfl (l' := #[.val (.int (12 : Int32)), .val (.int t), .val (.int d), .val (.ref b1), .val (.int (own_a d)), .val (.int (own_g d)), .val (.int (own_h d)), .val (.ref b28), .val (.ref w11), .val (.int t), .unset, .unset]) rfl ?_
      show Steps p_.tables e_ below (T77.setTop (mkF m_ 183 #[.val (.int (12 : Int32)), .val (.int t), .val (.int d), .val (.ref b1), .val (.int (own_a d)), .val (.int (own_g d)), .val (.int (own_h d)), .val (.ref b28), .val (.ref w11), .val (.int t), .unset, .unset] [])) t_
      refine XS.aload X77.here hx rfl (hb hby at_183) rfl rfl ?_
      show Steps p_.tables e_ below (T77.setTop (mkF m_ 185 #[.val (.int (12 : Int32)), .val (.int t), .val (.int d), .val (.ref b1), .val (.int (own_a d)), .val (.int (own_g d)), .val (.int (own_h d)), .val (.ref b28), .val (.ref w11), .val (.int t), .unset, .unset] [(.ref w11)])) t_
      refine XS.iloadN X77.here hx rfl (hb hby at_185) rfl ?_
      show Steps p_.tables e_ below (T77.setTop (mkF m_ 186 #[.val (.int (12 : Int32)), .val (.int t), .val (.int d), .val (.ref b1), .val (.int (own_a d)), .val (.int (own_g d)), .val (.int (own_h d)), .val (.ref b28), .val (.ref w11), .val (.int t), .unset, .unset] [(.int t), (.ref w11)])) t_
      exact k_
    refine own_callV X77 hx hZ (y := (⟨"com/example/banksum/banksum/uk/ExceptionRule", "total", "(I)I"⟩ : MethodName)) (z := (⟨"com/example/banksum/banksum/uk/ExceptionRule", "total", "(I)I"⟩ : MethodName)) hown (hw _ (List.mem_of_getElem? (i := 51) rfl)) (hw _ (List.mem_of_getElem? (i := 52) rfl)) (notFace_of_selects (args := #[]) (mvT hZ (hw _ (List.mem_of_getElem? (i := 123) rfl)))) (hw _ (List.mem_of_getElem? (i := 123) rfl)) (hw _ (List.mem_of_getElem? (i := 53) rfl)) (hw _ (List.mem_of_getElem? (i := 3) rfl)) (hw _ (List.mem_of_getElem? (i := 55) rfl)) (by decide) w11 [(.int t)] [] (E_w11.ext O.2) (rm3 l Z a0 hw w11 t h31 n0 Z0) 0 (by decide) (by decide) e77 (by rw [hml]; rfl) (lenOf own_pd1 rfl) rfl (Nat.le_of_eq rfl) (hb hby at_186) (by decide) (by decide) ?_
    intro v78 T78 L78 X78 q78
    obtain ⟨rfl, N78q, e78⟩ := q78
    have N78 := Fr.app N77 N78q
    show own_Out p_ e_ below s_ _ _ _ T78 (mkF m_ 189 #[.val (.int (12 : Int32)), .val (.int t), .val (.int d), .val (.ref b1), .val (.int (own_a d)), .val (.int (own_g d)), .val (.int (own_h d)), .val (.ref b28), .val (.ref w11), .val (.int t), .unset, .unset] [(.int (f3 w11 t))])
    refine own_st T78 (mkF m_ 222 #[.val (.int (12 : Int32)), .val (.int t), .val (.int d), .val (.ref b1), .val (.int (own_a d)), .val (.int (own_g d)), .val (.int (own_h d)), .val (.ref b28), .val (.ref w11), .val (.int t), .val (.int (1 : Int32)), .unset] [(.ref w11)]) (fun t_ k_ => ?_) ?_
    · refine XS.iload X78.here hx rfl (hb hby at_189) rfl ?_
      show Steps p_.tables e_ below (T78.setTop (mkF m_ 191 #[.val (.int (12 : Int32)), .val (.int t), .val (.int d), .val (.ref b1), .val (.int (own_a d)), .val (.int (own_g d)), .val (.int (own_h d)), .val (.ref b28), .val (.ref w11), .val (.int t), .unset, .unset] [(.int t), (.int (f3 w11 t))])) t_
      refine XS.icmpYes X78.here hx rfl (pc0 := 191) (pc' := 196) rfl (hb hby at_191) rfl (teq (rfl : (f3 w11 t) = t)).1 (by decide) (by decide) ?_
      show Steps p_.tables e_ below (T78.setTop (mkF m_ 196 #[.val (.int (12 : Int32)), .val (.int t), .val (.int d), .val (.ref b1), .val (.int (own_a d)), .val (.int (own_g d)), .val (.int (own_h d)), .val (.ref b28), .val (.ref w11), .val (.int t), .unset, .unset] [])) t_
      refine XS.iloadN X78.here hx rfl (hb hby at_196) rfl ?_
      show Steps p_.tables e_ below (T78.setTop (mkF m_ 197 #[.val (.int (12 : Int32)), .val (.int t), .val (.int d), .val (.ref b1), .val (.int (own_a d)), .val (.int (own_g d)), .val (.int (own_h d)), .val (.ref b28), .val (.ref w11), .val (.int t), .unset, .unset] [(.int (12 : Int32))])) t_
      refine XS.iconst X78.here hx rfl (hb hby at_197) ?_
      show Steps p_.tables e_ below (T78.setTop (mkF m_ 198 #[.val (.int (12 : Int32)), .val (.int t), .val (.int d), .val (.ref b1), .val (.int (own_a d)), .val (.int (own_g d)), .val (.int (own_h d)), .val (.ref b28), .val (.ref w11), .val (.int t), .unset, .unset] [(.int (2 : Int32)), (.int (12 : Int32))])) t_
      refine XS.icmpNo X78.here hx rfl (hb hby at_198) rfl (feq (by decide : ¬ ((12 : Int32) = (2 : Int32)))).1 ?_
      show Steps p_.tables e_ below (T78.setTop (mkF m_ 201 #[.val (.int (12 : Int32)), .val (.int t), .val (.int d), .val (.ref b1), .val (.int (own_a d)), .val (.int (own_g d)), .val (.int (own_h d)), .val (.ref b28), .val (.ref w11), .val (.int t), .unset, .unset] [])) t_
      refine XS.iloadN X78.here hx rfl (hb hby at_201) rfl ?_
      show Steps p_.tables e_ below (T78.setTop (mkF m_ 202 #[.val (.int (12 : Int32)), .val (.int t), .val (.int d), .val (.ref b1), .val (.int (own_a d)), .val (.int (own_g d)), .val (.int (own_h d)), .val (.ref b28), .val (.ref w11), .val (.int t), .unset, .unset] [(.int (12 : Int32))])) t_
      refine XS.bipush X78.here hx rfl (hb hby at_202) ?_
      show Steps p_.tables e_ below (T78.setTop (mkF m_ 204 #[.val (.int (12 : Int32)), .val (.int t), .val (.int d), .val (.ref b1), .val (.int (own_a d)), .val (.int (own_g d)), .val (.int (own_h d)), .val (.ref b28), .val (.ref w11), .val (.int t), .unset, .unset] [(.int (10 : Int32)), (.int (12 : Int32))])) t_
      refine XS.icmpNo X78.here hx rfl (hb hby at_204) rfl (feq (by decide : ¬ ((12 : Int32) = (10 : Int32)))).1 ?_
      show Steps p_.tables e_ below (T78.setTop (mkF m_ 207 #[.val (.int (12 : Int32)), .val (.int t), .val (.int d), .val (.ref b1), .val (.int (own_a d)), .val (.int (own_g d)), .val (.int (own_h d)), .val (.ref b28), .val (.ref w11), .val (.int t), .unset, .unset] [])) t_
      refine XS.iloadN X78.here hx rfl (hb hby at_207) rfl ?_
      show Steps p_.tables e_ below (T78.setTop (mkF m_ 208 #[.val (.int (12 : Int32)), .val (.int t), .val (.int d), .val (.ref b1), .val (.int (own_a d)), .val (.int (own_g d)), .val (.int (own_h d)), .val (.ref b28), .val (.ref w11), .val (.int t), .unset, .unset] [(.int (12 : Int32))])) t_
      refine XS.bipush X78.here hx rfl (hb hby at_208) ?_
      show Steps p_.tables e_ below (T78.setTop (mkF m_ 210 #[.val (.int (12 : Int32)), .val (.int t), .val (.int d), .val (.ref b1), .val (.int (own_a d)), .val (.int (own_g d)), .val (.int (own_h d)), .val (.ref b28), .val (.ref w11), .val (.int t), .unset, .unset] [(.int (12 : Int32)), (.int (12 : Int32))])) t_
      refine XS.icmpNo X78.here hx rfl (hb hby at_210) rfl (teq (by decide : (12 : Int32) = (12 : Int32))).2 ?_
      show Steps p_.tables e_ below (T78.setTop (mkF m_ 213 #[.val (.int (12 : Int32)), .val (.int t), .val (.int d), .val (.ref b1), .val (.int (own_a d)), .val (.int (own_g d)), .val (.int (own_h d)), .val (.ref b28), .val (.ref w11), .val (.int t), .unset, .unset] [])) t_
      refine XS.iconst X78.here hx rfl (hb hby at_213) ?_
      show Steps p_.tables e_ below (T78.setTop (mkF m_ 214 #[.val (.int (12 : Int32)), .val (.int t), .val (.int d), .val (.ref b1), .val (.int (own_a d)), .val (.int (own_g d)), .val (.int (own_h d)), .val (.ref b28), .val (.ref w11), .val (.int t), .unset, .unset] [(.int (1 : Int32))])) t_
      refine XS.goto X78.here hx rfl (pc0 := 214) (pc' := 218) rfl (hb hby at_214) (by decide) (by decide) ?_
      show Steps p_.tables e_ below (T78.setTop (mkF m_ 218 #[.val (.int (12 : Int32)), .val (.int t), .val (.int d), .val (.ref b1), .val (.int (own_a d)), .val (.int (own_g d)), .val (.int (own_h d)), .val (.ref b28), .val (.ref w11), .val (.int t), .unset, .unset] [(.int (1 : Int32))])) t_
      refine XS.istore X78.here hx rfl (hb hby at_218) rfl (l' := #[.val (.int (12 : Int32)), .val (.int t), .val (.int d), .val (.ref b1), .val (.int (own_a d)), .val (.int (own_g d)), .val (.int (own_h d)), .val (.ref b28), .val (.ref w11), .val (.int t), .val (.int (1 : Int32)), .unset]) rfl ?_
      show Steps p_.tables e_ below (T78.setTop (mkF m_ 220 #[.val (.int (12 : Int32)), .val (.int t), .val (.int d), .val (.ref b1), .val (.int (own_a d)), .val (.int (own_g d)), .val (.int (own_h d)), .val (.ref b28), .val (.ref w11), .val (.int t), .val (.int (1 : Int32)), .unset] [])) t_
      refine XS.aload X78.here hx rfl (hb hby at_220) rfl rfl ?_
      show Steps p_.tables e_ below (T78.setTop (mkF m_ 222 #[.val (.int (12 : Int32)), .val (.int t), .val (.int d), .val (.ref b1), .val (.int (own_a d)), .val (.int (own_g d)), .val (.int (own_h d)), .val (.ref b28), .val (.ref w11), .val (.int t), .val (.int (1 : Int32)), .unset] [(.ref w11)])) t_
      exact k_
    refine own_callV X78 hx hZ (y := (⟨"com/example/banksum/banksum/uk/ExceptionRule", "eitherPasses", "()Z"⟩ : MethodName)) (z := (⟨"com/example/banksum/banksum/uk/ExceptionRule$11", "eitherPasses", "()Z"⟩ : MethodName)) hown (hw _ (List.mem_of_getElem? (i := 56) rfl)) (hw _ (List.mem_of_getElem? (i := 57) rfl)) (notFace_of_selects (args := #[]) (mvT hZ (hw _ (List.mem_of_getElem? (i := 59) rfl)))) (hw _ (List.mem_of_getElem? (i := 124) rfl)) (hw _ (List.mem_of_getElem? (i := 125) rfl)) (hw _ (List.mem_of_getElem? (i := 126) rfl)) (hw _ (List.mem_of_getElem? (i := 127) rfl)) (by decide) w11 [] [] (E_w11.ext O.2) (rm10 l Z a0 hw w11 h31 n0 Z0) 0 (by decide) (by decide) e78 (by rw [hml]; rfl) (lenOf own_pd2 rfl) rfl (Nat.le_of_eq rfl) (hb hby at_222) (by decide) (by decide) ?_
    intro v79 T79 L79 X79 q79
    obtain ⟨rfl, N79q, e79⟩ := q79
    have N79 := Fr.app N78 N79q
    show own_Out p_ e_ below s_ _ _ _ T79 (mkF m_ 225 #[.val (.int (12 : Int32)), .val (.int t), .val (.int d), .val (.ref b1), .val (.int (own_a d)), .val (.int (own_g d)), .val (.int (own_h d)), .val (.ref b28), .val (.ref w11), .val (.int t), .val (.int (1 : Int32)), .unset] [(.int (f10 w11))])
    refine own_st T79 (mkF m_ 269 #[.val (.int (12 : Int32)), .val (.int t), .val (.int d), .val (.ref b1), .val (.int (own_a d)), .val (.int (own_g d)), .val (.int (own_h d)), .val (.ref b28), .val (.ref w11), .val (.int t), .val (.int (1 : Int32)), .val (.int (0 : Int32))] [(.ref b28), (.ref w11)]) (fun t_ k_ => ?_) ?_
    · refine XS.iload X79.here hx rfl (hb hby at_225) rfl ?_
      show Steps p_.tables e_ below (T79.setTop (mkF m_ 227 #[.val (.int (12 : Int32)), .val (.int t), .val (.int d), .val (.ref b1), .val (.int (own_a d)), .val (.int (own_g d)), .val (.int (own_h d)), .val (.ref b28), .val (.ref w11), .val (.int t), .val (.int (1 : Int32)), .unset] [(.int (1 : Int32)), (.int (f10 w11))])) t_
      refine XS.icmpYes X79.here hx rfl (pc0 := 227) (pc' := 232) rfl (hb hby at_227) rfl (teq (rfl : (f10 w11) = (1 : Int32))).1 (by decide) (by decide) ?_
      show Steps p_.tables e_ below (T79.setTop (mkF m_ 232 #[.val (.int (12 : Int32)), .val (.int t), .val (.int d), .val (.ref b1), .val (.int (own_a d)), .val (.int (own_g d)), .val (.int (own_h d)), .val (.ref b28), .val (.ref w11), .val (.int t), .val (.int (1 : Int32)), .unset] [])) t_
      refine XS.iloadN X79.here hx rfl (hb hby at_232) rfl ?_
      show Steps p_.tables e_ below (T79.setTop (mkF m_ 233 #[.val (.int (12 : Int32)), .val (.int t), .val (.int d), .val (.ref b1), .val (.int (own_a d)), .val (.int (own_g d)), .val (.int (own_h d)), .val (.ref b28), .val (.ref w11), .val (.int t), .val (.int (1 : Int32)), .unset] [(.int (12 : Int32))])) t_
      refine XS.bipush X79.here hx rfl (hb hby at_233) ?_
      show Steps p_.tables e_ below (T79.setTop (mkF m_ 235 #[.val (.int (12 : Int32)), .val (.int t), .val (.int d), .val (.ref b1), .val (.int (own_a d)), .val (.int (own_g d)), .val (.int (own_h d)), .val (.ref b28), .val (.ref w11), .val (.int t), .val (.int (1 : Int32)), .unset] [(.int (6 : Int32)), (.int (12 : Int32))])) t_
      refine XS.icmpYes X79.here hx rfl (pc0 := 235) (pc' := 262) rfl (hb hby at_235) rfl (feq (by decide : ¬ ((12 : Int32) = (6 : Int32)))).2 (by decide) (by decide) ?_
      show Steps p_.tables e_ below (T79.setTop (mkF m_ 262 #[.val (.int (12 : Int32)), .val (.int t), .val (.int d), .val (.ref b1), .val (.int (own_a d)), .val (.int (own_g d)), .val (.int (own_h d)), .val (.ref b28), .val (.ref w11), .val (.int t), .val (.int (1 : Int32)), .unset] [])) t_
      refine XS.iconst X79.here hx rfl (hb hby at_262) ?_
      show Steps p_.tables e_ below (T79.setTop (mkF m_ 263 #[.val (.int (12 : Int32)), .val (.int t), .val (.int d), .val (.ref b1), .val (.int (own_a d)), .val (.int (own_g d)), .val (.int (own_h d)), .val (.ref b28), .val (.ref w11), .val (.int t), .val (.int (1 : Int32)), .unset] [(.int (0 : Int32))])) t_
      refine XS.istore X79.here hx rfl (hb hby at_263) rfl (l' := #[.val (.int (12 : Int32)), .val (.int t), .val (.int d), .val (.ref b1), .val (.int (own_a d)), .val (.int (own_g d)), .val (.int (own_h d)), .val (.ref b28), .val (.ref w11), .val (.int t), .val (.int (1 : Int32)), .val (.int (0 : Int32))]) rfl ?_
      show Steps p_.tables e_ below (T79.setTop (mkF m_ 265 #[.val (.int (12 : Int32)), .val (.int t), .val (.int d), .val (.ref b1), .val (.int (own_a d)), .val (.int (own_g d)), .val (.int (own_h d)), .val (.ref b28), .val (.ref w11), .val (.int t), .val (.int (1 : Int32)), .val (.int (0 : Int32))] [])) t_
      refine XS.aload X79.here hx rfl (hb hby at_265) rfl rfl ?_
      show Steps p_.tables e_ below (T79.setTop (mkF m_ 267 #[.val (.int (12 : Int32)), .val (.int t), .val (.int d), .val (.ref b1), .val (.int (own_a d)), .val (.int (own_g d)), .val (.int (own_h d)), .val (.ref b28), .val (.ref w11), .val (.int t), .val (.int (1 : Int32)), .val (.int (0 : Int32))] [(.ref w11)])) t_
      refine XS.aload X79.here hx rfl (hb hby at_267) rfl rfl ?_
      show Steps p_.tables e_ below (T79.setTop (mkF m_ 269 #[.val (.int (12 : Int32)), .val (.int t), .val (.int d), .val (.ref b1), .val (.int (own_a d)), .val (.int (own_g d)), .val (.int (own_h d)), .val (.ref b28), .val (.ref w11), .val (.int t), .val (.int (1 : Int32)), .val (.int (0 : Int32))] [(.ref b28), (.ref w11)])) t_
      exact k_
    refine own_callV X79 hx hZ (y := (⟨"com/example/banksum/banksum/uk/ExceptionRule", "foreignCurrency", "([I)Z"⟩ : MethodName)) (z := (⟨"com/example/banksum/banksum/uk/ExceptionRule", "foreignCurrency", "([I)Z"⟩ : MethodName)) hown (hw _ (List.mem_of_getElem? (i := 61) rfl)) (hw _ (List.mem_of_getElem? (i := 62) rfl)) (notFace_of_selects (args := #[]) (mvT hZ (hw _ (List.mem_of_getElem? (i := 128) rfl)))) (hw _ (List.mem_of_getElem? (i := 128) rfl)) (hw _ (List.mem_of_getElem? (i := 63) rfl)) (hw _ (List.mem_of_getElem? (i := 3) rfl)) (hw _ (List.mem_of_getElem? (i := 65) rfl)) (by decide) w11 [(.ref b28)] [] (E_w11.ext O.2) (rm5 l Z a0 hw w11 b28 h31 n0 Z0) 0 (by decide) (by decide) e79 (by rw [hml]; rfl) (lenOf own_pd3 rfl) rfl (Nat.le_of_eq rfl) (hb hby at_269) (by decide) (by decide) ?_
    intro v80 T80 L80 X80 q80
    obtain ⟨rfl, N80q, e80⟩ := q80
    have N80 := Fr.app N79 N80q
    show own_Out p_ e_ below s_ _ _ _ T80 (mkF m_ 272 #[.val (.int (12 : Int32)), .val (.int t), .val (.int d), .val (.ref b1), .val (.int (own_a d)), .val (.int (own_g d)), .val (.int (own_h d)), .val (.ref b28), .val (.ref w11), .val (.int t), .val (.int (1 : Int32)), .val (.int (0 : Int32))] [(.int (f5 w11 b28))])
    refine own_st T80 (mkF m_ 282 #[.val (.int (12 : Int32)), .val (.int t), .val (.int d), .val (.ref b1), .val (.int (own_a d)), .val (.int (own_g d)), .val (.int (own_h d)), .val (.ref b28), .val (.ref w11), .val (.int t), .val (.int (1 : Int32)), .val (.int (0 : Int32))] [(.int (1 : Int32))]) (fun t_ k_ => ?_) ?_
    · refine XS.iload X80.here hx rfl (hb hby at_272) rfl ?_
      show Steps p_.tables e_ below (T80.setTop (mkF m_ 274 #[.val (.int (12 : Int32)), .val (.int t), .val (.int d), .val (.ref b1), .val (.int (own_a d)), .val (.int (own_g d)), .val (.int (own_h d)), .val (.ref b28), .val (.ref w11), .val (.int t), .val (.int (1 : Int32)), .val (.int (0 : Int32))] [(.int (0 : Int32)), (.int (f5 w11 b28))])) t_
      refine XS.icmpNo X80.here hx rfl (hb hby at_274) rfl (teq (rfl : (f5 w11 b28) = (0 : Int32))).2 ?_
      show Steps p_.tables e_ below (T80.setTop (mkF m_ 277 #[.val (.int (12 : Int32)), .val (.int t), .val (.int d), .val (.ref b1), .val (.int (own_a d)), .val (.int (own_g d)), .val (.int (own_h d)), .val (.ref b28), .val (.ref w11), .val (.int t), .val (.int (1 : Int32)), .val (.int (0 : Int32))] [])) t_
      refine XS.iconst X80.here hx rfl (hb hby at_277) ?_
      show Steps p_.tables e_ below (T80.setTop (mkF m_ 278 #[.val (.int (12 : Int32)), .val (.int t), .val (.int d), .val (.ref b1), .val (.int (own_a d)), .val (.int (own_g d)), .val (.int (own_h d)), .val (.ref b28), .val (.ref w11), .val (.int t), .val (.int (1 : Int32)), .val (.int (0 : Int32))] [(.int (1 : Int32))])) t_
      refine XS.goto X80.here hx rfl (pc0 := 278) (pc' := 282) rfl (hb hby at_278) (by decide) (by decide) ?_
      show Steps p_.tables e_ below (T80.setTop (mkF m_ 282 #[.val (.int (12 : Int32)), .val (.int t), .val (.int d), .val (.ref b1), .val (.int (own_a d)), .val (.int (own_g d)), .val (.int (own_h d)), .val (.ref b28), .val (.ref w11), .val (.int t), .val (.int (1 : Int32)), .val (.int (0 : Int32))] [(.int (1 : Int32))])) t_
      exact k_
    refine own_retN X80 hx hlk (t := .boolean) hret (by simp) (hb hby at_282) (by decide) (by decide) ?_
    exact ⟨rfl, N80⟩
  · show own_Out p_ e_ below s_ _ _ _ T32 (mkF m_ 153 #[.val (.int (14 : Int32)), .val (.int t), .val (.int d), .val (.ref b1), .val (.int (own_a d)), .val (.int (own_g d)), .val (.int (own_h d)), .val (.ref b28), .unset, .unset, .unset, .unset] [(.ref w12)])
    refine own_st T32 (mkF m_ 159 #[.val (.int (14 : Int32)), .val (.int t), .val (.int d), .val (.ref b1), .val (.int (own_a d)), .val (.int (own_g d)), .val (.int (own_h d)), .val (.ref b28), .val (.ref w12), .unset, .unset, .unset] [(.int (14 : Int32)), (.ref b1), (.ref w12)]) (fun t_ k_ => ?_) ?_
    · refine XS.astore X32.here hx rfl (hb hby at_153) rfl rfl (l' := #[.val (.int (14 : Int32)), .val (.int t), .val (.int d), .val (.ref b1), .val (.int (own_a d)), .val (.int (own_g d)), .val (.int (own_h d)), .val (.ref b28), .val (.ref w12), .unset, .unset, .unset]) rfl ?_
      show Steps p_.tables e_ below (T32.setTop (mkF m_ 155 #[.val (.int (14 : Int32)), .val (.int t), .val (.int d), .val (.ref b1), .val (.int (own_a d)), .val (.int (own_g d)), .val (.int (own_h d)), .val (.ref b28), .val (.ref w12), .unset, .unset, .unset] [])) t_
      refine XS.aload X32.here hx rfl (hb hby at_155) rfl rfl ?_
      show Steps p_.tables e_ below (T32.setTop (mkF m_ 157 #[.val (.int (14 : Int32)), .val (.int t), .val (.int d), .val (.ref b1), .val (.int (own_a d)), .val (.int (own_g d)), .val (.int (own_h d)), .val (.ref b28), .val (.ref w12), .unset, .unset, .unset] [(.ref w12)])) t_
      refine XS.aloadN X32.here hx rfl (hb hby at_157) rfl rfl ?_
      show Steps p_.tables e_ below (T32.setTop (mkF m_ 158 #[.val (.int (14 : Int32)), .val (.int t), .val (.int d), .val (.ref b1), .val (.int (own_a d)), .val (.int (own_g d)), .val (.int (own_h d)), .val (.ref b28), .val (.ref w12), .unset, .unset, .unset] [(.ref b1), (.ref w12)])) t_
      refine XS.iloadN X32.here hx rfl (hb hby at_158) rfl ?_
      show Steps p_.tables e_ below (T32.setTop (mkF m_ 159 #[.val (.int (14 : Int32)), .val (.int t), .val (.int d), .val (.ref b1), .val (.int (own_a d)), .val (.int (own_g d)), .val (.int (own_h d)), .val (.ref b28), .val (.ref w12), .unset, .unset, .unset] [(.int (14 : Int32)), (.ref b1), (.ref w12)])) t_
      exact k_
    refine own_callS X32 hx hZ hown (hw _ (List.mem_of_getElem? (i := 47) rfl)) (hw _ (List.mem_of_getElem? (i := 48) rfl)) (hw _ (List.mem_of_getElem? (i := 49) rfl)) (hw _ (List.mem_of_getElem? (i := 50) rfl)) (by decide) [(.int (14 : Int32))] [(.ref b1), (.ref w12)] (rm2 l Z a0 hw (14 : Int32) h31 n0 Z0) 2 (by decide) (by decide) e32 (by rw [hml]; rfl) (lenOf own_pd1 rfl) rfl (Nat.le_of_eq rfl) (hb hby at_159) (by decide) (by decide) ?_
    intro v81 T81 L81 X81 q81
    obtain ⟨rfl, N81q, e81⟩ := q81
    have N81 := Fr.app N32 N81q
    rw [show (f2 (14 : Int32)) = 12 from by decide]
    show own_Out p_ e_ below s_ _ _ _ T81 (mkF m_ 162 #[.val (.int (14 : Int32)), .val (.int t), .val (.int d), .val (.ref b1), .val (.int (own_a d)), .val (.int (own_g d)), .val (.int (own_h d)), .val (.ref b28), .val (.ref w12), .unset, .unset, .unset] [(.int (12 : Int32)), (.ref b1), (.ref w12)])
    refine own_st T81 (mkF m_ 186 #[.val (.int (14 : Int32)), .val (.int t), .val (.int d), .val (.ref b1), .val (.int (own_a d)), .val (.int (own_g d)), .val (.int (own_h d)), .val (.ref b28), .val (.ref w12), .val (.int t), .unset, .unset] [(.int t), (.ref w12)]) (fun t_ k_ => ?_) ?_
    · refine own_ldR X81 hx hZ e81 A_b1 rfl 12 (by decide) (by decide) (hb hby at_162) _ ?_
      show Steps p_.tables e_ below (T81.setTop (mkF m_ 163 #[.val (.int (14 : Int32)), .val (.int t), .val (.int d), .val (.ref b1), .val (.int (own_a d)), .val (.int (own_g d)), .val (.int (own_h d)), .val (.ref b28), .val (.ref w12), .unset, .unset, .unset] [(.ref w12), (.ref w12)])) t_
      refine Jvm.RoadKit.acmp (g := (mkF m_ 163 #[.val (.int (14 : Int32)), .val (.int t), .val (.int d), .val (.ref b1), .val (.int (own_a d)), .val (.int (own_g d)), .val (.int (own_h d)), .val (.ref b28), .val (.ref w12), .unset, .unset, .unset] [(.ref w12), (.ref w12)])) X81 hx rfl rfl rfl (pc0 := 163) (pc' := 168) (same := true) rfl (hb hby at_163) rfl (decide_eq_true rfl) (by decide) (by decide) ?_
      show Steps p_.tables e_ below (T81.setTop (mkF m_ 168 #[.val (.int (14 : Int32)), .val (.int t), .val (.int d), .val (.ref b1), .val (.int (own_a d)), .val (.int (own_g d)), .val (.int (own_h d)), .val (.ref b28), .val (.ref w12), .unset, .unset, .unset] [])) t_
      refine XS.iloadN X81.here hx rfl (hb hby at_168) rfl ?_
      show Steps p_.tables e_ below (T81.setTop (mkF m_ 169 #[.val (.int (14 : Int32)), .val (.int t), .val (.int d), .val (.ref b1), .val (.int (own_a d)), .val (.int (own_g d)), .val (.int (own_h d)), .val (.ref b28), .val (.ref w12), .unset, .unset, .unset] [(.int (14 : Int32))])) t_
      refine XS.iconst X81.here hx rfl (hb hby at_169) ?_
      show Steps p_.tables e_ below (T81.setTop (mkF m_ 170 #[.val (.int (14 : Int32)), .val (.int t), .val (.int d), .val (.ref b1), .val (.int (own_a d)), .val (.int (own_g d)), .val (.int (own_h d)), .val (.ref b28), .val (.ref w12), .unset, .unset, .unset] [(.int (1 : Int32)), (.int (14 : Int32))])) t_
      refine XS.icmpYes X81.here hx rfl (pc0 := 170) (pc' := 180) rfl (hb hby at_170) rfl (feq (by decide : ¬ ((14 : Int32) = (1 : Int32)))).2 (by decide) (by decide) ?_
      show Steps p_.tables e_ below (T81.setTop (mkF m_ 180 #[.val (.int (14 : Int32)), .val (.int t), .val (.int d), .val (.ref b1), .val (.int (own_a d)), .val (.int (own_g d)), .val (.int (own_h d)), .val (.ref b28), .val (.ref w12), .unset, .unset, .unset] [])) t_
      refine XS.iloadN X81.here hx rfl (hb hby at_180) rfl ?_
      show Steps p_.tables e_ below (T81.setTop (mkF m_ 181 #[.val (.int (14 : Int32)), .val (.int t), .val (.int d), .val (.ref b1), .val (.int (own_a d)), .val (.int (own_g d)), .val (.int (own_h d)), .val (.ref b28), .val (.ref w12), .unset, .unset, .unset] [(.int t)])) t_
      refine XS.istore X81.here hx rfl (hb hby at_181) rfl (l' := #[.val (.int (14 : Int32)), .val (.int t), .val (.int d), .val (.ref b1), .val (.int (own_a d)), .val (.int (own_g d)), .val (.int (own_h d)), .val (.ref b28), .val (.ref w12), .val (.int t), .unset, .unset]) rfl ?_
      show Steps p_.tables e_ below (T81.setTop (mkF m_ 183 #[.val (.int (14 : Int32)), .val (.int t), .val (.int d), .val (.ref b1), .val (.int (own_a d)), .val (.int (own_g d)), .val (.int (own_h d)), .val (.ref b28), .val (.ref w12), .val (.int t), .unset, .unset] [])) t_
      refine XS.aload X81.here hx rfl (hb hby at_183) rfl rfl ?_
      show Steps p_.tables e_ below (T81.setTop (mkF m_ 185 #[.val (.int (14 : Int32)), .val (.int t), .val (.int d), .val (.ref b1), .val (.int (own_a d)), .val (.int (own_g d)), .val (.int (own_h d)), .val (.ref b28), .val (.ref w12), .val (.int t), .unset, .unset] [(.ref w12)])) t_
      refine XS.iloadN X81.here hx rfl (hb hby at_185) rfl ?_
      show Steps p_.tables e_ below (T81.setTop (mkF m_ 186 #[.val (.int (14 : Int32)), .val (.int t), .val (.int d), .val (.ref b1), .val (.int (own_a d)), .val (.int (own_g d)), .val (.int (own_h d)), .val (.ref b28), .val (.ref w12), .val (.int t), .unset, .unset] [(.int t), (.ref w12)])) t_
      exact k_
    refine own_callV X81 hx hZ (y := (⟨"com/example/banksum/banksum/uk/ExceptionRule", "total", "(I)I"⟩ : MethodName)) (z := (⟨"com/example/banksum/banksum/uk/ExceptionRule", "total", "(I)I"⟩ : MethodName)) hown (hw _ (List.mem_of_getElem? (i := 51) rfl)) (hw _ (List.mem_of_getElem? (i := 52) rfl)) (notFace_of_selects (args := #[]) (mvT hZ (hw _ (List.mem_of_getElem? (i := 100) rfl)))) (hw _ (List.mem_of_getElem? (i := 100) rfl)) (hw _ (List.mem_of_getElem? (i := 53) rfl)) (hw _ (List.mem_of_getElem? (i := 3) rfl)) (hw _ (List.mem_of_getElem? (i := 55) rfl)) (by decide) w12 [(.int t)] [] (E_w12.ext O.2) (rm3 l Z a0 hw w12 t h31 n0 Z0) 0 (by decide) (by decide) e81 (by rw [hml]; rfl) (lenOf own_pd1 rfl) rfl (Nat.le_of_eq rfl) (hb hby at_186) (by decide) (by decide) ?_
    intro v82 T82 L82 X82 q82
    obtain ⟨rfl, N82q, e82⟩ := q82
    have N82 := Fr.app N81 N82q
    show own_Out p_ e_ below s_ _ _ _ T82 (mkF m_ 189 #[.val (.int (14 : Int32)), .val (.int t), .val (.int d), .val (.ref b1), .val (.int (own_a d)), .val (.int (own_g d)), .val (.int (own_h d)), .val (.ref b28), .val (.ref w12), .val (.int t), .unset, .unset] [(.int (f3 w12 t))])
    refine own_st T82 (mkF m_ 222 #[.val (.int (14 : Int32)), .val (.int t), .val (.int d), .val (.ref b1), .val (.int (own_a d)), .val (.int (own_g d)), .val (.int (own_h d)), .val (.ref b28), .val (.ref w12), .val (.int t), .val (.int (0 : Int32)), .unset] [(.ref w12)]) (fun t_ k_ => ?_) ?_
    · refine XS.iload X82.here hx rfl (hb hby at_189) rfl ?_
      show Steps p_.tables e_ below (T82.setTop (mkF m_ 191 #[.val (.int (14 : Int32)), .val (.int t), .val (.int d), .val (.ref b1), .val (.int (own_a d)), .val (.int (own_g d)), .val (.int (own_h d)), .val (.ref b28), .val (.ref w12), .val (.int t), .unset, .unset] [(.int t), (.int (f3 w12 t))])) t_
      refine XS.icmpYes X82.here hx rfl (pc0 := 191) (pc' := 196) rfl (hb hby at_191) rfl (teq (rfl : (f3 w12 t) = t)).1 (by decide) (by decide) ?_
      show Steps p_.tables e_ below (T82.setTop (mkF m_ 196 #[.val (.int (14 : Int32)), .val (.int t), .val (.int d), .val (.ref b1), .val (.int (own_a d)), .val (.int (own_g d)), .val (.int (own_h d)), .val (.ref b28), .val (.ref w12), .val (.int t), .unset, .unset] [])) t_
      refine XS.iloadN X82.here hx rfl (hb hby at_196) rfl ?_
      show Steps p_.tables e_ below (T82.setTop (mkF m_ 197 #[.val (.int (14 : Int32)), .val (.int t), .val (.int d), .val (.ref b1), .val (.int (own_a d)), .val (.int (own_g d)), .val (.int (own_h d)), .val (.ref b28), .val (.ref w12), .val (.int t), .unset, .unset] [(.int (14 : Int32))])) t_
      refine XS.iconst X82.here hx rfl (hb hby at_197) ?_
      show Steps p_.tables e_ below (T82.setTop (mkF m_ 198 #[.val (.int (14 : Int32)), .val (.int t), .val (.int d), .val (.ref b1), .val (.int (own_a d)), .val (.int (own_g d)), .val (.int (own_h d)), .val (.ref b28), .val (.ref w12), .val (.int t), .unset, .unset] [(.int (2 : Int32)), (.int (14 : Int32))])) t_
      refine XS.icmpNo X82.here hx rfl (hb hby at_198) rfl (feq (by decide : ¬ ((14 : Int32) = (2 : Int32)))).1 ?_
      show Steps p_.tables e_ below (T82.setTop (mkF m_ 201 #[.val (.int (14 : Int32)), .val (.int t), .val (.int d), .val (.ref b1), .val (.int (own_a d)), .val (.int (own_g d)), .val (.int (own_h d)), .val (.ref b28), .val (.ref w12), .val (.int t), .unset, .unset] [])) t_
      refine XS.iloadN X82.here hx rfl (hb hby at_201) rfl ?_
      show Steps p_.tables e_ below (T82.setTop (mkF m_ 202 #[.val (.int (14 : Int32)), .val (.int t), .val (.int d), .val (.ref b1), .val (.int (own_a d)), .val (.int (own_g d)), .val (.int (own_h d)), .val (.ref b28), .val (.ref w12), .val (.int t), .unset, .unset] [(.int (14 : Int32))])) t_
      refine XS.bipush X82.here hx rfl (hb hby at_202) ?_
      show Steps p_.tables e_ below (T82.setTop (mkF m_ 204 #[.val (.int (14 : Int32)), .val (.int t), .val (.int d), .val (.ref b1), .val (.int (own_a d)), .val (.int (own_g d)), .val (.int (own_h d)), .val (.ref b28), .val (.ref w12), .val (.int t), .unset, .unset] [(.int (10 : Int32)), (.int (14 : Int32))])) t_
      refine XS.icmpNo X82.here hx rfl (hb hby at_204) rfl (feq (by decide : ¬ ((14 : Int32) = (10 : Int32)))).1 ?_
      show Steps p_.tables e_ below (T82.setTop (mkF m_ 207 #[.val (.int (14 : Int32)), .val (.int t), .val (.int d), .val (.ref b1), .val (.int (own_a d)), .val (.int (own_g d)), .val (.int (own_h d)), .val (.ref b28), .val (.ref w12), .val (.int t), .unset, .unset] [])) t_
      refine XS.iloadN X82.here hx rfl (hb hby at_207) rfl ?_
      show Steps p_.tables e_ below (T82.setTop (mkF m_ 208 #[.val (.int (14 : Int32)), .val (.int t), .val (.int d), .val (.ref b1), .val (.int (own_a d)), .val (.int (own_g d)), .val (.int (own_h d)), .val (.ref b28), .val (.ref w12), .val (.int t), .unset, .unset] [(.int (14 : Int32))])) t_
      refine XS.bipush X82.here hx rfl (hb hby at_208) ?_
      show Steps p_.tables e_ below (T82.setTop (mkF m_ 210 #[.val (.int (14 : Int32)), .val (.int t), .val (.int d), .val (.ref b1), .val (.int (own_a d)), .val (.int (own_g d)), .val (.int (own_h d)), .val (.ref b28), .val (.ref w12), .val (.int t), .unset, .unset] [(.int (12 : Int32)), (.int (14 : Int32))])) t_
      refine XS.icmpYes X82.here hx rfl (pc0 := 210) (pc' := 217) rfl (hb hby at_210) rfl (feq (by decide : ¬ ((14 : Int32) = (12 : Int32)))).2 (by decide) (by decide) ?_
      show Steps p_.tables e_ below (T82.setTop (mkF m_ 217 #[.val (.int (14 : Int32)), .val (.int t), .val (.int d), .val (.ref b1), .val (.int (own_a d)), .val (.int (own_g d)), .val (.int (own_h d)), .val (.ref b28), .val (.ref w12), .val (.int t), .unset, .unset] [])) t_
      refine XS.iconst X82.here hx rfl (hb hby at_217) ?_
      show Steps p_.tables e_ below (T82.setTop (mkF m_ 218 #[.val (.int (14 : Int32)), .val (.int t), .val (.int d), .val (.ref b1), .val (.int (own_a d)), .val (.int (own_g d)), .val (.int (own_h d)), .val (.ref b28), .val (.ref w12), .val (.int t), .unset, .unset] [(.int (0 : Int32))])) t_
      refine XS.istore X82.here hx rfl (hb hby at_218) rfl (l' := #[.val (.int (14 : Int32)), .val (.int t), .val (.int d), .val (.ref b1), .val (.int (own_a d)), .val (.int (own_g d)), .val (.int (own_h d)), .val (.ref b28), .val (.ref w12), .val (.int t), .val (.int (0 : Int32)), .unset]) rfl ?_
      show Steps p_.tables e_ below (T82.setTop (mkF m_ 220 #[.val (.int (14 : Int32)), .val (.int t), .val (.int d), .val (.ref b1), .val (.int (own_a d)), .val (.int (own_g d)), .val (.int (own_h d)), .val (.ref b28), .val (.ref w12), .val (.int t), .val (.int (0 : Int32)), .unset] [])) t_
      refine XS.aload X82.here hx rfl (hb hby at_220) rfl rfl ?_
      show Steps p_.tables e_ below (T82.setTop (mkF m_ 222 #[.val (.int (14 : Int32)), .val (.int t), .val (.int d), .val (.ref b1), .val (.int (own_a d)), .val (.int (own_g d)), .val (.int (own_h d)), .val (.ref b28), .val (.ref w12), .val (.int t), .val (.int (0 : Int32)), .unset] [(.ref w12)])) t_
      exact k_
    refine own_callV X82 hx hZ (y := (⟨"com/example/banksum/banksum/uk/ExceptionRule", "eitherPasses", "()Z"⟩ : MethodName)) (z := (⟨"com/example/banksum/banksum/uk/ExceptionRule", "eitherPasses", "()Z"⟩ : MethodName)) hown (hw _ (List.mem_of_getElem? (i := 56) rfl)) (hw _ (List.mem_of_getElem? (i := 57) rfl)) (notFace_of_selects (args := #[]) (mvT hZ (hw _ (List.mem_of_getElem? (i := 101) rfl)))) (hw _ (List.mem_of_getElem? (i := 101) rfl)) (hw _ (List.mem_of_getElem? (i := 58) rfl)) (hw _ (List.mem_of_getElem? (i := 3) rfl)) (hw _ (List.mem_of_getElem? (i := 60) rfl)) (by decide) w12 [] [] (E_w12.ext O.2) (rm4 l Z a0 hw w12 h31 n0 Z0) 0 (by decide) (by decide) e82 (by rw [hml]; rfl) (lenOf own_pd2 rfl) rfl (Nat.le_of_eq rfl) (hb hby at_222) (by decide) (by decide) ?_
    intro v83 T83 L83 X83 q83
    obtain ⟨rfl, N83q, e83⟩ := q83
    have N83 := Fr.app N82 N83q
    show own_Out p_ e_ below s_ _ _ _ T83 (mkF m_ 225 #[.val (.int (14 : Int32)), .val (.int t), .val (.int d), .val (.ref b1), .val (.int (own_a d)), .val (.int (own_g d)), .val (.int (own_h d)), .val (.ref b28), .val (.ref w12), .val (.int t), .val (.int (0 : Int32)), .unset] [(.int (f4 w12))])
    refine own_st T83 (mkF m_ 269 #[.val (.int (14 : Int32)), .val (.int t), .val (.int d), .val (.ref b1), .val (.int (own_a d)), .val (.int (own_g d)), .val (.int (own_h d)), .val (.ref b28), .val (.ref w12), .val (.int t), .val (.int (0 : Int32)), .val (.int (0 : Int32))] [(.ref b28), (.ref w12)]) (fun t_ k_ => ?_) ?_
    · refine XS.iload X83.here hx rfl (hb hby at_225) rfl ?_
      show Steps p_.tables e_ below (T83.setTop (mkF m_ 227 #[.val (.int (14 : Int32)), .val (.int t), .val (.int d), .val (.ref b1), .val (.int (own_a d)), .val (.int (own_g d)), .val (.int (own_h d)), .val (.ref b28), .val (.ref w12), .val (.int t), .val (.int (0 : Int32)), .unset] [(.int (0 : Int32)), (.int (f4 w12))])) t_
      refine XS.icmpYes X83.here hx rfl (pc0 := 227) (pc' := 232) rfl (hb hby at_227) rfl (teq (rfl : (f4 w12) = (0 : Int32))).1 (by decide) (by decide) ?_
      show Steps p_.tables e_ below (T83.setTop (mkF m_ 232 #[.val (.int (14 : Int32)), .val (.int t), .val (.int d), .val (.ref b1), .val (.int (own_a d)), .val (.int (own_g d)), .val (.int (own_h d)), .val (.ref b28), .val (.ref w12), .val (.int t), .val (.int (0 : Int32)), .unset] [])) t_
      refine XS.iloadN X83.here hx rfl (hb hby at_232) rfl ?_
      show Steps p_.tables e_ below (T83.setTop (mkF m_ 233 #[.val (.int (14 : Int32)), .val (.int t), .val (.int d), .val (.ref b1), .val (.int (own_a d)), .val (.int (own_g d)), .val (.int (own_h d)), .val (.ref b28), .val (.ref w12), .val (.int t), .val (.int (0 : Int32)), .unset] [(.int (14 : Int32))])) t_
      refine XS.bipush X83.here hx rfl (hb hby at_233) ?_
      show Steps p_.tables e_ below (T83.setTop (mkF m_ 235 #[.val (.int (14 : Int32)), .val (.int t), .val (.int d), .val (.ref b1), .val (.int (own_a d)), .val (.int (own_g d)), .val (.int (own_h d)), .val (.ref b28), .val (.ref w12), .val (.int t), .val (.int (0 : Int32)), .unset] [(.int (6 : Int32)), (.int (14 : Int32))])) t_
      refine XS.icmpYes X83.here hx rfl (pc0 := 235) (pc' := 262) rfl (hb hby at_235) rfl (feq (by decide : ¬ ((14 : Int32) = (6 : Int32)))).2 (by decide) (by decide) ?_
      show Steps p_.tables e_ below (T83.setTop (mkF m_ 262 #[.val (.int (14 : Int32)), .val (.int t), .val (.int d), .val (.ref b1), .val (.int (own_a d)), .val (.int (own_g d)), .val (.int (own_h d)), .val (.ref b28), .val (.ref w12), .val (.int t), .val (.int (0 : Int32)), .unset] [])) t_
      refine XS.iconst X83.here hx rfl (hb hby at_262) ?_
      show Steps p_.tables e_ below (T83.setTop (mkF m_ 263 #[.val (.int (14 : Int32)), .val (.int t), .val (.int d), .val (.ref b1), .val (.int (own_a d)), .val (.int (own_g d)), .val (.int (own_h d)), .val (.ref b28), .val (.ref w12), .val (.int t), .val (.int (0 : Int32)), .unset] [(.int (0 : Int32))])) t_
      refine XS.istore X83.here hx rfl (hb hby at_263) rfl (l' := #[.val (.int (14 : Int32)), .val (.int t), .val (.int d), .val (.ref b1), .val (.int (own_a d)), .val (.int (own_g d)), .val (.int (own_h d)), .val (.ref b28), .val (.ref w12), .val (.int t), .val (.int (0 : Int32)), .val (.int (0 : Int32))]) rfl ?_
      show Steps p_.tables e_ below (T83.setTop (mkF m_ 265 #[.val (.int (14 : Int32)), .val (.int t), .val (.int d), .val (.ref b1), .val (.int (own_a d)), .val (.int (own_g d)), .val (.int (own_h d)), .val (.ref b28), .val (.ref w12), .val (.int t), .val (.int (0 : Int32)), .val (.int (0 : Int32))] [])) t_
      refine XS.aload X83.here hx rfl (hb hby at_265) rfl rfl ?_
      show Steps p_.tables e_ below (T83.setTop (mkF m_ 267 #[.val (.int (14 : Int32)), .val (.int t), .val (.int d), .val (.ref b1), .val (.int (own_a d)), .val (.int (own_g d)), .val (.int (own_h d)), .val (.ref b28), .val (.ref w12), .val (.int t), .val (.int (0 : Int32)), .val (.int (0 : Int32))] [(.ref w12)])) t_
      refine XS.aload X83.here hx rfl (hb hby at_267) rfl rfl ?_
      show Steps p_.tables e_ below (T83.setTop (mkF m_ 269 #[.val (.int (14 : Int32)), .val (.int t), .val (.int d), .val (.ref b1), .val (.int (own_a d)), .val (.int (own_g d)), .val (.int (own_h d)), .val (.ref b28), .val (.ref w12), .val (.int t), .val (.int (0 : Int32)), .val (.int (0 : Int32))] [(.ref b28), (.ref w12)])) t_
      exact k_
    refine own_callV X83 hx hZ (y := (⟨"com/example/banksum/banksum/uk/ExceptionRule", "foreignCurrency", "([I)Z"⟩ : MethodName)) (z := (⟨"com/example/banksum/banksum/uk/ExceptionRule", "foreignCurrency", "([I)Z"⟩ : MethodName)) hown (hw _ (List.mem_of_getElem? (i := 61) rfl)) (hw _ (List.mem_of_getElem? (i := 62) rfl)) (notFace_of_selects (args := #[]) (mvT hZ (hw _ (List.mem_of_getElem? (i := 102) rfl)))) (hw _ (List.mem_of_getElem? (i := 102) rfl)) (hw _ (List.mem_of_getElem? (i := 63) rfl)) (hw _ (List.mem_of_getElem? (i := 3) rfl)) (hw _ (List.mem_of_getElem? (i := 65) rfl)) (by decide) w12 [(.ref b28)] [] (E_w12.ext O.2) (rm5 l Z a0 hw w12 b28 h31 n0 Z0) 0 (by decide) (by decide) e83 (by rw [hml]; rfl) (lenOf own_pd3 rfl) rfl (Nat.le_of_eq rfl) (hb hby at_269) (by decide) (by decide) ?_
    intro v84 T84 L84 X84 q84
    obtain ⟨rfl, N84q, e84⟩ := q84
    have N84 := Fr.app N83 N84q
    show own_Out p_ e_ below s_ _ _ _ T84 (mkF m_ 272 #[.val (.int (14 : Int32)), .val (.int t), .val (.int d), .val (.ref b1), .val (.int (own_a d)), .val (.int (own_g d)), .val (.int (own_h d)), .val (.ref b28), .val (.ref w12), .val (.int t), .val (.int (0 : Int32)), .val (.int (0 : Int32))] [(.int (f5 w12 b28))])
    refine own_st T84 (mkF m_ 282 #[.val (.int (14 : Int32)), .val (.int t), .val (.int d), .val (.ref b1), .val (.int (own_a d)), .val (.int (own_g d)), .val (.int (own_h d)), .val (.ref b28), .val (.ref w12), .val (.int t), .val (.int (0 : Int32)), .val (.int (0 : Int32))] [(.int (1 : Int32))]) (fun t_ k_ => ?_) ?_
    · refine XS.iload X84.here hx rfl (hb hby at_272) rfl ?_
      show Steps p_.tables e_ below (T84.setTop (mkF m_ 274 #[.val (.int (14 : Int32)), .val (.int t), .val (.int d), .val (.ref b1), .val (.int (own_a d)), .val (.int (own_g d)), .val (.int (own_h d)), .val (.ref b28), .val (.ref w12), .val (.int t), .val (.int (0 : Int32)), .val (.int (0 : Int32))] [(.int (0 : Int32)), (.int (f5 w12 b28))])) t_
      refine XS.icmpNo X84.here hx rfl (hb hby at_274) rfl (teq (rfl : (f5 w12 b28) = (0 : Int32))).2 ?_
      show Steps p_.tables e_ below (T84.setTop (mkF m_ 277 #[.val (.int (14 : Int32)), .val (.int t), .val (.int d), .val (.ref b1), .val (.int (own_a d)), .val (.int (own_g d)), .val (.int (own_h d)), .val (.ref b28), .val (.ref w12), .val (.int t), .val (.int (0 : Int32)), .val (.int (0 : Int32))] [])) t_
      refine XS.iconst X84.here hx rfl (hb hby at_277) ?_
      show Steps p_.tables e_ below (T84.setTop (mkF m_ 278 #[.val (.int (14 : Int32)), .val (.int t), .val (.int d), .val (.ref b1), .val (.int (own_a d)), .val (.int (own_g d)), .val (.int (own_h d)), .val (.ref b28), .val (.ref w12), .val (.int t), .val (.int (0 : Int32)), .val (.int (0 : Int32))] [(.int (1 : Int32))])) t_
      refine XS.goto X84.here hx rfl (pc0 := 278) (pc' := 282) rfl (hb hby at_278) (by decide) (by decide) ?_
      show Steps p_.tables e_ below (T84.setTop (mkF m_ 282 #[.val (.int (14 : Int32)), .val (.int t), .val (.int d), .val (.ref b1), .val (.int (own_a d)), .val (.int (own_g d)), .val (.int (own_h d)), .val (.ref b28), .val (.ref w12), .val (.int t), .val (.int (0 : Int32)), .val (.int (0 : Int32))] [(.int (1 : Int32))])) t_
      exact k_
    refine own_retN X84 hx hlk (t := .boolean) hret (by simp) (hb hby at_282) (by decide) (by decide) ?_
    exact ⟨rfl, N84⟩
set_option maxRecDepth 65536 in
set_option maxHeartbeats 40000000 in
theorem comes_1 {Post : Tables → Env → Array Value → State → Outcome → State → Prop} (hpost : ∀ tb e args s v u, (limb_1_1.after args s (.returned v) u = true ∧ limb_1_2.after args s (.returned v) u = true ∧ True) → FrameEnd s (.returned v) u (Jvm.fieldLocs frame_1_writes args s ++ Jvm.arrayLocs frame_1_arrays args s ++ Jvm.staticLocs frame_1_statics s) 16 128 → Post tb e args s (.returned v) u) :
    ArmFor flags0 classFile x code maxLocals ret World_1 tables_1 room_1 Calls_1 rest_1 Pre_1 Post := by
  intro l hfl _ _ p e ha hc hk s m args below hf hA hF happ hP
  obtain ⟨hcalls, hrest, hpre⟩ := hP
  obtain ⟨-, -, -, hnamed, -, -, -, hat⟩ := (Spec.applies_iff hf).mp happ
  obtain ⟨hg, hn⟩ := and_e (Cond.before_iff.mp (show (Jvm.Cond.and given_1 narrow_1).before args s = true from hpre))
  obtain ⟨c0, r0⟩ := and_e hg
  obtain ⟨k0, r1⟩ := and_e r0
  obtain ⟨k1, r2⟩ := and_e r1
  obtain ⟨w0, w1, w2, rfl⟩ : ∃ w0 w1 w2 : Value, args = #[w0, w1, w2] := by
    have hs : args.size = 3 := by simpa [Cond.value, given_1] using c0
    obtain ⟨L⟩ := args
    match L, hs with
    | [w0, w1, w2], _ => exact ⟨w0, w1, w2, rfl⟩
  have hw := fun d (hd : d ∈ tables_1) => atoms_spec (ws := Jvm.Cond.code x code maxLocals ret :: tables_1) hat d (List.mem_cons_of_mem _ hd)
  have hfit : Fit s := fun {y c} hc i hi => by
    obtain ⟨ha, rfl⟩ := Array.getElem?_eq_some_iff.mp hc
    have q := List.all_eq_true.mp ((Array.all_eq_true_iff_forall_mem.mp hF) _ (Array.getElem_mem ha)) i (List.mem_range.mpr hi)
    simpa [Array.getElem?_eq_getElem hi] using q
  obtain ⟨i0, ei0⟩ := is_v k0
  obtain rfl : w0 = (.int i0) := Option.some.inj ei0
  obtain ⟨i1, ei1⟩ := is_v k1
  obtain rfl : w1 = (.int i1) := Option.some.inj ei1
  obtain ⟨i2, ei2⟩ := is_v r2
  obtain rfl : w2 = (.int i2) := Option.some.inj ei2
  obtain ⟨xe0, rr0⟩ := and_e hn
  obtain ⟨xe1, rr1⟩ := and_e rr0
  obtain ⟨xe2, rr2⟩ := and_e rr1
  obtain ⟨xe3, rr3⟩ := and_e rr2
  obtain ⟨xe4, rr4⟩ := and_e rr3
  obtain ⟨xe5, rr5⟩ := and_e rr4
  obtain ⟨xe6, rr6⟩ := and_e rr5
  obtain ⟨xe7, rr7⟩ := and_e rr6
  obtain ⟨xe8, rr8⟩ := and_e rr7
  obtain ⟨xe9, rr9⟩ := and_e rr8
  obtain ⟨xe10, rr10⟩ := and_e rr9
  obtain ⟨xe11, rr11⟩ := and_e rr10
  have xe12 := rr11
  obtain ⟨w0v, v0⟩ := exa_v xe0
  have E0 := Exa.start v0 xe0
  have S0 := Sta.start v0 (Or.inr ⟨(hw _ (List.mem_of_getElem? (i := 3) rfl)), (hw _ (List.mem_of_getElem? (i := 4) rfl))⟩)
  obtain ⟨w1v, v1⟩ := exa_v xe1
  have E1 := Exa.start v1 xe1
  have S1 := Sta.start v1 (Or.inr ⟨(hw _ (List.mem_of_getElem? (i := 3) rfl)), (hw _ (List.mem_of_getElem? (i := 7) rfl))⟩)
  obtain ⟨w2v, v2⟩ := exa_v xe2
  have E2 := Exa.start v2 xe2
  have S2 := Sta.start v2 (Or.inr ⟨(hw _ (List.mem_of_getElem? (i := 3) rfl)), (hw _ (List.mem_of_getElem? (i := 10) rfl))⟩)
  obtain ⟨w3v, v3⟩ := exa_v xe3
  have E3 := Exa.start v3 xe3
  have S3 := Sta.start v3 (Or.inr ⟨(hw _ (List.mem_of_getElem? (i := 3) rfl)), (hw _ (List.mem_of_getElem? (i := 13) rfl))⟩)
  obtain ⟨w4v, v4⟩ := exa_v xe4
  have E4 := Exa.start v4 xe4
  have S4 := Sta.start v4 (Or.inr ⟨(hw _ (List.mem_of_getElem? (i := 3) rfl)), (hw _ (List.mem_of_getElem? (i := 16) rfl))⟩)
  obtain ⟨w5v, v5⟩ := exa_v xe5
  have E5 := Exa.start v5 xe5
  have S5 := Sta.start v5 (Or.inr ⟨(hw _ (List.mem_of_getElem? (i := 3) rfl)), (hw _ (List.mem_of_getElem? (i := 19) rfl))⟩)
  obtain ⟨w6v, v6⟩ := exa_v xe6
  have E6 := Exa.start v6 xe6
  have S6 := Sta.start v6 (Or.inr ⟨(hw _ (List.mem_of_getElem? (i := 3) rfl)), (hw _ (List.mem_of_getElem? (i := 22) rfl))⟩)
  obtain ⟨w7v, v7⟩ := exa_v xe7
  have E7 := Exa.start v7 xe7
  have S7 := Sta.start v7 (Or.inr ⟨(hw _ (List.mem_of_getElem? (i := 3) rfl)), (hw _ (List.mem_of_getElem? (i := 25) rfl))⟩)
  obtain ⟨w8v, v8⟩ := exa_v xe8
  have E8 := Exa.start v8 xe8
  have S8 := Sta.start v8 (Or.inr ⟨(hw _ (List.mem_of_getElem? (i := 3) rfl)), (hw _ (List.mem_of_getElem? (i := 28) rfl))⟩)
  obtain ⟨w9v, v9⟩ := exa_v xe9
  have E9 := Exa.start v9 xe9
  have S9 := Sta.start v9 (Or.inr ⟨(hw _ (List.mem_of_getElem? (i := 3) rfl)), (hw _ (List.mem_of_getElem? (i := 31) rfl))⟩)
  obtain ⟨w10v, v10⟩ := exa_v xe10
  have E10 := Exa.start v10 xe10
  have S10 := Sta.start v10 (Or.inr ⟨(hw _ (List.mem_of_getElem? (i := 3) rfl)), (hw _ (List.mem_of_getElem? (i := 34) rfl))⟩)
  obtain ⟨w11v, v11⟩ := exa_v xe11
  have E11 := Exa.start v11 xe11
  have S11 := Sta.start v11 (Or.inr ⟨(hw _ (List.mem_of_getElem? (i := 3) rfl)), (hw _ (List.mem_of_getElem? (i := 37) rfl))⟩)
  obtain ⟨w12v, v12⟩ := exa_v xe12
  have E12 := Exa.start v12 xe12
  have S12 := Sta.start v12 (Or.inr ⟨(hw _ (List.mem_of_getElem? (i := 3) rfl)), (hw _ (List.mem_of_getElem? (i := 40) rfl))⟩)
  obtain ⟨n, o, h1, h2, h3, _, L, rfl, ⟨rfl, N⟩, hq⟩ := rm0 l s _ hw i0 i1 i2 w0v w1v w2v w3v w4v w5v w6v w7v w8v w9v w10v w11v w12v s.heap s.heap.size (Nat.le_refl _) (Old.start s) S0 S1 S2 S3 S4 S5 S6 S7 S8 S9 S10 S11 S12 E0 E1 E2 E3 E4 E5 E6 E7 E8 E9 E10 E11 E12 tables_1 p e ha hc hk s m _ below hf ((Spec.applies_iff_loose hf).mp happ).1 ⟨rfl, State.Warmed39.refl s, rfl⟩ trivial
  refine ⟨n, _, h1, h2, h3, hpost _ _ _ _ _ _ ⟨Cond.after_iff.mpr rfl, Cond.after_iff.mpr (eq_i res_at (Term.int_eval (1)) rfl), trivial⟩ ⟨hq.1, hq.2.1, (hq.2.2.sift fun y hy => Or.inr (N y hy)).mono (by decide) (by decide)⟩⟩
theorem main_1_1 : Claimed_1_1 := comes_1 fun _ _ _ _ _ _ h hF => ⟨h.1, hF⟩
theorem main_1_2 : Claimed_1_2 := comes_1 fun _ _ _ _ _ _ h hF => ⟨h.2.1, hF⟩
end Jvm.Pilot.@@N@@
namespace Jvm.Pilot.@@N@@
open Jvm Jvm.ClassFile Sem Op Lib Jvm.Free Jvm.Stand Jvm.Pilot.@@N@@.Jvm.D
/-! MADE BY PROGRAM (witnessworld.py) out of the Statement's table words and the real class files: 25 classes; the members and pool entries that the words name. The judged class is class 1, her method 1. -/
namespace start1
open Jvm.ClassFile
def u (s : String) : CpInfo := .utf8 (stringToUtf16 s)
/-- a pool by its gaps: so many unusable entries, then the entry; so many at the end -/
def gap : Nat → List CpInfo → List CpInfo
  | 0, r => r
  | n + 1, r => .unusable :: gap n r
def poolList (es : List (Nat × CpInfo)) (last : Nat) : List CpInfo := es.foldr (fun e r => gap e.1 (e.2 :: r)) (gap last [])
def pool (es : List (Nat × CpInfo)) (last : Nat) : Array CpInfo := ⟨poolList es last⟩
def fileOf (pool : Array CpInfo) (this : Nat) (attrs : Array Attribute := #[]) (ms : Array MethodInfo := #[]) (fl : Nat := 33) (sup : Nat := 0) (ifs : Array Nat := #[]) (fds : Array FieldInfo := #[]) : ClassFile where
  minorVersion := 0
  majorVersion := 65
  constantPool := pool
  accessFlags := fl
  thisClass := this
  superClass := sup
  interfaces := ifs
  fields := fds
  methods := ms
  attributes := attrs
def plain (name : String) (sup : Option ClassId) : Class where
  name := name
  kind := .ordinary
  loader := none
  accessFlags := 33
  super := sup
  interfaces := #[]
  cf := none
  fields := #[]
  methods := #[]
  instanceTypes := #[]
  staticTypes := #[]
  resolved := #[]
  callSites := []
  init := .initialized
  statics := none
  mirror := none

def pool0 : Array CpInfo := pool [(5, u "<init>"), (0, u "()V"), (1, .class_ 10), (1, u "java/lang/Object")] 113

def k0m0 : Method := { name := "<init>", desc := "()V", sig := { parameters := [], returnType := none }, accessFlags := 1, code := none }
/-- java/lang/Object -/
def k0 : Class := { plain "java/lang/Object" none with
  accessFlags := 33
  interfaces := #[]
  cf := some (fileOf pool0 8 #[] #[{ accessFlags := 1, nameIndex := 5, descriptorIndex := 6, attributes := #[] }] 33 0 #[] #[])
  fields := #[]
  methods := #[k0m0]
  instanceTypes := #[]
  staticTypes := #[]
  resolved := Array.replicate 124 none
  statics := none }

def pool1 : Array CpInfo := pool [(2, .class_ 4), (1, u "java/lang/Object"), (0, u "<init>"), (0, u "()V"), (0, .class_ 8), (0, u "com/example/banksum/banksum/uk/ExceptionRule"), (0, .fieldref 7 10), (0, .nameAndType 11 12), (0, u "NONE"), (0, u "Lcom/example/banksum/banksum/uk/ExceptionRule;"), (0, .fieldref 7 14), (0, .nameAndType 15 12), (0, u "ADD_27"), (0, .fieldref 7 17), (0, .nameAndType 18 12), (0, u "EITHER_WEIGHTS_BY_A_AND_G"), (0, .fieldref 7 20), (0, .nameAndType 21 12), (0, u "SKIP_WHEN_C_IS_6_OR_9"), (0, .fieldref 7 23), (0, .nameAndType 24 12), (0, u "REMAINDER_IS_GH"), (0, .fieldref 7 26), (0, .nameAndType 27 12), (0, u "SUBSTITUTE_AND_CHECK_DIGIT"), (0, .fieldref 7 29), (0, .nameAndType 30 12), (0, u "FOREIGN_CURRENCY"), (0, .fieldref 7 32), (0, .nameAndType 33 12), (0, u "ZERO_U_TO_B_WHEN_G_IS_9"), (0, .fieldref 7 35), (0, .nameAndType 36 12), (0, u "SORTING_CODE_090126"), (0, .fieldref 7 38), (0, .nameAndType 39 12), (0, u "SORTING_CODE_309634"), (0, .fieldref 7 41), (0, .nameAndType 42 12), (0, u "EITHER_ZERO_U_TO_B_WHEN_AB_IS_09_OR_99_AND_G_IS_9"), (0, .fieldref 7 44), (0, .nameAndType 45 12), (0, u "EITHER"), (0, .fieldref 7 47), (0, .nameAndType 48 12), (0, u "AGAIN_WITHOUT_H_WHEN_H_IS_0_1_OR_9"), (0, .methodref 7 50), (0, .nameAndType 51 52), (0, u "of"), (0, u "(I)Lcom/example/banksum/banksum/uk/ExceptionRule;"), (0, .methodref 54 55), (0, .class_ 56), (0, .nameAndType 57 58), (0, u "com/example/banksum/banksum/uk/ExceptionRuleOfPinLaw"), (0, u "index"), (0, u "(I)I"), (0, .methodref 7 60), (0, .nameAndType 61 58), (0, u "total"), (0, .methodref 7 63), (0, .nameAndType 64 65), (0, u "eitherPasses"), (0, u "()Z"), (0, .methodref 7 67), (0, .nameAndType 68 69), (0, u "foreignCurrency"), (0, u "([I)Z"), (2, u "law"), (0, u "(III)Z")] 7

def k1m0 : Method := { name := "<init>", desc := "()V", sig := { parameters := [], returnType := none }, accessFlags := 2, code := none }
def k1c1 : Code := { maxStack := 4, maxLocals := 12, code := code, exceptionTable := #[], attributes := #[] }
def k1m1 : Method := { name := "law", desc := "(III)Z", sig := { parameters := [.int, .int, .int], returnType := some .boolean }, accessFlags := 9, code := some k1c1 }
def k1c2 : Code := { maxStack := 2, maxLocals := 1, code := method_3_code, exceptionTable := #[], attributes := #[] }
def k1m2 : Method := { name := "index", desc := "(I)I", sig := { parameters := [.int], returnType := some .int }, accessFlags := 10, code := some k1c2 }
/-- com/example/banksum/banksum/uk/ExceptionRuleOfPinLaw -/
def k1 : Class := { plain "com/example/banksum/banksum/uk/ExceptionRuleOfPinLaw" (some 0) with
  accessFlags := 49
  interfaces := #[]
  cf := some (fileOf pool1 54 #[] #[{ accessFlags := 2, nameIndex := 5, descriptorIndex := 6, attributes := #[] }, { accessFlags := 9, nameIndex := 72, descriptorIndex := 73, attributes := #[] }, { accessFlags := 10, nameIndex := 57, descriptorIndex := 58, attributes := #[] }] 49 2 #[] #[])
  fields := #[]
  methods := #[k1m0, k1m1, k1m2]
  instanceTypes := #[]
  staticTypes := #[]
  resolved := Array.replicate 81 none
  statics := none }

def pool2 : Array CpInfo := pool [(1, .class_ 2), (0, u "java/lang/constant/Constable"), (0, .class_ 4), (0, u "java/lang/Object")] 6

/-- java/lang/constant/Constable -/
def k2 : Class := { plain "java/lang/constant/Constable" (some 0) with
  accessFlags := 1537
  interfaces := #[]
  cf := some (fileOf pool2 1 #[] #[] 1537 3 #[] #[])
  fields := #[]
  methods := #[]
  instanceTypes := #[]
  staticTypes := #[]
  resolved := Array.replicate 11 none
  statics := none }

def pool3 : Array CpInfo := pool [(1, .class_ 2), (0, u "java/lang/Comparable"), (0, .class_ 4), (0, u "java/lang/Object")] 7

/-- java/lang/Comparable -/
def k3 : Class := { plain "java/lang/Comparable" (some 0) with
  accessFlags := 1537
  interfaces := #[]
  cf := some (fileOf pool3 1 #[] #[] 1537 3 #[] #[])
  fields := #[]
  methods := #[]
  instanceTypes := #[]
  staticTypes := #[]
  resolved := Array.replicate 12 none
  statics := none }

def pool4 : Array CpInfo := pool [(1, .class_ 2), (0, u "java/io/Serializable"), (0, .class_ 4), (0, u "java/lang/Object")] 2

/-- java/io/Serializable -/
def k4 : Class := { plain "java/io/Serializable" (some 0) with
  accessFlags := 1537
  interfaces := #[]
  cf := some (fileOf pool4 1 #[] #[] 1537 3 #[] #[])
  fields := #[]
  methods := #[]
  instanceTypes := #[]
  staticTypes := #[]
  resolved := Array.replicate 7 none
  statics := none }

def pool5 : Array CpInfo := pool [(2, .class_ 4), (1, u "java/lang/Enum"), (0, u "name"), (0, u "Ljava/lang/String;"), (2, u "ordinal"), (0, u "I"), (1, .class_ 14), (1, u "java/lang/Object"), (4, u "hash"), (86, .class_ 108), (1, u "java/lang/Enum$EnumDesc"), (2, .class_ 112), (0, u "java/lang/constant/Constable"), (0, .class_ 114), (0, u "java/lang/Comparable"), (0, .class_ 116), (0, u "java/io/Serializable")] 87

/-- java/lang/Enum -/
def k5 : Class := { plain "java/lang/Enum" (some 0) with
  accessFlags := 1057
  interfaces := #[2, 3, 4]
  cf := some (fileOf pool5 2 #[.nestMembers #[106]] #[] 1057 12 #[111, 113, 115] #[{ accessFlags := 18, nameIndex := 5, descriptorIndex := 6, attributes := #[] }, { accessFlags := 18, nameIndex := 9, descriptorIndex := 10, attributes := #[] }, { accessFlags := 2, nameIndex := 19, descriptorIndex := 10, attributes := #[] }])
  fields := #[{ name := "name", type := (.object "java/lang/String"), accessFlags := 18, slot := 0, constantValue := 0 }, { name := "ordinal", type := .int, accessFlags := 18, slot := 1, constantValue := 0 }, { name := "hash", type := .int, accessFlags := 2, slot := 2, constantValue := 0 }]
  methods := #[]
  instanceTypes := #[(.object "java/lang/String"), .int, .int]
  staticTypes := #[]
  resolved := Array.replicate 204 none
  statics := none }

def pool6 : Array CpInfo := pool [(1, .class_ 2), (0, u "com/example/banksum/banksum/uk/ExceptionRule"), (0, .fieldref 1 4), (0, .nameAndType 5 6), (0, u "NONE"), (0, u "Lcom/example/banksum/banksum/uk/ExceptionRule;"), (0, .fieldref 1 8), (0, .nameAndType 9 6), (0, u "ADD_27"), (0, .fieldref 1 11), (0, .nameAndType 12 6), (0, u "EITHER_WEIGHTS_BY_A_AND_G"), (0, .fieldref 1 14), (0, .nameAndType 15 6), (0, u "SKIP_WHEN_C_IS_6_OR_9"), (0, .fieldref 1 17), (0, .nameAndType 18 6), (0, u "REMAINDER_IS_GH"), (0, .fieldref 1 20), (0, .nameAndType 21 6), (0, u "SUBSTITUTE_AND_CHECK_DIGIT"), (0, .fieldref 1 23), (0, .nameAndType 24 6), (0, u "FOREIGN_CURRENCY"), (0, .fieldref 1 26), (0, .nameAndType 27 6), (0, u "ZERO_U_TO_B_WHEN_G_IS_9"), (0, .fieldref 1 29), (0, .nameAndType 30 6), (0, u "SORTING_CODE_090126"), (0, .fieldref 1 32), (0, .nameAndType 33 6), (0, u "SORTING_CODE_309634"), (0, .fieldref 1 35), (0, .nameAndType 36 6), (0, u "EITHER_ZERO_U_TO_B_WHEN_AB_IS_09_OR_99_AND_G_IS_9"), (0, .fieldref 1 38), (0, .nameAndType 39 6), (0, u "EITHER"), (0, .fieldref 1 41), (0, .nameAndType 42 6), (0, u "AGAIN_WITHOUT_H_WHEN_H_IS_0_1_OR_9"), (2, u "$VALUES"), (0, u "[Lcom/example/banksum/banksum/uk/ExceptionRule;"), (6, .class_ 55), (1, u "java/lang/Enum"), (8, u "[I"), (14, .class_ 80), (0, u "com/example/banksum/banksum/uk/ExceptionRule$1"), (2, .class_ 84), (0, u "com/example/banksum/banksum/uk/ExceptionRule$2"), (2, .class_ 88), (0, u "com/example/banksum/banksum/uk/ExceptionRule$3"), (2, .class_ 92), (0, u "com/example/banksum/banksum/uk/ExceptionRule$4"), (2, .class_ 96), (0, u "com/example/banksum/banksum/uk/ExceptionRule$5"), (2, .class_ 100), (0, u "com/example/banksum/banksum/uk/ExceptionRule$6"), (2, .class_ 104), (0, u "com/example/banksum/banksum/uk/ExceptionRule$7"), (2, .class_ 108), (0, u "com/example/banksum/banksum/uk/ExceptionRule$8"), (2, .class_ 112), (0, u "com/example/banksum/banksum/uk/ExceptionRule$9"), (2, .class_ 116), (0, u "com/example/banksum/banksum/uk/ExceptionRule$10"), (2, .class_ 120), (0, u "com/example/banksum/banksum/uk/ExceptionRule$11"), (2, .class_ 124), (0, u "com/example/banksum/banksum/uk/ExceptionRule$12"), (8, u "EXCEPTION_8_SORTING_CODE"), (2, u "EXCEPTION_9_SORTING_CODE"), (2, u "EXCEPTION_2_WEIGHTS"), (6, u "EXCEPTION_2_WEIGHTS_G_9"), (8, u "of"), (3, u "C_IS_6_OR_9"), (0, u "Ljava/util/Optional;"), (0, u "A"), (0, u "I"), (2, u "B"), (1, u "C"), (1, u "G"), (1, u "H"), (1, u "U_TO_B"), (9, u "(I)Lcom/example/banksum/banksum/uk/ExceptionRule;"), (1, u "foreignCurrency"), (0, u "([I)Z"), (3, u "eitherPasses"), (0, u "()Z"), (6, u "total"), (0, u "(I)I")] 12

def k6c0 : Code := { maxStack := 1, maxLocals := 1, code := prog_84_method_4_code, exceptionTable := #[], attributes := #[] }
def k6m0 : Method := { name := "of", desc := "(I)Lcom/example/banksum/banksum/uk/ExceptionRule;", sig := { parameters := [.int], returnType := some (.object "com/example/banksum/banksum/uk/ExceptionRule") }, accessFlags := 8, code := some k6c0 }
def k6c1 : Code := { maxStack := 1, maxLocals := 2, code := prog_84_method_6_code, exceptionTable := #[], attributes := #[] }
def k6m1 : Method := { name := "foreignCurrency", desc := "([I)Z", sig := { parameters := [(.array .int)], returnType := some .boolean }, accessFlags := 0, code := some k6c1 }
def k6c2 : Code := { maxStack := 1, maxLocals := 1, code := prog_84_method_8_code, exceptionTable := #[], attributes := #[] }
def k6m2 : Method := { name := "eitherPasses", desc := "()Z", sig := { parameters := [], returnType := some .boolean }, accessFlags := 0, code := some k6c2 }
def k6c3 : Code := { maxStack := 1, maxLocals := 2, code := prog_84_method_12_code, exceptionTable := #[], attributes := #[] }
def k6m3 : Method := { name := "total", desc := "(I)I", sig := { parameters := [.int], returnType := some .int }, accessFlags := 0, code := some k6c3 }
/-- com/example/banksum/banksum/uk/ExceptionRule -/
def k6 : Class := { plain "com/example/banksum/banksum/uk/ExceptionRule" (some 5) with
  accessFlags := 16416
  interfaces := #[]
  cf := some (fileOf pool6 1 #[.nestMembers #[123, 119, 115, 111, 107, 103, 99, 95, 91, 87, 83, 79]] #[{ accessFlags := 8, nameIndex := 155, descriptorIndex := 183, attributes := #[] }, { accessFlags := 0, nameIndex := 185, descriptorIndex := 186, attributes := #[] }, { accessFlags := 0, nameIndex := 190, descriptorIndex := 191, attributes := #[] }, { accessFlags := 0, nameIndex := 198, descriptorIndex := 199, attributes := #[] }] 16416 53 #[] #[{ accessFlags := 16409, nameIndex := 5, descriptorIndex := 6, attributes := #[] }, { accessFlags := 16409, nameIndex := 9, descriptorIndex := 6, attributes := #[] }, { accessFlags := 16409, nameIndex := 12, descriptorIndex := 6, attributes := #[] }, { accessFlags := 16409, nameIndex := 15, descriptorIndex := 6, attributes := #[] }, { accessFlags := 16409, nameIndex := 18, descriptorIndex := 6, attributes := #[] }, { accessFlags := 16409, nameIndex := 21, descriptorIndex := 6, attributes := #[] }, { accessFlags := 16409, nameIndex := 24, descriptorIndex := 6, attributes := #[] }, { accessFlags := 16409, nameIndex := 27, descriptorIndex := 6, attributes := #[] }, { accessFlags := 16409, nameIndex := 30, descriptorIndex := 6, attributes := #[] }, { accessFlags := 16409, nameIndex := 33, descriptorIndex := 6, attributes := #[] }, { accessFlags := 16409, nameIndex := 36, descriptorIndex := 6, attributes := #[] }, { accessFlags := 16409, nameIndex := 39, descriptorIndex := 6, attributes := #[] }, { accessFlags := 16409, nameIndex := 42, descriptorIndex := 6, attributes := #[] }, { accessFlags := 26, nameIndex := 161, descriptorIndex := 162, attributes := #[] }, { accessFlags := 26, nameIndex := 165, descriptorIndex := 162, attributes := #[] }, { accessFlags := 26, nameIndex := 167, descriptorIndex := 162, attributes := #[] }, { accessFlags := 26, nameIndex := 169, descriptorIndex := 162, attributes := #[] }, { accessFlags := 26, nameIndex := 171, descriptorIndex := 162, attributes := #[] }, { accessFlags := 26, nameIndex := 173, descriptorIndex := 162, attributes := #[] }, { accessFlags := 26, nameIndex := 133, descriptorIndex := 64, attributes := #[] }, { accessFlags := 26, nameIndex := 136, descriptorIndex := 64, attributes := #[] }, { accessFlags := 26, nameIndex := 139, descriptorIndex := 64, attributes := #[] }, { accessFlags := 26, nameIndex := 146, descriptorIndex := 64, attributes := #[] }, { accessFlags := 26, nameIndex := 159, descriptorIndex := 160, attributes := #[] }, { accessFlags := 4122, nameIndex := 45, descriptorIndex := 46, attributes := #[] }])
  fields := #[{ name := "NONE", type := (.object "com/example/banksum/banksum/uk/ExceptionRule"), accessFlags := 16409, slot := 0, constantValue := 0 }, { name := "ADD_27", type := (.object "com/example/banksum/banksum/uk/ExceptionRule"), accessFlags := 16409, slot := 1, constantValue := 0 }, { name := "EITHER_WEIGHTS_BY_A_AND_G", type := (.object "com/example/banksum/banksum/uk/ExceptionRule"), accessFlags := 16409, slot := 2, constantValue := 0 }, { name := "SKIP_WHEN_C_IS_6_OR_9", type := (.object "com/example/banksum/banksum/uk/ExceptionRule"), accessFlags := 16409, slot := 3, constantValue := 0 }, { name := "REMAINDER_IS_GH", type := (.object "com/example/banksum/banksum/uk/ExceptionRule"), accessFlags := 16409, slot := 4, constantValue := 0 }, { name := "SUBSTITUTE_AND_CHECK_DIGIT", type := (.object "com/example/banksum/banksum/uk/ExceptionRule"), accessFlags := 16409, slot := 5, constantValue := 0 }, { name := "FOREIGN_CURRENCY", type := (.object "com/example/banksum/banksum/uk/ExceptionRule"), accessFlags := 16409, slot := 6, constantValue := 0 }, { name := "ZERO_U_TO_B_WHEN_G_IS_9", type := (.object "com/example/banksum/banksum/uk/ExceptionRule"), accessFlags := 16409, slot := 7, constantValue := 0 }, { name := "SORTING_CODE_090126", type := (.object "com/example/banksum/banksum/uk/ExceptionRule"), accessFlags := 16409, slot := 8, constantValue := 0 }, { name := "SORTING_CODE_309634", type := (.object "com/example/banksum/banksum/uk/ExceptionRule"), accessFlags := 16409, slot := 9, constantValue := 0 }, { name := "EITHER_ZERO_U_TO_B_WHEN_AB_IS_09_OR_99_AND_G_IS_9", type := (.object "com/example/banksum/banksum/uk/ExceptionRule"), accessFlags := 16409, slot := 10, constantValue := 0 }, { name := "EITHER", type := (.object "com/example/banksum/banksum/uk/ExceptionRule"), accessFlags := 16409, slot := 11, constantValue := 0 }, { name := "AGAIN_WITHOUT_H_WHEN_H_IS_0_1_OR_9", type := (.object "com/example/banksum/banksum/uk/ExceptionRule"), accessFlags := 16409, slot := 12, constantValue := 0 }, { name := "A", type := .int, accessFlags := 26, slot := 13, constantValue := 0 }, { name := "B", type := .int, accessFlags := 26, slot := 14, constantValue := 0 }, { name := "C", type := .int, accessFlags := 26, slot := 15, constantValue := 0 }, { name := "G", type := .int, accessFlags := 26, slot := 16, constantValue := 0 }, { name := "H", type := .int, accessFlags := 26, slot := 17, constantValue := 0 }, { name := "U_TO_B", type := .int, accessFlags := 26, slot := 18, constantValue := 0 }, { name := "EXCEPTION_8_SORTING_CODE", type := (.array .int), accessFlags := 26, slot := 19, constantValue := 0 }, { name := "EXCEPTION_9_SORTING_CODE", type := (.array .int), accessFlags := 26, slot := 20, constantValue := 0 }, { name := "EXCEPTION_2_WEIGHTS", type := (.array .int), accessFlags := 26, slot := 21, constantValue := 0 }, { name := "EXCEPTION_2_WEIGHTS_G_9", type := (.array .int), accessFlags := 26, slot := 22, constantValue := 0 }, { name := "C_IS_6_OR_9", type := (.object "java/util/Optional"), accessFlags := 26, slot := 23, constantValue := 0 }, { name := "$VALUES", type := (.array (.object "com/example/banksum/banksum/uk/ExceptionRule")), accessFlags := 4122, slot := 24, constantValue := 0 }]
  methods := #[k6m0, k6m1, k6m2, k6m3]
  instanceTypes := #[(.object "java/lang/String"), .int, .int]
  staticTypes := #[(.object "com/example/banksum/banksum/uk/ExceptionRule"), (.object "com/example/banksum/banksum/uk/ExceptionRule"), (.object "com/example/banksum/banksum/uk/ExceptionRule"), (.object "com/example/banksum/banksum/uk/ExceptionRule"), (.object "com/example/banksum/banksum/uk/ExceptionRule"), (.object "com/example/banksum/banksum/uk/ExceptionRule"), (.object "com/example/banksum/banksum/uk/ExceptionRule"), (.object "com/example/banksum/banksum/uk/ExceptionRule"), (.object "com/example/banksum/banksum/uk/ExceptionRule"), (.object "com/example/banksum/banksum/uk/ExceptionRule"), (.object "com/example/banksum/banksum/uk/ExceptionRule"), (.object "com/example/banksum/banksum/uk/ExceptionRule"), (.object "com/example/banksum/banksum/uk/ExceptionRule"), .int, .int, .int, .int, .int, .int, (.array .int), (.array .int), (.array .int), (.array .int), (.object "java/util/Optional"), (.array (.object "com/example/banksum/banksum/uk/ExceptionRule"))]
  resolved := Array.replicate 212 none
  statics := some 0 }

def pool7 : Array CpInfo := pool [(2, .class_ 4), (1, u "com/example/banksum/banksum/uk/ExceptionRule"), (2, .class_ 8), (0, u "com/example/banksum/banksum/uk/ExceptionRule$1"), (3, u "total"), (0, u "(I)I")] 5

def k7c0 : Code := { maxStack := 2, maxLocals := 2, code := prog_85_method_2_code, exceptionTable := #[], attributes := #[] }
def k7m0 : Method := { name := "total", desc := "(I)I", sig := { parameters := [.int], returnType := some .int }, accessFlags := 0, code := some k7c0 }
/-- com/example/banksum/banksum/uk/ExceptionRule$1 -/
def k7 : Class := { plain "com/example/banksum/banksum/uk/ExceptionRule$1" (some 6) with
  accessFlags := 16432
  interfaces := #[]
  cf := some (fileOf pool7 7 #[.nestHost 2] #[{ accessFlags := 0, nameIndex := 12, descriptorIndex := 13, attributes := #[] }] 16432 2 #[] #[])
  fields := #[]
  methods := #[k7m0]
  instanceTypes := #[(.object "java/lang/String"), .int, .int]
  staticTypes := #[]
  resolved := Array.replicate 19 none
  statics := none }

def pool8 : Array CpInfo := pool [(1, .class_ 2), (0, u "com/example/banksum/banksum/uk/ExceptionRule"), (11, .class_ 15), (0, u "com/example/banksum/banksum/uk/ExceptionRule$2"), (7, u "eitherPasses"), (0, u "()Z")] 5

def k8c0 : Code := { maxStack := 1, maxLocals := 1, code := prog_89_method_3_code, exceptionTable := #[], attributes := #[] }
def k8m0 : Method := { name := "eitherPasses", desc := "()Z", sig := { parameters := [], returnType := some .boolean }, accessFlags := 0, code := some k8c0 }
/-- com/example/banksum/banksum/uk/ExceptionRule$2 -/
def k8 : Class := { plain "com/example/banksum/banksum/uk/ExceptionRule$2" (some 6) with
  accessFlags := 16432
  interfaces := #[]
  cf := some (fileOf pool8 14 #[.nestHost 1] #[{ accessFlags := 0, nameIndex := 23, descriptorIndex := 24, attributes := #[] }] 16432 1 #[] #[])
  fields := #[]
  methods := #[k8m0]
  instanceTypes := #[(.object "java/lang/String"), .int, .int]
  staticTypes := #[]
  resolved := Array.replicate 30 none
  statics := none }

def pool9 : Array CpInfo := pool [(1, .class_ 2), (0, u "com/example/banksum/banksum/uk/ExceptionRule"), (14, .class_ 18), (0, u "com/example/banksum/banksum/uk/ExceptionRule$3")] 18

/-- com/example/banksum/banksum/uk/ExceptionRule$3 -/
def k9 : Class := { plain "com/example/banksum/banksum/uk/ExceptionRule$3" (some 6) with
  accessFlags := 16432
  interfaces := #[]
  cf := some (fileOf pool9 17 #[.nestHost 1] #[] 16432 1 #[] #[])
  fields := #[]
  methods := #[]
  instanceTypes := #[(.object "java/lang/String"), .int, .int]
  staticTypes := #[]
  resolved := Array.replicate 37 none
  statics := none }

def pool10 : Array CpInfo := pool [(1, .class_ 2), (0, u "com/example/banksum/banksum/uk/ExceptionRule"), (4, .class_ 8), (0, u "com/example/banksum/banksum/uk/ExceptionRule$4")] 11

/-- com/example/banksum/banksum/uk/ExceptionRule$4 -/
def k10 : Class := { plain "com/example/banksum/banksum/uk/ExceptionRule$4" (some 6) with
  accessFlags := 16432
  interfaces := #[]
  cf := some (fileOf pool10 7 #[.nestHost 1] #[] 16432 1 #[] #[])
  fields := #[]
  methods := #[]
  instanceTypes := #[(.object "java/lang/String"), .int, .int]
  staticTypes := #[]
  resolved := Array.replicate 20 none
  statics := none }

def pool11 : Array CpInfo := pool [(1, .class_ 2), (0, u "com/example/banksum/banksum/uk/ExceptionRule"), (30, .class_ 34), (0, u "com/example/banksum/banksum/uk/ExceptionRule$5")] 15

/-- com/example/banksum/banksum/uk/ExceptionRule$5 -/
def k11 : Class := { plain "com/example/banksum/banksum/uk/ExceptionRule$5" (some 6) with
  accessFlags := 16432
  interfaces := #[]
  cf := some (fileOf pool11 33 #[.nestHost 1] #[] 16432 1 #[] #[])
  fields := #[]
  methods := #[]
  instanceTypes := #[(.object "java/lang/String"), .int, .int]
  staticTypes := #[]
  resolved := Array.replicate 50 none
  statics := none }

def pool12 : Array CpInfo := pool [(1, .class_ 2), (0, u "com/example/banksum/banksum/uk/ExceptionRule"), (4, .class_ 8), (0, u "com/example/banksum/banksum/uk/ExceptionRule$6"), (3, u "foreignCurrency"), (0, u "([I)Z")] 6

def k12c0 : Code := { maxStack := 3, maxLocals := 2, code := prog_93_method_2_code, exceptionTable := #[], attributes := #[] }
def k12m0 : Method := { name := "foreignCurrency", desc := "([I)Z", sig := { parameters := [(.array .int)], returnType := some .boolean }, accessFlags := 0, code := some k12c0 }
/-- com/example/banksum/banksum/uk/ExceptionRule$6 -/
def k12 : Class := { plain "com/example/banksum/banksum/uk/ExceptionRule$6" (some 6) with
  accessFlags := 16432
  interfaces := #[]
  cf := some (fileOf pool12 7 #[.nestHost 1] #[{ accessFlags := 0, nameIndex := 12, descriptorIndex := 13, attributes := #[] }] 16432 1 #[] #[])
  fields := #[]
  methods := #[k12m0]
  instanceTypes := #[(.object "java/lang/String"), .int, .int]
  staticTypes := #[]
  resolved := Array.replicate 20 none
  statics := none }

def pool13 : Array CpInfo := pool [(1, .class_ 2), (0, u "com/example/banksum/banksum/uk/ExceptionRule"), (8, .class_ 12), (0, u "com/example/banksum/banksum/uk/ExceptionRule$7")] 13

/-- com/example/banksum/banksum/uk/ExceptionRule$7 -/
def k13 : Class := { plain "com/example/banksum/banksum/uk/ExceptionRule$7" (some 6) with
  accessFlags := 16432
  interfaces := #[]
  cf := some (fileOf pool13 11 #[.nestHost 1] #[] 16432 1 #[] #[])
  fields := #[]
  methods := #[]
  instanceTypes := #[(.object "java/lang/String"), .int, .int]
  staticTypes := #[]
  resolved := Array.replicate 26 none
  statics := none }

def pool14 : Array CpInfo := pool [(2, .class_ 4), (1, u "com/example/banksum/banksum/uk/ExceptionRule"), (6, .class_ 12), (0, u "com/example/banksum/banksum/uk/ExceptionRule$8")] 10

/-- com/example/banksum/banksum/uk/ExceptionRule$8 -/
def k14 : Class := { plain "com/example/banksum/banksum/uk/ExceptionRule$8" (some 6) with
  accessFlags := 16432
  interfaces := #[]
  cf := some (fileOf pool14 11 #[.nestHost 2] #[] 16432 2 #[] #[])
  fields := #[]
  methods := #[]
  instanceTypes := #[(.object "java/lang/String"), .int, .int]
  staticTypes := #[]
  resolved := Array.replicate 23 none
  statics := none }

def pool15 : Array CpInfo := pool [(2, .class_ 4), (1, u "com/example/banksum/banksum/uk/ExceptionRule"), (6, .class_ 12), (0, u "com/example/banksum/banksum/uk/ExceptionRule$9")] 10

/-- com/example/banksum/banksum/uk/ExceptionRule$9 -/
def k15 : Class := { plain "com/example/banksum/banksum/uk/ExceptionRule$9" (some 6) with
  accessFlags := 16432
  interfaces := #[]
  cf := some (fileOf pool15 11 #[.nestHost 2] #[] 16432 2 #[] #[])
  fields := #[]
  methods := #[]
  instanceTypes := #[(.object "java/lang/String"), .int, .int]
  staticTypes := #[]
  resolved := Array.replicate 23 none
  statics := none }

def pool16 : Array CpInfo := pool [(1, .class_ 2), (0, u "com/example/banksum/banksum/uk/ExceptionRule"), (8, .class_ 12), (0, u "com/example/banksum/banksum/uk/ExceptionRule$10"), (8, u "eitherPasses"), (0, u "()Z")] 5

def k16c0 : Code := { maxStack := 1, maxLocals := 1, code := prog_86_method_3_code, exceptionTable := #[], attributes := #[] }
def k16m0 : Method := { name := "eitherPasses", desc := "()Z", sig := { parameters := [], returnType := some .boolean }, accessFlags := 0, code := some k16c0 }
/-- com/example/banksum/banksum/uk/ExceptionRule$10 -/
def k16 : Class := { plain "com/example/banksum/banksum/uk/ExceptionRule$10" (some 6) with
  accessFlags := 16432
  interfaces := #[]
  cf := some (fileOf pool16 11 #[.nestHost 1] #[{ accessFlags := 0, nameIndex := 21, descriptorIndex := 22, attributes := #[] }] 16432 1 #[] #[])
  fields := #[]
  methods := #[k16m0]
  instanceTypes := #[(.object "java/lang/String"), .int, .int]
  staticTypes := #[]
  resolved := Array.replicate 28 none
  statics := none }

def pool17 : Array CpInfo := pool [(2, .class_ 4), (1, u "com/example/banksum/banksum/uk/ExceptionRule"), (2, .class_ 8), (0, u "com/example/banksum/banksum/uk/ExceptionRule$11"), (3, u "eitherPasses"), (0, u "()Z")] 5

def k17c0 : Code := { maxStack := 1, maxLocals := 1, code := prog_87_method_2_code, exceptionTable := #[], attributes := #[] }
def k17m0 : Method := { name := "eitherPasses", desc := "()Z", sig := { parameters := [], returnType := some .boolean }, accessFlags := 0, code := some k17c0 }
/-- com/example/banksum/banksum/uk/ExceptionRule$11 -/
def k17 : Class := { plain "com/example/banksum/banksum/uk/ExceptionRule$11" (some 6) with
  accessFlags := 16432
  interfaces := #[]
  cf := some (fileOf pool17 7 #[.nestHost 2] #[{ accessFlags := 0, nameIndex := 12, descriptorIndex := 13, attributes := #[] }] 16432 2 #[] #[])
  fields := #[]
  methods := #[k17m0]
  instanceTypes := #[(.object "java/lang/String"), .int, .int]
  staticTypes := #[]
  resolved := Array.replicate 19 none
  statics := none }

def pool18 : Array CpInfo := pool [(1, .class_ 2), (0, u "com/example/banksum/banksum/uk/ExceptionRule"), (20, .class_ 24), (0, u "com/example/banksum/banksum/uk/ExceptionRule$12")] 13

/-- com/example/banksum/banksum/uk/ExceptionRule$12 -/
def k18 : Class := { plain "com/example/banksum/banksum/uk/ExceptionRule$12" (some 6) with
  accessFlags := 16432
  interfaces := #[]
  cf := some (fileOf pool18 23 #[.nestHost 1] #[] 16432 1 #[] #[])
  fields := #[]
  methods := #[]
  instanceTypes := #[(.object "java/lang/String"), .int, .int]
  staticTypes := #[]
  resolved := Array.replicate 38 none
  statics := none }

def pool19 : Array CpInfo := pool [(1, u "java/lang/Cloneable"), (0, .class_ 1), (0, u "java/lang/Object"), (0, .class_ 3)] 3

/-- java/lang/Cloneable -/
def k19 : Class := { plain "java/lang/Cloneable" (some 0) with
  accessFlags := 1537
  interfaces := #[]
  cf := some (fileOf pool19 2 #[] #[] 1537 4 #[] #[])
  fields := #[]
  methods := #[]
  instanceTypes := #[]
  staticTypes := #[]
  resolved := Array.replicate 8 none
  statics := none }

/-- the primitive byte -/
def k20 : Class := { plain "byte" none with kind := .primitive 'B', accessFlags := 0x411 }
/-- [B -/
def k21 : Class := { plain "[B" (some 0) with kind := .array 20 .byte, interfaces := #[19, 4], accessFlags := 1041 }

/-- the primitive int -/
def k22 : Class := { plain "int" none with kind := .primitive 'I', accessFlags := 0x411 }
/-- [I -/
def k23 : Class := { plain "[I" (some 0) with kind := .array 22 .int, interfaces := #[19, 4], accessFlags := 1041 }

/-- [Lcom/example/banksum/banksum/uk/ExceptionRule; -/
def k24 : Class := { plain "[Lcom/example/banksum/banksum/uk/ExceptionRule;" (some 0) with kind := .array 6 (.object "com/example/banksum/banksum/uk/ExceptionRule"), interfaces := #[19, 4], accessFlags := 1041 }

def heap : Heap := #[{ cls := 6, slots := #[.ref 1, .ref 2, .ref 3, .ref 4, .ref 5, .ref 6, .ref 7, .ref 8, .ref 9, .ref 10, .ref 11, .ref 12, .ref 13, .int 0, .int 0, .int 0, .int 0, .int 0, .int 0, .null, .null, .null, .null, .null, .null], vm := .statics 6 },
  { cls := 6, slots := #[.null, .int 0, .int 0], vm := .none },
  { cls := 7, slots := #[.null, .int 1, .int 0], vm := .none },
  { cls := 8, slots := #[.null, .int 2, .int 0], vm := .none },
  { cls := 9, slots := #[.null, .int 3, .int 0], vm := .none },
  { cls := 10, slots := #[.null, .int 4, .int 0], vm := .none },
  { cls := 11, slots := #[.null, .int 5, .int 0], vm := .none },
  { cls := 12, slots := #[.null, .int 6, .int 0], vm := .none },
  { cls := 13, slots := #[.null, .int 7, .int 0], vm := .none },
  { cls := 14, slots := #[.null, .int 8, .int 0], vm := .none },
  { cls := 15, slots := #[.null, .int 9, .int 0], vm := .none },
  { cls := 16, slots := #[.null, .int 10, .int 0], vm := .none },
  { cls := 17, slots := #[.null, .int 11, .int 0], vm := .none },
  { cls := 18, slots := #[.null, .int 12, .int 0], vm := .none }]
def classes : Array Class := #[k0, k1, k2, k3, k4, k5, k6, k7, k8, k9, k10, k11, k12, k13, k14, k15, k16, k17, k18, k19, k20, k21, k22, k23, k24]
def interned : List (Array UInt16 × Addr) := []
def slotsUsed : Nat := 64
def theMethod : MethodId := ⟨1, 1⟩
def args0 : Array Value := #[.int 5, .int 300, .int 77]
def aboutOver (below : List Frame) : State where
  vm := { classes := classes, interned := interned.toArray }
  heap := heap
  slotsUsed := slotsUsed
  threads := #[{ frames := .invoking theMethod args0 :: below }]
def below0 : List Frame := [.native { method := ⟨0, 0⟩, args := #[] }]
def about1 : State := aboutOver below0
def p0 : Program := .bare "" "" ""
def e0 : Env := launch0.env 0 0 0
theorem w_frames : about1.frames = Frame.invoking theMethod args0 :: below0 := rfl
set_option maxRecDepth 65536 in
theorem w_args : argsFit about1.vm theMethod args0 = true := by decide +kernel
set_option maxRecDepth 65536 in
theorem w_heap : heapFits about1 = true := by decide +kernel
set_option maxRecDepth 65536 in
theorem w_runnable : about1.curStatus? = some .runnable := by decide +kernel
set_option maxRecDepth 65536 in
theorem w_alone : about1.alone = true := by decide +kernel
set_option maxRecDepth 65536 in
theorem w_named : about1.methodNamed? x = some theMethod := by decide +kernel
set_option maxRecDepth 65536 in
theorem w_hears : about1.hears theMethod below0 = true := by decide +kernel
set_option maxRecDepth 65536 in
theorem w_ripe : about1.ripe theMethod args0 below0 = true := by decide +kernel
theorem w_running : about1.status = .running := rfl
set_option maxRecDepth 65536 in
theorem w_room : about1.hasRoom e0.platform room_1 = true :=
  launch0.hasRoom_least _ room_1 (by decide +kernel) (by decide +kernel) (by decide +kernel) (by decide +kernel) (by decide +kernel) (by decide +kernel)
theorem allAtoms_all (ts : List Jvm.Cond) (a : Array Jvm.Value) (st : Jvm.State) : (allAtoms ts).before a st = ts.all (fun c => c.before a st) := by
  induction ts with
  | nil => rfl
  | cons c t ih =>
    show (Jvm.Cond.and c (allAtoms t)).before a st = _
    rw [Jvm.Cond.before_and, ih, List.all_cons]
def words1 : List Jvm.Cond := Jvm.Cond.code x code maxLocals ret :: tables_1
/-- a 'code' word, met by the world's own term for the bytes: nothing is compared byte by byte -/
theorem code_word {y : MethodName} {bytes : ByteArray} {mx : Nat} {rt : Option FieldType} {a : Array Value} {s : State} {m : MethodId} {meth : Method} {c : Code} (h1 : s.methodNamed? y = some m) (h2 : s.vm.method? m = some meth) (h3 : meth.code = some c) (h4 : c.code = bytes)
    (h5 : (c.maxLocals == mx && c.exceptionTable.isEmpty && decide (c.maxStack ≤ mostOperands) && decide (meth.sig.returnType = rt) && !meth.locks && decide (parseMethodDescriptor y.desc = some meth.sig)) = true) : (Jvm.Cond.code y bytes mx rt).before a s = true := by
  simp only [Bool.and_eq_true, beq_iff_eq, Bool.not_eq_true', decide_eq_true_eq] at h5
  obtain ⟨⟨⟨⟨⟨g1, g2⟩, g3⟩, g4⟩, g5⟩, g6⟩ := h5
  simp [Cond.before, Cond.holds, Cond.value, h1, h2, h3, h4, g1, g2, g3, g4, g5, g6]
def isCode : Jvm.Cond → Bool
  | .code _ _ _ _ => true
  | _ => false
theorem all_split {L : List Jvm.Cond} {P : Jvm.Cond → Bool} (h1 : L.all (fun c => isCode c || P c) = true) (h2 : ∀ c ∈ L.filter isCode, P c = true) : L.all P = true := by
  refine List.all_eq_true.mpr fun c hc => ?_
  have h := List.all_eq_true.mp h1 c hc
  rcases Bool.eq_false_or_eq_true (isCode c) with hi | hi
  · exact h2 c (List.mem_filter.mpr ⟨hc, hi⟩)
  · simpa [hi] using h
set_option maxRecDepth 65536 in
theorem w_c0 : (Jvm.Cond.code x code maxLocals ret).before args0 about1 = true := code_word (m := ⟨1, 1⟩) (meth := k1m1) (c := k1c1) (by decide +kernel) rfl rfl rfl (by decide +kernel)
set_option maxRecDepth 65536 in
theorem w_c1 : (Jvm.Cond.code ({ cls := "com/example/banksum/banksum/uk/ExceptionRule", name := "of", desc := "(I)Lcom/example/banksum/banksum/uk/ExceptionRule;" } : Jvm.MethodName) prog_84_method_4_code (1 : Nat) (Option.some (Jvm.ClassFile.FieldType.object "com/example/banksum/banksum/uk/ExceptionRule"))).before args0 about1 = true := code_word (m := ⟨6, 0⟩) (meth := k6m0) (c := k6c0) (by decide +kernel) rfl rfl rfl (by decide +kernel)
set_option maxRecDepth 65536 in
theorem w_c2 : (Jvm.Cond.code ({ cls := "com/example/banksum/banksum/uk/ExceptionRuleOfPinLaw", name := "index", desc := "(I)I" } : Jvm.MethodName) method_3_code (1 : Nat) (Option.some Jvm.ClassFile.FieldType.int)).before args0 about1 = true := code_word (m := ⟨1, 2⟩) (meth := k1m2) (c := k1c2) (by decide +kernel) rfl rfl rfl (by decide +kernel)
set_option maxRecDepth 65536 in
theorem w_c3 : (Jvm.Cond.code ({ cls := "com/example/banksum/banksum/uk/ExceptionRule", name := "total", desc := "(I)I" } : Jvm.MethodName) prog_84_method_12_code (2 : Nat) (Option.some Jvm.ClassFile.FieldType.int)).before args0 about1 = true := code_word (m := ⟨6, 3⟩) (meth := k6m3) (c := k6c3) (by decide +kernel) rfl rfl rfl (by decide +kernel)
set_option maxRecDepth 65536 in
theorem w_c4 : (Jvm.Cond.code ({ cls := "com/example/banksum/banksum/uk/ExceptionRule", name := "eitherPasses", desc := "()Z" } : Jvm.MethodName) prog_84_method_8_code (1 : Nat) (Option.some Jvm.ClassFile.FieldType.boolean)).before args0 about1 = true := code_word (m := ⟨6, 2⟩) (meth := k6m2) (c := k6c2) (by decide +kernel) rfl rfl rfl (by decide +kernel)
set_option maxRecDepth 65536 in
theorem w_c5 : (Jvm.Cond.code ({ cls := "com/example/banksum/banksum/uk/ExceptionRule", name := "foreignCurrency", desc := "([I)Z" } : Jvm.MethodName) prog_84_method_6_code (2 : Nat) (Option.some Jvm.ClassFile.FieldType.boolean)).before args0 about1 = true := code_word (m := ⟨6, 1⟩) (meth := k6m1) (c := k6c1) (by decide +kernel) rfl rfl rfl (by decide +kernel)
set_option maxRecDepth 65536 in
theorem w_c6 : (Jvm.Cond.code ({ cls := "com/example/banksum/banksum/uk/ExceptionRule$1", name := "total", desc := "(I)I" } : Jvm.MethodName) prog_85_method_2_code (2 : Nat) (Option.some Jvm.ClassFile.FieldType.int)).before args0 about1 = true := code_word (m := ⟨7, 0⟩) (meth := k7m0) (c := k7c0) (by decide +kernel) rfl rfl rfl (by decide +kernel)
set_option maxRecDepth 65536 in
theorem w_c7 : (Jvm.Cond.code ({ cls := "com/example/banksum/banksum/uk/ExceptionRule$10", name := "eitherPasses", desc := "()Z" } : Jvm.MethodName) prog_86_method_3_code (1 : Nat) (Option.some Jvm.ClassFile.FieldType.boolean)).before args0 about1 = true := code_word (m := ⟨16, 0⟩) (meth := k16m0) (c := k16c0) (by decide +kernel) rfl rfl rfl (by decide +kernel)
set_option maxRecDepth 65536 in
theorem w_c8 : (Jvm.Cond.code ({ cls := "com/example/banksum/banksum/uk/ExceptionRule$2", name := "eitherPasses", desc := "()Z" } : Jvm.MethodName) prog_89_method_3_code (1 : Nat) (Option.some Jvm.ClassFile.FieldType.boolean)).before args0 about1 = true := code_word (m := ⟨8, 0⟩) (meth := k8m0) (c := k8c0) (by decide +kernel) rfl rfl rfl (by decide +kernel)
set_option maxRecDepth 65536 in
theorem w_c9 : (Jvm.Cond.code ({ cls := "com/example/banksum/banksum/uk/ExceptionRule$6", name := "foreignCurrency", desc := "([I)Z" } : Jvm.MethodName) prog_93_method_2_code (2 : Nat) (Option.some Jvm.ClassFile.FieldType.boolean)).before args0 about1 = true := code_word (m := ⟨12, 0⟩) (meth := k12m0) (c := k12c0) (by decide +kernel) rfl rfl rfl (by decide +kernel)
set_option maxRecDepth 65536 in
theorem w_c10 : (Jvm.Cond.code ({ cls := "com/example/banksum/banksum/uk/ExceptionRule$11", name := "eitherPasses", desc := "()Z" } : Jvm.MethodName) prog_87_method_2_code (1 : Nat) (Option.some Jvm.ClassFile.FieldType.boolean)).before args0 about1 = true := code_word (m := ⟨17, 0⟩) (meth := k17m0) (c := k17c0) (by decide +kernel) rfl rfl rfl (by decide +kernel)
def codes1 : List Jvm.Cond := [Jvm.Cond.code x code maxLocals ret, Jvm.Cond.code ({ cls := "com/example/banksum/banksum/uk/ExceptionRule", name := "of", desc := "(I)Lcom/example/banksum/banksum/uk/ExceptionRule;" } : Jvm.MethodName) prog_84_method_4_code (1 : Nat) (Option.some (Jvm.ClassFile.FieldType.object "com/example/banksum/banksum/uk/ExceptionRule")), Jvm.Cond.code ({ cls := "com/example/banksum/banksum/uk/ExceptionRuleOfPinLaw", name := "index", desc := "(I)I" } : Jvm.MethodName) method_3_code (1 : Nat) (Option.some Jvm.ClassFile.FieldType.int), Jvm.Cond.code ({ cls := "com/example/banksum/banksum/uk/ExceptionRule", name := "total", desc := "(I)I" } : Jvm.MethodName) prog_84_method_12_code (2 : Nat) (Option.some Jvm.ClassFile.FieldType.int), Jvm.Cond.code ({ cls := "com/example/banksum/banksum/uk/ExceptionRule", name := "eitherPasses", desc := "()Z" } : Jvm.MethodName) prog_84_method_8_code (1 : Nat) (Option.some Jvm.ClassFile.FieldType.boolean), Jvm.Cond.code ({ cls := "com/example/banksum/banksum/uk/ExceptionRule", name := "foreignCurrency", desc := "([I)Z" } : Jvm.MethodName) prog_84_method_6_code (2 : Nat) (Option.some Jvm.ClassFile.FieldType.boolean), Jvm.Cond.code ({ cls := "com/example/banksum/banksum/uk/ExceptionRule$1", name := "total", desc := "(I)I" } : Jvm.MethodName) prog_85_method_2_code (2 : Nat) (Option.some Jvm.ClassFile.FieldType.int), Jvm.Cond.code ({ cls := "com/example/banksum/banksum/uk/ExceptionRule$10", name := "eitherPasses", desc := "()Z" } : Jvm.MethodName) prog_86_method_3_code (1 : Nat) (Option.some Jvm.ClassFile.FieldType.boolean), Jvm.Cond.code ({ cls := "com/example/banksum/banksum/uk/ExceptionRule$2", name := "eitherPasses", desc := "()Z" } : Jvm.MethodName) prog_89_method_3_code (1 : Nat) (Option.some Jvm.ClassFile.FieldType.boolean), Jvm.Cond.code ({ cls := "com/example/banksum/banksum/uk/ExceptionRule$6", name := "foreignCurrency", desc := "([I)Z" } : Jvm.MethodName) prog_93_method_2_code (2 : Nat) (Option.some Jvm.ClassFile.FieldType.boolean), Jvm.Cond.code ({ cls := "com/example/banksum/banksum/uk/ExceptionRule$11", name := "eitherPasses", desc := "()Z" } : Jvm.MethodName) prog_87_method_2_code (1 : Nat) (Option.some Jvm.ClassFile.FieldType.boolean)]
set_option maxRecDepth 65536 in
theorem codes_eq : words1.filter isCode = codes1 := rfl
theorem w_codes : ∀ c ∈ words1.filter isCode, c.before args0 about1 = true := by
  rw [codes_eq]
  intro c hc
  simp only [codes1, List.mem_cons, List.not_mem_nil, or_false] at hc
  rcases hc with rfl | rfl | rfl | rfl | rfl | rfl | rfl | rfl | rfl | rfl | rfl
  · exact w_c0
  · exact w_c1
  · exact w_c2
  · exact w_c3
  · exact w_c4
  · exact w_c5
  · exact w_c6
  · exact w_c7
  · exact w_c8
  · exact w_c9
  · exact w_c10
set_option maxRecDepth 65536 in
theorem w_t1 : (words1.take 24).all (fun c => isCode c || c.before args0 about1) = true := by decide +kernel
set_option maxRecDepth 65536 in
theorem w_t2 : ((words1.drop 24).take 24).all (fun c => isCode c || c.before args0 about1) = true := by decide +kernel
set_option maxRecDepth 65536 in
theorem w_t3 : (((words1.drop 24).drop 24).take 24).all (fun c => isCode c || c.before args0 about1) = true := by decide +kernel
set_option maxRecDepth 65536 in
theorem w_t4 : ((((words1.drop 24).drop 24).drop 24).take 24).all (fun c => isCode c || c.before args0 about1) = true := by decide +kernel
set_option maxRecDepth 65536 in
theorem w_t5 : (((((words1.drop 24).drop 24).drop 24).drop 24).take 24).all (fun c => isCode c || c.before args0 about1) = true := by decide +kernel
set_option maxRecDepth 65536 in
theorem w_t6 : (((((words1.drop 24).drop 24).drop 24).drop 24).drop 24).all (fun c => isCode c || c.before args0 about1) = true := by decide +kernel
theorem w_tables : (allAtoms (Jvm.Cond.code x code maxLocals ret :: tables_1)).before args0 about1 = true := by
  rw [allAtoms_all]
  show words1.all (fun c => c.before args0 about1) = true
  refine all_split ?_ w_codes
  rw [← List.take_append_drop 24 words1, List.all_append, w_t1, ← List.take_append_drop 24 (words1.drop 24), List.all_append, w_t2, ← List.take_append_drop 24 ((words1.drop 24).drop 24), List.all_append, w_t3, ← List.take_append_drop 24 (((words1.drop 24).drop 24).drop 24), List.all_append, w_t4, ← List.take_append_drop 24 ((((words1.drop 24).drop 24).drop 24).drop 24), List.all_append, w_t5, w_t6]
  rfl
set_option maxRecDepth 65536 in
theorem w_case : (Jvm.Cond.and given_1 narrow_1).before args0 about1 = true := by decide +kernel
theorem w_applies : (headSpec (Jvm.Cond.code x code maxLocals ret :: tables_1) room_1).applies x e0.platform about1 = true :=
  (Spec.applies_iff w_frames).mpr ⟨w_running, w_runnable, w_alone, w_named, w_hears, w_ripe, w_room, w_tables⟩
theorem atStart : AtStart classFile x code maxLocals ret World_1 tables_1 room_1 Calls_1 rest_1 Pre_1 launch0 p0 e0 about1 theMethod args0 below0 :=
  ⟨lists_1, trivial, launch0.admits_env _ _ _, launch0.least_env, fairChoices_fair.cas, fairChoices_fair.clock, w_frames, w_args, w_heap, w_applies, trivial, trivial, w_case⟩
end start1
theorem witness_1 : WitnessClaimed_1 := ⟨start1.p0, start1.e0, start1.about1, start1.theMethod, start1.args0, start1.below0, start1.atStart⟩
end Jvm.Pilot.@@N@@
