import JvmDerived
import JvmDerived.Pilot.@@N@@Statement
import JvmDerived.Pilot.@@N@@Code
set_option linter.unusedVariables false
set_option linter.unusedSimpArgs false
namespace Jvm.Pilot.@@N@@
open Jvm Jvm.ClassFile Sem Op Lib Jvm.Free Jvm.Stand Jvm.LawKit Jvm.RoadKit Bundle Jvm.Pilot.@@N@@.Jvm.D
/-! own_Out: from the frame g over T the run comes to a return of which Q speaks. A walk is a proof of own_Out from its entry, backwards step by step; so it may fork. -/
section OwnKit
variable {p : Program} {l : Launch} {e : Env} {R : Room} {s : State} {m : MethodId} {args : Array Value} {below : List Frame} {meth : Method} {c : Code} {T : State} {locs : List Loc} {cells slots kc ks : Nat} {Z : State} {a0 : Array Value} {h h' h0 : Heap} {Q : Option Value → Heap → List Loc → Prop} {g : JFrame}
def own_Out (p : Program) (e : Env) (below : List Frame) (s : State) (Q : Option Value → Heap → List Loc → Prop) (kc ks : Nat) (T : State) (g : JFrame) : Prop :=
  ∃ U o, Steps p.tables e below (T.setTop g) U ∧ U.status = .running ∧ Ended U below o ∧ ∃ v L, o = .returned v ∧ Q v U.heap L ∧ FrameEnd s o U L kc ks
theorem own_st (T' : State) (g' : JFrame) (st : ∀ t, Steps p.tables e below (T'.setTop g') t → Steps p.tables e below (T.setTop g) t) (k : own_Out p e below s Q kc ks T' g') : own_Out p e below s Q kc ks T g := by
  obtain ⟨U, o, h1, h2⟩ := k; exact ⟨U, o, st _ h1, h2⟩
theorem own_tr (T' : State) (g' : JFrame) (st : Steps p.tables e below (T.setTop g) (T'.setTop g')) (k : own_Out p e below s Q kc ks T' g') : own_Out p e below s Q kc ks T g := by
  obtain ⟨U, o, h1, h2⟩ := k; exact ⟨U, o, st.trans h1, h2⟩
theorem own_ret (X : Stand p l e R s m args below meth c T locs cells slots) (hx : p.tables.exec = Jvm.exec) (hlk : meth.locks = false) {pc : Nat} {Ls : Array Slot} {w : Value} {t : FieldType} {i : Instr} {rest : List Value} (hret : meth.sig.returnType = some t) (hn : narrow t w = w)
    (hi : (i = .ireturn ∧ (t = .int ∨ t = .boolean ∨ t = .byte ∨ t = .char ∨ t = .short) ∧ ∃ z, w = .int z) ∨ (i = .lreturn ∧ t = .long ∧ ∃ z, w = .long z) ∨ (i = .dreturn ∧ t = .double ∧ ∃ z, w = .double z) ∨ (i = .freturn ∧ t = .float ∧ ∃ z, w = .float z) ∨ (i = .areturn ∧ t.isReference = true ∧ w.isRef = true))
    (hd : decode c.code pc = .ok (i, 1)) (hc : cells ≤ kc) (hs : slots ≤ ks) (hq : Q (some w) T.heap locs) : own_Out p e below s Q kc ks T (mkF m pc Ls (w :: rest)) := by
  obtain ⟨fs, hr, hrun, hended, hW, hsame⟩ := X.leave (v := some w) (fun h => by rw [hret] at h; cases h) hlk
  exact ⟨_, _, retOut X hx hret hn hi hd hr, hrun, hended, _, _, rfl, hq, ⟨_, rfl⟩, hW, hsame.mono hc hs⟩
theorem own_retI (X : Stand p l e R s m args below meth c T locs cells slots) (hx : p.tables.exec = Jvm.exec) (hlk : meth.locks = false) {pc : Nat} {Ls : Array Slot} {z : Int32} {rest : List Value} (hret : meth.sig.returnType = some .int)
    (hd : decode c.code pc = .ok (.ireturn, 1)) (hc : cells ≤ kc) (hs : slots ≤ ks) (hq : Q (some (.int z)) T.heap locs) : own_Out p e below s Q kc ks T (mkF m pc Ls (.int z :: rest)) :=
  own_ret X hx hlk hret rfl (Or.inl ⟨rfl, Or.inl rfl, z, rfl⟩) hd hc hs hq
theorem own_retJ (X : Stand p l e R s m args below meth c T locs cells slots) (hx : p.tables.exec = Jvm.exec) (hlk : meth.locks = false) {pc : Nat} {Ls : Array Slot} {z : Int64} {rest : List Value} (hret : meth.sig.returnType = some .long)
    (hd : decode c.code pc = .ok (.lreturn, 1)) (hc : cells ≤ kc) (hs : slots ≤ ks) (hq : Q (some (.long z)) T.heap locs) : own_Out p e below s Q kc ks T (mkF m pc Ls (.long z :: rest)) :=
  own_ret X hx hlk hret rfl (Or.inr (Or.inl ⟨rfl, rfl, z, rfl⟩)) hd hc hs hq
theorem own_nref {t : FieldType} {w : Value} (ht : t.isReference = true) (hw : w.isRef = true) : narrow t w = w := by
  cases t <;> first | (cases ht; done) | (cases w <;> first | rfl | (cases hw; done))
theorem own_retA (X : Stand p l e R s m args below meth c T locs cells slots) (hx : p.tables.exec = Jvm.exec) (hlk : meth.locks = false) {pc : Nat} {Ls : Array Slot} {w : Value} {t : FieldType} {rest : List Value} (hret : meth.sig.returnType = some t) (ht : t.isReference = true) (hw : w.isRef = true)
    (hd : decode c.code pc = .ok (.areturn, 1)) (hc : cells ≤ kc) (hs : slots ≤ ks) (hq : Q (some w) T.heap locs) : own_Out p e below s Q kc ks T (mkF m pc Ls (w :: rest)) :=
  own_ret X hx hlk hret (own_nref ht hw) (Or.inr (Or.inr (Or.inr (Or.inr ⟨rfl, ht, hw⟩)))) hd hc hs hq
theorem own_retN (X : Stand p l e R s m args below meth c T locs cells slots) (hx : p.tables.exec = Jvm.exec) (hlk : meth.locks = false) {pc : Nat} {Ls : Array Slot} {z : Int32} {t : FieldType} {rest : List Value} (hret : meth.sig.returnType = some t) (ht : t = .boolean ∨ t = .byte ∨ t = .char ∨ t = .short)
    (hd : decode c.code pc = .ok (.ireturn, 1)) (hc : cells ≤ kc) (hs : slots ≤ ks) (hq : Q (some (.int (nar t z))) T.heap locs) : own_Out p e below s Q kc ks T (mkF m pc Ls (.int z :: rest)) := by
  obtain ⟨fs, hr, hrun, hended, hW, hsame⟩ := X.leave (v := some (.int (nar t z))) (fun h => by rw [hret] at h; cases h) hlk
  exact ⟨_, _, retN X hx hret ht hd hr, hrun, hended, _, _, rfl, hq, ⟨_, rfl⟩, hW, hsame.mono hc hs⟩
theorem own_ret0 (X : Stand p l e R s m args below meth c T locs cells slots) (hx : p.tables.exec = Jvm.exec) (hlk : meth.locks = false) {pc : Nat} {Ls : Array Slot} (hret : meth.sig.returnType = none)
    (hd : decode c.code pc = .ok (.return_, 1)) (hc : cells ≤ kc) (hs : slots ≤ ks) (hq : Q none T.heap locs) : own_Out p e below s Q kc ks T (mkF m pc Ls []) := by
  obtain ⟨fs, hr, hrun, hended, hW, hsame⟩ := X.leave (v := none) (fun _ => rfl) hlk
  exact ⟨_, _, X.returnOut hx hret hd hr, hrun, hended, _, _, rfl, hq, ⟨_, rfl⟩, hW, hsame.mono hc hs⟩
/-- a method's contract at the arguments as' over the heap h0 -/
def own_Met (l : Launch) (Z : State) (y : MethodName) (bytes : ByteArray) (maxL : Nat) (ret : Option FieldType) (rm : Room) (as' : Array Value) (h0 : Heap) (Q : Option Value → Heap → List Loc → Prop) : Prop :=
  ∀ ws : List Jvm.Cond, MetFree l y (head1 (Jvm.Cond.code y bytes maxL ret :: ws) rm) (fun a U => a = as' ∧ Z.Warmed39 U.vm ∧ U.heap = h0) (fun _ _ _ _ _ => True) (fun _ U o U' => ∃ v L, o = .returned v ∧ Q v U'.heap L ∧ FrameEnd U o U' L rm.cells rm.slots)
theorem own_body {y : MethodName} {bytes : ByteArray} {maxL : Nat} {ret : Option FieldType} {rm : Room} {as' : Array Value} (Ls : Array Slot) (hp : plainFor y = true) (hef : ∀ m, entryFrame m as' maxL = mkF m 0 Ls [])
    (hbody : ∀ (p : Program) (e : Env) (s : State) (m : MethodId) (below : List Frame) (meth : Method) (c : Code) (s₁ : State), Stand p l e rm s m as' below meth c s₁ [] 0 0 → p.tables.exec = Jvm.exec → c.code = bytes → c.maxLocals = maxL → meth.sig.returnType = ret → meth.locks = false → Z.Warmed39 s.vm → s.vm.findClass y.cls = some m.cls → meth.name = y.name → s₁.heap = h0 →
      own_Out p e below s Q rm.cells rm.slots s₁ (mkF m 0 Ls [])) : own_Met l Z y bytes maxL ret rm as' h0 Q := by
  intro ws
  refine MetFree.of_bodySF hp hisR ?_
  intro p e s m args below meth c s₁ Bd hml0 hP hK
  obtain ⟨rfl, hZ, hh⟩ := hP
  have X0 : Stand p l e rm s m args below meth c s₁ [] 0 0 := Stand.of_body Bd
  have e0 : s₁.heap = h0 := by rw [← hh, Bd.state]; rfl
  obtain ⟨U, o, h1, h2⟩ := hbody p e s m below meth c s₁ X0 Bd.exec Bd.bytes hml0 Bd.returns Bd.notSynchronized hZ (findClass_of_methodNamed Bd.named) (name_of_methodNamed Bd.named Bd.method).1 e0
  exact ⟨U, o, castTop (hef m) h1, h2⟩
theorem own_callS (X : Stand p l e R s m args below meth c T locs cells slots) (hx : p.tables.exec = Jvm.exec) (hZ : Z.Warmed39 s.vm) {own : String} {index : Nat} {y : MethodName} {bytes : ByteArray} {maxL : Nat} {ret : Option FieldType} (hown : s.vm.findClass own = some m.cls)
    (w1 : (Cond.methodLink own index y).before a0 Z = true) (w2 : (Cond.static y).before a0 Z = true) (w3 : (Cond.initialized y.cls).before a0 Z = true) (w4 : (Cond.code y bytes maxL ret).before a0 Z = true) (hy : y.cls ≠ "java/lang/invoke/MethodHandle" ∧ y.cls ≠ "java/lang/invoke/VarHandle")
    {rm : Room} (argsL rest : List Value) {Qc : Option Value → Heap → List Loc → Prop} (M : own_Met l Z y bytes maxL ret rm argsL.toArray h Qc) (W : Nat) (hf : rm.frames + 1 ≤ R.frames) (hl : W + (maxL + 11) + rm.locals ≤ R.locals) (eT : T.heap = h)
    {pc : Nat} {Ls : Array Slot} {st : List Value} (hsize : Ls.size = c.maxLocals) (hlen : ∀ sig, parseMethodDescriptor y.desc = some sig → argsL.length = sig.parameters.length) (hstack : st = argsL.reverse ++ rest) (hW : (rest.map fun v => v.category).sum ≤ W)
    (hd : decode c.code pc = .ok (.invokestatic index, 3)) (hc : cells + rm.cells ≤ R.cells) (hs : slots + rm.slots ≤ R.slots)
    (k : ∀ v T' L, Stand p l e R s m args below meth c T' (locs ++ L) (cells + rm.cells) (slots + rm.slots) → Qc v T'.heap L → own_Out p e below s Q kc ks T' (mkF m (pc + 3) Ls (v.toList ++ rest))) : own_Out p e below s Q kc ks T (mkF m pc Ls st) := by
  obtain ⟨v, vm1, ⟨T', L', c', n'⟩, -, X', ⟨L, hQ, r1, r2, r3⟩, stp⟩ := Jvm.LawKit.callS X hx (y := y) (bytes := bytes) (maxL := maxL) (ret := ret) hown (mvT hZ w1) (mvT hZ w2) (mvT hZ w3) (mvT hZ w4) hy (backOf (W := W) (M []) hZ w4 w3 hf hl) (g := mkF m pc Ls st) rfl hsize (argsL := argsL) (rest := rest) hlen hstack (by show 2 * 0 + _ ≤ _; omega) hd (fun _ _ => ⟨rfl, eT, hc, hs⟩)
  dsimp only [Pt.U, Pt.locs, Pt.cells, Pt.slots] at X' r1 r2 r3 stp hQ
  subst r1 r2 r3
  exact own_st _ _ stp (k v T' L X' hQ)
theorem own_callC (X : Stand p l e R s m args below meth c T locs cells slots) (hx : p.tables.exec = Jvm.exec) (hZ : Z.Warmed39 s.vm) {own : String} {index : Nat} {y : MethodName} {bytes : ByteArray} {maxL : Nat} (hy1 : y.name = "<init>") (hown : s.vm.findClass own = some m.cls)
    (w1 : (Cond.methodLink own index y).before a0 Z = true) (w2 : (Cond.instanceMethod y).before a0 Z = true) (w3 : (Cond.initialized y.cls).before a0 Z = true) (w4 : (Cond.code y bytes maxL none).before a0 Z = true) (hy : y.cls ≠ "java/lang/invoke/MethodHandle" ∧ y.cls ≠ "java/lang/invoke/VarHandle")
    {rm : Room} (a : Addr) (argsL rest : List Value) {Qc : Option Value → Heap → List Loc → Prop} (M : own_Met l Z y bytes maxL none rm (.ref a :: argsL).toArray h Qc) (W : Nat) (hf : rm.frames + 1 ≤ R.frames) (hl : W + (maxL + 11) + rm.locals ≤ R.locals) (eT : T.heap = h)
    {pc : Nat} {Ls : Array Slot} {st : List Value} (hsize : Ls.size = c.maxLocals) (hlen : ∀ sig, parseMethodDescriptor y.desc = some sig → argsL.length = sig.parameters.length) (hstack : st = argsL.reverse ++ .ref a :: rest) (hW : (rest.map fun v => v.category).sum ≤ W)
    (hd : decode c.code pc = .ok (.invokespecial index, 3)) (hc : cells + rm.cells ≤ R.cells) (hs : slots + rm.slots ≤ R.slots)
    (k : ∀ v T' L, Stand p l e R s m args below meth c T' (locs ++ L) (cells + rm.cells) (slots + rm.slots) → Qc v T'.heap L → own_Out p e below s Q kc ks T' (mkF m (pc + 3) Ls (v.toList ++ rest))) : own_Out p e below s Q kc ks T (mkF m pc Ls st) := by
  obtain ⟨v, vm1, ⟨T', L', c', n'⟩, -, X', ⟨L, hQ, r1, r2, r3⟩, stp⟩ := X.specialBack hx (y := y) (bytes := bytes) (maxL := maxL) hy1 hown (mvT hZ w1) (mvT hZ w2) (mvT hZ w4) hy (backOf (W := W) (M []) hZ w4 w3 hf hl) (g := mkF m pc Ls st) rfl hsize (Steps.refl _) (a := a) (argsL := argsL) (rest := rest) hlen hstack (by show 2 * 0 + _ ≤ _; omega) hd (fun _ _ => ⟨rfl, eT, hc, hs⟩)
  dsimp only [Pt.U, Pt.locs, Pt.cells, Pt.slots] at X' r1 r2 r3 stp hQ
  subst r1 r2 r3
  exact own_tr _ _ stp (k v T' L X' hQ)
theorem own_callV (X : Stand p l e R s m args below meth c T locs cells slots) (hx : p.tables.exec = Jvm.exec) (hZ : Z.Warmed39 s.vm) {own C : String} {index : Nat} {y z : MethodName} {bytes : ByteArray} {maxL : Nat} {ret : Option FieldType} (hown : s.vm.findClass own = some m.cls)
    (w1 : (Cond.methodLink own index y).before a0 Z = true) (w2 : (Cond.declares y).before a0 Z = true) (hnf : NotFace s y) (w5 : (Cond.selects C y z).before a0 Z = true) (w6 : (Cond.instanceMethod z).before a0 Z = true) (w3 : (Cond.initialized z.cls).before a0 Z = true) (w4 : (Cond.code z bytes maxL ret).before a0 Z = true) (hy : y.cls ≠ "java/lang/invoke/MethodHandle" ∧ y.cls ≠ "java/lang/invoke/VarHandle")
    {rm : Room} (a : Addr) (argsL rest : List Value) {Qc : Option Value → Heap → List Loc → Prop} (E : Exa Z h a C) (M : own_Met l Z z bytes maxL ret rm (.ref a :: argsL).toArray h Qc) (W : Nat) (hf : rm.frames + 1 ≤ R.frames) (hl : W + (maxL + 11) + rm.locals ≤ R.locals) (eT : T.heap = h)
    {pc : Nat} {Ls : Array Slot} {st : List Value} (hsize : Ls.size = c.maxLocals) (hlen : ∀ sig, parseMethodDescriptor y.desc = some sig → argsL.length = sig.parameters.length) (hstack : st = argsL.reverse ++ .ref a :: rest) (hW : (rest.map fun v => v.category).sum ≤ W)
    (hd : decode c.code pc = .ok (.invokevirtual index, 3)) (hc : cells + rm.cells ≤ R.cells) (hs : slots + rm.slots ≤ R.slots)
    (k : ∀ v T' L, Stand p l e R s m args below meth c T' (locs ++ L) (cells + rm.cells) (slots + rm.slots) → Qc v T'.heap L → own_Out p e below s Q kc ks T' (mkF m (pc + 3) Ls (v.toList ++ rest))) : own_Out p e below s Q kc ks T (mkF m pc Ls st) := by
  obtain ⟨cq, kq, qa, qb, qc⟩ := isOf hZ eT E
  obtain ⟨v, vm1, ⟨T', L', c', n'⟩, -, X', ⟨L, hQ, r1, r2, r3⟩, stp⟩ := X.virtualBack hx (y := y) (z := z) hown (mvT hZ w1) (mvT hZ w2) hnf (mvT hZ w5) (mvT hZ w6) hy (backOf (W := W) (M []) hZ w4 w3 hf hl) qa qc (g := mkF m pc Ls st) rfl hsize (Steps.refl _) (argsL := argsL) (rest := rest) hlen hstack (by show 2 * 0 + _ ≤ _; omega) hd (fun _ _ => ⟨rfl, eT, hc, hs⟩)
  dsimp only [Pt.U, Pt.locs, Pt.cells, Pt.slots] at X' r1 r2 r3 stp hQ
  subst r1 r2 r3
  exact own_tr _ _ stp (k v T' L X' hQ)
theorem own_callI (X : Stand p l e R s m args below meth c T locs cells slots) (hx : p.tables.exec = Jvm.exec) (hZ : Z.Warmed39 s.vm) {own C : String} {index count : Nat} {xi y : MethodName} {bytes : ByteArray} {maxL : Nat} {ret : Option FieldType} (hown : s.vm.findClass own = some m.cls)
    (w1 : (Cond.methodLink own index xi).before args s = true) (w2 : (Cond.declares xi).before args s = true) (w7 : (Cond.interfaceMethod xi.cls xi.cls xi.name xi.desc).before args s = true) (w5 : (Cond.selects C xi y).before args s = true) (w6 : (Cond.instanceMethod y).before args s = true) (w8 : (Cond.publicMethod y).before args s = true) (w9 : (Cond.unhidden C xi.name xi.desc).before args s = true) (w10 : (Cond.castable C xi.cls).before args s = true) (w3 : (Cond.initialized y.cls).before a0 Z = true) (w4 : (Cond.code y bytes maxL ret).before a0 Z = true) (hy : xi.cls ≠ "java/lang/invoke/MethodHandle" ∧ xi.cls ≠ "java/lang/invoke/VarHandle")
    {rm : Room} (a : Addr) (argsL rest : List Value) {Qc : Option Value → Heap → List Loc → Prop} (E : Exa Z h a C) (M : own_Met l Z y bytes maxL ret rm (.ref a :: argsL).toArray h Qc) (W : Nat) (hf : rm.frames + 1 ≤ R.frames) (hl : W + (maxL + 11) + rm.locals ≤ R.locals) (eT : T.heap = h)
    {pc : Nat} {Ls : Array Slot} {st : List Value} (hsize : Ls.size = c.maxLocals) (hlen : ∀ sig, parseMethodDescriptor xi.desc = some sig → argsL.length = sig.parameters.length) (hstack : st = argsL.reverse ++ .ref a :: rest) (hW : (rest.map fun v => v.category).sum ≤ W)
    (hd : decode c.code pc = .ok (.invokeinterface index count, 5)) (hc : cells + rm.cells ≤ R.cells) (hs : slots + rm.slots ≤ R.slots)
    (k : ∀ v T' L, Stand p l e R s m args below meth c T' (locs ++ L) (cells + rm.cells) (slots + rm.slots) → Qc v T'.heap L → own_Out p e below s Q kc ks T' (mkF m (pc + 5) Ls (v.toList ++ rest))) : own_Out p e below s Q kc ks T (mkF m pc Ls st) := by
  obtain ⟨cq, kq, qa, qb, qc⟩ := isOf hZ eT E
  obtain ⟨v, vm1, ⟨T', L', c', n'⟩, -, X', ⟨L, hQ, r1, r2, r3⟩, stp⟩ := X.interfaceBack hx (xi := xi) (y := y) hown w1 w2 w7 w5 w6 w8 w9 w10 hy (backOf (W := W) (M []) hZ w4 w3 hf hl) qa qb qc (g := mkF m pc Ls st) rfl hsize (Steps.refl _) (argsL := argsL) (rest := rest) hlen hstack (by show 2 * 0 + _ ≤ _; omega) hd (fun _ _ => ⟨rfl, eT, hc, hs⟩)
  dsimp only [Pt.U, Pt.locs, Pt.cells, Pt.slots] at X' r1 r2 r3 stp hQ
  subst r1 r2 r3
  exact own_tr _ _ stp (k v T' L X' hQ)
theorem own_callP (X : Stand p l e R s m args below meth c T locs cells slots) (hx : p.tables.exec = Jvm.exec) (hZ : Z.Warmed39 s.vm) {own : String} {index : Nat} {y : MethodName} {bytes : ByteArray} {maxL : Nat} {ret : Option FieldType} (hown : s.vm.findClass own = some m.cls)
    (w1 : (Cond.methodLink own index y).before a0 Z = true) (w2 : (Cond.instanceMethod y).before a0 Z = true) (w5 : (Cond.selects y.cls y y).before a0 Z = true) (w6 : (Cond.privateMethod y).before a0 Z = true) (w3 : (Cond.initialized y.cls).before a0 Z = true) (w4 : (Cond.code y bytes maxL ret).before a0 Z = true) (hy : y.cls ≠ "java/lang/invoke/MethodHandle" ∧ y.cls ≠ "java/lang/invoke/VarHandle")
    {rm : Room} (a : Addr) (argsL rest : List Value) {C : String} {Qc : Option Value → Heap → List Loc → Prop} (E : Exa Z h a C) (M : own_Met l Z y bytes maxL ret rm (.ref a :: argsL).toArray h Qc) (W : Nat) (hf : rm.frames + 1 ≤ R.frames) (hl : W + (maxL + 11) + rm.locals ≤ R.locals) (eT : T.heap = h)
    {pc : Nat} {Ls : Array Slot} {st : List Value} (hsize : Ls.size = c.maxLocals) (hlen : ∀ sig, parseMethodDescriptor y.desc = some sig → argsL.length = sig.parameters.length) (hstack : st = argsL.reverse ++ .ref a :: rest) (hW : (rest.map fun v => v.category).sum ≤ W)
    (hd : decode c.code pc = .ok (.invokevirtual index, 3)) (hc : cells + rm.cells ≤ R.cells) (hs : slots + rm.slots ≤ R.slots)
    (k : ∀ v T' L, Stand p l e R s m args below meth c T' (locs ++ L) (cells + rm.cells) (slots + rm.slots) → Qc v T'.heap L → own_Out p e below s Q kc ks T' (mkF m (pc + 3) Ls (v.toList ++ rest))) : own_Out p e below s Q kc ks T (mkF m pc Ls st) := by
  obtain ⟨cq, qa, qb⟩ := E.cell
  obtain ⟨v, vm1, ⟨T', L', c', n'⟩, -, X', ⟨L, hQ, r1, r2, r3⟩, stp⟩ := X.privateBack hx (y := y) (bytes := bytes) (maxL := maxL) (ret := ret) hown (mvT hZ w1) (mvT hZ w2) (mvT hZ w5) (Cond.privateMethod_at (mvP hZ w6 (args := #[]))) (mvT hZ w4) hy (backOf (W := W) (M []) hZ w4 w3 hf hl) (g := mkF m pc Ls st) rfl hsize (Steps.refl _) (a := a) (by rw [eT]; exact qa) qb (argsL := argsL) (rest := rest) hlen hstack (by show 2 * 0 + _ ≤ _; omega) hd (fun _ _ => ⟨rfl, eT, hc, hs⟩)
  dsimp only [Pt.U, Pt.locs, Pt.cells, Pt.slots] at X' r1 r2 r3 stp hQ
  subst r1 r2 r3
  exact own_tr _ _ stp (k v T' L X' hQ)
/-- an array by its values: n places, place i holds f i -/
def own_A (Z : State) (h : Heap) (a : Addr) (k : ClassId) (ty : FieldType) (n : Nat) (f : Nat → Value) : Prop := ∃ cl : Cell, Arr Z h a cl ty ∧ cl.cls = k ∧ cl.slots.size = n ∧ n < 2 ^ 31 ∧ ∀ i, i < n → cl.slots[i]? = some (f i)
variable {a b : Addr} {k : ClassId} {ty : FieldType} {n : Nat} {f f' : Nat → Value} {sl : Nat} {v : Value} {ws : List Addr}
theorem own_A.lt (F : own_A Z h a k ty n f) : a < h.size := by obtain ⟨c, A, -⟩ := F; exact A.lt
theorem own_A.ext (F : own_A Z h a k ty n f) (E : Ext h h') : own_A Z h' a k ty n f := by obtain ⟨c, A, r⟩ := F; exact ⟨c, A.ext E, r⟩
theorem own_A.other (F : own_A Z h b k ty n f) (W : Wr h h' a sl v) (q : b ≠ a) : own_A Z h' b k ty n f := by obtain ⟨c, A, r⟩ := F; exact ⟨c, A.other W q, r⟩
theorem own_A.keep (F : own_A Z h a k ty n f) (K : Keep h h' ws) (q : a ∉ ws) : own_A Z h' a k ty n f := by obtain ⟨c, A, r⟩ := F; exact ⟨c, ⟨K.2.1 a c A.1 q, A.2⟩, r⟩
theorem own_A.cong (F : own_A Z h a k ty n f) (q : ∀ i, i < n → f i = f' i) : own_A Z h a k ty n f' := by obtain ⟨c, A, r1, r2, r3, r4⟩ := F; exact ⟨c, A, r1, r2, r3, fun i hi => by rw [r4 i hi, q i hi]⟩
theorem own_A.new {z : Int32} (A : Arr Z h a (newA k ty z) ty) (q : ¬ z < 0) : own_A Z h a k ty z.toNatClampNeg (fun _ => defaultValue ty) := ⟨_, A, rfl, sz_new _ _ _, (back32 q).2, fun i hi => by simp [newA, hi]⟩
theorem own_A.newL {z : Int32} (A : Arr Z h a (newA k ty z) ty) (q : ¬ z < 0) (n : Nat) (hn : z.toNatClampNeg = n) (d : Value) (hd : defaultValue ty = d) : own_A Z h a k ty n (fun i => (List.replicate n d).getD i d) := by
  subst hn hd
  refine (own_A.new A q).cong fun i hi => ?_
  simp [List.getD_eq_getElem?_getD, List.getElem?_replicate, hi]
theorem own_jn {j : Int32} {i : Nat} (q : j.toInt = (i : Int)) : j.toNatClampNeg = i := by simp only [Int32.toNatClampNeg]; omega
theorem own_in {j : Int32} {i n : Nat} {cl : Cell} (q : j.toInt = (i : Int)) (hi : i < n) (S : cl.slots.size = n) : ¬ (j < 0 ∨ cl.slots.size ≤ j.toNatClampNeg) := by
  rw [own_jn q, Int32.lt_iff_toInt_lt, q, S]; have : (0 : Int32).toInt = 0 := rfl; omega
theorem own_A.set (F : own_A Z h a k ty n f) {i : Nat} (hi : i < n) (W : Wr h h' a i v) : own_A Z h' a k ty n (fun x => if x = i then v else f x) := by
  obtain ⟨cl, A, r1, r2, r3, r4⟩ := F
  refine ⟨_, A.same W, r1, by rw [sz_set]; exact r2, r3, fun x hx => ?_⟩
  by_cases q : x = i
  · subst q; simp [Cell.setSlot, r2, hi]
  · show (cl.slots.setIfInBounds i v)[x]? = _
    rw [Array.getElem?_setIfInBounds_ne (Ne.symm q)]; simp only [q, if_false]; exact r4 x hx
theorem own_A.setL {L : List Value} {d : Value} (F : own_A Z h a k ty n (fun x => L.getD x d)) {i : Nat} (hi : i < n) (hL : i < L.length) (W : Wr h h' a i v) : own_A Z h' a k ty n (fun x => (L.set i v).getD x d) := by
  refine (F.set hi W).cong fun x hx => ?_
  by_cases q : x = i
  · subst q; simp [List.getD_eq_getElem?_getD, List.getElem?_set, hL]
  · simp [List.getD_eq_getElem?_getD, List.getElem?_set, q, Ne.symm q]
theorem own_A.setI {b : Nat → Int32} {x : Int32} (F : own_A Z h a k ty n (fun y => .int (b y))) {i : Nat} (hi : i < n) (W : Wr h h' a i (.int x)) : own_A Z h' a k ty n (fun y => .int (if y = i then x else b y)) := by
  refine (F.set hi W).cong fun y hy => ?_
  by_cases q : y = i <;> simp [q]
theorem own_A.setLI {L : List Int32} {x : Int32} (F : own_A Z h a k ty n (fun y => .int (L.getD y 0))) {i : Nat} (hi : i < n) (hL : i < L.length) (W : Wr h h' a i (.int x)) : own_A Z h' a k ty n (fun y => .int ((L.set i x).getD y 0)) := by
  refine (F.setI hi W).cong fun y hy => ?_
  by_cases q : y = i
  · subst q; simp [List.getD_eq_getElem?_getD, List.getElem?_set, hL]
  · simp [List.getD_eq_getElem?_getD, List.getElem?_set, q, Ne.symm q]
theorem own_A.snocI {L : List Int32} {x : Int32} (F : own_A Z h a k ty n (fun y => .int (L.getD y 0))) {i : Nat} (hi : i < n) (hL : L.length = i) (W : Wr h h' a i (.int x)) : own_A Z h' a k ty n (fun y => .int ((L ++ [x]).getD y 0)) := by
  refine (F.setI hi W).cong fun y hy => ?_
  by_cases q : y = i
  · subst q; subst hL; simp [List.getD_eq_getElem?_getD]
  · by_cases r : y < L.length
    · simp [List.getD_eq_getElem?_getD, q, List.getElem?_append_left r]
    · have h1 : L[y]? = none := List.getElem?_eq_none (by omega)
      have h2 : (L ++ [x])[y]? = none := List.getElem?_eq_none (by simp; omega)
      simp [List.getD_eq_getElem?_getD, q, h1, h2]
theorem own_A.newI {z : Int32} (A : Arr Z h a (newA k ty z) ty) (q : ¬ z < 0) (n : Nat) (hn : z.toNatClampNeg = n) (hd : defaultValue ty = .int 0) : own_A Z h a k ty n (fun _ => .int 0) := by
  subst hn; rw [← hd]; exact own_A.new A q
theorem own_A.newLI {z : Int32} (A : Arr Z h a (newA k ty z) ty) (q : ¬ z < 0) (n : Nat) (hn : z.toNatClampNeg = n) (hd : defaultValue ty = .int 0) : own_A Z h a k ty n (fun y => .int ((List.replicate n (0 : Int32)).getD y 0)) := by
  refine (own_A.newI A q n hn hd).cong fun i hi => ?_
  simp [List.getD_eq_getElem?_getD, List.getElem?_replicate, hi]
theorem own_stI (X : Stand p l e R s m args below meth c T locs cells slots) (hx : p.tables.exec = Jvm.exec) (hZ : Z.Warmed39 s.vm) (eT : T.heap = h) (F : own_A Z h a k .int n f) {j x : Int32} (i : Nat) (q : j.toInt = (i : Int)) (hi : i < n) {pc : Nat} {Ls : Array Slot} {rest : List Value} (hd : decode c.code pc = .ok (.iastore, 1)) :
    ∃ T' h', Stand p l e R s m args below meth c T' (locs ++ [⟨a, i⟩]) cells slots ∧ T'.heap = h' ∧ Wr h h' a i (.int x) ∧ ∀ t, Steps p.tables e below (T'.setTop (mkF m (pc + 1) Ls rest)) t → Steps p.tables e below (T.setTop (mkF m pc Ls (.int x :: .int j :: .ref a :: rest))) t := by
  obtain ⟨cl, A, r1, r2, r3, r4⟩ := F
  have := stI X hx hZ eT A (j := j) (x := x) (own_in q hi r2) (g := mkF m pc Ls (.int x :: .int j :: .ref a :: rest)) rfl rfl hd
  rw [own_jn q] at this; exact this
theorem own_stB (X : Stand p l e R s m args below meth c T locs cells slots) (hx : p.tables.exec = Jvm.exec) (hZ : Z.Warmed39 s.vm) (eT : T.heap = h) (F : own_A Z h a k .byte n f) {j x : Int32} (x' : Int32) (hx' : nar .byte x = x') (i : Nat) (q : j.toInt = (i : Int)) (hi : i < n) {pc : Nat} {Ls : Array Slot} {rest : List Value} (hd : decode c.code pc = .ok (.bastore, 1)) :
    ∃ T' h', Stand p l e R s m args below meth c T' (locs ++ [⟨a, i⟩]) cells slots ∧ T'.heap = h' ∧ Wr h h' a i (.int x') ∧ ∀ t, Steps p.tables e below (T'.setTop (mkF m (pc + 1) Ls rest)) t → Steps p.tables e below (T.setTop (mkF m pc Ls (.int x :: .int j :: .ref a :: rest))) t := by
  obtain ⟨cl, A, r1, r2, r3, r4⟩ := F
  have := stB X hx hZ eT A (j := j) (x := x) (own_in q hi r2) (g := mkF m pc Ls (.int x :: .int j :: .ref a :: rest)) rfl rfl hd
  rw [own_jn q] at this; subst hx'; exact this
theorem own_stC (X : Stand p l e R s m args below meth c T locs cells slots) (hx : p.tables.exec = Jvm.exec) (hZ : Z.Warmed39 s.vm) (eT : T.heap = h) (F : own_A Z h a k .char n f) {j x : Int32} (x' : Int32) (hx' : nar .char x = x') (i : Nat) (q : j.toInt = (i : Int)) (hi : i < n) {pc : Nat} {Ls : Array Slot} {rest : List Value} (hd : decode c.code pc = .ok (.castore, 1)) :
    ∃ T' h', Stand p l e R s m args below meth c T' (locs ++ [⟨a, i⟩]) cells slots ∧ T'.heap = h' ∧ Wr h h' a i (.int x') ∧ ∀ t, Steps p.tables e below (T'.setTop (mkF m (pc + 1) Ls rest)) t → Steps p.tables e below (T.setTop (mkF m pc Ls (.int x :: .int j :: .ref a :: rest))) t := by
  obtain ⟨cl, A, r1, r2, r3, r4⟩ := F
  have := stC X hx hZ eT A (j := j) (x := x) (own_in q hi r2) (g := mkF m pc Ls (.int x :: .int j :: .ref a :: rest)) rfl rfl hd
  rw [own_jn q] at this; subst hx'; exact this
theorem own_stR (X : Stand p l e R s m args below meth c T locs cells slots) (hx : p.tables.exec = Jvm.exec) (hZ : Z.Warmed39 s.vm) (eT : T.heap = h) {C : String} (F : own_A Z h a k (.object C) n f) {j : Int32} {v : Value} (O : Ovr Z k C) (I : v = .null ∨ ∃ y, v = .ref y ∧ Ins Z h y C true) (i : Nat) (q : j.toInt = (i : Int)) (hi : i < n) {pc : Nat} {Ls : Array Slot} {rest : List Value} (hd : decode c.code pc = .ok (.aastore, 1)) :
    ∃ T' h', Stand p l e R s m args below meth c T' (locs ++ [⟨a, i⟩]) cells slots ∧ T'.heap = h' ∧ Wr h h' a i v ∧ ∀ t, Steps p.tables e below (T'.setTop (mkF m (pc + 1) Ls rest)) t → Steps p.tables e below (T.setTop (mkF m pc Ls (v :: .int j :: .ref a :: rest))) t := by
  obtain ⟨cl, A, r1, r2, r3, r4⟩ := F
  have S : Sto Z h a v := by
    rcases I with rfl | ⟨y, rfl, I⟩
    · exact Or.inl rfl
    · exact Sto.ofV A r1 O I
  have := stR X hx hZ eT A (j := j) (own_in q hi r2) rfl S (g := mkF m pc Ls (v :: .int j :: .ref a :: rest)) rfl rfl hd
  rw [own_jn q] at this; exact this
theorem own_stRA (X : Stand p l e R s m args below meth c T locs cells slots) (hx : p.tables.exec = Jvm.exec) (hZ : Z.Warmed39 s.vm) (eT : T.heap = h) {C : String} {t0 : FieldType} (F : own_A Z h a k (.array t0) n f) {j : Int32} {v : Value} (O : OvrA Z k t0 C) (I : v = .null ∨ ∃ y, v = .ref y ∧ Ins Z h y C true) (i : Nat) (q : j.toInt = (i : Int)) (hi : i < n) {pc : Nat} {Ls : Array Slot} {rest : List Value} (hd : decode c.code pc = .ok (.aastore, 1)) :
    ∃ T' h', Stand p l e R s m args below meth c T' (locs ++ [⟨a, i⟩]) cells slots ∧ T'.heap = h' ∧ Wr h h' a i v ∧ ∀ t, Steps p.tables e below (T'.setTop (mkF m (pc + 1) Ls rest)) t → Steps p.tables e below (T.setTop (mkF m pc Ls (v :: .int j :: .ref a :: rest))) t := by
  obtain ⟨cl, A, r1, r2, r3, r4⟩ := F
  have S : Sto Z h a v := by
    rcases I with rfl | ⟨y, rfl, I⟩
    · exact Or.inl rfl
    · exact Sto.ofVA A r1 O I
  have := stR X hx hZ eT A (j := j) (own_in q hi r2) rfl S (g := mkF m pc Ls (v :: .int j :: .ref a :: rest)) rfl rfl hd
  rw [own_jn q] at this; exact this
theorem own_ldI (X : Stand p l e R s m args below meth c T locs cells slots) (hx : p.tables.exec = Jvm.exec) (hZ : Z.Warmed39 s.vm) (eT : T.heap = h) (F : own_A Z h a k .int n f) {j : Int32} (i : Nat) (q : j.toInt = (i : Int)) (hi : i < n) {pc : Nat} {Ls : Array Slot} {rest : List Value} (hd : decode c.code pc = .ok (.iaload, 1)) :
    ∀ t, Steps p.tables e below (T.setTop (mkF m (pc + 1) Ls (f i :: rest))) t → Steps p.tables e below (T.setTop (mkF m pc Ls (.int j :: .ref a :: rest))) t := fun t kt => by
  obtain ⟨cl, A, r1, r2, r3, r4⟩ := F
  exact X.iaload hx (j := j) (v := f i) (by rw [eT]; exact A.1) (State.isArrayOf_alike hZ.alike A.2.1) A.2.2 (own_in q hi r2) (by rw [own_jn q]; exact r4 i hi) (g := mkF m pc Ls (.int j :: .ref a :: rest)) rfl rfl hd _ kt
theorem own_ldB (X : Stand p l e R s m args below meth c T locs cells slots) (hx : p.tables.exec = Jvm.exec) (hZ : Z.Warmed39 s.vm) (eT : T.heap = h) (F : own_A Z h a k .byte n f) {j : Int32} (i : Nat) (q : j.toInt = (i : Int)) (hi : i < n) {pc : Nat} {Ls : Array Slot} {rest : List Value} (hd : decode c.code pc = .ok (.baload, 1)) :
    ∀ t, Steps p.tables e below (T.setTop (mkF m (pc + 1) Ls (f i :: rest))) t → Steps p.tables e below (T.setTop (mkF m pc Ls (.int j :: .ref a :: rest))) t := fun t kt => by
  obtain ⟨cl, A, r1, r2, r3, r4⟩ := F
  exact X.baloadBytes hx (j := j) (v := f i) (by rw [eT]; exact A.1) (State.isArrayOf_alike hZ.alike A.2.1) A.2.2 (own_in q hi r2) (by rw [own_jn q]; exact r4 i hi) (g := mkF m pc Ls (.int j :: .ref a :: rest)) rfl rfl hd _ kt
theorem own_ldC (X : Stand p l e R s m args below meth c T locs cells slots) (hx : p.tables.exec = Jvm.exec) (hZ : Z.Warmed39 s.vm) (eT : T.heap = h) (F : own_A Z h a k .char n f) {j : Int32} (i : Nat) (q : j.toInt = (i : Int)) (hi : i < n) {pc : Nat} {Ls : Array Slot} {rest : List Value} (hd : decode c.code pc = .ok (.caload, 1)) :
    ∀ t, Steps p.tables e below (T.setTop (mkF m (pc + 1) Ls (f i :: rest))) t → Steps p.tables e below (T.setTop (mkF m pc Ls (.int j :: .ref a :: rest))) t := fun t kt => by
  obtain ⟨cl, A, r1, r2, r3, r4⟩ := F
  exact X.caload hx (j := j) (v := f i) (by rw [eT]; exact A.1) (State.isArrayOf_alike hZ.alike A.2.1) A.2.2 (own_in q hi r2) (by rw [own_jn q]; exact r4 i hi) (g := mkF m pc Ls (.int j :: .ref a :: rest)) rfl rfl hd _ kt
theorem own_ldR (X : Stand p l e R s m args below meth c T locs cells slots) (hx : p.tables.exec = Jvm.exec) (hZ : Z.Warmed39 s.vm) (eT : T.heap = h) (F : own_A Z h a k ty n f) (hty : ty.isReference = true) {j : Int32} (i : Nat) (q : j.toInt = (i : Int)) (hi : i < n) {pc : Nat} {Ls : Array Slot} {rest : List Value} (hd : decode c.code pc = .ok (.aaload, 1)) :
    ∀ t, Steps p.tables e below (T.setTop (mkF m (pc + 1) Ls (f i :: rest))) t → Steps p.tables e below (T.setTop (mkF m pc Ls (.int j :: .ref a :: rest))) t := fun t kt => by
  obtain ⟨cl, A, r1, r2, r3, r4⟩ := F
  exact X.aaload hx (j := j) (v := f i) (by rw [eT]; exact A.1) (State.isArrayOf_alike hZ.alike A.2.1) hty A.2.2 (own_in q hi r2) (by rw [own_jn q]; exact r4 i hi) (g := mkF m pc Ls (.int j :: .ref a :: rest)) rfl rfl hd _ kt
theorem own_len (X : Stand p l e R s m args below meth c T locs cells slots) (hx : p.tables.exec = Jvm.exec) (hZ : Z.Warmed39 s.vm) (eT : T.heap = h) (F : own_A Z h a k ty n f) {pc : Nat} {Ls : Array Slot} {rest : List Value} (hd : decode c.code pc = .ok (.arraylength, 1)) (z : Int32) (hz : z.toInt = (n : Int)) :
    ∀ t, Steps p.tables e below (T.setTop (mkF m (pc + 1) Ls (.int z :: rest))) t → Steps p.tables e below (T.setTop (mkF m pc Ls (.ref a :: rest))) t := fun t kt => by
  obtain ⟨cl, A, r1, r2, r3, r4⟩ := F
  have q : cl.slots.size.toInt32 = z := by
    apply Int32.toInt_inj.mp; rw [r2, hz]; exact len_toInt r3
  exact X.arraylength hx (by rw [eT]; exact A.1) (State.isArrayOf_alike hZ.alike A.2.1) (g := mkF m pc Ls (.ref a :: rest)) rfl rfl hd _ (by rw [q]; exact kt)
theorem own_cat {w : Value} (h : w.isRef = true) : w.category = 1 := by cases w <;> first | rfl | cases h
theorem own_nb (x : Int32) : nar .byte x.toInt8.toInt32 = x.toInt8.toInt32 := by simp [nar]
theorem own_nc (x : Int32) : nar .char x.toUInt32.toUInt16.toUInt32.toInt32 = x.toUInt32.toUInt16.toUInt32.toInt32 := by
  have := Jvm.Free.XT.narrow_c x
  simpa [nar, narrow] using this
theorem own_nz {z : Int32} (q : z = 0 ∨ z = 1) : nar .boolean z = z := by rcases q with rfl | rfl <;> rfl
theorem own_bt {P : Prop} [Decidable P] (q : P) : ¬ ((if P then (1 : Int32) else 0) = 0) := by simp [q]
theorem own_bf {P : Prop} [Decidable P] (q : ¬ P) : (if P then (1 : Int32) else 0) = 0 := by simp [q]
theorem own_nt {P : Prop} [Decidable P] (q : P) : (if P then (0 : Int32) else 1) = 0 := by simp [q]
theorem own_nf {P : Prop} [Decidable P] (q : ¬ P) : ¬ ((if P then (0 : Int32) else 1) = 0) := by simp [q]
theorem own_lrem {target : State} (X : Stand p l e R s m args below meth c T locs cells slots) (hx : p.tables.exec = Jvm.exec) (hg : g.method = m) {x y : Int64} {rest : List Value} (hd : decode c.code g.pc = .ok (.lrem, 1)) (hs : g.stack = .long y :: .long x :: rest) (hy : y ≠ 0)
    (hr : Steps p.tables e below (T.setTop { g with pc := g.pc + 1, stack := .long (x % y) :: rest }) target) : Steps p.tables e below (T.setTop g) target := XS.lrem X.here hx hg hd hs hy (by rw [lrem_mod]; exact hr)
end OwnKit
theorem own_fv {Z : State} {args : Array Value} {t : Term} {C n d : String} {i : Int32} {a : Addr} (h : (Cond.eq (.field t C n d) (.int i)).value args Z none Z [] = some true) (ht : t.eval args Z none [] Z = some (.ref a)) : Fld Z Z.heap a C n d (.int i) := by
  apply Fld.start
  have e := fld_at (args := args) (first := Z) (o := none) (idx := []) (s := Z) (C := C) (n := n) (dd := d) ht
  rw [← e]
  simp only [Cond.value, Term.int_eval] at h
  cases hx : (Term.field t C n d).eval args Z none [] Z with
  | none => simp [hx] at h
  | some x => cases x <;> simp [hx] at h ⊢; exact h
def own_ck (W : Nat → Addr) (code : Int32) : Value := if code < (1 : Int32) then .null else if (16 : Int32) < code then .null else .ref (W (code.toNatClampNeg - 1))
theorem own_ckr (W : Nat → Addr) (code : Int32) : (own_ck W code).isRef = true := by unfold own_ck; (repeat' split) <;> rfl
theorem own_x0 {code : Int32} (h1 : ¬ code < (1 : Int32)) (h2 : ¬ (16 : Int32) < code) : 1 ≤ code.toInt ∧ code.toInt ≤ 16 := by
  rw [Int32.lt_iff_toInt_lt] at h1 h2
  have : (1 : Int32).toInt = 1 := rfl
  have : (16 : Int32).toInt = 16 := rfl
  omega
theorem own_x1 {code : Int32} (h1 : ¬ code < (1 : Int32)) (h2 : ¬ (16 : Int32) < code) : (code - (1 : Int32)).toInt = ((code.toNatClampNeg - 1 : Nat) : Int) := by
  have := own_x0 h1 h2; have := c_isub code 1; have := rng32 (code - 1); have : (1 : Int32).toInt = 1 := rfl
  simp only [Int32.toNatClampNeg]; omega
theorem own_x2 {code : Int32} (h1 : ¬ code < (1 : Int32)) (h2 : ¬ (16 : Int32) < code) : code.toNatClampNeg - 1 < 16 := by
  have := own_x0 h1 h2; simp only [Int32.toNatClampNeg]; omega
theorem own_ofn {j : Nat} (h : j < 1000) : (Int32.ofNat (j + 1)).toInt = (j : Int) + 1 := by
  rw [Int32.toInt_ofNat_small (by omega)]; omega
theorem own_ckN {W : Nat → Addr} {code : Int32} {ni : Nat} (hk : ni + 0 = 16) (hno : ∀ j, j < ni → ¬ code = Int32.ofNat (j + 1)) : own_ck W code = .null := by
  unfold own_ck
  by_cases h1 : code < 1
  · rw [if_pos h1]
  · rw [if_neg h1]
    by_cases h2 : (16 : Int32) < code
    · rw [if_pos h2]
    · have h := own_x0 h1 h2
      exact absurd (Int32.toInt_inj.mp (by rw [own_ofn (by omega)]; omega)) (hno (code.toInt.toNat - 1) (by omega))
theorem own_ckY {W : Nat → Addr} {code : Int32} {ni : Nat} (h : code = Int32.ofNat (ni + 1)) (hn : ni < 16) : own_ck W code = .ref (W ni) := by
  have e : code.toInt = (ni : Int) + 1 := by rw [h]; exact own_ofn (by omega)
  have l1 : (1 : Int32).toInt = 1 := rfl
  have l16 : (16 : Int32).toInt = 16 := rfl
  unfold own_ck
  rw [if_neg (by rw [Int32.lt_iff_toInt_lt]; omega), if_neg (by rw [Int32.lt_iff_toInt_lt]; omega), show code.toNatClampNeg - 1 = ni by simp only [Int32.toNatClampNeg]; omega]
theorem own_nx {code : Int32} {ni : Nat} (hno : ∀ j, j < ni → ¬ code = Int32.ofNat (j + 1)) (h : ¬ Int32.ofNat (ni + 1) = code) : ∀ j, j < ni + 1 → ¬ code = Int32.ofNat (j + 1) := by
  intro j hj
  by_cases q : j = ni
  · subst q; exact fun r => h r.symm
  · exact hno j (by omega)
theorem own_inc {i : Int32} {n : Nat} (h : i.toInt = (n : Int)) (hn : n < 1000) : (i + (1 : Int32)).toInt = ((n + 1 : Nat) : Int) := by
  have := c_iadd i 1; have := rng32 (i + 1); have : (1 : Int32).toInt = 1 := rfl; omega
theorem own_ge {i to : Int32} {ni nt : Nat} (hi : i.toInt = (ni : Int)) (ht : to.toInt = (nt : Int)) (h : ni + 0 = nt) : ¬ i < to := by
  rw [Int32.lt_iff_toInt_lt]; omega
theorem own_lt {i to : Int32} {ni nt kk : Nat} (hi : i.toInt = (ni : Int)) (ht : to.toInt = (nt : Int)) (h : ni + (kk + 1) = nt) : i < to := by
  rw [Int32.lt_iff_toInt_lt]; omega
theorem own_toW {Z : State} {h : Heap} {a : Addr} {k : ClassId} {ty : FieldType} {W : Nat → Addr} (A : own_A Z h a k ty 16 (fun x => (([(.ref (W 0)), (.ref (W 1)), (.ref (W 2)), (.ref (W 3)), (.ref (W 4)), (.ref (W 5)), (.ref (W 6)), (.ref (W 7)), (.ref (W 8)), (.ref (W 9)), (.ref (W 10)), (.ref (W 11)), (.ref (W 12)), (.ref (W 13)), (.ref (W 14)), (.ref (W 15))] : List Value).getD x .null))) : own_A Z h a k ty 16 (fun x => .ref (W x)) :=
  A.cong fun i hi => by
    have : i = 0 ∨ i = 1 ∨ i = 2 ∨ i = 3 ∨ i = 4 ∨ i = 5 ∨ i = 6 ∨ i = 7 ∨ i = 8 ∨ i = 9 ∨ i = 10 ∨ i = 11 ∨ i = 12 ∨ i = 13 ∨ i = 14 ∨ i = 15 := by omega
    rcases this with rfl | rfl | rfl | rfl | rfl | rfl | rfl | rfl | rfl | rfl | rfl | rfl | rfl | rfl | rfl | rfl <;> rfl
theorem own_clone {p : Program} {l : Launch} {e : Env} {R : Room} {s : State} {m : MethodId} {args : Array Value} {below : List Frame} {meth : Method} {c : Code} {T : State} {locs : List Loc} {cells slots : Nat} {Z : State} {a0 : Array Value} {h : Heap} (X : Stand p l e R s m args below meth c T locs cells slots) (hx : p.tables.exec = Jvm.exec) (hZ : Z.Warmed39 s.vm) {own ad : String} {index : Nat} (hown : s.vm.findClass own = some m.cls)
    (w1 : (Cond.methodLink own index ⟨ad, "clone", "()Ljava/lang/Object;"⟩).before a0 Z = true) (w2 : (Cond.sameMethod ad "java/lang/Object" "clone" "()Ljava/lang/Object;").before a0 Z = true) (w3 : (Cond.native ⟨"java/lang/Object", "clone", "()Ljava/lang/Object;"⟩).before a0 Z = true)
    (w4 : (Cond.instanceMethod ⟨"java/lang/Object", "clone", "()Ljava/lang/Object;"⟩).before a0 Z = true) (w5 : (Cond.selects ad ⟨ad, "clone", "()Ljava/lang/Object;"⟩ ⟨"java/lang/Object", "clone", "()Ljava/lang/Object;"⟩).before a0 Z = true) (w6 : (Cond.castable ad "java/lang/Cloneable").before a0 Z = true)
    (eT : T.heap = h) {a : Addr} {k : ClassId} {ty : FieldType} {n : Nat} {f : Nat → Value} (F : own_A Z h a k ty n f) (hfit : ∀ i, i < n → fits ty (f i) = true) (E : Exa Z h a ad) {pc : Nat} {Ls : Array Slot} {rest : List Value} (hsize : Ls.size = c.maxLocals) (hd : decode c.code pc = .ok (.invokevirtual index, 3))
    (hf : 1 ≤ R.frames) {W cap : Nat} (hW : (rest.map fun v => v.category).sum ≤ W) (hl : W + 14 ≤ R.locals) (hcap : n ≤ cap) (hc : cells + 1 ≤ R.cells) (hsl : slots + cap ≤ R.slots) :
    ∃ T' h', Stand p l e R s m args below meth c T' locs (cells + 1) (slots + cap) ∧ T'.heap = h' ∧ Ext h h' ∧ own_A Z h' h.size k ty n f ∧ Exa Z h' h.size ad ∧
      ∀ t, Steps p.tables e below (T'.setTop (mkF m (pc + 3) Ls (.ref h.size :: rest))) t → Steps p.tables e below (T.setTop (mkF m pc Ls (.ref a :: rest))) t := by
  obtain ⟨cl, A, q1, q2, q3, q4⟩ := F
  have FC : FitC Z cl := fitC_of A fun i hi v hv => by rw [q4 i (q2 ▸ hi)] at hv; cases hv; exact hfit i (q2 ▸ hi)
  obtain ⟨T', h', X', e', ex, A', E', st⟩ := cloneA X hx hZ hown w1 w2 w3 w4 w5 w6 eT A E FC (g := mkF m pc Ls (.ref a :: rest)) rfl hsize rfl hd hf (W := W) (by show 2 * 0 + _ ≤ _; omega) hl (cap := cap) (by omega) hc hsl
  exact ⟨T', h', X', e', ex, ⟨cloneOf cl, A', q1, q2, q3, q4⟩, E', st⟩
theorem own_sz {Z : State} {args : Array Value} {t : Term} {a : Addr} {cl : Cell} {ty : FieldType} (ev : t.eval args Z none [] Z = some (.ref a)) (A : Arr Z Z.heap a cl ty) (h : (Cond.eq (.length t) (.int 16)).value args Z none Z [] = some true) : cl.slots.size = 16 := by
  obtain ⟨x, y, e1, e2, -, -⟩ := cmp_v (Or.inl h)
  simp only [Term.eval, ev, A.fin (Vm.Alike.refl _), Option.bind_eq_bind, Option.bind_some] at e1
  split at e1
  · rename_i hlt
    cases e1
    have q := gotT (Cond.eq_ints (by simp only [Term.eval, ev, A.fin (Vm.Alike.refl _), Option.bind_eq_bind, Option.bind_some, hlt, if_true]; rfl) (Term.int_eval 16)) h
    have q2 := congrArg Int32.toInt q
    rw [len_toInt (by simpa using hlt)] at q2
    have : (16 : Int32).toInt = 16 := rfl
    omega
  · cases e1
theorem own_el {Z : State} {args : Array Value} {t u : Term} {a w : Addr} {cl : Cell} {ty : FieldType} {j : Int32} (ev : t.eval args Z none [] Z = some (.ref a)) (A : Arr Z Z.heap a cl ty) (h : (Cond.eq (.elem t (.int j)) u).value args Z none Z [] = some true) (hu : u.eval args Z none [] Z = some (.ref w)) {k : Nat} (hj : j.toNatClampNeg = k) (hn : ¬ j < 0) : cl.slots[k]? = some (.ref w) := by
  obtain ⟨x, y, e1, e2, k1, k2⟩ := cmp_v (Or.inl h)
  cases hu.symm.trans e2
  have hx : x.isRef = true := by cases x <;> simp_all [Kin, Value.isRef]
  have q := gotT (eq_R e1 hu hx rfl) h
  subst q
  have := (elem_in e1 ev (Term.int_eval j) A.1).2
  rw [hj] at this; exact this

theorem dmethod_3_code_0 : decode method_3_code 0 = .ok (.iload_n 1, 1) := by decide +kernel
theorem dmethod_3_code_1 : decode method_3_code 1 = .ok (.iconst 1, 1) := by decide +kernel
theorem dmethod_3_code_2 : decode method_3_code 2 = .ok (.if_icmp .ge 5, 3) := by decide +kernel
theorem dmethod_3_code_5 : decode method_3_code 5 = .ok (.aconst_null, 1) := by decide +kernel
theorem dmethod_3_code_6 : decode method_3_code 6 = .ok (.areturn, 1) := by decide +kernel
theorem dmethod_3_code_7 : decode method_3_code 7 = .ok (.iload_n 1, 1) := by decide +kernel
theorem dmethod_3_code_8 : decode method_3_code 8 = .ok (.bipush 16, 2) := by decide +kernel
theorem dmethod_3_code_10 : decode method_3_code 10 = .ok (.if_icmp .le 5, 3) := by decide +kernel
theorem dmethod_3_code_13 : decode method_3_code 13 = .ok (.aconst_null, 1) := by decide +kernel
theorem dmethod_3_code_14 : decode method_3_code 14 = .ok (.areturn, 1) := by decide +kernel
theorem dmethod_3_code_15 : decode method_3_code 15 = .ok (.aload_n 0, 1) := by decide +kernel
theorem dmethod_3_code_16 : decode method_3_code 16 = .ok (.iload_n 1, 1) := by decide +kernel
theorem dmethod_3_code_17 : decode method_3_code 17 = .ok (.iconst 1, 1) := by decide +kernel
theorem dmethod_3_code_18 : decode method_3_code 18 = .ok (.isub, 1) := by decide +kernel
theorem dmethod_3_code_19 : decode method_3_code 19 = .ok (.aaload, 1) := by decide +kernel
theorem dmethod_3_code_20 : decode method_3_code 20 = .ok (.areturn, 1) := by decide +kernel
theorem ef_rm3 (m_ : MethodId) (k : Addr) (code : Int32) : entryFrame m_ #[(.ref k), (.int code)] 2 = mkF m_ 0 #[.val (.ref k), .val (.int code)] [] := by first | (simp [entryFrame, mkF, argsToLocals, Value.category]; done) | rfl
theorem own_pn0 : plainName "com/example/varrowkeep/varrowkeep/ContainerKindForCodePinLaw" = true := by first | (simp [plainName, overriddenIn]; done) | decide +kernel
set_option maxRecDepth 65536 in
set_option maxHeartbeats 40000000 in
theorem rm3 (l : Launch) (Z : State) (a0 : Array Value) (hw : ∀ d ∈ tables_1, d.before a0 Z = true) (k : Addr) (code : Int32) (kk : ClassId) (W : Nat → Addr) (h0 : Heap) (n0 : Nat) (Z0 : n0 ≤ h0.size) (V : own_A Z h0 k kk (.object "com/example/varrowkeep/varrowkeep/ContainerKind") 16 (fun x => .ref (W x))) :
    own_Met l Z (⟨"com/example/varrowkeep/varrowkeep/ContainerKindForCodePinLaw", "expected", "([Lcom/example/varrowkeep/varrowkeep/ContainerKind;I)Lcom/example/varrowkeep/varrowkeep/ContainerKind;"⟩ : MethodName) method_3_code 2 (some (.object "com/example/varrowkeep/varrowkeep/ContainerKind")) ({ frames := 0, cells := 0, slots := 0, locals := 0 } : Room) #[(.ref k), (.int code)] h0 (fun v h L => v = some (own_ck W code) ∧ Fr n0 L ∧ h = h0) := by
  refine own_body #[.val (.ref k), .val (.int code)] (plainFor_of_name own_pn0) (fun m_ => ef_rm3 m_ k code) ?_
  intro p_ e_ s_ m_ below meth c_ s₁ X0 hx hby hml hret hlk hZ hown hnm e0
  have N0 := Fr.nil n0
  show own_Out p_ e_ below s_ _ _ _ s₁ (mkF m_ 0 #[.val (.ref k), .val (.int code)] [])
  refine own_st s₁ (mkF m_ 2 #[.val (.ref k), .val (.int code)] [(.int (1 : Int32)), (.int code)]) (fun t_ k_ => ?_) ?_
  · refine XS.iloadN X0.here hx rfl (hb hby dmethod_3_code_0) rfl ?_
    show Steps p_.tables e_ below (s₁.setTop (mkF m_ 1 #[.val (.ref k), .val (.int code)] [(.int code)])) t_
    refine XS.iconst X0.here hx rfl (hb hby dmethod_3_code_1) ?_
    show Steps p_.tables e_ below (s₁.setTop (mkF m_ 2 #[.val (.ref k), .val (.int code)] [(.int (1 : Int32)), (.int code)])) t_
    exact k_
  by_cases hc2 : code < (1 : Int32)
  · refine own_st s₁ (mkF m_ 5 #[.val (.ref k), .val (.int code)] []) (fun t_ k_ => XS.icmpNo X0.here hx rfl (hb hby dmethod_3_code_2) rfl (tlt hc2).2.1 k_) ?_
    refine own_st s₁ (mkF m_ 6 #[.val (.ref k), .val (.int code)] [.null]) (fun t_ k_ => ?_) ?_
    · refine XS.aconstNull X0.here hx rfl (hb hby dmethod_3_code_5) ?_
      show Steps p_.tables e_ below (s₁.setTop (mkF m_ 6 #[.val (.ref k), .val (.int code)] [.null])) t_
      exact k_
    refine own_retA X0 hx hlk hret rfl rfl (hb hby dmethod_3_code_6) (by decide) (by decide) ?_
    rw [e0]
    exact ⟨by simp only [own_ck, if_pos hc2], N0, rfl⟩
  · refine own_st s₁ (mkF m_ 7 #[.val (.ref k), .val (.int code)] []) (fun t_ k_ => XS.icmpYes X0.here hx rfl (pc0 := 2) (pc' := 7) rfl (hb hby dmethod_3_code_2) rfl (flt hc2).2.1 (by decide) (by decide) k_) ?_
    refine own_st s₁ (mkF m_ 10 #[.val (.ref k), .val (.int code)] [(.int (16 : Int32)), (.int code)]) (fun t_ k_ => ?_) ?_
    · refine XS.iloadN X0.here hx rfl (hb hby dmethod_3_code_7) rfl ?_
      show Steps p_.tables e_ below (s₁.setTop (mkF m_ 8 #[.val (.ref k), .val (.int code)] [(.int code)])) t_
      refine XS.bipush X0.here hx rfl (hb hby dmethod_3_code_8) ?_
      show Steps p_.tables e_ below (s₁.setTop (mkF m_ 10 #[.val (.ref k), .val (.int code)] [(.int (16 : Int32)), (.int code)])) t_
      exact k_
    by_cases hc10 : (16 : Int32) < code
    · refine own_st s₁ (mkF m_ 13 #[.val (.ref k), .val (.int code)] []) (fun t_ k_ => XS.icmpNo X0.here hx rfl (hb hby dmethod_3_code_10) rfl (tlt hc10).2.2.2 k_) ?_
      refine own_st s₁ (mkF m_ 14 #[.val (.ref k), .val (.int code)] [.null]) (fun t_ k_ => ?_) ?_
      · refine XS.aconstNull X0.here hx rfl (hb hby dmethod_3_code_13) ?_
        show Steps p_.tables e_ below (s₁.setTop (mkF m_ 14 #[.val (.ref k), .val (.int code)] [.null])) t_
        exact k_
      refine own_retA X0 hx hlk hret rfl rfl (hb hby dmethod_3_code_14) (by decide) (by decide) ?_
      rw [e0]
      exact ⟨by simp only [own_ck, if_neg hc2, if_pos hc10], N0, rfl⟩
    · refine own_st s₁ (mkF m_ 15 #[.val (.ref k), .val (.int code)] []) (fun t_ k_ => XS.icmpYes X0.here hx rfl (pc0 := 10) (pc' := 15) rfl (hb hby dmethod_3_code_10) rfl (flt hc10).2.2.2 (by decide) (by decide) k_) ?_
      refine own_st s₁ (mkF m_ 20 #[.val (.ref k), .val (.int code)] [(.ref (W (code.toNatClampNeg - 1)))]) (fun t_ k_ => ?_) ?_
      · refine XS.aloadN X0.here hx rfl (hb hby dmethod_3_code_15) rfl rfl ?_
        show Steps p_.tables e_ below (s₁.setTop (mkF m_ 16 #[.val (.ref k), .val (.int code)] [(.ref k)])) t_
        refine XS.iloadN X0.here hx rfl (hb hby dmethod_3_code_16) rfl ?_
        show Steps p_.tables e_ below (s₁.setTop (mkF m_ 17 #[.val (.ref k), .val (.int code)] [(.int code), (.ref k)])) t_
        refine XS.iconst X0.here hx rfl (hb hby dmethod_3_code_17) ?_
        show Steps p_.tables e_ below (s₁.setTop (mkF m_ 18 #[.val (.ref k), .val (.int code)] [(.int (1 : Int32)), (.int code), (.ref k)])) t_
        refine XS.isub X0.here hx rfl (hb hby dmethod_3_code_18) rfl ?_
        show Steps p_.tables e_ below (s₁.setTop (mkF m_ 19 #[.val (.ref k), .val (.int code)] [(.int (code - (1 : Int32))), (.ref k)])) t_
        refine own_ldR X0 hx hZ e0 V rfl (code.toNatClampNeg - 1) (own_x1 hc2 hc10) (own_x2 hc2 hc10) (hb hby dmethod_3_code_19) _ ?_
        show Steps p_.tables e_ below (s₁.setTop (mkF m_ 20 #[.val (.ref k), .val (.int code)] [(.ref (W (code.toNatClampNeg - 1)))])) t_
        exact k_
      refine own_retA X0 hx hlk hret rfl rfl (hb hby dmethod_3_code_20) (by decide) (by decide) ?_
      rw [e0]
      exact ⟨by simp only [own_ck, if_neg hc2, if_neg hc10], N0, rfl⟩
theorem dprog_1_method_1_code_0 : decode prog_1_method_1_code 0 = .ok (.getstatic 52, 3) := by decide +kernel
theorem dprog_1_method_1_code_3 : decode prog_1_method_1_code 3 = .ok (.invokevirtual 56, 3) := by decide +kernel
theorem dprog_1_method_1_code_6 : decode prog_1_method_1_code 6 = .ok (.checkcast 57, 3) := by decide +kernel
theorem dprog_1_method_1_code_9 : decode prog_1_method_1_code 9 = .ok (.areturn, 1) := by decide +kernel
theorem ef_rm2 (m_ : MethodId)  : entryFrame m_ #[] 0 = mkF m_ 0 #[] [] := by first | (simp [entryFrame, mkF, argsToLocals, Value.category]; done) | rfl
theorem own_pn1 : plainName "com/example/varrowkeep/varrowkeep/ContainerKind" = true := by first | (simp [plainName, overriddenIn]; done) | decide +kernel
set_option maxRecDepth 65536 in
set_option maxHeartbeats 40000000 in
theorem rm2 (l : Launch) (Z : State) (a0 : Array Value) (hw : ∀ d ∈ tables_1, d.before a0 Z = true)  (kv : ClassId) (vv : Addr) (W : Nat → Addr) (h0 : Heap) (n0 : Nat) (Z0 : n0 ≤ h0.size) (S_VALUES : Sta Z h0 "com/example/varrowkeep/varrowkeep/ContainerKind" "$VALUES" "[Lcom/example/varrowkeep/varrowkeep/ContainerKind;" (.ref vv)) (V : own_A Z h0 vv kv (.object "com/example/varrowkeep/varrowkeep/ContainerKind") 16 (fun x => .ref (W x))) (E_vv : Exa Z h0 vv "[Lcom/example/varrowkeep/varrowkeep/ContainerKind;") :
    own_Met l Z (⟨"com/example/varrowkeep/varrowkeep/ContainerKind", "values", "()[Lcom/example/varrowkeep/varrowkeep/ContainerKind;"⟩ : MethodName) prog_1_method_1_code 0 (some (.array (.object "com/example/varrowkeep/varrowkeep/ContainerKind"))) ({ frames := 1, cells := 1, slots := 16, locals := 14 } : Room) #[] h0 (fun v h L => ∃ (b : Addr) (kb : ClassId), v = some (.ref b) ∧ n0 ≤ b ∧ Fr n0 L ∧ Ext h0 h ∧ own_A Z h b kb (.object "com/example/varrowkeep/varrowkeep/ContainerKind") 16 (fun x => .ref (W x))) := by
  refine own_body #[] (plainFor_of_name own_pn1) (fun m_ => ef_rm2 m_ ) ?_
  intro p_ e_ s_ m_ below meth c_ s₁ X0 hx hby hml hret hlk hZ hown hnm e0
  have N0 := Fr.nil n0
  show own_Out p_ e_ below s_ _ _ _ s₁ (mkF m_ 0 #[] [])
  obtain ⟨T1, X1, e1, st1⟩ := getS2 X0 hx hZ hown (host := "") (Or.inl (hw _ (List.mem_of_getElem? (i := 42) rfl))) Via.refl e0 S_VALUES (g := (mkF m_ 0 #[] [])) rfl (hb hby dprog_1_method_1_code_0)
  refine own_st T1 (mkF m_ 3 #[] [(.ref vv)]) st1 ?_
  obtain ⟨T2, h2, X2, e2, E2, Aq2, E_b2, st2⟩ := own_clone X1 hx hZ hown (hw _ (List.mem_of_getElem? (i := 44) rfl)) (hw _ (List.mem_of_getElem? (i := 45) rfl)) (hw _ (List.mem_of_getElem? (i := 49) rfl)) (hw _ (List.mem_of_getElem? (i := 47) rfl)) (hw _ (List.mem_of_getElem? (i := 48) rfl)) (hw _ (List.mem_of_getElem? (i := 50) rfl)) e1 (V) (fun i hi => rfl) E_vv (pc := 3) (Ls := #[]) (rest := []) (by rw [hml]; rfl) (hb hby dprog_1_method_1_code_3) (by decide) (W := 0) (Nat.le_of_eq rfl) (by decide) (cap := 16) (by decide) (by decide) (by decide)
  obtain ⟨b2, g2⟩ : ∃ z, z = h0.size := ⟨_, rfl⟩
  rw [← g2] at Aq2 E_b2 st2
  have g_b2 : n0 ≤ b2 := g2 ▸ Z0
  have ne_vv_b2 : vv ≠ b2 := Nat.ne_of_lt (Nat.lt_of_lt_of_le V.lt (Nat.le_of_eq g2.symm))
  replace V := V.ext E2
  replace E_vv := E_vv.ext E2
  replace Z0 : n0 ≤ h2.size := Nat.le_trans Z0 E2.1
  have EXT := E2
  have A_b2 := Aq2
  refine own_st T2 (mkF m_ 6 #[] [(.ref b2)]) st2 ?_
  obtain ⟨T3, X3, e3, st3⟩ := castY X2 hx hZ hown (hw _ (List.mem_of_getElem? (i := 52) rfl)) e2 (Ins.self E_b2) (g := (mkF m_ 6 #[] [(.ref b2)])) rfl rfl (hb hby dprog_1_method_1_code_6)
  refine own_st T3 (mkF m_ 9 #[] [(.ref b2)]) st3 ?_
  refine own_retA X3 hx hlk hret rfl rfl (hb hby dprog_1_method_1_code_9) (by decide) (by decide) ?_
  rw [e3]
  exact ⟨b2, _, rfl, g_b2, N0, EXT, A_b2⟩
theorem own_pd0 : parseMethodDescriptor "()[Lcom/example/varrowkeep/varrowkeep/ContainerKind;" = some ⟨[], some (.array (.object "com/example/varrowkeep/varrowkeep/ContainerKind"))⟩ := by decide +kernel
theorem dprog_1_method_9_code_0 : decode prog_1_method_9_code 0 = .ok (.invokestatic 102, 3) := by decide +kernel
theorem dprog_1_method_9_code_3 : decode prog_1_method_9_code 3 = .ok (.astore_n 1, 1) := by decide +kernel
theorem dprog_1_method_9_code_4 : decode prog_1_method_9_code 4 = .ok (.aload_n 1, 1) := by decide +kernel
theorem dprog_1_method_9_code_5 : decode prog_1_method_9_code 5 = .ok (.arraylength, 1) := by decide +kernel
theorem dprog_1_method_9_code_6 : decode prog_1_method_9_code 6 = .ok (.istore_n 2, 1) := by decide +kernel
theorem dprog_1_method_9_code_7 : decode prog_1_method_9_code 7 = .ok (.iconst 0, 1) := by decide +kernel
theorem dprog_1_method_9_code_8 : decode prog_1_method_9_code 8 = .ok (.istore_n 3, 1) := by decide +kernel
theorem dprog_1_method_9_code_9 : decode prog_1_method_9_code 9 = .ok (.iload_n 3, 1) := by decide +kernel
theorem dprog_1_method_9_code_10 : decode prog_1_method_9_code 10 = .ok (.iload_n 2, 1) := by decide +kernel
theorem dprog_1_method_9_code_11 : decode prog_1_method_9_code 11 = .ok (.if_icmp .ge 26, 3) := by decide +kernel
theorem dprog_1_method_9_code_37 : decode prog_1_method_9_code 37 = .ok (.aconst_null, 1) := by decide +kernel
theorem dprog_1_method_9_code_38 : decode prog_1_method_9_code 38 = .ok (.areturn, 1) := by decide +kernel
theorem dprog_1_method_9_code_14 : decode prog_1_method_9_code 14 = .ok (.aload_n 1, 1) := by decide +kernel
theorem dprog_1_method_9_code_15 : decode prog_1_method_9_code 15 = .ok (.iload_n 3, 1) := by decide +kernel
theorem dprog_1_method_9_code_16 : decode prog_1_method_9_code 16 = .ok (.aaload, 1) := by decide +kernel
theorem dprog_1_method_9_code_17 : decode prog_1_method_9_code 17 = .ok (.astore 4, 2) := by decide +kernel
theorem dprog_1_method_9_code_19 : decode prog_1_method_9_code 19 = .ok (.aload 4, 2) := by decide +kernel
theorem dprog_1_method_9_code_21 : decode prog_1_method_9_code 21 = .ok (.getfield 71, 3) := by decide +kernel
theorem dprog_1_method_9_code_24 : decode prog_1_method_9_code 24 = .ok (.iload_n 0, 1) := by decide +kernel
theorem dprog_1_method_9_code_25 : decode prog_1_method_9_code 25 = .ok (.if_icmp .ne 6, 3) := by decide +kernel
theorem dprog_1_method_9_code_28 : decode prog_1_method_9_code 28 = .ok (.aload 4, 2) := by decide +kernel
theorem dprog_1_method_9_code_30 : decode prog_1_method_9_code 30 = .ok (.areturn, 1) := by decide +kernel
theorem dprog_1_method_9_code_31 : decode prog_1_method_9_code 31 = .ok (.iinc 3 1, 3) := by decide +kernel
theorem dprog_1_method_9_code_34 : decode prog_1_method_9_code 34 = .ok (.goto (-25), 3) := by decide +kernel
theorem ef_rm1 (m_ : MethodId) (code : Int32) : entryFrame m_ #[(.int code)] 5 = mkF m_ 0 #[.val (.int code), .unset, .unset, .unset, .unset] [] := by first | (simp [entryFrame, mkF, argsToLocals, Value.category]; done) | rfl
set_option maxRecDepth 65536 in
set_option maxHeartbeats 40000000 in
theorem rm1 (l : Launch) (Z : State) (a0 : Array Value) (hw : ∀ d ∈ tables_1, d.before a0 Z = true) (code : Int32) (kv : ClassId) (vv : Addr) (W : Nat → Addr) (h0 : Heap) (n0 : Nat) (Z0 : n0 ≤ h0.size) (S_VALUES : Sta Z h0 "com/example/varrowkeep/varrowkeep/ContainerKind" "$VALUES" "[Lcom/example/varrowkeep/varrowkeep/ContainerKind;" (.ref vv)) (V : own_A Z h0 vv kv (.object "com/example/varrowkeep/varrowkeep/ContainerKind") 16 (fun x => .ref (W x))) (E_vv : Exa Z h0 vv "[Lcom/example/varrowkeep/varrowkeep/ContainerKind;") (hF : ∀ i, i < 16 → Fld Z h0 (W i) "com/example/varrowkeep/varrowkeep/ContainerKind" "code" "I" (.int (Int32.ofNat (i + 1)))) :
    own_Met l Z (⟨"com/example/varrowkeep/varrowkeep/ContainerKind", "forCode", "(I)Lcom/example/varrowkeep/varrowkeep/ContainerKind;"⟩ : MethodName) prog_1_method_9_code 5 (some (.object "com/example/varrowkeep/varrowkeep/ContainerKind")) ({ frames := 2, cells := 1, slots := 16, locals := 25 } : Room) #[(.int code)] h0 (fun v h L => v = some (own_ck W code) ∧ Fr n0 L ∧ Ext h0 h) := by
  refine own_body #[.val (.int code), .unset, .unset, .unset, .unset] (plainFor_of_name own_pn1) (fun m_ => ef_rm1 m_ code) ?_
  intro p_ e_ s_ m_ below meth c_ s₁ X0 hx hby hml hret hlk hZ hown hnm e0
  have N0 := Fr.nil n0
  show own_Out p_ e_ below s_ _ _ _ s₁ (mkF m_ 0 #[.val (.int code), .unset, .unset, .unset, .unset] [])
  refine own_callS X0 hx hZ hown (hw _ (List.mem_of_getElem? (i := 39) rfl)) (hw _ (List.mem_of_getElem? (i := 40) rfl)) (hw _ (List.mem_of_getElem? (i := 3) rfl)) (hw _ (List.mem_of_getElem? (i := 41) rfl)) (by decide) [] [] (rm2 l Z a0 hw kv vv W h0 n0 Z0 S_VALUES V E_vv) 0 (by decide) (by decide) e0 (by rw [hml]; rfl) (lenOf own_pd0 rfl) rfl (Nat.le_of_eq rfl) (hb hby dprog_1_method_9_code_0) (by decide) (by decide) ?_
  intro v1 T1 L1 X1 q1
  obtain ⟨b1, k1, rfl, g_b1, N1q, E1, A_b1⟩ := q1
  have N1 := Fr.app N0 N1q
  have hFc := fun i hi => (hF i hi).ext E1
  show own_Out p_ e_ below s_ _ _ _ T1 (mkF m_ 3 #[.val (.int code), .unset, .unset, .unset, .unset] [(.ref b1)])
  refine own_st T1 (mkF m_ 9 #[.val (.int code), .val (.ref b1), .val (.int (16 : Int32)), .val (.int (0 : Int32)), .unset] []) (fun t_ k_ => ?_) ?_
  · refine XS.astoreN X1.here hx rfl (hb hby dprog_1_method_9_code_3) rfl rfl (l' := #[.val (.int code), .val (.ref b1), .unset, .unset, .unset]) rfl ?_
    show Steps p_.tables e_ below (T1.setTop (mkF m_ 4 #[.val (.int code), .val (.ref b1), .unset, .unset, .unset] [])) t_
    refine XS.aloadN X1.here hx rfl (hb hby dprog_1_method_9_code_4) rfl rfl ?_
    show Steps p_.tables e_ below (T1.setTop (mkF m_ 5 #[.val (.int code), .val (.ref b1), .unset, .unset, .unset] [(.ref b1)])) t_
    refine own_len X1 hx hZ rfl A_b1 (hb hby dprog_1_method_9_code_5) (16 : Int32) (by decide) _ ?_
    show Steps p_.tables e_ below (T1.setTop (mkF m_ 6 #[.val (.int code), .val (.ref b1), .unset, .unset, .unset] [(.int (16 : Int32))])) t_
    refine XS.istoreN X1.here hx rfl (hb hby dprog_1_method_9_code_6) rfl (l' := #[.val (.int code), .val (.ref b1), .val (.int (16 : Int32)), .unset, .unset]) rfl ?_
    show Steps p_.tables e_ below (T1.setTop (mkF m_ 7 #[.val (.int code), .val (.ref b1), .val (.int (16 : Int32)), .unset, .unset] [])) t_
    refine XS.iconst X1.here hx rfl (hb hby dprog_1_method_9_code_7) ?_
    show Steps p_.tables e_ below (T1.setTop (mkF m_ 8 #[.val (.int code), .val (.ref b1), .val (.int (16 : Int32)), .unset, .unset] [(.int (0 : Int32))])) t_
    refine XS.istoreN X1.here hx rfl (hb hby dprog_1_method_9_code_8) rfl (l' := #[.val (.int code), .val (.ref b1), .val (.int (16 : Int32)), .val (.int (0 : Int32)), .unset]) rfl ?_
    show Steps p_.tables e_ below (T1.setTop (mkF m_ 9 #[.val (.int code), .val (.ref b1), .val (.int (16 : Int32)), .val (.int (0 : Int32)), .unset] [])) t_
    exact k_
  have loop : ∀ (kk : Nat) (i : Int32) (ni : Nat) (s4 : Slot) (T : State) (lc : List Loc), Stand p_ l e_ ({ frames := 2, cells := 1, slots := 16, locals := 25 } : Room) s_ m_ #[(.int code)] below meth c_ T lc 1 16 → Fr n0 lc → T.heap = T1.heap → One s4 → ni + kk = 16 → i.toInt = (ni : Int) → (∀ j, j < ni → ¬ code = Int32.ofNat (j + 1)) → own_Out p_ e_ below s_ (fun v h L => v = some (own_ck W code) ∧ Fr n0 L ∧ Ext h0 h) 1 16 T (mkF m_ 9 #[.val (.int code), .val (.ref b1), .val (.int (16 : Int32)), .val (.int i), s4] []) := by
    intro kk
    induction kk with
    | zero =>
      intro i ni s4 T lc X N eT hs4 hk hi hno
      refine own_st T (mkF m_ 38 #[.val (.int code), .val (.ref b1), .val (.int (16 : Int32)), .val (.int i), s4] [.null]) (fun t_ k_ => ?_) ?_
      · refine XS.iloadN X.here hx rfl (hb hby dprog_1_method_9_code_9) rfl ?_
        show Steps p_.tables e_ below (T.setTop (mkF m_ 10 #[.val (.int code), .val (.ref b1), .val (.int (16 : Int32)), .val (.int i), s4] [(.int i)])) t_
        refine XS.iloadN X.here hx rfl (hb hby dprog_1_method_9_code_10) rfl ?_
        show Steps p_.tables e_ below (T.setTop (mkF m_ 11 #[.val (.int code), .val (.ref b1), .val (.int (16 : Int32)), .val (.int i), s4] [(.int (16 : Int32)), (.int i)])) t_
        refine XS.icmpYes X.here hx rfl (pc0 := 11) (pc' := 37) rfl (hb hby dprog_1_method_9_code_11) rfl (flt (own_ge hi (show (16 : Int32).toInt = ((16 : Nat) : Int) from rfl) hk : ¬ (i < (16 : Int32)))).2.1 (by decide) (by decide) ?_
        show Steps p_.tables e_ below (T.setTop (mkF m_ 37 #[.val (.int code), .val (.ref b1), .val (.int (16 : Int32)), .val (.int i), s4] [])) t_
        refine XS.aconstNull X.here hx rfl (hb hby dprog_1_method_9_code_37) ?_
        show Steps p_.tables e_ below (T.setTop (mkF m_ 38 #[.val (.int code), .val (.ref b1), .val (.int (16 : Int32)), .val (.int i), s4] [.null])) t_
        exact k_
      refine own_retA X hx hlk hret rfl rfl (hb hby dprog_1_method_9_code_38) (by decide) (by decide) ?_
      rw [eT]
      exact ⟨by rw [own_ckN hk hno], N, E1⟩
    | succ kk ih =>
      intro i ni s4 T lc X N eT hs4 hk hi hno
      refine own_st T (mkF m_ 21 #[.val (.int code), .val (.ref b1), .val (.int (16 : Int32)), .val (.int i), .val (.ref (W ni))] [(.ref (W ni))]) (fun t_ k_ => ?_) ?_
      · refine XS.iloadN X.here hx rfl (hb hby dprog_1_method_9_code_9) rfl ?_
        show Steps p_.tables e_ below (T.setTop (mkF m_ 10 #[.val (.int code), .val (.ref b1), .val (.int (16 : Int32)), .val (.int i), s4] [(.int i)])) t_
        refine XS.iloadN X.here hx rfl (hb hby dprog_1_method_9_code_10) rfl ?_
        show Steps p_.tables e_ below (T.setTop (mkF m_ 11 #[.val (.int code), .val (.ref b1), .val (.int (16 : Int32)), .val (.int i), s4] [(.int (16 : Int32)), (.int i)])) t_
        refine XS.icmpNo X.here hx rfl (hb hby dprog_1_method_9_code_11) rfl (tlt (own_lt hi (show (16 : Int32).toInt = ((16 : Nat) : Int) from rfl) hk : i < (16 : Int32))).2.1 ?_
        show Steps p_.tables e_ below (T.setTop (mkF m_ 14 #[.val (.int code), .val (.ref b1), .val (.int (16 : Int32)), .val (.int i), s4] [])) t_
        refine XS.aloadN X.here hx rfl (hb hby dprog_1_method_9_code_14) rfl rfl ?_
        show Steps p_.tables e_ below (T.setTop (mkF m_ 15 #[.val (.int code), .val (.ref b1), .val (.int (16 : Int32)), .val (.int i), s4] [(.ref b1)])) t_
        refine XS.iloadN X.here hx rfl (hb hby dprog_1_method_9_code_15) rfl ?_
        show Steps p_.tables e_ below (T.setTop (mkF m_ 16 #[.val (.int code), .val (.ref b1), .val (.int (16 : Int32)), .val (.int i), s4] [(.int i), (.ref b1)])) t_
        refine own_ldR X hx hZ eT A_b1 rfl ni hi (by omega) (hb hby dprog_1_method_9_code_16) _ ?_
        show Steps p_.tables e_ below (T.setTop (mkF m_ 17 #[.val (.int code), .val (.ref b1), .val (.int (16 : Int32)), .val (.int i), s4] [(.ref (W ni))])) t_
        refine XS.astoreS X.here hx rfl (hb hby dprog_1_method_9_code_17) rfl rfl rfl rfl hs4 ?_
        show Steps p_.tables e_ below (T.setTop (mkF m_ 19 #[.val (.int code), .val (.ref b1), .val (.int (16 : Int32)), .val (.int i), .val (.ref (W ni))] [])) t_
        refine XS.aload X.here hx rfl (hb hby dprog_1_method_9_code_19) rfl rfl ?_
        show Steps p_.tables e_ below (T.setTop (mkF m_ 21 #[.val (.int code), .val (.ref b1), .val (.int (16 : Int32)), .val (.int i), .val (.ref (W ni))] [(.ref (W ni))])) t_
        exact k_
      obtain ⟨T2, X2, e2, st2⟩ := getF X hx hZ hown (host := "") (Or.inl (hw _ (List.mem_of_getElem? (i := 54) rfl))) Via.refl eT (hFc ni (by omega)) (g := (mkF m_ 21 #[.val (.int code), .val (.ref b1), .val (.int (16 : Int32)), .val (.int i), .val (.ref (W ni))] [(.ref (W ni))])) rfl rfl (hb hby dprog_1_method_9_code_21)
      refine own_st T2 (mkF m_ 24 #[.val (.int code), .val (.ref b1), .val (.int (16 : Int32)), .val (.int i), .val (.ref (W ni))] [(.int (Int32.ofNat (ni + 1)))]) st2 ?_
      refine own_st T2 (mkF m_ 25 #[.val (.int code), .val (.ref b1), .val (.int (16 : Int32)), .val (.int i), .val (.ref (W ni))] [(.int code), (.int (Int32.ofNat (ni + 1)))]) (fun t_ k_ => ?_) ?_
      · refine XS.iloadN X2.here hx rfl (hb hby dprog_1_method_9_code_24) rfl ?_
        show Steps p_.tables e_ below (T2.setTop (mkF m_ 25 #[.val (.int code), .val (.ref b1), .val (.int (16 : Int32)), .val (.int i), .val (.ref (W ni))] [(.int code), (.int (Int32.ofNat (ni + 1)))])) t_
        exact k_
      by_cases hc25 : (Int32.ofNat (ni + 1)) = code
      · refine own_st T2 (mkF m_ 28 #[.val (.int code), .val (.ref b1), .val (.int (16 : Int32)), .val (.int i), .val (.ref (W ni))] []) (fun t_ k_ => XS.icmpNo X2.here hx rfl (hb hby dprog_1_method_9_code_25) rfl (teq hc25).2 k_) ?_
        refine own_st T2 (mkF m_ 30 #[.val (.int code), .val (.ref b1), .val (.int (16 : Int32)), .val (.int i), .val (.ref (W ni))] [(.ref (W ni))]) (fun t_ k_ => ?_) ?_
        · refine XS.aload X2.here hx rfl (hb hby dprog_1_method_9_code_28) rfl rfl ?_
          show Steps p_.tables e_ below (T2.setTop (mkF m_ 30 #[.val (.int code), .val (.ref b1), .val (.int (16 : Int32)), .val (.int i), .val (.ref (W ni))] [(.ref (W ni))])) t_
          exact k_
        refine own_retA X2 hx hlk hret rfl rfl (hb hby dprog_1_method_9_code_30) (by decide) (by decide) ?_
        rw [e2]
        exact ⟨by rw [own_ckY hc25.symm (by omega)], N, E1⟩
      · refine own_st T2 (mkF m_ 31 #[.val (.int code), .val (.ref b1), .val (.int (16 : Int32)), .val (.int i), .val (.ref (W ni))] []) (fun t_ k_ => XS.icmpYes X2.here hx rfl (pc0 := 25) (pc' := 31) rfl (hb hby dprog_1_method_9_code_25) rfl (feq hc25).2 (by decide) (by decide) k_) ?_
        refine own_st T2 (mkF m_ 9 #[.val (.int code), .val (.ref b1), .val (.int (16 : Int32)), .val (.int (i + (1 : Int32))), .val (.ref (W ni))] []) (fun t_ k_ => ?_) ?_
        · refine XS.iinc X2.here hx rfl (hb hby dprog_1_method_9_code_31) rfl (l' := #[.val (.int code), .val (.ref b1), .val (.int (16 : Int32)), .val (.int (i + (1 : Int32))), .val (.ref (W ni))]) rfl ?_
          show Steps p_.tables e_ below (T2.setTop (mkF m_ 34 #[.val (.int code), .val (.ref b1), .val (.int (16 : Int32)), .val (.int (i + (1 : Int32))), .val (.ref (W ni))] [])) t_
          refine XS.goto X2.here hx rfl (pc0 := 34) (pc' := 9) rfl (hb hby dprog_1_method_9_code_34) (by decide) (by decide) ?_
          show Steps p_.tables e_ below (T2.setTop (mkF m_ 9 #[.val (.int code), .val (.ref b1), .val (.int (16 : Int32)), .val (.int (i + (1 : Int32))), .val (.ref (W ni))] [])) t_
          exact k_
        exact ih _ (ni + 1) _ _ _ X2 N e2 (One.val rfl) (by omega) (own_inc hi (by omega)) (own_nx hno hc25)
  exact loop 16 0 0 .unset _ _ X1 N1 rfl One.u (by omega) rfl (fun j hj => absurd hj (Nat.not_lt_zero j))
def own_c (small : Int32) : Int32 := ((small &&& (31 : Int32)) - (7 : Int32))
theorem own_pd1 : parseMethodDescriptor "(I)Lcom/example/varrowkeep/varrowkeep/ContainerKind;" = some ⟨[.int], some (.object "com/example/varrowkeep/varrowkeep/ContainerKind")⟩ := by decide +kernel
theorem own_pd2 : parseMethodDescriptor "([Lcom/example/varrowkeep/varrowkeep/ContainerKind;I)Lcom/example/varrowkeep/varrowkeep/ContainerKind;" = some ⟨[(.array (.object "com/example/varrowkeep/varrowkeep/ContainerKind")), .int], some (.object "com/example/varrowkeep/varrowkeep/ContainerKind")⟩ := by decide +kernel
theorem ef_rm0 (m_ : MethodId) (raw : Int32) (small : Int32) : entryFrame m_ #[(.int raw), (.int small)] maxLocals = mkF m_ 0 #[.val (.int raw), .val (.int small), .unset, .unset, .unset, .unset] [] := by first | (simp [entryFrame, mkF, argsToLocals, Value.category, maxLocals]; done) | rfl
set_option maxRecDepth 65536 in
set_option maxHeartbeats 40000000 in
theorem rm0 (l : Launch) (Z : State) (a0 : Array Value) (hw : ∀ d ∈ tables_1, d.before a0 Z = true) (raw : Int32) (small : Int32) (kv : ClassId) (vv : Addr) (W : Nat → Addr) (h0 : Heap) (n0 : Nat) (Z0 : n0 ≤ h0.size) (O : Old Z n0 h0) (S_ARRAY_LIST : Sta Z Z.heap "com/example/varrowkeep/varrowkeep/ContainerKind" "ARRAY_LIST" "Lcom/example/varrowkeep/varrowkeep/ContainerKind;" (.ref (W 0))) (S_VECTOR : Sta Z Z.heap "com/example/varrowkeep/varrowkeep/ContainerKind" "VECTOR" "Lcom/example/varrowkeep/varrowkeep/ContainerKind;" (.ref (W 1))) (S_STACK : Sta Z Z.heap "com/example/varrowkeep/varrowkeep/ContainerKind" "STACK" "Lcom/example/varrowkeep/varrowkeep/ContainerKind;" (.ref (W 2))) (S_LINKED_LIST : Sta Z Z.heap "com/example/varrowkeep/varrowkeep/ContainerKind" "LINKED_LIST" "Lcom/example/varrowkeep/varrowkeep/ContainerKind;" (.ref (W 3))) (S_ARRAY_DEQUE : Sta Z Z.heap "com/example/varrowkeep/varrowkeep/ContainerKind" "ARRAY_DEQUE" "Lcom/example/varrowkeep/varrowkeep/ContainerKind;" (.ref (W 4))) (S_PRIORITY_QUEUE : Sta Z Z.heap "com/example/varrowkeep/varrowkeep/ContainerKind" "PRIORITY_QUEUE" "Lcom/example/varrowkeep/varrowkeep/ContainerKind;" (.ref (W 5))) (S_HASH_SET : Sta Z Z.heap "com/example/varrowkeep/varrowkeep/ContainerKind" "HASH_SET" "Lcom/example/varrowkeep/varrowkeep/ContainerKind;" (.ref (W 6))) (S_LINKED_HASH_SET : Sta Z Z.heap "com/example/varrowkeep/varrowkeep/ContainerKind" "LINKED_HASH_SET" "Lcom/example/varrowkeep/varrowkeep/ContainerKind;" (.ref (W 7))) (S_TREE_SET : Sta Z Z.heap "com/example/varrowkeep/varrowkeep/ContainerKind" "TREE_SET" "Lcom/example/varrowkeep/varrowkeep/ContainerKind;" (.ref (W 8))) (S_HASH_MAP : Sta Z Z.heap "com/example/varrowkeep/varrowkeep/ContainerKind" "HASH_MAP" "Lcom/example/varrowkeep/varrowkeep/ContainerKind;" (.ref (W 9))) (S_HASHTABLE : Sta Z Z.heap "com/example/varrowkeep/varrowkeep/ContainerKind" "HASHTABLE" "Lcom/example/varrowkeep/varrowkeep/ContainerKind;" (.ref (W 10))) (S_WEAK_HASH_MAP : Sta Z Z.heap "com/example/varrowkeep/varrowkeep/ContainerKind" "WEAK_HASH_MAP" "Lcom/example/varrowkeep/varrowkeep/ContainerKind;" (.ref (W 11))) (S_IDENTITY_HASH_MAP : Sta Z Z.heap "com/example/varrowkeep/varrowkeep/ContainerKind" "IDENTITY_HASH_MAP" "Lcom/example/varrowkeep/varrowkeep/ContainerKind;" (.ref (W 12))) (S_LINKED_HASH_MAP : Sta Z Z.heap "com/example/varrowkeep/varrowkeep/ContainerKind" "LINKED_HASH_MAP" "Lcom/example/varrowkeep/varrowkeep/ContainerKind;" (.ref (W 13))) (S_TREE_MAP : Sta Z Z.heap "com/example/varrowkeep/varrowkeep/ContainerKind" "TREE_MAP" "Lcom/example/varrowkeep/varrowkeep/ContainerKind;" (.ref (W 14))) (S_PROPERTIES : Sta Z Z.heap "com/example/varrowkeep/varrowkeep/ContainerKind" "PROPERTIES" "Lcom/example/varrowkeep/varrowkeep/ContainerKind;" (.ref (W 15))) (hE : ∀ i, i < 16 → Exa Z Z.heap (W i) "com/example/varrowkeep/varrowkeep/ContainerKind") (hF : ∀ i, i < 16 → Fld Z Z.heap (W i) "com/example/varrowkeep/varrowkeep/ContainerKind" "code" "I" (.int (Int32.ofNat (i + 1)))) (S_VALUES : Sta Z Z.heap "com/example/varrowkeep/varrowkeep/ContainerKind" "$VALUES" "[Lcom/example/varrowkeep/varrowkeep/ContainerKind;" (.ref vv)) (V : own_A Z Z.heap vv kv (.object "com/example/varrowkeep/varrowkeep/ContainerKind") 16 (fun x => .ref (W x))) (E_vv : Exa Z Z.heap vv "[Lcom/example/varrowkeep/varrowkeep/ContainerKind;") :
    own_Met l Z x code maxLocals ret room_1 #[(.int raw), (.int small)] h0 (fun v h L => v = some (.int 1) ∧ Fr n0 L) := by
  refine own_body #[.val (.int raw), .val (.int small), .unset, .unset, .unset, .unset] (plainFor_of_name own_pn0) (fun m_ => ef_rm0 m_ raw small) ?_
  intro p_ e_ s_ m_ below meth c_ s₁ X0 hx hby hml hret hlk hZ hown hnm e0
  have N0 := Fr.nil n0
  show own_Out p_ e_ below s_ _ _ _ s₁ (mkF m_ 0 #[.val (.int raw), .val (.int small), .unset, .unset, .unset, .unset] [])
  refine own_st s₁ (mkF m_ 2 #[.val (.int raw), .val (.int small), .unset, .unset, .unset, .unset] [(.int (16 : Int32))]) (fun t_ k_ => ?_) ?_
  · refine XS.bipush X0.here hx rfl (hb hby at_0) ?_
    show Steps p_.tables e_ below (s₁.setTop (mkF m_ 2 #[.val (.int raw), .val (.int small), .unset, .unset, .unset, .unset] [(.int (16 : Int32))])) t_
    exact k_
  obtain ⟨T1, h1, k1, X1, e1, E1, A1, O1, st1⟩ := newR X0 hx hZ hown (hw _ (List.mem_of_getElem? (i := 0) rfl)) (hw _ (List.mem_of_getElem? (i := 1) rfl)) e0 (g := (mkF m_ 2 #[.val (.int raw), .val (.int small), .unset, .unset, .unset, .unset] [(.int (16 : Int32))])) rfl (hb hby at_2) rfl (by decide) (cap := 16) (by decide) (by decide) (by decide) (by decide)
  obtain ⟨b1, g1⟩ : ∃ z, z = h0.size := ⟨_, rfl⟩
  rw [← g1] at A1 st1
  have g_b1 : n0 ≤ b1 := g1 ▸ Z0
  replace O := O.ext E1
  replace Z0 : n0 ≤ h1.size := Nat.le_trans Z0 E1.1
  have A_b1 : own_A Z h1 b1 k1 (.object "com/example/varrowkeep/varrowkeep/ContainerKind") 16 (fun x_ => (([.null, .null, .null, .null, .null, .null, .null, .null, .null, .null, .null, .null, .null, .null, .null, .null] : List Value).getD x_ .null)) := own_A.newL A1 (by decide) 16 (by decide) .null rfl
  refine own_st T1 (mkF m_ 5 #[.val (.int raw), .val (.int small), .unset, .unset, .unset, .unset] [(.ref b1)]) st1 ?_
  refine own_st T1 (mkF m_ 7 #[.val (.int raw), .val (.int small), .unset, .unset, .unset, .unset] [(.int (0 : Int32)), (.ref b1), (.ref b1)]) (fun t_ k_ => ?_) ?_
  · refine XS.dup X1.here hx rfl (hb hby at_5) rfl rfl ?_
    show Steps p_.tables e_ below (T1.setTop (mkF m_ 6 #[.val (.int raw), .val (.int small), .unset, .unset, .unset, .unset] [(.ref b1), (.ref b1)])) t_
    refine XS.iconst X1.here hx rfl (hb hby at_6) ?_
    show Steps p_.tables e_ below (T1.setTop (mkF m_ 7 #[.val (.int raw), .val (.int small), .unset, .unset, .unset, .unset] [(.int (0 : Int32)), (.ref b1), (.ref b1)])) t_
    exact k_
  obtain ⟨T2, X2, e2, st2⟩ := getS2 X1 hx hZ hown (host := "") (Or.inl (hw _ (List.mem_of_getElem? (i := 2) rfl))) Via.refl e1 (S_ARRAY_LIST.ext O.2) (g := (mkF m_ 7 #[.val (.int raw), .val (.int small), .unset, .unset, .unset, .unset] [(.int (0 : Int32)), (.ref b1), (.ref b1)])) rfl (hb hby at_7)
  refine own_st T2 (mkF m_ 10 #[.val (.int raw), .val (.int small), .unset, .unset, .unset, .unset] [(.ref (W 0)), (.int (0 : Int32)), (.ref b1), (.ref b1)]) st2 ?_
  obtain ⟨T3, h3, X3, e3, W3, st3⟩ := own_stR X2 hx hZ e2 A_b1 O1 (Or.inr ⟨_, rfl, Ins.self ((hE 0 (by decide)).ext O.2)⟩) 0 (by decide) (by decide) (j := (0 : Int32)) (v := (.ref (W 0))) (Ls := #[.val (.int raw), .val (.int small), .unset, .unset, .unset, .unset]) (rest := [(.ref b1)]) (hb hby at_10)
  have N3 := Fr.snoc X3 N0 g_b1
  replace Z0 : n0 ≤ h3.size := W3.size ▸ Z0
  replace O := O.wr W3 g_b1
  replace A_b1 : own_A Z h3 b1 k1 (.object "com/example/varrowkeep/varrowkeep/ContainerKind") 16 (fun x_ => (([(.ref (W 0)), .null, .null, .null, .null, .null, .null, .null, .null, .null, .null, .null, .null, .null, .null, .null] : List Value).getD x_ .null)) := A_b1.setL (by decide) (Nat.le_of_ble_eq_true rfl) W3
  refine own_st T3 (mkF m_ 11 #[.val (.int raw), .val (.int small), .unset, .unset, .unset, .unset] [(.ref b1)]) st3 ?_
  refine own_st T3 (mkF m_ 13 #[.val (.int raw), .val (.int small), .unset, .unset, .unset, .unset] [(.int (1 : Int32)), (.ref b1), (.ref b1)]) (fun t_ k_ => ?_) ?_
  · refine XS.dup X3.here hx rfl (hb hby at_11) rfl rfl ?_
    show Steps p_.tables e_ below (T3.setTop (mkF m_ 12 #[.val (.int raw), .val (.int small), .unset, .unset, .unset, .unset] [(.ref b1), (.ref b1)])) t_
    refine XS.iconst X3.here hx rfl (hb hby at_12) ?_
    show Steps p_.tables e_ below (T3.setTop (mkF m_ 13 #[.val (.int raw), .val (.int small), .unset, .unset, .unset, .unset] [(.int (1 : Int32)), (.ref b1), (.ref b1)])) t_
    exact k_
  obtain ⟨T4, X4, e4, st4⟩ := getS2 X3 hx hZ hown (host := "") (Or.inl (hw _ (List.mem_of_getElem? (i := 6) rfl))) Via.refl e3 (S_VECTOR.ext O.2) (g := (mkF m_ 13 #[.val (.int raw), .val (.int small), .unset, .unset, .unset, .unset] [(.int (1 : Int32)), (.ref b1), (.ref b1)])) rfl (hb hby at_13)
  refine own_st T4 (mkF m_ 16 #[.val (.int raw), .val (.int small), .unset, .unset, .unset, .unset] [(.ref (W 1)), (.int (1 : Int32)), (.ref b1), (.ref b1)]) st4 ?_
  obtain ⟨T5, h5, X5, e5, W5, st5⟩ := own_stR X4 hx hZ e4 A_b1 O1 (Or.inr ⟨_, rfl, Ins.self ((hE 1 (by decide)).ext O.2)⟩) 1 (by decide) (by decide) (j := (1 : Int32)) (v := (.ref (W 1))) (Ls := #[.val (.int raw), .val (.int small), .unset, .unset, .unset, .unset]) (rest := [(.ref b1)]) (hb hby at_16)
  have N5 := Fr.snoc X5 N3 g_b1
  replace Z0 : n0 ≤ h5.size := W5.size ▸ Z0
  replace O := O.wr W5 g_b1
  replace A_b1 : own_A Z h5 b1 k1 (.object "com/example/varrowkeep/varrowkeep/ContainerKind") 16 (fun x_ => (([(.ref (W 0)), (.ref (W 1)), .null, .null, .null, .null, .null, .null, .null, .null, .null, .null, .null, .null, .null, .null] : List Value).getD x_ .null)) := A_b1.setL (by decide) (Nat.le_of_ble_eq_true rfl) W5
  refine own_st T5 (mkF m_ 17 #[.val (.int raw), .val (.int small), .unset, .unset, .unset, .unset] [(.ref b1)]) st5 ?_
  refine own_st T5 (mkF m_ 19 #[.val (.int raw), .val (.int small), .unset, .unset, .unset, .unset] [(.int (2 : Int32)), (.ref b1), (.ref b1)]) (fun t_ k_ => ?_) ?_
  · refine XS.dup X5.here hx rfl (hb hby at_17) rfl rfl ?_
    show Steps p_.tables e_ below (T5.setTop (mkF m_ 18 #[.val (.int raw), .val (.int small), .unset, .unset, .unset, .unset] [(.ref b1), (.ref b1)])) t_
    refine XS.iconst X5.here hx rfl (hb hby at_18) ?_
    show Steps p_.tables e_ below (T5.setTop (mkF m_ 19 #[.val (.int raw), .val (.int small), .unset, .unset, .unset, .unset] [(.int (2 : Int32)), (.ref b1), (.ref b1)])) t_
    exact k_
  obtain ⟨T6, X6, e6, st6⟩ := getS2 X5 hx hZ hown (host := "") (Or.inl (hw _ (List.mem_of_getElem? (i := 8) rfl))) Via.refl e5 (S_STACK.ext O.2) (g := (mkF m_ 19 #[.val (.int raw), .val (.int small), .unset, .unset, .unset, .unset] [(.int (2 : Int32)), (.ref b1), (.ref b1)])) rfl (hb hby at_19)
  refine own_st T6 (mkF m_ 22 #[.val (.int raw), .val (.int small), .unset, .unset, .unset, .unset] [(.ref (W 2)), (.int (2 : Int32)), (.ref b1), (.ref b1)]) st6 ?_
  obtain ⟨T7, h7, X7, e7, W7, st7⟩ := own_stR X6 hx hZ e6 A_b1 O1 (Or.inr ⟨_, rfl, Ins.self ((hE 2 (by decide)).ext O.2)⟩) 2 (by decide) (by decide) (j := (2 : Int32)) (v := (.ref (W 2))) (Ls := #[.val (.int raw), .val (.int small), .unset, .unset, .unset, .unset]) (rest := [(.ref b1)]) (hb hby at_22)
  have N7 := Fr.snoc X7 N5 g_b1
  replace Z0 : n0 ≤ h7.size := W7.size ▸ Z0
  replace O := O.wr W7 g_b1
  replace A_b1 : own_A Z h7 b1 k1 (.object "com/example/varrowkeep/varrowkeep/ContainerKind") 16 (fun x_ => (([(.ref (W 0)), (.ref (W 1)), (.ref (W 2)), .null, .null, .null, .null, .null, .null, .null, .null, .null, .null, .null, .null, .null] : List Value).getD x_ .null)) := A_b1.setL (by decide) (Nat.le_of_ble_eq_true rfl) W7
  refine own_st T7 (mkF m_ 23 #[.val (.int raw), .val (.int small), .unset, .unset, .unset, .unset] [(.ref b1)]) st7 ?_
  refine own_st T7 (mkF m_ 25 #[.val (.int raw), .val (.int small), .unset, .unset, .unset, .unset] [(.int (3 : Int32)), (.ref b1), (.ref b1)]) (fun t_ k_ => ?_) ?_
  · refine XS.dup X7.here hx rfl (hb hby at_23) rfl rfl ?_
    show Steps p_.tables e_ below (T7.setTop (mkF m_ 24 #[.val (.int raw), .val (.int small), .unset, .unset, .unset, .unset] [(.ref b1), (.ref b1)])) t_
    refine XS.iconst X7.here hx rfl (hb hby at_24) ?_
    show Steps p_.tables e_ below (T7.setTop (mkF m_ 25 #[.val (.int raw), .val (.int small), .unset, .unset, .unset, .unset] [(.int (3 : Int32)), (.ref b1), (.ref b1)])) t_
    exact k_
  obtain ⟨T8, X8, e8, st8⟩ := getS2 X7 hx hZ hown (host := "") (Or.inl (hw _ (List.mem_of_getElem? (i := 10) rfl))) Via.refl e7 (S_LINKED_LIST.ext O.2) (g := (mkF m_ 25 #[.val (.int raw), .val (.int small), .unset, .unset, .unset, .unset] [(.int (3 : Int32)), (.ref b1), (.ref b1)])) rfl (hb hby at_25)
  refine own_st T8 (mkF m_ 28 #[.val (.int raw), .val (.int small), .unset, .unset, .unset, .unset] [(.ref (W 3)), (.int (3 : Int32)), (.ref b1), (.ref b1)]) st8 ?_
  obtain ⟨T9, h9, X9, e9, W9, st9⟩ := own_stR X8 hx hZ e8 A_b1 O1 (Or.inr ⟨_, rfl, Ins.self ((hE 3 (by decide)).ext O.2)⟩) 3 (by decide) (by decide) (j := (3 : Int32)) (v := (.ref (W 3))) (Ls := #[.val (.int raw), .val (.int small), .unset, .unset, .unset, .unset]) (rest := [(.ref b1)]) (hb hby at_28)
  have N9 := Fr.snoc X9 N7 g_b1
  replace Z0 : n0 ≤ h9.size := W9.size ▸ Z0
  replace O := O.wr W9 g_b1
  replace A_b1 : own_A Z h9 b1 k1 (.object "com/example/varrowkeep/varrowkeep/ContainerKind") 16 (fun x_ => (([(.ref (W 0)), (.ref (W 1)), (.ref (W 2)), (.ref (W 3)), .null, .null, .null, .null, .null, .null, .null, .null, .null, .null, .null, .null] : List Value).getD x_ .null)) := A_b1.setL (by decide) (Nat.le_of_ble_eq_true rfl) W9
  refine own_st T9 (mkF m_ 29 #[.val (.int raw), .val (.int small), .unset, .unset, .unset, .unset] [(.ref b1)]) st9 ?_
  refine own_st T9 (mkF m_ 31 #[.val (.int raw), .val (.int small), .unset, .unset, .unset, .unset] [(.int (4 : Int32)), (.ref b1), (.ref b1)]) (fun t_ k_ => ?_) ?_
  · refine XS.dup X9.here hx rfl (hb hby at_29) rfl rfl ?_
    show Steps p_.tables e_ below (T9.setTop (mkF m_ 30 #[.val (.int raw), .val (.int small), .unset, .unset, .unset, .unset] [(.ref b1), (.ref b1)])) t_
    refine XS.iconst X9.here hx rfl (hb hby at_30) ?_
    show Steps p_.tables e_ below (T9.setTop (mkF m_ 31 #[.val (.int raw), .val (.int small), .unset, .unset, .unset, .unset] [(.int (4 : Int32)), (.ref b1), (.ref b1)])) t_
    exact k_
  obtain ⟨T10, X10, e10, st10⟩ := getS2 X9 hx hZ hown (host := "") (Or.inl (hw _ (List.mem_of_getElem? (i := 12) rfl))) Via.refl e9 (S_ARRAY_DEQUE.ext O.2) (g := (mkF m_ 31 #[.val (.int raw), .val (.int small), .unset, .unset, .unset, .unset] [(.int (4 : Int32)), (.ref b1), (.ref b1)])) rfl (hb hby at_31)
  refine own_st T10 (mkF m_ 34 #[.val (.int raw), .val (.int small), .unset, .unset, .unset, .unset] [(.ref (W 4)), (.int (4 : Int32)), (.ref b1), (.ref b1)]) st10 ?_
  obtain ⟨T11, h11, X11, e11, W11, st11⟩ := own_stR X10 hx hZ e10 A_b1 O1 (Or.inr ⟨_, rfl, Ins.self ((hE 4 (by decide)).ext O.2)⟩) 4 (by decide) (by decide) (j := (4 : Int32)) (v := (.ref (W 4))) (Ls := #[.val (.int raw), .val (.int small), .unset, .unset, .unset, .unset]) (rest := [(.ref b1)]) (hb hby at_34)
  have N11 := Fr.snoc X11 N9 g_b1
  replace Z0 : n0 ≤ h11.size := W11.size ▸ Z0
  replace O := O.wr W11 g_b1
  replace A_b1 : own_A Z h11 b1 k1 (.object "com/example/varrowkeep/varrowkeep/ContainerKind") 16 (fun x_ => (([(.ref (W 0)), (.ref (W 1)), (.ref (W 2)), (.ref (W 3)), (.ref (W 4)), .null, .null, .null, .null, .null, .null, .null, .null, .null, .null, .null] : List Value).getD x_ .null)) := A_b1.setL (by decide) (Nat.le_of_ble_eq_true rfl) W11
  refine own_st T11 (mkF m_ 35 #[.val (.int raw), .val (.int small), .unset, .unset, .unset, .unset] [(.ref b1)]) st11 ?_
  refine own_st T11 (mkF m_ 37 #[.val (.int raw), .val (.int small), .unset, .unset, .unset, .unset] [(.int (5 : Int32)), (.ref b1), (.ref b1)]) (fun t_ k_ => ?_) ?_
  · refine XS.dup X11.here hx rfl (hb hby at_35) rfl rfl ?_
    show Steps p_.tables e_ below (T11.setTop (mkF m_ 36 #[.val (.int raw), .val (.int small), .unset, .unset, .unset, .unset] [(.ref b1), (.ref b1)])) t_
    refine XS.iconst X11.here hx rfl (hb hby at_36) ?_
    show Steps p_.tables e_ below (T11.setTop (mkF m_ 37 #[.val (.int raw), .val (.int small), .unset, .unset, .unset, .unset] [(.int (5 : Int32)), (.ref b1), (.ref b1)])) t_
    exact k_
  obtain ⟨T12, X12, e12, st12⟩ := getS2 X11 hx hZ hown (host := "") (Or.inl (hw _ (List.mem_of_getElem? (i := 14) rfl))) Via.refl e11 (S_PRIORITY_QUEUE.ext O.2) (g := (mkF m_ 37 #[.val (.int raw), .val (.int small), .unset, .unset, .unset, .unset] [(.int (5 : Int32)), (.ref b1), (.ref b1)])) rfl (hb hby at_37)
  refine own_st T12 (mkF m_ 40 #[.val (.int raw), .val (.int small), .unset, .unset, .unset, .unset] [(.ref (W 5)), (.int (5 : Int32)), (.ref b1), (.ref b1)]) st12 ?_
  obtain ⟨T13, h13, X13, e13, W13, st13⟩ := own_stR X12 hx hZ e12 A_b1 O1 (Or.inr ⟨_, rfl, Ins.self ((hE 5 (by decide)).ext O.2)⟩) 5 (by decide) (by decide) (j := (5 : Int32)) (v := (.ref (W 5))) (Ls := #[.val (.int raw), .val (.int small), .unset, .unset, .unset, .unset]) (rest := [(.ref b1)]) (hb hby at_40)
  have N13 := Fr.snoc X13 N11 g_b1
  replace Z0 : n0 ≤ h13.size := W13.size ▸ Z0
  replace O := O.wr W13 g_b1
  replace A_b1 : own_A Z h13 b1 k1 (.object "com/example/varrowkeep/varrowkeep/ContainerKind") 16 (fun x_ => (([(.ref (W 0)), (.ref (W 1)), (.ref (W 2)), (.ref (W 3)), (.ref (W 4)), (.ref (W 5)), .null, .null, .null, .null, .null, .null, .null, .null, .null, .null] : List Value).getD x_ .null)) := A_b1.setL (by decide) (Nat.le_of_ble_eq_true rfl) W13
  refine own_st T13 (mkF m_ 41 #[.val (.int raw), .val (.int small), .unset, .unset, .unset, .unset] [(.ref b1)]) st13 ?_
  refine own_st T13 (mkF m_ 44 #[.val (.int raw), .val (.int small), .unset, .unset, .unset, .unset] [(.int (6 : Int32)), (.ref b1), (.ref b1)]) (fun t_ k_ => ?_) ?_
  · refine XS.dup X13.here hx rfl (hb hby at_41) rfl rfl ?_
    show Steps p_.tables e_ below (T13.setTop (mkF m_ 42 #[.val (.int raw), .val (.int small), .unset, .unset, .unset, .unset] [(.ref b1), (.ref b1)])) t_
    refine XS.bipush X13.here hx rfl (hb hby at_42) ?_
    show Steps p_.tables e_ below (T13.setTop (mkF m_ 44 #[.val (.int raw), .val (.int small), .unset, .unset, .unset, .unset] [(.int (6 : Int32)), (.ref b1), (.ref b1)])) t_
    exact k_
  obtain ⟨T14, X14, e14, st14⟩ := getS2 X13 hx hZ hown (host := "") (Or.inl (hw _ (List.mem_of_getElem? (i := 16) rfl))) Via.refl e13 (S_HASH_SET.ext O.2) (g := (mkF m_ 44 #[.val (.int raw), .val (.int small), .unset, .unset, .unset, .unset] [(.int (6 : Int32)), (.ref b1), (.ref b1)])) rfl (hb hby at_44)
  refine own_st T14 (mkF m_ 47 #[.val (.int raw), .val (.int small), .unset, .unset, .unset, .unset] [(.ref (W 6)), (.int (6 : Int32)), (.ref b1), (.ref b1)]) st14 ?_
  obtain ⟨T15, h15, X15, e15, W15, st15⟩ := own_stR X14 hx hZ e14 A_b1 O1 (Or.inr ⟨_, rfl, Ins.self ((hE 6 (by decide)).ext O.2)⟩) 6 (by decide) (by decide) (j := (6 : Int32)) (v := (.ref (W 6))) (Ls := #[.val (.int raw), .val (.int small), .unset, .unset, .unset, .unset]) (rest := [(.ref b1)]) (hb hby at_47)
  have N15 := Fr.snoc X15 N13 g_b1
  replace Z0 : n0 ≤ h15.size := W15.size ▸ Z0
  replace O := O.wr W15 g_b1
  replace A_b1 : own_A Z h15 b1 k1 (.object "com/example/varrowkeep/varrowkeep/ContainerKind") 16 (fun x_ => (([(.ref (W 0)), (.ref (W 1)), (.ref (W 2)), (.ref (W 3)), (.ref (W 4)), (.ref (W 5)), (.ref (W 6)), .null, .null, .null, .null, .null, .null, .null, .null, .null] : List Value).getD x_ .null)) := A_b1.setL (by decide) (Nat.le_of_ble_eq_true rfl) W15
  refine own_st T15 (mkF m_ 48 #[.val (.int raw), .val (.int small), .unset, .unset, .unset, .unset] [(.ref b1)]) st15 ?_
  refine own_st T15 (mkF m_ 51 #[.val (.int raw), .val (.int small), .unset, .unset, .unset, .unset] [(.int (7 : Int32)), (.ref b1), (.ref b1)]) (fun t_ k_ => ?_) ?_
  · refine XS.dup X15.here hx rfl (hb hby at_48) rfl rfl ?_
    show Steps p_.tables e_ below (T15.setTop (mkF m_ 49 #[.val (.int raw), .val (.int small), .unset, .unset, .unset, .unset] [(.ref b1), (.ref b1)])) t_
    refine XS.bipush X15.here hx rfl (hb hby at_49) ?_
    show Steps p_.tables e_ below (T15.setTop (mkF m_ 51 #[.val (.int raw), .val (.int small), .unset, .unset, .unset, .unset] [(.int (7 : Int32)), (.ref b1), (.ref b1)])) t_
    exact k_
  obtain ⟨T16, X16, e16, st16⟩ := getS2 X15 hx hZ hown (host := "") (Or.inl (hw _ (List.mem_of_getElem? (i := 18) rfl))) Via.refl e15 (S_LINKED_HASH_SET.ext O.2) (g := (mkF m_ 51 #[.val (.int raw), .val (.int small), .unset, .unset, .unset, .unset] [(.int (7 : Int32)), (.ref b1), (.ref b1)])) rfl (hb hby at_51)
  refine own_st T16 (mkF m_ 54 #[.val (.int raw), .val (.int small), .unset, .unset, .unset, .unset] [(.ref (W 7)), (.int (7 : Int32)), (.ref b1), (.ref b1)]) st16 ?_
  obtain ⟨T17, h17, X17, e17, W17, st17⟩ := own_stR X16 hx hZ e16 A_b1 O1 (Or.inr ⟨_, rfl, Ins.self ((hE 7 (by decide)).ext O.2)⟩) 7 (by decide) (by decide) (j := (7 : Int32)) (v := (.ref (W 7))) (Ls := #[.val (.int raw), .val (.int small), .unset, .unset, .unset, .unset]) (rest := [(.ref b1)]) (hb hby at_54)
  have N17 := Fr.snoc X17 N15 g_b1
  replace Z0 : n0 ≤ h17.size := W17.size ▸ Z0
  replace O := O.wr W17 g_b1
  replace A_b1 : own_A Z h17 b1 k1 (.object "com/example/varrowkeep/varrowkeep/ContainerKind") 16 (fun x_ => (([(.ref (W 0)), (.ref (W 1)), (.ref (W 2)), (.ref (W 3)), (.ref (W 4)), (.ref (W 5)), (.ref (W 6)), (.ref (W 7)), .null, .null, .null, .null, .null, .null, .null, .null] : List Value).getD x_ .null)) := A_b1.setL (by decide) (Nat.le_of_ble_eq_true rfl) W17
  refine own_st T17 (mkF m_ 55 #[.val (.int raw), .val (.int small), .unset, .unset, .unset, .unset] [(.ref b1)]) st17 ?_
  refine own_st T17 (mkF m_ 58 #[.val (.int raw), .val (.int small), .unset, .unset, .unset, .unset] [(.int (8 : Int32)), (.ref b1), (.ref b1)]) (fun t_ k_ => ?_) ?_
  · refine XS.dup X17.here hx rfl (hb hby at_55) rfl rfl ?_
    show Steps p_.tables e_ below (T17.setTop (mkF m_ 56 #[.val (.int raw), .val (.int small), .unset, .unset, .unset, .unset] [(.ref b1), (.ref b1)])) t_
    refine XS.bipush X17.here hx rfl (hb hby at_56) ?_
    show Steps p_.tables e_ below (T17.setTop (mkF m_ 58 #[.val (.int raw), .val (.int small), .unset, .unset, .unset, .unset] [(.int (8 : Int32)), (.ref b1), (.ref b1)])) t_
    exact k_
  obtain ⟨T18, X18, e18, st18⟩ := getS2 X17 hx hZ hown (host := "") (Or.inl (hw _ (List.mem_of_getElem? (i := 20) rfl))) Via.refl e17 (S_TREE_SET.ext O.2) (g := (mkF m_ 58 #[.val (.int raw), .val (.int small), .unset, .unset, .unset, .unset] [(.int (8 : Int32)), (.ref b1), (.ref b1)])) rfl (hb hby at_58)
  refine own_st T18 (mkF m_ 61 #[.val (.int raw), .val (.int small), .unset, .unset, .unset, .unset] [(.ref (W 8)), (.int (8 : Int32)), (.ref b1), (.ref b1)]) st18 ?_
  obtain ⟨T19, h19, X19, e19, W19, st19⟩ := own_stR X18 hx hZ e18 A_b1 O1 (Or.inr ⟨_, rfl, Ins.self ((hE 8 (by decide)).ext O.2)⟩) 8 (by decide) (by decide) (j := (8 : Int32)) (v := (.ref (W 8))) (Ls := #[.val (.int raw), .val (.int small), .unset, .unset, .unset, .unset]) (rest := [(.ref b1)]) (hb hby at_61)
  have N19 := Fr.snoc X19 N17 g_b1
  replace Z0 : n0 ≤ h19.size := W19.size ▸ Z0
  replace O := O.wr W19 g_b1
  replace A_b1 : own_A Z h19 b1 k1 (.object "com/example/varrowkeep/varrowkeep/ContainerKind") 16 (fun x_ => (([(.ref (W 0)), (.ref (W 1)), (.ref (W 2)), (.ref (W 3)), (.ref (W 4)), (.ref (W 5)), (.ref (W 6)), (.ref (W 7)), (.ref (W 8)), .null, .null, .null, .null, .null, .null, .null] : List Value).getD x_ .null)) := A_b1.setL (by decide) (Nat.le_of_ble_eq_true rfl) W19
  refine own_st T19 (mkF m_ 62 #[.val (.int raw), .val (.int small), .unset, .unset, .unset, .unset] [(.ref b1)]) st19 ?_
  refine own_st T19 (mkF m_ 65 #[.val (.int raw), .val (.int small), .unset, .unset, .unset, .unset] [(.int (9 : Int32)), (.ref b1), (.ref b1)]) (fun t_ k_ => ?_) ?_
  · refine XS.dup X19.here hx rfl (hb hby at_62) rfl rfl ?_
    show Steps p_.tables e_ below (T19.setTop (mkF m_ 63 #[.val (.int raw), .val (.int small), .unset, .unset, .unset, .unset] [(.ref b1), (.ref b1)])) t_
    refine XS.bipush X19.here hx rfl (hb hby at_63) ?_
    show Steps p_.tables e_ below (T19.setTop (mkF m_ 65 #[.val (.int raw), .val (.int small), .unset, .unset, .unset, .unset] [(.int (9 : Int32)), (.ref b1), (.ref b1)])) t_
    exact k_
  obtain ⟨T20, X20, e20, st20⟩ := getS2 X19 hx hZ hown (host := "") (Or.inl (hw _ (List.mem_of_getElem? (i := 22) rfl))) Via.refl e19 (S_HASH_MAP.ext O.2) (g := (mkF m_ 65 #[.val (.int raw), .val (.int small), .unset, .unset, .unset, .unset] [(.int (9 : Int32)), (.ref b1), (.ref b1)])) rfl (hb hby at_65)
  refine own_st T20 (mkF m_ 68 #[.val (.int raw), .val (.int small), .unset, .unset, .unset, .unset] [(.ref (W 9)), (.int (9 : Int32)), (.ref b1), (.ref b1)]) st20 ?_
  obtain ⟨T21, h21, X21, e21, W21, st21⟩ := own_stR X20 hx hZ e20 A_b1 O1 (Or.inr ⟨_, rfl, Ins.self ((hE 9 (by decide)).ext O.2)⟩) 9 (by decide) (by decide) (j := (9 : Int32)) (v := (.ref (W 9))) (Ls := #[.val (.int raw), .val (.int small), .unset, .unset, .unset, .unset]) (rest := [(.ref b1)]) (hb hby at_68)
  have N21 := Fr.snoc X21 N19 g_b1
  replace Z0 : n0 ≤ h21.size := W21.size ▸ Z0
  replace O := O.wr W21 g_b1
  replace A_b1 : own_A Z h21 b1 k1 (.object "com/example/varrowkeep/varrowkeep/ContainerKind") 16 (fun x_ => (([(.ref (W 0)), (.ref (W 1)), (.ref (W 2)), (.ref (W 3)), (.ref (W 4)), (.ref (W 5)), (.ref (W 6)), (.ref (W 7)), (.ref (W 8)), (.ref (W 9)), .null, .null, .null, .null, .null, .null] : List Value).getD x_ .null)) := A_b1.setL (by decide) (Nat.le_of_ble_eq_true rfl) W21
  refine own_st T21 (mkF m_ 69 #[.val (.int raw), .val (.int small), .unset, .unset, .unset, .unset] [(.ref b1)]) st21 ?_
  refine own_st T21 (mkF m_ 72 #[.val (.int raw), .val (.int small), .unset, .unset, .unset, .unset] [(.int (10 : Int32)), (.ref b1), (.ref b1)]) (fun t_ k_ => ?_) ?_
  · refine XS.dup X21.here hx rfl (hb hby at_69) rfl rfl ?_
    show Steps p_.tables e_ below (T21.setTop (mkF m_ 70 #[.val (.int raw), .val (.int small), .unset, .unset, .unset, .unset] [(.ref b1), (.ref b1)])) t_
    refine XS.bipush X21.here hx rfl (hb hby at_70) ?_
    show Steps p_.tables e_ below (T21.setTop (mkF m_ 72 #[.val (.int raw), .val (.int small), .unset, .unset, .unset, .unset] [(.int (10 : Int32)), (.ref b1), (.ref b1)])) t_
    exact k_
  obtain ⟨T22, X22, e22, st22⟩ := getS2 X21 hx hZ hown (host := "") (Or.inl (hw _ (List.mem_of_getElem? (i := 24) rfl))) Via.refl e21 (S_HASHTABLE.ext O.2) (g := (mkF m_ 72 #[.val (.int raw), .val (.int small), .unset, .unset, .unset, .unset] [(.int (10 : Int32)), (.ref b1), (.ref b1)])) rfl (hb hby at_72)
  refine own_st T22 (mkF m_ 75 #[.val (.int raw), .val (.int small), .unset, .unset, .unset, .unset] [(.ref (W 10)), (.int (10 : Int32)), (.ref b1), (.ref b1)]) st22 ?_
  obtain ⟨T23, h23, X23, e23, W23, st23⟩ := own_stR X22 hx hZ e22 A_b1 O1 (Or.inr ⟨_, rfl, Ins.self ((hE 10 (by decide)).ext O.2)⟩) 10 (by decide) (by decide) (j := (10 : Int32)) (v := (.ref (W 10))) (Ls := #[.val (.int raw), .val (.int small), .unset, .unset, .unset, .unset]) (rest := [(.ref b1)]) (hb hby at_75)
  have N23 := Fr.snoc X23 N21 g_b1
  replace Z0 : n0 ≤ h23.size := W23.size ▸ Z0
  replace O := O.wr W23 g_b1
  replace A_b1 : own_A Z h23 b1 k1 (.object "com/example/varrowkeep/varrowkeep/ContainerKind") 16 (fun x_ => (([(.ref (W 0)), (.ref (W 1)), (.ref (W 2)), (.ref (W 3)), (.ref (W 4)), (.ref (W 5)), (.ref (W 6)), (.ref (W 7)), (.ref (W 8)), (.ref (W 9)), (.ref (W 10)), .null, .null, .null, .null, .null] : List Value).getD x_ .null)) := A_b1.setL (by decide) (Nat.le_of_ble_eq_true rfl) W23
  refine own_st T23 (mkF m_ 76 #[.val (.int raw), .val (.int small), .unset, .unset, .unset, .unset] [(.ref b1)]) st23 ?_
  refine own_st T23 (mkF m_ 79 #[.val (.int raw), .val (.int small), .unset, .unset, .unset, .unset] [(.int (11 : Int32)), (.ref b1), (.ref b1)]) (fun t_ k_ => ?_) ?_
  · refine XS.dup X23.here hx rfl (hb hby at_76) rfl rfl ?_
    show Steps p_.tables e_ below (T23.setTop (mkF m_ 77 #[.val (.int raw), .val (.int small), .unset, .unset, .unset, .unset] [(.ref b1), (.ref b1)])) t_
    refine XS.bipush X23.here hx rfl (hb hby at_77) ?_
    show Steps p_.tables e_ below (T23.setTop (mkF m_ 79 #[.val (.int raw), .val (.int small), .unset, .unset, .unset, .unset] [(.int (11 : Int32)), (.ref b1), (.ref b1)])) t_
    exact k_
  obtain ⟨T24, X24, e24, st24⟩ := getS2 X23 hx hZ hown (host := "") (Or.inl (hw _ (List.mem_of_getElem? (i := 26) rfl))) Via.refl e23 (S_WEAK_HASH_MAP.ext O.2) (g := (mkF m_ 79 #[.val (.int raw), .val (.int small), .unset, .unset, .unset, .unset] [(.int (11 : Int32)), (.ref b1), (.ref b1)])) rfl (hb hby at_79)
  refine own_st T24 (mkF m_ 82 #[.val (.int raw), .val (.int small), .unset, .unset, .unset, .unset] [(.ref (W 11)), (.int (11 : Int32)), (.ref b1), (.ref b1)]) st24 ?_
  obtain ⟨T25, h25, X25, e25, W25, st25⟩ := own_stR X24 hx hZ e24 A_b1 O1 (Or.inr ⟨_, rfl, Ins.self ((hE 11 (by decide)).ext O.2)⟩) 11 (by decide) (by decide) (j := (11 : Int32)) (v := (.ref (W 11))) (Ls := #[.val (.int raw), .val (.int small), .unset, .unset, .unset, .unset]) (rest := [(.ref b1)]) (hb hby at_82)
  have N25 := Fr.snoc X25 N23 g_b1
  replace Z0 : n0 ≤ h25.size := W25.size ▸ Z0
  replace O := O.wr W25 g_b1
  replace A_b1 : own_A Z h25 b1 k1 (.object "com/example/varrowkeep/varrowkeep/ContainerKind") 16 (fun x_ => (([(.ref (W 0)), (.ref (W 1)), (.ref (W 2)), (.ref (W 3)), (.ref (W 4)), (.ref (W 5)), (.ref (W 6)), (.ref (W 7)), (.ref (W 8)), (.ref (W 9)), (.ref (W 10)), (.ref (W 11)), .null, .null, .null, .null] : List Value).getD x_ .null)) := A_b1.setL (by decide) (Nat.le_of_ble_eq_true rfl) W25
  refine own_st T25 (mkF m_ 83 #[.val (.int raw), .val (.int small), .unset, .unset, .unset, .unset] [(.ref b1)]) st25 ?_
  refine own_st T25 (mkF m_ 86 #[.val (.int raw), .val (.int small), .unset, .unset, .unset, .unset] [(.int (12 : Int32)), (.ref b1), (.ref b1)]) (fun t_ k_ => ?_) ?_
  · refine XS.dup X25.here hx rfl (hb hby at_83) rfl rfl ?_
    show Steps p_.tables e_ below (T25.setTop (mkF m_ 84 #[.val (.int raw), .val (.int small), .unset, .unset, .unset, .unset] [(.ref b1), (.ref b1)])) t_
    refine XS.bipush X25.here hx rfl (hb hby at_84) ?_
    show Steps p_.tables e_ below (T25.setTop (mkF m_ 86 #[.val (.int raw), .val (.int small), .unset, .unset, .unset, .unset] [(.int (12 : Int32)), (.ref b1), (.ref b1)])) t_
    exact k_
  obtain ⟨T26, X26, e26, st26⟩ := getS2 X25 hx hZ hown (host := "") (Or.inl (hw _ (List.mem_of_getElem? (i := 28) rfl))) Via.refl e25 (S_IDENTITY_HASH_MAP.ext O.2) (g := (mkF m_ 86 #[.val (.int raw), .val (.int small), .unset, .unset, .unset, .unset] [(.int (12 : Int32)), (.ref b1), (.ref b1)])) rfl (hb hby at_86)
  refine own_st T26 (mkF m_ 89 #[.val (.int raw), .val (.int small), .unset, .unset, .unset, .unset] [(.ref (W 12)), (.int (12 : Int32)), (.ref b1), (.ref b1)]) st26 ?_
  obtain ⟨T27, h27, X27, e27, W27, st27⟩ := own_stR X26 hx hZ e26 A_b1 O1 (Or.inr ⟨_, rfl, Ins.self ((hE 12 (by decide)).ext O.2)⟩) 12 (by decide) (by decide) (j := (12 : Int32)) (v := (.ref (W 12))) (Ls := #[.val (.int raw), .val (.int small), .unset, .unset, .unset, .unset]) (rest := [(.ref b1)]) (hb hby at_89)
  have N27 := Fr.snoc X27 N25 g_b1
  replace Z0 : n0 ≤ h27.size := W27.size ▸ Z0
  replace O := O.wr W27 g_b1
  replace A_b1 : own_A Z h27 b1 k1 (.object "com/example/varrowkeep/varrowkeep/ContainerKind") 16 (fun x_ => (([(.ref (W 0)), (.ref (W 1)), (.ref (W 2)), (.ref (W 3)), (.ref (W 4)), (.ref (W 5)), (.ref (W 6)), (.ref (W 7)), (.ref (W 8)), (.ref (W 9)), (.ref (W 10)), (.ref (W 11)), (.ref (W 12)), .null, .null, .null] : List Value).getD x_ .null)) := A_b1.setL (by decide) (Nat.le_of_ble_eq_true rfl) W27
  refine own_st T27 (mkF m_ 90 #[.val (.int raw), .val (.int small), .unset, .unset, .unset, .unset] [(.ref b1)]) st27 ?_
  refine own_st T27 (mkF m_ 93 #[.val (.int raw), .val (.int small), .unset, .unset, .unset, .unset] [(.int (13 : Int32)), (.ref b1), (.ref b1)]) (fun t_ k_ => ?_) ?_
  · refine XS.dup X27.here hx rfl (hb hby at_90) rfl rfl ?_
    show Steps p_.tables e_ below (T27.setTop (mkF m_ 91 #[.val (.int raw), .val (.int small), .unset, .unset, .unset, .unset] [(.ref b1), (.ref b1)])) t_
    refine XS.bipush X27.here hx rfl (hb hby at_91) ?_
    show Steps p_.tables e_ below (T27.setTop (mkF m_ 93 #[.val (.int raw), .val (.int small), .unset, .unset, .unset, .unset] [(.int (13 : Int32)), (.ref b1), (.ref b1)])) t_
    exact k_
  obtain ⟨T28, X28, e28, st28⟩ := getS2 X27 hx hZ hown (host := "") (Or.inl (hw _ (List.mem_of_getElem? (i := 30) rfl))) Via.refl e27 (S_LINKED_HASH_MAP.ext O.2) (g := (mkF m_ 93 #[.val (.int raw), .val (.int small), .unset, .unset, .unset, .unset] [(.int (13 : Int32)), (.ref b1), (.ref b1)])) rfl (hb hby at_93)
  refine own_st T28 (mkF m_ 96 #[.val (.int raw), .val (.int small), .unset, .unset, .unset, .unset] [(.ref (W 13)), (.int (13 : Int32)), (.ref b1), (.ref b1)]) st28 ?_
  obtain ⟨T29, h29, X29, e29, W29, st29⟩ := own_stR X28 hx hZ e28 A_b1 O1 (Or.inr ⟨_, rfl, Ins.self ((hE 13 (by decide)).ext O.2)⟩) 13 (by decide) (by decide) (j := (13 : Int32)) (v := (.ref (W 13))) (Ls := #[.val (.int raw), .val (.int small), .unset, .unset, .unset, .unset]) (rest := [(.ref b1)]) (hb hby at_96)
  have N29 := Fr.snoc X29 N27 g_b1
  replace Z0 : n0 ≤ h29.size := W29.size ▸ Z0
  replace O := O.wr W29 g_b1
  replace A_b1 : own_A Z h29 b1 k1 (.object "com/example/varrowkeep/varrowkeep/ContainerKind") 16 (fun x_ => (([(.ref (W 0)), (.ref (W 1)), (.ref (W 2)), (.ref (W 3)), (.ref (W 4)), (.ref (W 5)), (.ref (W 6)), (.ref (W 7)), (.ref (W 8)), (.ref (W 9)), (.ref (W 10)), (.ref (W 11)), (.ref (W 12)), (.ref (W 13)), .null, .null] : List Value).getD x_ .null)) := A_b1.setL (by decide) (Nat.le_of_ble_eq_true rfl) W29
  refine own_st T29 (mkF m_ 97 #[.val (.int raw), .val (.int small), .unset, .unset, .unset, .unset] [(.ref b1)]) st29 ?_
  refine own_st T29 (mkF m_ 100 #[.val (.int raw), .val (.int small), .unset, .unset, .unset, .unset] [(.int (14 : Int32)), (.ref b1), (.ref b1)]) (fun t_ k_ => ?_) ?_
  · refine XS.dup X29.here hx rfl (hb hby at_97) rfl rfl ?_
    show Steps p_.tables e_ below (T29.setTop (mkF m_ 98 #[.val (.int raw), .val (.int small), .unset, .unset, .unset, .unset] [(.ref b1), (.ref b1)])) t_
    refine XS.bipush X29.here hx rfl (hb hby at_98) ?_
    show Steps p_.tables e_ below (T29.setTop (mkF m_ 100 #[.val (.int raw), .val (.int small), .unset, .unset, .unset, .unset] [(.int (14 : Int32)), (.ref b1), (.ref b1)])) t_
    exact k_
  obtain ⟨T30, X30, e30, st30⟩ := getS2 X29 hx hZ hown (host := "") (Or.inl (hw _ (List.mem_of_getElem? (i := 32) rfl))) Via.refl e29 (S_TREE_MAP.ext O.2) (g := (mkF m_ 100 #[.val (.int raw), .val (.int small), .unset, .unset, .unset, .unset] [(.int (14 : Int32)), (.ref b1), (.ref b1)])) rfl (hb hby at_100)
  refine own_st T30 (mkF m_ 103 #[.val (.int raw), .val (.int small), .unset, .unset, .unset, .unset] [(.ref (W 14)), (.int (14 : Int32)), (.ref b1), (.ref b1)]) st30 ?_
  obtain ⟨T31, h31, X31, e31, W31, st31⟩ := own_stR X30 hx hZ e30 A_b1 O1 (Or.inr ⟨_, rfl, Ins.self ((hE 14 (by decide)).ext O.2)⟩) 14 (by decide) (by decide) (j := (14 : Int32)) (v := (.ref (W 14))) (Ls := #[.val (.int raw), .val (.int small), .unset, .unset, .unset, .unset]) (rest := [(.ref b1)]) (hb hby at_103)
  have N31 := Fr.snoc X31 N29 g_b1
  replace Z0 : n0 ≤ h31.size := W31.size ▸ Z0
  replace O := O.wr W31 g_b1
  replace A_b1 : own_A Z h31 b1 k1 (.object "com/example/varrowkeep/varrowkeep/ContainerKind") 16 (fun x_ => (([(.ref (W 0)), (.ref (W 1)), (.ref (W 2)), (.ref (W 3)), (.ref (W 4)), (.ref (W 5)), (.ref (W 6)), (.ref (W 7)), (.ref (W 8)), (.ref (W 9)), (.ref (W 10)), (.ref (W 11)), (.ref (W 12)), (.ref (W 13)), (.ref (W 14)), .null] : List Value).getD x_ .null)) := A_b1.setL (by decide) (Nat.le_of_ble_eq_true rfl) W31
  refine own_st T31 (mkF m_ 104 #[.val (.int raw), .val (.int small), .unset, .unset, .unset, .unset] [(.ref b1)]) st31 ?_
  refine own_st T31 (mkF m_ 107 #[.val (.int raw), .val (.int small), .unset, .unset, .unset, .unset] [(.int (15 : Int32)), (.ref b1), (.ref b1)]) (fun t_ k_ => ?_) ?_
  · refine XS.dup X31.here hx rfl (hb hby at_104) rfl rfl ?_
    show Steps p_.tables e_ below (T31.setTop (mkF m_ 105 #[.val (.int raw), .val (.int small), .unset, .unset, .unset, .unset] [(.ref b1), (.ref b1)])) t_
    refine XS.bipush X31.here hx rfl (hb hby at_105) ?_
    show Steps p_.tables e_ below (T31.setTop (mkF m_ 107 #[.val (.int raw), .val (.int small), .unset, .unset, .unset, .unset] [(.int (15 : Int32)), (.ref b1), (.ref b1)])) t_
    exact k_
  obtain ⟨T32, X32, e32, st32⟩ := getS2 X31 hx hZ hown (host := "") (Or.inl (hw _ (List.mem_of_getElem? (i := 34) rfl))) Via.refl e31 (S_PROPERTIES.ext O.2) (g := (mkF m_ 107 #[.val (.int raw), .val (.int small), .unset, .unset, .unset, .unset] [(.int (15 : Int32)), (.ref b1), (.ref b1)])) rfl (hb hby at_107)
  refine own_st T32 (mkF m_ 110 #[.val (.int raw), .val (.int small), .unset, .unset, .unset, .unset] [(.ref (W 15)), (.int (15 : Int32)), (.ref b1), (.ref b1)]) st32 ?_
  obtain ⟨T33, h33, X33, e33, W33, st33⟩ := own_stR X32 hx hZ e32 A_b1 O1 (Or.inr ⟨_, rfl, Ins.self ((hE 15 (by decide)).ext O.2)⟩) 15 (by decide) (by decide) (j := (15 : Int32)) (v := (.ref (W 15))) (Ls := #[.val (.int raw), .val (.int small), .unset, .unset, .unset, .unset]) (rest := [(.ref b1)]) (hb hby at_110)
  have N33 := Fr.snoc X33 N31 g_b1
  replace Z0 : n0 ≤ h33.size := W33.size ▸ Z0
  replace O := O.wr W33 g_b1
  replace A_b1 : own_A Z h33 b1 k1 (.object "com/example/varrowkeep/varrowkeep/ContainerKind") 16 (fun x_ => (([(.ref (W 0)), (.ref (W 1)), (.ref (W 2)), (.ref (W 3)), (.ref (W 4)), (.ref (W 5)), (.ref (W 6)), (.ref (W 7)), (.ref (W 8)), (.ref (W 9)), (.ref (W 10)), (.ref (W 11)), (.ref (W 12)), (.ref (W 13)), (.ref (W 14)), (.ref (W 15))] : List Value).getD x_ .null)) := A_b1.setL (by decide) (Nat.le_of_ble_eq_true rfl) W33
  refine own_st T33 (mkF m_ 111 #[.val (.int raw), .val (.int small), .unset, .unset, .unset, .unset] [(.ref b1)]) st33 ?_
  refine own_st T33 (mkF m_ 121 #[.val (.int raw), .val (.int small), .val (.ref b1), .val (.int (own_c small)), .unset, .unset] [(.int raw)]) (fun t_ k_ => ?_) ?_
  · refine XS.astoreN X33.here hx rfl (hb hby at_111) rfl rfl (l' := #[.val (.int raw), .val (.int small), .val (.ref b1), .unset, .unset, .unset]) rfl ?_
    show Steps p_.tables e_ below (T33.setTop (mkF m_ 112 #[.val (.int raw), .val (.int small), .val (.ref b1), .unset, .unset, .unset] [])) t_
    refine XS.iloadN X33.here hx rfl (hb hby at_112) rfl ?_
    show Steps p_.tables e_ below (T33.setTop (mkF m_ 113 #[.val (.int raw), .val (.int small), .val (.ref b1), .unset, .unset, .unset] [(.int small)])) t_
    refine XS.bipush X33.here hx rfl (hb hby at_113) ?_
    show Steps p_.tables e_ below (T33.setTop (mkF m_ 115 #[.val (.int raw), .val (.int small), .val (.ref b1), .unset, .unset, .unset] [(.int (31 : Int32)), (.int small)])) t_
    refine XS.iand X33.here hx rfl (hb hby at_115) rfl ?_
    show Steps p_.tables e_ below (T33.setTop (mkF m_ 116 #[.val (.int raw), .val (.int small), .val (.ref b1), .unset, .unset, .unset] [(.int (small &&& (31 : Int32)))])) t_
    refine XS.bipush X33.here hx rfl (hb hby at_116) ?_
    show Steps p_.tables e_ below (T33.setTop (mkF m_ 118 #[.val (.int raw), .val (.int small), .val (.ref b1), .unset, .unset, .unset] [(.int (7 : Int32)), (.int (small &&& (31 : Int32)))])) t_
    refine XS.isub X33.here hx rfl (hb hby at_118) rfl ?_
    show Steps p_.tables e_ below (T33.setTop (mkF m_ 119 #[.val (.int raw), .val (.int small), .val (.ref b1), .unset, .unset, .unset] [(.int (own_c small))])) t_
    refine XS.istoreN X33.here hx rfl (hb hby at_119) rfl (l' := #[.val (.int raw), .val (.int small), .val (.ref b1), .val (.int (own_c small)), .unset, .unset]) rfl ?_
    show Steps p_.tables e_ below (T33.setTop (mkF m_ 120 #[.val (.int raw), .val (.int small), .val (.ref b1), .val (.int (own_c small)), .unset, .unset] [])) t_
    refine XS.iloadN X33.here hx rfl (hb hby at_120) rfl ?_
    show Steps p_.tables e_ below (T33.setTop (mkF m_ 121 #[.val (.int raw), .val (.int small), .val (.ref b1), .val (.int (own_c small)), .unset, .unset] [(.int raw)])) t_
    exact k_
  refine own_callS X33 hx hZ hown (hw _ (List.mem_of_getElem? (i := 36) rfl)) (hw _ (List.mem_of_getElem? (i := 37) rfl)) (hw _ (List.mem_of_getElem? (i := 3) rfl)) (hw _ (List.mem_of_getElem? (i := 38) rfl)) (by decide) [(.int raw)] [] (rm1 l Z a0 hw raw kv vv W h33 n0 Z0 (S_VALUES.ext O.2) (V.ext O.2) (E_vv.ext O.2) (fun i hi => (hF i hi).ext O.2)) 0 (by decide) (by decide) e33 (by rw [hml]; rfl) (lenOf own_pd1 rfl) rfl (Nat.le_of_eq rfl) (hb hby at_121) (by decide) (by decide) ?_
  intro v34 T34 L34 X34 q34
  obtain ⟨rfl, N34q, E34⟩ := q34
  have N34 := Fr.app N33 N34q
  replace O := O.ext E34
  replace A_b1 := A_b1.ext E34
  replace Z0 : n0 ≤ T34.heap.size := Nat.le_trans Z0 E34.1
  show own_Out p_ e_ below s_ _ _ _ T34 (mkF m_ 124 #[.val (.int raw), .val (.int small), .val (.ref b1), .val (.int (own_c small)), .unset, .unset] [(own_ck W raw)])
  refine own_st T34 (mkF m_ 126 #[.val (.int raw), .val (.int small), .val (.ref b1), .val (.int (own_c small)), .unset, .unset] [(.int raw), (.ref b1), (own_ck W raw)]) (fun t_ k_ => ?_) ?_
  · refine XS.aloadN X34.here hx rfl (hb hby at_124) rfl rfl ?_
    show Steps p_.tables e_ below (T34.setTop (mkF m_ 125 #[.val (.int raw), .val (.int small), .val (.ref b1), .val (.int (own_c small)), .unset, .unset] [(.ref b1), (own_ck W raw)])) t_
    refine XS.iloadN X34.here hx rfl (hb hby at_125) rfl ?_
    show Steps p_.tables e_ below (T34.setTop (mkF m_ 126 #[.val (.int raw), .val (.int small), .val (.ref b1), .val (.int (own_c small)), .unset, .unset] [(.int raw), (.ref b1), (own_ck W raw)])) t_
    exact k_
  refine own_callS X34 hx hZ hown (hw _ (List.mem_of_getElem? (i := 56) rfl)) (hw _ (List.mem_of_getElem? (i := 57) rfl)) (hw _ (List.mem_of_getElem? (i := 58) rfl)) (hw _ (List.mem_of_getElem? (i := 59) rfl)) (by decide) [(.ref b1), (.int raw)] [(own_ck W raw)] (rm3 l Z a0 hw b1 raw k1 W T34.heap n0 Z0 (own_toW A_b1)) 1 (by decide) (by decide) rfl (by rw [hml]; rfl) (lenOf own_pd2 rfl) rfl (by simp only [List.map_cons, List.map_nil, own_cat (own_ckr _ _)]; decide) (hb hby at_126) (by decide) (by decide) ?_
  intro v35 T35 L35 X35 q35
  obtain ⟨rfl, N35q, e35⟩ := q35
  have N35 := Fr.app N34 N35q
  show own_Out p_ e_ below s_ _ _ _ T35 (mkF m_ 129 #[.val (.int raw), .val (.int small), .val (.ref b1), .val (.int (own_c small)), .unset, .unset] [(own_ck W raw), (own_ck W raw)])
  refine own_st T35 (mkF m_ 140 #[.val (.int raw), .val (.int small), .val (.ref b1), .val (.int (own_c small)), .val (.int (1 : Int32)), .unset] [(.int (own_c small))]) (fun t_ k_ => ?_) ?_
  · refine Jvm.RoadKit.acmp (g := (mkF m_ 129 #[.val (.int raw), .val (.int small), .val (.ref b1), .val (.int (own_c small)), .unset, .unset] [(own_ck W raw), (own_ck W raw)])) X35 hx rfl (own_ckr _ _) (own_ckr _ _) (pc0 := 129) (pc' := 132) (same := true) rfl (hb hby at_129) rfl (decide_eq_true rfl) (by decide) (by decide) ?_
    show Steps p_.tables e_ below (T35.setTop (mkF m_ 132 #[.val (.int raw), .val (.int small), .val (.ref b1), .val (.int (own_c small)), .unset, .unset] [])) t_
    refine XS.iconst X35.here hx rfl (hb hby at_132) ?_
    show Steps p_.tables e_ below (T35.setTop (mkF m_ 133 #[.val (.int raw), .val (.int small), .val (.ref b1), .val (.int (own_c small)), .unset, .unset] [(.int (1 : Int32))])) t_
    refine XS.goto X35.here hx rfl (pc0 := 133) (pc' := 137) rfl (hb hby at_133) (by decide) (by decide) ?_
    show Steps p_.tables e_ below (T35.setTop (mkF m_ 137 #[.val (.int raw), .val (.int small), .val (.ref b1), .val (.int (own_c small)), .unset, .unset] [(.int (1 : Int32))])) t_
    refine XS.istore X35.here hx rfl (hb hby at_137) rfl (l' := #[.val (.int raw), .val (.int small), .val (.ref b1), .val (.int (own_c small)), .val (.int (1 : Int32)), .unset]) rfl ?_
    show Steps p_.tables e_ below (T35.setTop (mkF m_ 139 #[.val (.int raw), .val (.int small), .val (.ref b1), .val (.int (own_c small)), .val (.int (1 : Int32)), .unset] [])) t_
    refine XS.iloadN X35.here hx rfl (hb hby at_139) rfl ?_
    show Steps p_.tables e_ below (T35.setTop (mkF m_ 140 #[.val (.int raw), .val (.int small), .val (.ref b1), .val (.int (own_c small)), .val (.int (1 : Int32)), .unset] [(.int (own_c small))])) t_
    exact k_
  refine own_callS X35 hx hZ hown (hw _ (List.mem_of_getElem? (i := 36) rfl)) (hw _ (List.mem_of_getElem? (i := 37) rfl)) (hw _ (List.mem_of_getElem? (i := 3) rfl)) (hw _ (List.mem_of_getElem? (i := 38) rfl)) (by decide) [(.int (own_c small))] [] (rm1 l Z a0 hw (own_c small) kv vv W T34.heap n0 Z0 (S_VALUES.ext O.2) (V.ext O.2) (E_vv.ext O.2) (fun i hi => (hF i hi).ext O.2)) 0 (by decide) (by decide) e35 (by rw [hml]; rfl) (lenOf own_pd1 rfl) rfl (Nat.le_of_eq rfl) (hb hby at_140) (by decide) (by decide) ?_
  intro v36 T36 L36 X36 q36
  obtain ⟨rfl, N36q, E36⟩ := q36
  have N36 := Fr.app N35 N36q
  replace O := O.ext E36
  replace A_b1 := A_b1.ext E36
  replace Z0 : n0 ≤ T36.heap.size := Nat.le_trans Z0 E36.1
  show own_Out p_ e_ below s_ _ _ _ T36 (mkF m_ 143 #[.val (.int raw), .val (.int small), .val (.ref b1), .val (.int (own_c small)), .val (.int (1 : Int32)), .unset] [(own_ck W (own_c small))])
  refine own_st T36 (mkF m_ 145 #[.val (.int raw), .val (.int small), .val (.ref b1), .val (.int (own_c small)), .val (.int (1 : Int32)), .unset] [(.int (own_c small)), (.ref b1), (own_ck W (own_c small))]) (fun t_ k_ => ?_) ?_
  · refine XS.aloadN X36.here hx rfl (hb hby at_143) rfl rfl ?_
    show Steps p_.tables e_ below (T36.setTop (mkF m_ 144 #[.val (.int raw), .val (.int small), .val (.ref b1), .val (.int (own_c small)), .val (.int (1 : Int32)), .unset] [(.ref b1), (own_ck W (own_c small))])) t_
    refine XS.iloadN X36.here hx rfl (hb hby at_144) rfl ?_
    show Steps p_.tables e_ below (T36.setTop (mkF m_ 145 #[.val (.int raw), .val (.int small), .val (.ref b1), .val (.int (own_c small)), .val (.int (1 : Int32)), .unset] [(.int (own_c small)), (.ref b1), (own_ck W (own_c small))])) t_
    exact k_
  refine own_callS X36 hx hZ hown (hw _ (List.mem_of_getElem? (i := 56) rfl)) (hw _ (List.mem_of_getElem? (i := 57) rfl)) (hw _ (List.mem_of_getElem? (i := 58) rfl)) (hw _ (List.mem_of_getElem? (i := 59) rfl)) (by decide) [(.ref b1), (.int (own_c small))] [(own_ck W (own_c small))] (rm3 l Z a0 hw b1 (own_c small) k1 W T36.heap n0 Z0 (own_toW A_b1)) 1 (by decide) (by decide) rfl (by rw [hml]; rfl) (lenOf own_pd2 rfl) rfl (by simp only [List.map_cons, List.map_nil, own_cat (own_ckr _ _)]; decide) (hb hby at_145) (by decide) (by decide) ?_
  intro v37 T37 L37 X37 q37
  obtain ⟨rfl, N37q, e37⟩ := q37
  have N37 := Fr.app N36 N37q
  show own_Out p_ e_ below s_ _ _ _ T37 (mkF m_ 148 #[.val (.int raw), .val (.int small), .val (.ref b1), .val (.int (own_c small)), .val (.int (1 : Int32)), .unset] [(own_ck W (own_c small)), (own_ck W (own_c small))])
  refine own_st T37 (mkF m_ 173 #[.val (.int raw), .val (.int small), .val (.ref b1), .val (.int (own_c small)), .val (.int (1 : Int32)), .val (.int (1 : Int32))] [(.int (1 : Int32))]) (fun t_ k_ => ?_) ?_
  · refine Jvm.RoadKit.acmp (g := (mkF m_ 148 #[.val (.int raw), .val (.int small), .val (.ref b1), .val (.int (own_c small)), .val (.int (1 : Int32)), .unset] [(own_ck W (own_c small)), (own_ck W (own_c small))])) X37 hx rfl (own_ckr _ _) (own_ckr _ _) (pc0 := 148) (pc' := 151) (same := true) rfl (hb hby at_148) rfl (decide_eq_true rfl) (by decide) (by decide) ?_
    show Steps p_.tables e_ below (T37.setTop (mkF m_ 151 #[.val (.int raw), .val (.int small), .val (.ref b1), .val (.int (own_c small)), .val (.int (1 : Int32)), .unset] [])) t_
    refine XS.iconst X37.here hx rfl (hb hby at_151) ?_
    show Steps p_.tables e_ below (T37.setTop (mkF m_ 152 #[.val (.int raw), .val (.int small), .val (.ref b1), .val (.int (own_c small)), .val (.int (1 : Int32)), .unset] [(.int (1 : Int32))])) t_
    refine XS.goto X37.here hx rfl (pc0 := 152) (pc' := 156) rfl (hb hby at_152) (by decide) (by decide) ?_
    show Steps p_.tables e_ below (T37.setTop (mkF m_ 156 #[.val (.int raw), .val (.int small), .val (.ref b1), .val (.int (own_c small)), .val (.int (1 : Int32)), .unset] [(.int (1 : Int32))])) t_
    refine XS.istore X37.here hx rfl (hb hby at_156) rfl (l' := #[.val (.int raw), .val (.int small), .val (.ref b1), .val (.int (own_c small)), .val (.int (1 : Int32)), .val (.int (1 : Int32))]) rfl ?_
    show Steps p_.tables e_ below (T37.setTop (mkF m_ 158 #[.val (.int raw), .val (.int small), .val (.ref b1), .val (.int (own_c small)), .val (.int (1 : Int32)), .val (.int (1 : Int32))] [])) t_
    refine XS.iload X37.here hx rfl (hb hby at_158) rfl ?_
    show Steps p_.tables e_ below (T37.setTop (mkF m_ 160 #[.val (.int raw), .val (.int small), .val (.ref b1), .val (.int (own_c small)), .val (.int (1 : Int32)), .val (.int (1 : Int32))] [(.int (1 : Int32))])) t_
    refine XS.ifNo X37.here hx rfl (hb hby at_160) rfl ((if0 _ _).trans (feq (by decide : ¬ ((1 : Int32) = (0 : Int32)))).1) ?_
    show Steps p_.tables e_ below (T37.setTop (mkF m_ 163 #[.val (.int raw), .val (.int small), .val (.ref b1), .val (.int (own_c small)), .val (.int (1 : Int32)), .val (.int (1 : Int32))] [])) t_
    refine XS.iload X37.here hx rfl (hb hby at_163) rfl ?_
    show Steps p_.tables e_ below (T37.setTop (mkF m_ 165 #[.val (.int raw), .val (.int small), .val (.ref b1), .val (.int (own_c small)), .val (.int (1 : Int32)), .val (.int (1 : Int32))] [(.int (1 : Int32))])) t_
    refine XS.ifNo X37.here hx rfl (hb hby at_165) rfl ((if0 _ _).trans (feq (by decide : ¬ ((1 : Int32) = (0 : Int32)))).1) ?_
    show Steps p_.tables e_ below (T37.setTop (mkF m_ 168 #[.val (.int raw), .val (.int small), .val (.ref b1), .val (.int (own_c small)), .val (.int (1 : Int32)), .val (.int (1 : Int32))] [])) t_
    refine XS.iconst X37.here hx rfl (hb hby at_168) ?_
    show Steps p_.tables e_ below (T37.setTop (mkF m_ 169 #[.val (.int raw), .val (.int small), .val (.ref b1), .val (.int (own_c small)), .val (.int (1 : Int32)), .val (.int (1 : Int32))] [(.int (1 : Int32))])) t_
    refine XS.goto X37.here hx rfl (pc0 := 169) (pc' := 173) rfl (hb hby at_169) (by decide) (by decide) ?_
    show Steps p_.tables e_ below (T37.setTop (mkF m_ 173 #[.val (.int raw), .val (.int small), .val (.ref b1), .val (.int (own_c small)), .val (.int (1 : Int32)), .val (.int (1 : Int32))] [(.int (1 : Int32))])) t_
    exact k_
  refine own_retN X37 hx hlk (t := .boolean) hret (by simp) (hb hby at_173) (by decide) (by decide) ?_
  exact ⟨rfl, N37⟩
set_option maxRecDepth 65536 in
set_option maxHeartbeats 40000000 in
theorem comes_1 {Post : Tables → Env → Array Value → State → Outcome → State → Prop} (hpost : ∀ tb e args s v u, (limb_1_1.after args s (.returned v) u = true ∧ limb_1_2.after args s (.returned v) u = true ∧ True) → FrameEnd s (.returned v) u (Jvm.fieldLocs frame_1_writes args s ++ Jvm.arrayLocs frame_1_arrays args s ++ Jvm.staticLocs frame_1_statics s) 16 192 → Post tb e args s (.returned v) u) :
    ArmFor flags0 classFile x code maxLocals ret World_1 tables_1 room_1 Calls_1 rest_1 Pre_1 Post := by
  intro l hfl _ _ p e ha hc hk s m args below hf hA hF happ hP
  obtain ⟨hcalls, hrest, hpre⟩ := hP
  obtain ⟨-, -, -, hnamed, -, -, -, hat⟩ := (Spec.applies_iff hf).mp happ
  obtain ⟨hg, hn⟩ := and_e (Cond.before_iff.mp (show (Jvm.Cond.and given_1 narrow_1).before args s = true from hpre))
  obtain ⟨c0, r0⟩ := and_e hg
  obtain ⟨k0, r1⟩ := and_e r0
  obtain ⟨w0, w1, rfl⟩ : ∃ w0 w1 : Value, args = #[w0, w1] := by
    have hs : args.size = 2 := by simpa [Cond.value, given_1] using c0
    obtain ⟨L⟩ := args
    match L, hs with
    | [w0, w1], _ => exact ⟨w0, w1, rfl⟩
  have hw := fun d (hd : d ∈ tables_1) => atoms_spec (ws := Jvm.Cond.code x code maxLocals ret :: tables_1) hat d (List.mem_cons_of_mem _ hd)
  have hfit : Fit s := fun {y c} hc i hi => by
    obtain ⟨ha, rfl⟩ := Array.getElem?_eq_some_iff.mp hc
    have q := List.all_eq_true.mp ((Array.all_eq_true_iff_forall_mem.mp hF) _ (Array.getElem_mem ha)) i (List.mem_range.mpr hi)
    simpa [Array.getElem?_eq_getElem hi] using q
  obtain ⟨i0, ei0⟩ := is_v k0
  obtain rfl : w0 = (.int i0) := Option.some.inj ei0
  obtain ⟨i1, ei1⟩ := is_v r1
  obtain rfl : w1 = (.int i1) := Option.some.inj ei1
  obtain ⟨xe0, rr0⟩ := and_e hn
  obtain ⟨xe1, rr1⟩ := and_e rr0
  obtain ⟨xe2, rr2⟩ := and_e rr1
  obtain ⟨xe3, rr3⟩ := and_e rr2
  obtain ⟨xe4, rr4⟩ := and_e rr3
  obtain ⟨xe5, rr5⟩ := and_e rr4
  obtain ⟨xe6, rr6⟩ := and_e rr5
  obtain ⟨xe7, rr7⟩ := and_e rr6
  obtain ⟨xe8, rr8⟩ := and_e rr7
  obtain ⟨xe9, rr9⟩ := and_e rr8
  obtain ⟨xe10, rr10⟩ := and_e rr9
  obtain ⟨xe11, rr11⟩ := and_e rr10
  obtain ⟨xe12, rr12⟩ := and_e rr11
  obtain ⟨xe13, rr13⟩ := and_e rr12
  obtain ⟨xe14, rr14⟩ := and_e rr13
  obtain ⟨xe15, rr15⟩ := and_e rr14
  obtain ⟨xa, rr16⟩ := and_e rr15
  obtain ⟨xv, rr17⟩ := and_e rr16
  obtain ⟨xl, rr18⟩ := and_e rr17
  obtain ⟨xm0, rr19⟩ := and_e rr18
  obtain ⟨xm1, rr20⟩ := and_e rr19
  obtain ⟨xm2, rr21⟩ := and_e rr20
  obtain ⟨xm3, rr22⟩ := and_e rr21
  obtain ⟨xm4, rr23⟩ := and_e rr22
  obtain ⟨xm5, rr24⟩ := and_e rr23
  obtain ⟨xm6, rr25⟩ := and_e rr24
  obtain ⟨xm7, rr26⟩ := and_e rr25
  obtain ⟨xm8, rr27⟩ := and_e rr26
  obtain ⟨xm9, rr28⟩ := and_e rr27
  obtain ⟨xm10, rr29⟩ := and_e rr28
  obtain ⟨xm11, rr30⟩ := and_e rr29
  obtain ⟨xm12, rr31⟩ := and_e rr30
  obtain ⟨xm13, rr32⟩ := and_e rr31
  obtain ⟨xm14, rr33⟩ := and_e rr32
  obtain ⟨xm15, rr34⟩ := and_e rr33
  obtain ⟨xo0, rr35⟩ := and_e rr34
  obtain ⟨xo1, rr36⟩ := and_e rr35
  obtain ⟨xo2, rr37⟩ := and_e rr36
  obtain ⟨xo3, rr38⟩ := and_e rr37
  obtain ⟨xo4, rr39⟩ := and_e rr38
  obtain ⟨xo5, rr40⟩ := and_e rr39
  obtain ⟨xo6, rr41⟩ := and_e rr40
  obtain ⟨xo7, rr42⟩ := and_e rr41
  obtain ⟨xo8, rr43⟩ := and_e rr42
  obtain ⟨xo9, rr44⟩ := and_e rr43
  obtain ⟨xo10, rr45⟩ := and_e rr44
  obtain ⟨xo11, rr46⟩ := and_e rr45
  obtain ⟨xo12, rr47⟩ := and_e rr46
  obtain ⟨xo13, rr48⟩ := and_e rr47
  obtain ⟨xo14, rr49⟩ := and_e rr48
  have xo15 := rr49
  obtain ⟨w0v, v0⟩ := exa_v xe0
  have E0 := Exa.start v0 xe0
  have Fo0 := own_fv xo0 v0
  have S0 := Sta.start v0 (Or.inr ⟨(hw _ (List.mem_of_getElem? (i := 3) rfl)), (hw _ (List.mem_of_getElem? (i := 4) rfl))⟩)
  obtain ⟨w1v, v1⟩ := exa_v xe1
  have E1 := Exa.start v1 xe1
  have Fo1 := own_fv xo1 v1
  have S1 := Sta.start v1 (Or.inr ⟨(hw _ (List.mem_of_getElem? (i := 3) rfl)), (hw _ (List.mem_of_getElem? (i := 7) rfl))⟩)
  obtain ⟨w2v, v2⟩ := exa_v xe2
  have E2 := Exa.start v2 xe2
  have Fo2 := own_fv xo2 v2
  have S2 := Sta.start v2 (Or.inr ⟨(hw _ (List.mem_of_getElem? (i := 3) rfl)), (hw _ (List.mem_of_getElem? (i := 9) rfl))⟩)
  obtain ⟨w3v, v3⟩ := exa_v xe3
  have E3 := Exa.start v3 xe3
  have Fo3 := own_fv xo3 v3
  have S3 := Sta.start v3 (Or.inr ⟨(hw _ (List.mem_of_getElem? (i := 3) rfl)), (hw _ (List.mem_of_getElem? (i := 11) rfl))⟩)
  obtain ⟨w4v, v4⟩ := exa_v xe4
  have E4 := Exa.start v4 xe4
  have Fo4 := own_fv xo4 v4
  have S4 := Sta.start v4 (Or.inr ⟨(hw _ (List.mem_of_getElem? (i := 3) rfl)), (hw _ (List.mem_of_getElem? (i := 13) rfl))⟩)
  obtain ⟨w5v, v5⟩ := exa_v xe5
  have E5 := Exa.start v5 xe5
  have Fo5 := own_fv xo5 v5
  have S5 := Sta.start v5 (Or.inr ⟨(hw _ (List.mem_of_getElem? (i := 3) rfl)), (hw _ (List.mem_of_getElem? (i := 15) rfl))⟩)
  obtain ⟨w6v, v6⟩ := exa_v xe6
  have E6 := Exa.start v6 xe6
  have Fo6 := own_fv xo6 v6
  have S6 := Sta.start v6 (Or.inr ⟨(hw _ (List.mem_of_getElem? (i := 3) rfl)), (hw _ (List.mem_of_getElem? (i := 17) rfl))⟩)
  obtain ⟨w7v, v7⟩ := exa_v xe7
  have E7 := Exa.start v7 xe7
  have Fo7 := own_fv xo7 v7
  have S7 := Sta.start v7 (Or.inr ⟨(hw _ (List.mem_of_getElem? (i := 3) rfl)), (hw _ (List.mem_of_getElem? (i := 19) rfl))⟩)
  obtain ⟨w8v, v8⟩ := exa_v xe8
  have E8 := Exa.start v8 xe8
  have Fo8 := own_fv xo8 v8
  have S8 := Sta.start v8 (Or.inr ⟨(hw _ (List.mem_of_getElem? (i := 3) rfl)), (hw _ (List.mem_of_getElem? (i := 21) rfl))⟩)
  obtain ⟨w9v, v9⟩ := exa_v xe9
  have E9 := Exa.start v9 xe9
  have Fo9 := own_fv xo9 v9
  have S9 := Sta.start v9 (Or.inr ⟨(hw _ (List.mem_of_getElem? (i := 3) rfl)), (hw _ (List.mem_of_getElem? (i := 23) rfl))⟩)
  obtain ⟨w10v, v10⟩ := exa_v xe10
  have E10 := Exa.start v10 xe10
  have Fo10 := own_fv xo10 v10
  have S10 := Sta.start v10 (Or.inr ⟨(hw _ (List.mem_of_getElem? (i := 3) rfl)), (hw _ (List.mem_of_getElem? (i := 25) rfl))⟩)
  obtain ⟨w11v, v11⟩ := exa_v xe11
  have E11 := Exa.start v11 xe11
  have Fo11 := own_fv xo11 v11
  have S11 := Sta.start v11 (Or.inr ⟨(hw _ (List.mem_of_getElem? (i := 3) rfl)), (hw _ (List.mem_of_getElem? (i := 27) rfl))⟩)
  obtain ⟨w12v, v12⟩ := exa_v xe12
  have E12 := Exa.start v12 xe12
  have Fo12 := own_fv xo12 v12
  have S12 := Sta.start v12 (Or.inr ⟨(hw _ (List.mem_of_getElem? (i := 3) rfl)), (hw _ (List.mem_of_getElem? (i := 29) rfl))⟩)
  obtain ⟨w13v, v13⟩ := exa_v xe13
  have E13 := Exa.start v13 xe13
  have Fo13 := own_fv xo13 v13
  have S13 := Sta.start v13 (Or.inr ⟨(hw _ (List.mem_of_getElem? (i := 3) rfl)), (hw _ (List.mem_of_getElem? (i := 31) rfl))⟩)
  obtain ⟨w14v, v14⟩ := exa_v xe14
  have E14 := Exa.start v14 xe14
  have Fo14 := own_fv xo14 v14
  have S14 := Sta.start v14 (Or.inr ⟨(hw _ (List.mem_of_getElem? (i := 3) rfl)), (hw _ (List.mem_of_getElem? (i := 33) rfl))⟩)
  obtain ⟨w15v, v15⟩ := exa_v xe15
  have E15 := Exa.start v15 xe15
  have Fo15 := own_fv xo15 v15
  have S15 := Sta.start v15 (Or.inr ⟨(hw _ (List.mem_of_getElem? (i := 3) rfl)), (hw _ (List.mem_of_getElem? (i := 35) rfl))⟩)
  obtain ⟨vv, ev⟩ := exa_v xv
  have Ev := Exa.start ev xv
  have Sv := Sta.start ev (Or.inl (hw _ (List.mem_of_getElem? (i := 51) rfl)))
  obtain ⟨cl, Av⟩ := Arr.start ev xa
  have hsz : cl.slots.size = 16 := own_sz ev Av xl
  obtain ⟨W, hW⟩ : ∃ W : Nat → Addr, W = fun i => ([w0v, w1v, w2v, w3v, w4v, w5v, w6v, w7v, w8v, w9v, w10v, w11v, w12v, w13v, w14v, w15v] : List Addr).getD i 0 := ⟨_, rfl⟩
  have m0 := own_el ev Av xm0 v0 (k := 0) (by decide) (by decide)
  have m1 := own_el ev Av xm1 v1 (k := 1) (by decide) (by decide)
  have m2 := own_el ev Av xm2 v2 (k := 2) (by decide) (by decide)
  have m3 := own_el ev Av xm3 v3 (k := 3) (by decide) (by decide)
  have m4 := own_el ev Av xm4 v4 (k := 4) (by decide) (by decide)
  have m5 := own_el ev Av xm5 v5 (k := 5) (by decide) (by decide)
  have m6 := own_el ev Av xm6 v6 (k := 6) (by decide) (by decide)
  have m7 := own_el ev Av xm7 v7 (k := 7) (by decide) (by decide)
  have m8 := own_el ev Av xm8 v8 (k := 8) (by decide) (by decide)
  have m9 := own_el ev Av xm9 v9 (k := 9) (by decide) (by decide)
  have m10 := own_el ev Av xm10 v10 (k := 10) (by decide) (by decide)
  have m11 := own_el ev Av xm11 v11 (k := 11) (by decide) (by decide)
  have m12 := own_el ev Av xm12 v12 (k := 12) (by decide) (by decide)
  have m13 := own_el ev Av xm13 v13 (k := 13) (by decide) (by decide)
  have m14 := own_el ev Av xm14 v14 (k := 14) (by decide) (by decide)
  have m15 := own_el ev Av xm15 v15 (k := 15) (by decide) (by decide)
  have hV : own_A s s.heap vv cl.cls (.object "com/example/varrowkeep/varrowkeep/ContainerKind") 16 (fun x => .ref (W x)) := by
    refine ⟨cl, Av, rfl, hsz, by decide, fun i hi => ?_⟩
    have : i = 0 ∨ i = 1 ∨ i = 2 ∨ i = 3 ∨ i = 4 ∨ i = 5 ∨ i = 6 ∨ i = 7 ∨ i = 8 ∨ i = 9 ∨ i = 10 ∨ i = 11 ∨ i = 12 ∨ i = 13 ∨ i = 14 ∨ i = 15 := by omega
    subst hW
    rcases this with rfl | rfl | rfl | rfl | rfl | rfl | rfl | rfl | rfl | rfl | rfl | rfl | rfl | rfl | rfl | rfl
    · exact m0
    · exact m1
    · exact m2
    · exact m3
    · exact m4
    · exact m5
    · exact m6
    · exact m7
    · exact m8
    · exact m9
    · exact m10
    · exact m11
    · exact m12
    · exact m13
    · exact m14
    · exact m15
  have hE : ∀ i, i < 16 → Exa s s.heap (W i) "com/example/varrowkeep/varrowkeep/ContainerKind" := by
    intro i hi
    have : i = 0 ∨ i = 1 ∨ i = 2 ∨ i = 3 ∨ i = 4 ∨ i = 5 ∨ i = 6 ∨ i = 7 ∨ i = 8 ∨ i = 9 ∨ i = 10 ∨ i = 11 ∨ i = 12 ∨ i = 13 ∨ i = 14 ∨ i = 15 := by omega
    subst hW
    rcases this with rfl | rfl | rfl | rfl | rfl | rfl | rfl | rfl | rfl | rfl | rfl | rfl | rfl | rfl | rfl | rfl
    · exact E0
    · exact E1
    · exact E2
    · exact E3
    · exact E4
    · exact E5
    · exact E6
    · exact E7
    · exact E8
    · exact E9
    · exact E10
    · exact E11
    · exact E12
    · exact E13
    · exact E14
    · exact E15
  have hF : ∀ i, i < 16 → Fld s s.heap (W i) "com/example/varrowkeep/varrowkeep/ContainerKind" "code" "I" (.int (Int32.ofNat (i + 1))) := by
    intro i hi
    have : i = 0 ∨ i = 1 ∨ i = 2 ∨ i = 3 ∨ i = 4 ∨ i = 5 ∨ i = 6 ∨ i = 7 ∨ i = 8 ∨ i = 9 ∨ i = 10 ∨ i = 11 ∨ i = 12 ∨ i = 13 ∨ i = 14 ∨ i = 15 := by omega
    subst hW
    rcases this with rfl | rfl | rfl | rfl | rfl | rfl | rfl | rfl | rfl | rfl | rfl | rfl | rfl | rfl | rfl | rfl
    · exact Fo0
    · exact Fo1
    · exact Fo2
    · exact Fo3
    · exact Fo4
    · exact Fo5
    · exact Fo6
    · exact Fo7
    · exact Fo8
    · exact Fo9
    · exact Fo10
    · exact Fo11
    · exact Fo12
    · exact Fo13
    · exact Fo14
    · exact Fo15
  obtain ⟨n, o, h1, h2, h3, _, L, rfl, ⟨rfl, N⟩, hq⟩ := rm0 l s _ hw i0 i1 cl.cls vv W s.heap s.heap.size (Nat.le_refl _) (Old.start s) (hW ▸ S0) (hW ▸ S1) (hW ▸ S2) (hW ▸ S3) (hW ▸ S4) (hW ▸ S5) (hW ▸ S6) (hW ▸ S7) (hW ▸ S8) (hW ▸ S9) (hW ▸ S10) (hW ▸ S11) (hW ▸ S12) (hW ▸ S13) (hW ▸ S14) (hW ▸ S15) hE hF Sv hV Ev tables_1 p e ha hc hk s m _ below hf ((Spec.applies_iff_loose hf).mp happ).1 ⟨rfl, State.Warmed39.refl s, rfl⟩ trivial
  refine ⟨n, _, h1, h2, h3, hpost _ _ _ _ _ _ ⟨Cond.after_iff.mpr rfl, Cond.after_iff.mpr (eq_i res_at (Term.int_eval (1)) rfl), trivial⟩ ⟨hq.1, hq.2.1, (hq.2.2.sift fun y hy => Or.inr (N y hy)).mono (by decide) (by decide)⟩⟩
theorem main_1_1 : Claimed_1_1 := comes_1 fun _ _ _ _ _ _ h hF => ⟨h.1, hF⟩
theorem main_1_2 : Claimed_1_2 := comes_1 fun _ _ _ _ _ _ h hF => ⟨h.2.1, hF⟩
end Jvm.Pilot.@@N@@
namespace Jvm.Pilot.@@N@@
open Jvm Jvm.ClassFile Sem Op Lib Jvm.Free Jvm.Stand Jvm.Pilot.@@N@@.Jvm.D
/-! MADE BY PROGRAM (witnessworld.py) out of the Statement's table words and the real class files: 13 classes; the members and pool entries that the words name. The judged class is class 1, her method 1. -/
namespace start1
open Jvm.ClassFile
def u (s : String) : CpInfo := .utf8 (stringToUtf16 s)
/-- a pool by its gaps: so many unusable entries, then the entry; so many at the end -/
def gap : Nat → List CpInfo → List CpInfo
  | 0, r => r
  | n + 1, r => .unusable :: gap n r
def poolList (es : List (Nat × CpInfo)) (last : Nat) : List CpInfo := es.foldr (fun e r => gap e.1 (e.2 :: r)) (gap last [])
def pool (es : List (Nat × CpInfo)) (last : Nat) : Array CpInfo := ⟨poolList es last⟩
def fileOf (pool : Array CpInfo) (this : Nat) (attrs : Array Attribute := #[]) (ms : Array MethodInfo := #[]) (fl : Nat := 33) (sup : Nat := 0) (ifs : Array Nat := #[]) (fds : Array FieldInfo := #[]) : ClassFile where
  minorVersion := 0
  majorVersion := 65
  constantPool := pool
  accessFlags := fl
  thisClass := this
  superClass := sup
  interfaces := ifs
  fields := fds
  methods := ms
  attributes := attrs
def plain (name : String) (sup : Option ClassId) : Class where
  name := name
  kind := .ordinary
  loader := none
  accessFlags := 33
  super := sup
  interfaces := #[]
  cf := none
  fields := #[]
  methods := #[]
  instanceTypes := #[]
  staticTypes := #[]
  resolved := #[]
  callSites := []
  init := .initialized
  statics := none
  mirror := none

def pool0 : Array CpInfo := pool [(5, u "<init>"), (0, u "()V"), (1, .class_ 10), (1, u "java/lang/Object"), (85, u "clone"), (0, u "()Ljava/lang/Object;")] 26

def k0m0 : Method := { name := "<init>", desc := "()V", sig := { parameters := [], returnType := none }, accessFlags := 1, code := none }
def k0m1 : Method := { name := "clone", desc := "()Ljava/lang/Object;", sig := { parameters := [], returnType := some (.object "java/lang/Object") }, accessFlags := 260, code := none }
/-- java/lang/Object -/
def k0 : Class := { plain "java/lang/Object" none with
  accessFlags := 33
  interfaces := #[]
  cf := some (fileOf pool0 8 #[] #[{ accessFlags := 1, nameIndex := 5, descriptorIndex := 6, attributes := #[] }, { accessFlags := 260, nameIndex := 96, descriptorIndex := 97, attributes := #[] }] 33 0 #[] #[])
  fields := #[]
  methods := #[k0m0, k0m1]
  instanceTypes := #[]
  staticTypes := #[]
  resolved := Array.replicate 124 none
  statics := none }

def pool1 : Array CpInfo := pool [(2, .class_ 4), (1, u "java/lang/Object"), (0, u "<init>"), (0, u "()V"), (0, .class_ 8), (0, u "com/example/varrowkeep/varrowkeep/ContainerKind"), (0, .fieldref 7 10), (0, .nameAndType 11 12), (0, u "ARRAY_LIST"), (0, u "Lcom/example/varrowkeep/varrowkeep/ContainerKind;"), (0, .fieldref 7 14), (0, .nameAndType 15 12), (0, u "VECTOR"), (0, .fieldref 7 17), (0, .nameAndType 18 12), (0, u "STACK"), (0, .fieldref 7 20), (0, .nameAndType 21 12), (0, u "LINKED_LIST"), (0, .fieldref 7 23), (0, .nameAndType 24 12), (0, u "ARRAY_DEQUE"), (0, .fieldref 7 26), (0, .nameAndType 27 12), (0, u "PRIORITY_QUEUE"), (0, .fieldref 7 29), (0, .nameAndType 30 12), (0, u "HASH_SET"), (0, .fieldref 7 32), (0, .nameAndType 33 12), (0, u "LINKED_HASH_SET"), (0, .fieldref 7 35), (0, .nameAndType 36 12), (0, u "TREE_SET"), (0, .fieldref 7 38), (0, .nameAndType 39 12), (0, u "HASH_MAP"), (0, .fieldref 7 41), (0, .nameAndType 42 12), (0, u "HASHTABLE"), (0, .fieldref 7 44), (0, .nameAndType 45 12), (0, u "WEAK_HASH_MAP"), (0, .fieldref 7 47), (0, .nameAndType 48 12), (0, u "IDENTITY_HASH_MAP"), (0, .fieldref 7 50), (0, .nameAndType 51 12), (0, u "LINKED_HASH_MAP"), (0, .fieldref 7 53), (0, .nameAndType 54 12), (0, u "TREE_MAP"), (0, .fieldref 7 56), (0, .nameAndType 57 12), (0, u "PROPERTIES"), (0, .methodref 7 59), (0, .nameAndType 60 61), (0, u "forCode"), (0, u "(I)Lcom/example/varrowkeep/varrowkeep/ContainerKind;"), (0, .methodref 63 64), (0, .class_ 65), (0, .nameAndType 66 67), (0, u "com/example/varrowkeep/varrowkeep/ContainerKindForCodePinLaw"), (0, u "expected"), (0, u "([Lcom/example/varrowkeep/varrowkeep/ContainerKind;I)Lcom/example/varrowkeep/varrowkeep/ContainerKind;"), (2, u "law"), (0, u "(II)Z")] 5

def k1m0 : Method := { name := "<init>", desc := "()V", sig := { parameters := [], returnType := none }, accessFlags := 1, code := none }
def k1c1 : Code := { maxStack := 4, maxLocals := 6, code := code, exceptionTable := #[], attributes := #[] }
def k1m1 : Method := { name := "law", desc := "(II)Z", sig := { parameters := [.int, .int], returnType := some .boolean }, accessFlags := 9, code := some k1c1 }
def k1c2 : Code := { maxStack := 3, maxLocals := 2, code := method_3_code, exceptionTable := #[], attributes := #[] }
def k1m2 : Method := { name := "expected", desc := "([Lcom/example/varrowkeep/varrowkeep/ContainerKind;I)Lcom/example/varrowkeep/varrowkeep/ContainerKind;", sig := { parameters := [(.array (.object "com/example/varrowkeep/varrowkeep/ContainerKind")), .int], returnType := some (.object "com/example/varrowkeep/varrowkeep/ContainerKind") }, accessFlags := 10, code := some k1c2 }
/-- com/example/varrowkeep/varrowkeep/ContainerKindForCodePinLaw -/
def k1 : Class := { plain "com/example/varrowkeep/varrowkeep/ContainerKindForCodePinLaw" (some 0) with
  accessFlags := 49
  interfaces := #[]
  cf := some (fileOf pool1 63 #[] #[{ accessFlags := 1, nameIndex := 5, descriptorIndex := 6, attributes := #[] }, { accessFlags := 9, nameIndex := 70, descriptorIndex := 71, attributes := #[] }, { accessFlags := 10, nameIndex := 66, descriptorIndex := 67, attributes := #[] }] 49 2 #[] #[])
  fields := #[]
  methods := #[k1m0, k1m1, k1m2]
  instanceTypes := #[]
  staticTypes := #[]
  resolved := Array.replicate 77 none
  statics := none }

def pool2 : Array CpInfo := pool [(1, .class_ 2), (0, u "java/lang/constant/Constable"), (0, .class_ 4), (0, u "java/lang/Object")] 6

/-- java/lang/constant/Constable -/
def k2 : Class := { plain "java/lang/constant/Constable" (some 0) with
  accessFlags := 1537
  interfaces := #[]
  cf := some (fileOf pool2 1 #[] #[] 1537 3 #[] #[])
  fields := #[]
  methods := #[]
  instanceTypes := #[]
  staticTypes := #[]
  resolved := Array.replicate 11 none
  statics := none }

def pool3 : Array CpInfo := pool [(1, .class_ 2), (0, u "java/lang/Comparable"), (0, .class_ 4), (0, u "java/lang/Object")] 7

/-- java/lang/Comparable -/
def k3 : Class := { plain "java/lang/Comparable" (some 0) with
  accessFlags := 1537
  interfaces := #[]
  cf := some (fileOf pool3 1 #[] #[] 1537 3 #[] #[])
  fields := #[]
  methods := #[]
  instanceTypes := #[]
  staticTypes := #[]
  resolved := Array.replicate 12 none
  statics := none }

def pool4 : Array CpInfo := pool [(1, .class_ 2), (0, u "java/io/Serializable"), (0, .class_ 4), (0, u "java/lang/Object")] 2

/-- java/io/Serializable -/
def k4 : Class := { plain "java/io/Serializable" (some 0) with
  accessFlags := 1537
  interfaces := #[]
  cf := some (fileOf pool4 1 #[] #[] 1537 3 #[] #[])
  fields := #[]
  methods := #[]
  instanceTypes := #[]
  staticTypes := #[]
  resolved := Array.replicate 7 none
  statics := none }

def pool5 : Array CpInfo := pool [(2, .class_ 4), (1, u "java/lang/Enum"), (0, u "name"), (0, u "Ljava/lang/String;"), (2, u "ordinal"), (0, u "I"), (1, .class_ 14), (1, u "java/lang/Object"), (4, u "hash"), (86, .class_ 108), (1, u "java/lang/Enum$EnumDesc"), (2, .class_ 112), (0, u "java/lang/constant/Constable"), (0, .class_ 114), (0, u "java/lang/Comparable"), (0, .class_ 116), (0, u "java/io/Serializable")] 87

/-- java/lang/Enum -/
def k5 : Class := { plain "java/lang/Enum" (some 0) with
  accessFlags := 1057
  interfaces := #[2, 3, 4]
  cf := some (fileOf pool5 2 #[.nestMembers #[106]] #[] 1057 12 #[111, 113, 115] #[{ accessFlags := 18, nameIndex := 5, descriptorIndex := 6, attributes := #[] }, { accessFlags := 18, nameIndex := 9, descriptorIndex := 10, attributes := #[] }, { accessFlags := 2, nameIndex := 19, descriptorIndex := 10, attributes := #[] }])
  fields := #[{ name := "name", type := (.object "java/lang/String"), accessFlags := 18, slot := 0, constantValue := 0 }, { name := "ordinal", type := .int, accessFlags := 18, slot := 1, constantValue := 0 }, { name := "hash", type := .int, accessFlags := 2, slot := 2, constantValue := 0 }]
  methods := #[]
  instanceTypes := #[(.object "java/lang/String"), .int, .int]
  staticTypes := #[]
  resolved := Array.replicate 204 none
  statics := none }

def pool6 : Array CpInfo := pool [(1, .class_ 2), (0, u "com/example/varrowkeep/varrowkeep/ContainerKind"), (2, u "ARRAY_LIST"), (0, u "Lcom/example/varrowkeep/varrowkeep/ContainerKind;"), (2, u "VECTOR"), (2, u "STACK"), (2, u "LINKED_LIST"), (2, u "ARRAY_DEQUE"), (2, u "PRIORITY_QUEUE"), (2, u "HASH_SET"), (2, u "LINKED_HASH_SET"), (2, u "TREE_SET"), (2, u "HASH_MAP"), (2, u "HASHTABLE"), (2, u "WEAK_HASH_MAP"), (2, u "IDENTITY_HASH_MAP"), (2, u "LINKED_HASH_MAP"), (2, u "TREE_MAP"), (2, u "PROPERTIES"), (0, .fieldref 1 53), (0, .nameAndType 54 55), (0, u "$VALUES"), (0, u "[Lcom/example/varrowkeep/varrowkeep/ContainerKind;"), (0, .methodref 57 58), (0, .class_ 55), (0, .nameAndType 59 60), (0, u "clone"), (0, u "()Ljava/lang/Object;"), (1, .class_ 64), (1, u "java/lang/Enum"), (6, .fieldref 1 72), (0, .nameAndType 73 74), (0, u "code"), (0, u "I"), (2, u "type"), (0, u "Ljava/lang/Class;"), (2, u "create"), (0, u "Ljava/util/function/Supplier;"), (2, u "hashOrdered"), (0, u "Z"), (15, .methodref 1 103), (0, .nameAndType 104 105), (0, u "values"), (0, u "()[Lcom/example/varrowkeep/varrowkeep/ContainerKind;"), (109, u "forCode"), (0, u "(I)Lcom/example/varrowkeep/varrowkeep/ContainerKind;")] 53

def k6c0 : Code := { maxStack := 1, maxLocals := 0, code := prog_1_method_1_code, exceptionTable := #[], attributes := #[] }
def k6m0 : Method := { name := "values", desc := "()[Lcom/example/varrowkeep/varrowkeep/ContainerKind;", sig := { parameters := [], returnType := some (.array (.object "com/example/varrowkeep/varrowkeep/ContainerKind")) }, accessFlags := 9, code := some k6c0 }
def k6c1 : Code := { maxStack := 2, maxLocals := 5, code := prog_1_method_9_code, exceptionTable := #[], attributes := #[] }
def k6m1 : Method := { name := "forCode", desc := "(I)Lcom/example/varrowkeep/varrowkeep/ContainerKind;", sig := { parameters := [.int], returnType := some (.object "com/example/varrowkeep/varrowkeep/ContainerKind") }, accessFlags := 8, code := some k6c1 }
/-- com/example/varrowkeep/varrowkeep/ContainerKind -/
def k6 : Class := { plain "com/example/varrowkeep/varrowkeep/ContainerKind" (some 5) with
  accessFlags := 16432
  interfaces := #[]
  cf := some (fileOf pool6 1 #[] #[{ accessFlags := 9, nameIndex := 104, descriptorIndex := 105, attributes := #[] }, { accessFlags := 8, nameIndex := 215, descriptorIndex := 216, attributes := #[] }] 16432 62 #[] #[{ accessFlags := 16409, nameIndex := 5, descriptorIndex := 6, attributes := #[] }, { accessFlags := 16409, nameIndex := 9, descriptorIndex := 6, attributes := #[] }, { accessFlags := 16409, nameIndex := 12, descriptorIndex := 6, attributes := #[] }, { accessFlags := 16409, nameIndex := 15, descriptorIndex := 6, attributes := #[] }, { accessFlags := 16409, nameIndex := 18, descriptorIndex := 6, attributes := #[] }, { accessFlags := 16409, nameIndex := 21, descriptorIndex := 6, attributes := #[] }, { accessFlags := 16409, nameIndex := 24, descriptorIndex := 6, attributes := #[] }, { accessFlags := 16409, nameIndex := 27, descriptorIndex := 6, attributes := #[] }, { accessFlags := 16409, nameIndex := 30, descriptorIndex := 6, attributes := #[] }, { accessFlags := 16409, nameIndex := 33, descriptorIndex := 6, attributes := #[] }, { accessFlags := 16409, nameIndex := 36, descriptorIndex := 6, attributes := #[] }, { accessFlags := 16409, nameIndex := 39, descriptorIndex := 6, attributes := #[] }, { accessFlags := 16409, nameIndex := 42, descriptorIndex := 6, attributes := #[] }, { accessFlags := 16409, nameIndex := 45, descriptorIndex := 6, attributes := #[] }, { accessFlags := 16409, nameIndex := 48, descriptorIndex := 6, attributes := #[] }, { accessFlags := 16409, nameIndex := 51, descriptorIndex := 6, attributes := #[] }, { accessFlags := 16, nameIndex := 73, descriptorIndex := 74, attributes := #[] }, { accessFlags := 16, nameIndex := 77, descriptorIndex := 78, attributes := #[] }, { accessFlags := 18, nameIndex := 81, descriptorIndex := 82, attributes := #[] }, { accessFlags := 16, nameIndex := 85, descriptorIndex := 86, attributes := #[] }, { accessFlags := 4122, nameIndex := 54, descriptorIndex := 55, attributes := #[] }])
  fields := #[{ name := "ARRAY_LIST", type := (.object "com/example/varrowkeep/varrowkeep/ContainerKind"), accessFlags := 16409, slot := 0, constantValue := 0 }, { name := "VECTOR", type := (.object "com/example/varrowkeep/varrowkeep/ContainerKind"), accessFlags := 16409, slot := 1, constantValue := 0 }, { name := "STACK", type := (.object "com/example/varrowkeep/varrowkeep/ContainerKind"), accessFlags := 16409, slot := 2, constantValue := 0 }, { name := "LINKED_LIST", type := (.object "com/example/varrowkeep/varrowkeep/ContainerKind"), accessFlags := 16409, slot := 3, constantValue := 0 }, { name := "ARRAY_DEQUE", type := (.object "com/example/varrowkeep/varrowkeep/ContainerKind"), accessFlags := 16409, slot := 4, constantValue := 0 }, { name := "PRIORITY_QUEUE", type := (.object "com/example/varrowkeep/varrowkeep/ContainerKind"), accessFlags := 16409, slot := 5, constantValue := 0 }, { name := "HASH_SET", type := (.object "com/example/varrowkeep/varrowkeep/ContainerKind"), accessFlags := 16409, slot := 6, constantValue := 0 }, { name := "LINKED_HASH_SET", type := (.object "com/example/varrowkeep/varrowkeep/ContainerKind"), accessFlags := 16409, slot := 7, constantValue := 0 }, { name := "TREE_SET", type := (.object "com/example/varrowkeep/varrowkeep/ContainerKind"), accessFlags := 16409, slot := 8, constantValue := 0 }, { name := "HASH_MAP", type := (.object "com/example/varrowkeep/varrowkeep/ContainerKind"), accessFlags := 16409, slot := 9, constantValue := 0 }, { name := "HASHTABLE", type := (.object "com/example/varrowkeep/varrowkeep/ContainerKind"), accessFlags := 16409, slot := 10, constantValue := 0 }, { name := "WEAK_HASH_MAP", type := (.object "com/example/varrowkeep/varrowkeep/ContainerKind"), accessFlags := 16409, slot := 11, constantValue := 0 }, { name := "IDENTITY_HASH_MAP", type := (.object "com/example/varrowkeep/varrowkeep/ContainerKind"), accessFlags := 16409, slot := 12, constantValue := 0 }, { name := "LINKED_HASH_MAP", type := (.object "com/example/varrowkeep/varrowkeep/ContainerKind"), accessFlags := 16409, slot := 13, constantValue := 0 }, { name := "TREE_MAP", type := (.object "com/example/varrowkeep/varrowkeep/ContainerKind"), accessFlags := 16409, slot := 14, constantValue := 0 }, { name := "PROPERTIES", type := (.object "com/example/varrowkeep/varrowkeep/ContainerKind"), accessFlags := 16409, slot := 15, constantValue := 0 }, { name := "code", type := .int, accessFlags := 16, slot := 3, constantValue := 0 }, { name := "type", type := (.object "java/lang/Class"), accessFlags := 16, slot := 4, constantValue := 0 }, { name := "create", type := (.object "java/util/function/Supplier"), accessFlags := 18, slot := 5, constantValue := 0 }, { name := "hashOrdered", type := .boolean, accessFlags := 16, slot := 6, constantValue := 0 }, { name := "$VALUES", type := (.array (.object "com/example/varrowkeep/varrowkeep/ContainerKind")), accessFlags := 4122, slot := 16, constantValue := 0 }]
  methods := #[k6m0, k6m1]
  instanceTypes := #[(.object "java/lang/String"), .int, .int, .int, (.object "java/lang/Class"), (.object "java/util/function/Supplier"), .boolean]
  staticTypes := #[(.object "com/example/varrowkeep/varrowkeep/ContainerKind"), (.object "com/example/varrowkeep/varrowkeep/ContainerKind"), (.object "com/example/varrowkeep/varrowkeep/ContainerKind"), (.object "com/example/varrowkeep/varrowkeep/ContainerKind"), (.object "com/example/varrowkeep/varrowkeep/ContainerKind"), (.object "com/example/varrowkeep/varrowkeep/ContainerKind"), (.object "com/example/varrowkeep/varrowkeep/ContainerKind"), (.object "com/example/varrowkeep/varrowkeep/ContainerKind"), (.object "com/example/varrowkeep/varrowkeep/ContainerKind"), (.object "com/example/varrowkeep/varrowkeep/ContainerKind"), (.object "com/example/varrowkeep/varrowkeep/ContainerKind"), (.object "com/example/varrowkeep/varrowkeep/ContainerKind"), (.object "com/example/varrowkeep/varrowkeep/ContainerKind"), (.object "com/example/varrowkeep/varrowkeep/ContainerKind"), (.object "com/example/varrowkeep/varrowkeep/ContainerKind"), (.object "com/example/varrowkeep/varrowkeep/ContainerKind"), (.array (.object "com/example/varrowkeep/varrowkeep/ContainerKind"))]
  resolved := Array.replicate 270 none
  statics := some 0 }

def pool7 : Array CpInfo := pool [(1, .class_ 2), (0, u "java/lang/Cloneable"), (0, .class_ 4), (0, u "java/lang/Object")] 2

/-- java/lang/Cloneable -/
def k7 : Class := { plain "java/lang/Cloneable" (some 0) with
  accessFlags := 1537
  interfaces := #[]
  cf := some (fileOf pool7 1 #[] #[] 1537 3 #[] #[])
  fields := #[]
  methods := #[]
  instanceTypes := #[]
  staticTypes := #[]
  resolved := Array.replicate 7 none
  statics := none }

/-- the primitive byte -/
def k8 : Class := { plain "byte" none with kind := .primitive 'B', accessFlags := 0x411 }
/-- [B -/
def k9 : Class := { plain "[B" (some 0) with kind := .array 8 .byte, interfaces := #[7, 4], accessFlags := 1041 }

/-- the primitive int -/
def k10 : Class := { plain "int" none with kind := .primitive 'I', accessFlags := 0x411 }
/-- [I -/
def k11 : Class := { plain "[I" (some 0) with kind := .array 10 .int, interfaces := #[7, 4], accessFlags := 1041 }

/-- [Lcom/example/varrowkeep/varrowkeep/ContainerKind; -/
def k12 : Class := { plain "[Lcom/example/varrowkeep/varrowkeep/ContainerKind;" (some 0) with kind := .array 6 (.object "com/example/varrowkeep/varrowkeep/ContainerKind"), interfaces := #[7, 4], accessFlags := 1041 }

def heap : Heap := #[{ cls := 6, slots := #[.ref 2, .ref 3, .ref 4, .ref 5, .ref 6, .ref 7, .ref 8, .ref 9, .ref 10, .ref 11, .ref 12, .ref 13, .ref 14, .ref 15, .ref 16, .ref 17, .ref 1], vm := .statics 6 },
  { cls := 12, slots := #[.ref 2, .ref 3, .ref 4, .ref 5, .ref 6, .ref 7, .ref 8, .ref 9, .ref 10, .ref 11, .ref 12, .ref 13, .ref 14, .ref 15, .ref 16, .ref 17], vm := .none },
  { cls := 6, slots := #[.null, .int 0, .int 0, .int 1, .null, .null, .int 0], vm := .none },
  { cls := 6, slots := #[.null, .int 1, .int 0, .int 2, .null, .null, .int 0], vm := .none },
  { cls := 6, slots := #[.null, .int 2, .int 0, .int 3, .null, .null, .int 0], vm := .none },
  { cls := 6, slots := #[.null, .int 3, .int 0, .int 4, .null, .null, .int 0], vm := .none },
  { cls := 6, slots := #[.null, .int 4, .int 0, .int 5, .null, .null, .int 0], vm := .none },
  { cls := 6, slots := #[.null, .int 5, .int 0, .int 6, .null, .null, .int 0], vm := .none },
  { cls := 6, slots := #[.null, .int 6, .int 0, .int 7, .null, .null, .int 0], vm := .none },
  { cls := 6, slots := #[.null, .int 7, .int 0, .int 8, .null, .null, .int 0], vm := .none },
  { cls := 6, slots := #[.null, .int 8, .int 0, .int 9, .null, .null, .int 0], vm := .none },
  { cls := 6, slots := #[.null, .int 9, .int 0, .int 10, .null, .null, .int 0], vm := .none },
  { cls := 6, slots := #[.null, .int 10, .int 0, .int 11, .null, .null, .int 0], vm := .none },
  { cls := 6, slots := #[.null, .int 11, .int 0, .int 12, .null, .null, .int 0], vm := .none },
  { cls := 6, slots := #[.null, .int 12, .int 0, .int 13, .null, .null, .int 0], vm := .none },
  { cls := 6, slots := #[.null, .int 13, .int 0, .int 14, .null, .null, .int 0], vm := .none },
  { cls := 6, slots := #[.null, .int 14, .int 0, .int 15, .null, .null, .int 0], vm := .none },
  { cls := 6, slots := #[.null, .int 15, .int 0, .int 16, .null, .null, .int 0], vm := .none }]
def classes : Array Class := #[k0, k1, k2, k3, k4, k5, k6, k7, k8, k9, k10, k11, k12]
def interned : List (Array UInt16 × Addr) := []
def slotsUsed : Nat := 145
def theMethod : MethodId := ⟨1, 1⟩
def args0 : Array Value := #[.int 5, .int 300]
def aboutOver (below : List Frame) : State where
  vm := { classes := classes, interned := interned.toArray }
  heap := heap
  slotsUsed := slotsUsed
  threads := #[{ frames := .invoking theMethod args0 :: below }]
def below0 : List Frame := [.native { method := ⟨0, 0⟩, args := #[] }]
def about1 : State := aboutOver below0
def p0 : Program := .bare "" "" ""
def e0 : Env := launch0.env 0 0 0
theorem w_frames : about1.frames = Frame.invoking theMethod args0 :: below0 := rfl
set_option maxRecDepth 65536 in
theorem w_args : argsFit about1.vm theMethod args0 = true := by decide +kernel
set_option maxRecDepth 65536 in
theorem w_heap : heapFits about1 = true := by decide +kernel
set_option maxRecDepth 65536 in
theorem w_runnable : about1.curStatus? = some .runnable := by decide +kernel
set_option maxRecDepth 65536 in
theorem w_alone : about1.alone = true := by decide +kernel
set_option maxRecDepth 65536 in
theorem w_named : about1.methodNamed? x = some theMethod := by decide +kernel
set_option maxRecDepth 65536 in
theorem w_hears : about1.hears theMethod below0 = true := by decide +kernel
set_option maxRecDepth 65536 in
theorem w_ripe : about1.ripe theMethod args0 below0 = true := by decide +kernel
theorem w_running : about1.status = .running := rfl
set_option maxRecDepth 65536 in
theorem w_room : about1.hasRoom e0.platform room_1 = true :=
  launch0.hasRoom_least _ room_1 (by decide +kernel) (by decide +kernel) (by decide +kernel) (by decide +kernel) (by decide +kernel) (by decide +kernel)
theorem allAtoms_all (ts : List Jvm.Cond) (a : Array Jvm.Value) (st : Jvm.State) : (allAtoms ts).before a st = ts.all (fun c => c.before a st) := by
  induction ts with
  | nil => rfl
  | cons c t ih =>
    show (Jvm.Cond.and c (allAtoms t)).before a st = _
    rw [Jvm.Cond.before_and, ih, List.all_cons]
def words1 : List Jvm.Cond := Jvm.Cond.code x code maxLocals ret :: tables_1
/-- a 'code' word, met by the world's own term for the bytes: nothing is compared byte by byte -/
theorem code_word {y : MethodName} {bytes : ByteArray} {mx : Nat} {rt : Option FieldType} {a : Array Value} {s : State} {m : MethodId} {meth : Method} {c : Code} (h1 : s.methodNamed? y = some m) (h2 : s.vm.method? m = some meth) (h3 : meth.code = some c) (h4 : c.code = bytes)
    (h5 : (c.maxLocals == mx && c.exceptionTable.isEmpty && decide (c.maxStack ≤ mostOperands) && decide (meth.sig.returnType = rt) && !meth.locks && decide (parseMethodDescriptor y.desc = some meth.sig)) = true) : (Jvm.Cond.code y bytes mx rt).before a s = true := by
  simp only [Bool.and_eq_true, beq_iff_eq, Bool.not_eq_true', decide_eq_true_eq] at h5
  obtain ⟨⟨⟨⟨⟨g1, g2⟩, g3⟩, g4⟩, g5⟩, g6⟩ := h5
  simp [Cond.before, Cond.holds, Cond.value, h1, h2, h3, h4, g1, g2, g3, g4, g5, g6]
def isCode : Jvm.Cond → Bool
  | .code _ _ _ _ => true
  | _ => false
theorem all_split {L : List Jvm.Cond} {P : Jvm.Cond → Bool} (h1 : L.all (fun c => isCode c || P c) = true) (h2 : ∀ c ∈ L.filter isCode, P c = true) : L.all P = true := by
  refine List.all_eq_true.mpr fun c hc => ?_
  have h := List.all_eq_true.mp h1 c hc
  rcases Bool.eq_false_or_eq_true (isCode c) with hi | hi
  · exact h2 c (List.mem_filter.mpr ⟨hc, hi⟩)
  · simpa [hi] using h
set_option maxRecDepth 65536 in
theorem w_c0 : (Jvm.Cond.code x code maxLocals ret).before args0 about1 = true := code_word (m := ⟨1, 1⟩) (meth := k1m1) (c := k1c1) (by decide +kernel) rfl rfl rfl (by decide +kernel)
set_option maxRecDepth 65536 in
theorem w_c1 : (Jvm.Cond.code ({ cls := "com/example/varrowkeep/varrowkeep/ContainerKind", name := "forCode", desc := "(I)Lcom/example/varrowkeep/varrowkeep/ContainerKind;" } : Jvm.MethodName) prog_1_method_9_code (5 : Nat) (Option.some (Jvm.ClassFile.FieldType.object "com/example/varrowkeep/varrowkeep/ContainerKind"))).before args0 about1 = true := code_word (m := ⟨6, 1⟩) (meth := k6m1) (c := k6c1) (by decide +kernel) rfl rfl rfl (by decide +kernel)
set_option maxRecDepth 65536 in
theorem w_c2 : (Jvm.Cond.code ({ cls := "com/example/varrowkeep/varrowkeep/ContainerKind", name := "values", desc := "()[Lcom/example/varrowkeep/varrowkeep/ContainerKind;" } : Jvm.MethodName) prog_1_method_1_code (0 : Nat) (Option.some (Jvm.ClassFile.FieldType.array (Jvm.ClassFile.FieldType.object "com/example/varrowkeep/varrowkeep/ContainerKind")))).before args0 about1 = true := code_word (m := ⟨6, 0⟩) (meth := k6m0) (c := k6c0) (by decide +kernel) rfl rfl rfl (by decide +kernel)
set_option maxRecDepth 65536 in
theorem w_c3 : (Jvm.Cond.code ({ cls := "com/example/varrowkeep/varrowkeep/ContainerKindForCodePinLaw", name := "expected", desc := "([Lcom/example/varrowkeep/varrowkeep/ContainerKind;I)Lcom/example/varrowkeep/varrowkeep/ContainerKind;" } : Jvm.MethodName) method_3_code (2 : Nat) (Option.some (Jvm.ClassFile.FieldType.object "com/example/varrowkeep/varrowkeep/ContainerKind"))).before args0 about1 = true := code_word (m := ⟨1, 2⟩) (meth := k1m2) (c := k1c2) (by decide +kernel) rfl rfl rfl (by decide +kernel)
def codes1 : List Jvm.Cond := [Jvm.Cond.code x code maxLocals ret, Jvm.Cond.code ({ cls := "com/example/varrowkeep/varrowkeep/ContainerKind", name := "forCode", desc := "(I)Lcom/example/varrowkeep/varrowkeep/ContainerKind;" } : Jvm.MethodName) prog_1_method_9_code (5 : Nat) (Option.some (Jvm.ClassFile.FieldType.object "com/example/varrowkeep/varrowkeep/ContainerKind")), Jvm.Cond.code ({ cls := "com/example/varrowkeep/varrowkeep/ContainerKind", name := "values", desc := "()[Lcom/example/varrowkeep/varrowkeep/ContainerKind;" } : Jvm.MethodName) prog_1_method_1_code (0 : Nat) (Option.some (Jvm.ClassFile.FieldType.array (Jvm.ClassFile.FieldType.object "com/example/varrowkeep/varrowkeep/ContainerKind"))), Jvm.Cond.code ({ cls := "com/example/varrowkeep/varrowkeep/ContainerKindForCodePinLaw", name := "expected", desc := "([Lcom/example/varrowkeep/varrowkeep/ContainerKind;I)Lcom/example/varrowkeep/varrowkeep/ContainerKind;" } : Jvm.MethodName) method_3_code (2 : Nat) (Option.some (Jvm.ClassFile.FieldType.object "com/example/varrowkeep/varrowkeep/ContainerKind"))]
set_option maxRecDepth 65536 in
theorem codes_eq : words1.filter isCode = codes1 := rfl
theorem w_codes : ∀ c ∈ words1.filter isCode, c.before args0 about1 = true := by
  rw [codes_eq]
  intro c hc
  simp only [codes1, List.mem_cons, List.not_mem_nil, or_false] at hc
  rcases hc with rfl | rfl | rfl | rfl
  · exact w_c0
  · exact w_c1
  · exact w_c2
  · exact w_c3
set_option maxRecDepth 65536 in
theorem w_t1 : (words1.take 24).all (fun c => isCode c || c.before args0 about1) = true := by decide +kernel
set_option maxRecDepth 65536 in
theorem w_t2 : ((words1.drop 24).take 24).all (fun c => isCode c || c.before args0 about1) = true := by decide +kernel
set_option maxRecDepth 65536 in
theorem w_t3 : ((words1.drop 24).drop 24).all (fun c => isCode c || c.before args0 about1) = true := by decide +kernel
theorem w_tables : (allAtoms (Jvm.Cond.code x code maxLocals ret :: tables_1)).before args0 about1 = true := by
  rw [allAtoms_all]
  show words1.all (fun c => c.before args0 about1) = true
  refine all_split ?_ w_codes
  rw [← List.take_append_drop 24 words1, List.all_append, w_t1, ← List.take_append_drop 24 (words1.drop 24), List.all_append, w_t2, w_t3]
  rfl
set_option maxRecDepth 65536 in
theorem w_case : (Jvm.Cond.and given_1 narrow_1).before args0 about1 = true := by decide +kernel
theorem w_applies : (headSpec (Jvm.Cond.code x code maxLocals ret :: tables_1) room_1).applies x e0.platform about1 = true :=
  (Spec.applies_iff w_frames).mpr ⟨w_running, w_runnable, w_alone, w_named, w_hears, w_ripe, w_room, w_tables⟩
theorem atStart : AtStart classFile x code maxLocals ret World_1 tables_1 room_1 Calls_1 rest_1 Pre_1 launch0 p0 e0 about1 theMethod args0 below0 :=
  ⟨lists_1, trivial, launch0.admits_env _ _ _, launch0.least_env, fairChoices_fair.cas, fairChoices_fair.clock, w_frames, w_args, w_heap, w_applies, trivial, trivial, w_case⟩
end start1
theorem witness_1 : WitnessClaimed_1 := ⟨start1.p0, start1.e0, start1.about1, start1.theMethod, start1.args0, start1.below0, start1.atStart⟩
end Jvm.Pilot.@@N@@
