import JvmDerived
import JvmDerived.Pilot.@@N@@Statement
import JvmDerived.Pilot.@@N@@Code
set_option linter.unusedVariables false
set_option linter.unusedSimpArgs false
@@BLOCK:NumsL.lean.txt@@
namespace Jvm.RoadKit
open Sem ClassFile Op Lib Jvm.Stand Jvm.Free Jvm.LawKit
section New
variable {p : Program} {l : Launch} {e : Env} {R : Room} {s : State} {m : MethodId} {args : Array Value} {below : List Frame} {meth : Method} {c : Code} {T : State} {locs : List Loc} {cells slots : Nat}
theorem retI (X : Stand p l e R s m args below meth c T locs cells slots) (hx : p.tables.exec = Jvm.exec) {pc : Nat} {Ls : Array Slot} {z : Int32} {rest : List Value} (hret : meth.sig.returnType = some .int) (hd : decode c.code pc = .ok (.ireturn, 1)) {fs : List Frame}
    (hl : ∀ (f : JFrame) (acts : List Action), f.method = m → f.locked = none → f.entered = [] → (doReturn e (T.setTop f) acts (some (.int z))).1 = T.setFrames fs) : Steps p.tables e below (T.setTop (mkF m pc Ls (.int z :: rest))) (T.setFrames fs) := by
  have hm' : T.vm.method? m = some meth := X.method'
  have hn : narrow .int (.int z) = .int z := rfl
  show Steps p.tables e below (T.setTop { method := m, pc := pc, locals := Ls, stack := _ :: rest, locked := none }) _
  jvm_step X.here [X.here.top, hx, hd, hm', hret, hn]
  first | (intro acts; rw [hl _ acts rfl rfl rfl]) | rw [hl _ _ rfl rfl rfl]
  exact Steps.refl _
end New
end Jvm.RoadKit
namespace Jvm.Pilot.@@N@@
open Jvm Jvm.ClassFile Sem Op Lib Jvm.Free Jvm.Stand Jvm.LawKit Jvm.RoadKit Bundle Jvm.Pilot.@@N@@.Jvm.D
section OwnKit
variable {p : Program} {l : Launch} {e : Env} {R : Room} {s : State} {m : MethodId} {args : Array Value} {below : List Frame} {meth : Method} {c : Code} {T : State} {locs : List Loc} {cells slots : Nat} {Z : State} {a0 : Array Value} {h : Heap} {Q : Option Value → Heap → List Loc → Prop} {C N : Nat} {t t' : State} {P : Outcome → State → Prop}
/-- from the state t the run comes to a return that meets Q -/
def own_Goes (p : Program) (e : Env) (below : List Frame) (P : Outcome → State → Prop) (t : State) : Prop :=
  ∃ s₂ o, Steps p.tables e below t s₂ ∧ s₂.status = .running ∧ Ended s₂ below o ∧ P o s₂
def own_P (s : State) (Q : Option Value → Heap → List Loc → Prop) (C N : Nat) : Outcome → State → Prop := fun o s₂ => ∃ v L, o = .returned v ∧ Q v s₂.heap L ∧ FrameEnd s o s₂ L C N
theorem own_by (st : ∀ target, Steps p.tables e below t' target → Steps p.tables e below t target) (k : own_Goes p e below P t') : own_Goes p e below P t := by
  obtain ⟨s₂, o, h1, h2⟩ := k
  exact ⟨s₂, o, st _ h1, h2⟩
theorem own_tr (st : Steps p.tables e below t t') (k : own_Goes p e below P t') : own_Goes p e below P t := by
  obtain ⟨s₂, o, h1, h2⟩ := k
  exact ⟨s₂, o, st.trans h1, h2⟩
theorem own_retI (X : Stand p l e R s m args below meth c T locs cells slots) (hx : p.tables.exec = Jvm.exec) (hlk : meth.locks = false) {pc : Nat} {Ls : Array Slot} {z : Int32} {rest : List Value} (hret : meth.sig.returnType = some .int) (hd : decode c.code pc = .ok (.ireturn, 1)) (hC : cells ≤ C) (hN : slots ≤ N) (hq : Q (some (.int z)) T.heap locs) : own_Goes p e below (own_P s Q C N) (T.setTop (mkF m pc Ls (.int z :: rest))) := by
  obtain ⟨fs, hr, hrun, hended, hW, hsame⟩ := X.leave (v := some (.int z)) (fun h => by rw [hret] at h; cases h) hlk
  exact ⟨_, _, retI X hx hret hd hr, hrun, hended, _, _, rfl, hq, ⟨_, rfl⟩, hW, hsame.mono hC hN⟩
theorem own_retN (X : Stand p l e R s m args below meth c T locs cells slots) (hx : p.tables.exec = Jvm.exec) (hlk : meth.locks = false) {pc : Nat} {Ls : Array Slot} {z : Int32} {ty : FieldType} {rest : List Value} (hret : meth.sig.returnType = some ty) (ht : ty = .boolean ∨ ty = .byte ∨ ty = .char ∨ ty = .short) (hd : decode c.code pc = .ok (.ireturn, 1)) (hC : cells ≤ C) (hN : slots ≤ N) (hq : Q (some (.int (nar ty z))) T.heap locs) : own_Goes p e below (own_P s Q C N) (T.setTop (mkF m pc Ls (.int z :: rest))) := by
  obtain ⟨fs, hr, hrun, hended, hW, hsame⟩ := X.leave (v := some (.int (nar ty z))) (fun h => by rw [hret] at h; cases h) hlk
  exact ⟨_, _, retN X hx hret ht hd hr, hrun, hended, _, _, rfl, hq, ⟨_, rfl⟩, hW, hsame.mono hC hN⟩
theorem own_retR (X : Stand p l e R s m args below meth c T locs cells slots) (hx : p.tables.exec = Jvm.exec) (hlk : meth.locks = false) {pc : Nat} {Ls : Array Slot} {w : Value} {ty : FieldType} {rest : List Value} (hret : meth.sig.returnType = some ty) (ht : ty.isReference = true) (hw : w.isRef = true) (hn : narrow ty w = w) (hd : decode c.code pc = .ok (.areturn, 1)) (hC : cells ≤ C) (hN : slots ≤ N) (hq : Q (some w) T.heap locs) : own_Goes p e below (own_P s Q C N) (T.setTop (mkF m pc Ls (w :: rest))) := by
  obtain ⟨fs, hr, hrun, hended, hW, hsame⟩ := X.leave (v := some w) (fun h => by rw [hret] at h; cases h) hlk
  exact ⟨_, _, retOut X hx hret hn (Or.inr (Or.inr (Or.inr (Or.inr ⟨rfl, ht, hw⟩)))) hd hr, hrun, hended, _, _, rfl, hq, ⟨_, rfl⟩, hW, hsame.mono hC hN⟩
theorem own_retV (X : Stand p l e R s m args below meth c T locs cells slots) (hx : p.tables.exec = Jvm.exec) (hlk : meth.locks = false) {pc : Nat} {Ls : Array Slot} (hret : meth.sig.returnType = none) (hd : decode c.code pc = .ok (.return_, 1)) (hC : cells ≤ C) (hN : slots ≤ N) (hq : Q none T.heap locs) : own_Goes p e below (own_P s Q C N) (T.setTop (mkF m pc Ls [])) := by
  obtain ⟨fs, hr, hrun, hended, hW, hsame⟩ := X.leave (v := none) (fun _ => rfl) hlk
  exact ⟨_, _, X.returnOut hx hret hd hr, hrun, hended, _, _, rfl, hq, ⟨_, rfl⟩, hW, hsame.mono hC hN⟩
/-- the method y, called with as' on the heap h, returns so that Qc holds -/
def own_Does (l : Launch) (Z : State) (y : MethodName) (bytes : ByteArray) (maxL : Nat) (ret : Option FieldType) (ws : List Jvm.Cond) (rm : Room) (as' : Array Value) (h : Heap) (Qc : Option Value → Heap → List Loc → Prop) : Prop :=
  MetFree l y (head1 (Jvm.Cond.code y bytes maxL ret :: ws) rm) (fun a U => a = as' ∧ Z.Warmed39 U.vm ∧ U.heap = h) (fun _ _ _ _ _ => True) (fun _ U o U' => ∃ v L, o = .returned v ∧ Qc v U'.heap L ∧ FrameEnd U o U' L rm.cells rm.slots)
theorem own_body {y : MethodName} {bytes : ByteArray} {maxL : Nat} {ret : Option FieldType} {ws : List Jvm.Cond} {rm : Room} {as' : Array Value} (hpn : plainName y.cls = true)
    (body : ∀ (p : Program) (e : Env) (s : State) (m : MethodId) (below : List Frame) (meth : Method) (c : Code) (T : State), p.tables.exec = Jvm.exec → c.code = bytes → c.maxLocals = maxL → meth.sig.returnType = ret → meth.locks = false → meth.name = y.name → s.vm.findClass y.cls = some m.cls → Z.Warmed39 s.vm → Stand p l e rm s m as' below meth c T [] 0 0 → T.heap = h → own_Goes p e below (own_P s Q rm.cells rm.slots) (T.setTop (entryFrame m as' maxL))) :
    own_Does l Z y bytes maxL ret ws rm as' h Q := by
  refine MetFree.of_bodySF (plainFor_of_name hpn) hisR ?_
  intro p e s m args below meth c s₁ Bd hml0 hP hK
  obtain ⟨rfl, hZ, hh⟩ := hP
  exact body p e s m below meth c s₁ Bd.exec Bd.bytes hml0 Bd.returns Bd.notSynchronized (name_of_methodNamed Bd.named Bd.method).1 (findClass_of_methodNamed Bd.named) hZ (Stand.of_body Bd) (by rw [← hh, Bd.state]; rfl)
theorem own_bodyP {y : MethodName} {bytes : ByteArray} {maxL : Nat} {ret : Option FieldType} {ws : List Jvm.Cond} {rm : Room} {as' : Array Value} (hpn : plainFor y = true)
    (body : ∀ (p : Program) (e : Env) (s : State) (m : MethodId) (below : List Frame) (meth : Method) (c : Code) (T : State), p.tables.exec = Jvm.exec → c.code = bytes → c.maxLocals = maxL → meth.sig.returnType = ret → meth.locks = false → meth.name = y.name → s.vm.findClass y.cls = some m.cls → Z.Warmed39 s.vm → Stand p l e rm s m as' below meth c T [] 0 0 → T.heap = h → own_Goes p e below (own_P s Q rm.cells rm.slots) (T.setTop (entryFrame m as' maxL))) :
    own_Does l Z y bytes maxL ret ws rm as' h Q := by
  refine MetFree.of_bodySF hpn hisR ?_
  intro p e s m args below meth c s₁ Bd hml0 hP hK
  obtain ⟨rfl, hZ, hh⟩ := hP
  exact body p e s m below meth c s₁ Bd.exec Bd.bytes hml0 Bd.returns Bd.notSynchronized (name_of_methodNamed Bd.named Bd.method).1 (findClass_of_methodNamed Bd.named) hZ (Stand.of_body Bd) (by rw [← hh, Bd.state]; rfl)
/-- it returns w, and nothing has been written -/
def own_Is (w : Value) (h : Heap) : Option Value → Heap → List Loc → Prop := fun v h' L => v = some w ∧ L = [] ∧ h' = h
theorem own_callS (X : Stand p l e R s m args below meth c T locs cells slots) (hx : p.tables.exec = Jvm.exec) (hZ : Z.Warmed39 s.vm) {own : String} {index : Nat} {y : MethodName} {bytes : ByteArray} {maxL : Nat} {ret : Option FieldType} {rm : Room} {argsL rest : List Value} {Qc : Option Value → Heap → List Loc → Prop} {W : Nat}
    (hown : s.vm.findClass own = some m.cls) (w1 : (Cond.methodLink own index y).before a0 Z = true) (w2 : (Cond.static y).before a0 Z = true) (w3 : (Cond.initialized y.cls).before a0 Z = true) (w4 : (Cond.code y bytes maxL ret).before a0 Z = true)
    (hy : y.cls ≠ "java/lang/invoke/MethodHandle" ∧ y.cls ≠ "java/lang/invoke/VarHandle") (eT : T.heap = h) (D : own_Does l Z y bytes maxL ret [] rm argsL.toArray h Qc)
    (hf : rm.frames + 1 ≤ R.frames) (hl : W + (maxL + 11) + rm.locals ≤ R.locals) (hc : cells + rm.cells ≤ R.cells) (hn : slots + rm.slots ≤ R.slots)
    {pc : Nat} {Ls : Array Slot} {S : List Value} (hsize : Ls.size = c.maxLocals) (hlen : ∀ sig, parseMethodDescriptor y.desc = some sig → argsL.length = sig.parameters.length) (hstack : S = argsL.reverse ++ rest) (hW : 2 * 0 + (rest.map fun v => v.category).sum ≤ W) (hd : decode c.code pc = .ok (.invokestatic index, 3))
    (k : ∀ v T' L', Stand p l e R s m args below meth c T' (locs ++ L') (cells + rm.cells) (slots + rm.slots) → Qc v T'.heap L' → own_Goes p e below P (T'.setTop (mkF m (pc + 3) Ls (v.toList ++ rest)))) :
    own_Goes p e below P (T.setTop (mkF m pc Ls S)) := by
  obtain ⟨v, _, ⟨T', L', k', n'⟩, -, X', ⟨Lc, hQ, l', y', z'⟩, st⟩ := Jvm.LawKit.callS X hx hown (mvT hZ w1) (mvT hZ w2) (mvT hZ w3) (mvT hZ w4) hy (backOf (W := W) D hZ w4 w3 hf hl) (g := mkF m pc Ls S) rfl hsize (argsL := argsL) (rest := rest) hlen hstack hW hd (fun _ _ => ⟨rfl, eT, hc, hn⟩)
  dsimp only [Pt.U, Pt.locs, Pt.cells, Pt.slots] at X' l' y' z' st hQ
  subst l' y' z'
  exact own_by st (k v T' Lc X' hQ)
theorem own_callS0 (X : Stand p l e R s m args below meth c T locs cells slots) (hx : p.tables.exec = Jvm.exec) (hZ : Z.Warmed39 s.vm) {own : String} {index : Nat} {y : MethodName} {bytes : ByteArray} {maxL : Nat} {ret : Option FieldType} {fr lo : Nat} {argsL rest : List Value} {w : Value} {W : Nat}
    (hown : s.vm.findClass own = some m.cls) (w1 : (Cond.methodLink own index y).before a0 Z = true) (w2 : (Cond.static y).before a0 Z = true) (w3 : (Cond.initialized y.cls).before a0 Z = true) (w4 : (Cond.code y bytes maxL ret).before a0 Z = true)
    (hy : y.cls ≠ "java/lang/invoke/MethodHandle" ∧ y.cls ≠ "java/lang/invoke/VarHandle") (eT : T.heap = h) (D : own_Does l Z y bytes maxL ret [] { frames := fr, cells := 0, slots := 0, locals := lo } argsL.toArray h (own_Is w h))
    (hf : fr + 1 ≤ R.frames) (hl : W + (maxL + 11) + lo ≤ R.locals) (hc : cells ≤ R.cells) (hn : slots ≤ R.slots)
    {pc : Nat} {Ls : Array Slot} {S : List Value} (hsize : Ls.size = c.maxLocals) (hlen : ∀ sig, parseMethodDescriptor y.desc = some sig → argsL.length = sig.parameters.length) (hstack : S = argsL.reverse ++ rest) (hW : 2 * 0 + (rest.map fun v => v.category).sum ≤ W) (hd : decode c.code pc = .ok (.invokestatic index, 3))
    (k : ∀ T', Stand p l e R s m args below meth c T' locs cells slots → T'.heap = h → own_Goes p e below P (T'.setTop (mkF m (pc + 3) Ls (w :: rest)))) :
    own_Goes p e below P (T.setTop (mkF m pc Ls S)) := by
  refine own_callS X hx hZ hown w1 w2 w3 w4 hy eT D hf hl hc hn hsize hlen hstack hW hd fun v T' L' X' hQ => ?_
  obtain ⟨rfl, rfl, e'⟩ := hQ
  rw [List.append_nil] at X'
  exact k T' X' e'
theorem own_callV (X : Stand p l e R s m args below meth c T locs cells slots) (hx : p.tables.exec = Jvm.exec) (hZ : Z.Warmed39 s.vm) {own K : String} {index : Nat} {y : MethodName} {bytes : ByteArray} {maxL : Nat} {ret : Option FieldType} {rm : Room} {b : Addr} {argsL rest : List Value} {Qc : Option Value → Heap → List Loc → Prop} {W : Nat}
    (hown : s.vm.findClass own = some m.cls) (w1 : (Cond.methodLink own index y).before a0 Z = true) (w2 : (Cond.declares y).before a0 Z = true) (w3 : (Cond.selects K y y).before a0 Z = true) (w4 : (Cond.instanceMethod y).before a0 Z = true) (w5 : (Cond.code y bytes maxL ret).before a0 Z = true) (w6 : (Cond.initialized y.cls).before a0 Z = true)
    (hy : y.cls ≠ "java/lang/invoke/MethodHandle" ∧ y.cls ≠ "java/lang/invoke/VarHandle") (eT : T.heap = h) (E : Exa Z h b K) (D : own_Does l Z y bytes maxL ret [] rm (.ref b :: argsL).toArray h Qc)
    (hf : rm.frames + 1 ≤ R.frames) (hl : W + (maxL + 11) + rm.locals ≤ R.locals) (hc : cells + rm.cells ≤ R.cells) (hn : slots + rm.slots ≤ R.slots)
    {pc : Nat} {Ls : Array Slot} {S : List Value} (hsize : Ls.size = c.maxLocals) (hlen : ∀ sig, parseMethodDescriptor y.desc = some sig → argsL.length = sig.parameters.length) (hstack : S = argsL.reverse ++ .ref b :: rest) (hW : 2 * 0 + (rest.map fun v => v.category).sum ≤ W) (hd : decode c.code pc = .ok (.invokevirtual index, 3))
    (k : ∀ v T' L', Stand p l e R s m args below meth c T' (locs ++ L') (cells + rm.cells) (slots + rm.slots) → Qc v T'.heap L' → own_Goes p e below P (T'.setTop (mkF m (pc + 3) Ls (v.toList ++ rest)))) :
    own_Goes p e below P (T.setTop (mkF m pc Ls S)) := by
  obtain ⟨cq, kq, qa, -, qc⟩ := isOf (T := T) hZ eT E
  obtain ⟨v, _, ⟨T', L', k', n'⟩, -, X', ⟨Lc, hQ, l', y', z'⟩, st⟩ := X.virtualBack hx (y := y) (z := y) hown (mvT hZ w1) (mvT hZ w2) (notFace_of_selects (args := #[]) (mvT hZ w3)) (mvT hZ w3) (mvT hZ w4) hy (backOf (W := W) D hZ w5 w6 hf hl) qa qc (g := mkF m pc Ls S) rfl hsize (Steps.refl _) (argsL := argsL) (rest := rest) hlen hstack hW hd (fun _ _ => ⟨rfl, eT, hc, hn⟩)
  dsimp only [Pt.U, Pt.locs, Pt.cells, Pt.slots] at X' l' y' z' st hQ
  subst l' y' z'
  exact own_tr st (k v T' Lc X' hQ)
theorem own_callV0 (X : Stand p l e R s m args below meth c T locs cells slots) (hx : p.tables.exec = Jvm.exec) (hZ : Z.Warmed39 s.vm) {own K : String} {index : Nat} {y : MethodName} {bytes : ByteArray} {maxL : Nat} {ret : Option FieldType} {fr lo : Nat} {b : Addr} {argsL rest : List Value} {w : Value} {W : Nat}
    (hown : s.vm.findClass own = some m.cls) (w1 : (Cond.methodLink own index y).before a0 Z = true) (w2 : (Cond.declares y).before a0 Z = true) (w3 : (Cond.selects K y y).before a0 Z = true) (w4 : (Cond.instanceMethod y).before a0 Z = true) (w5 : (Cond.code y bytes maxL ret).before a0 Z = true) (w6 : (Cond.initialized y.cls).before a0 Z = true)
    (hy : y.cls ≠ "java/lang/invoke/MethodHandle" ∧ y.cls ≠ "java/lang/invoke/VarHandle") (eT : T.heap = h) (E : Exa Z h b K) (D : own_Does l Z y bytes maxL ret [] { frames := fr, cells := 0, slots := 0, locals := lo } (.ref b :: argsL).toArray h (own_Is w h))
    (hf : fr + 1 ≤ R.frames) (hl : W + (maxL + 11) + lo ≤ R.locals) (hc : cells ≤ R.cells) (hn : slots ≤ R.slots)
    {pc : Nat} {Ls : Array Slot} {S : List Value} (hsize : Ls.size = c.maxLocals) (hlen : ∀ sig, parseMethodDescriptor y.desc = some sig → argsL.length = sig.parameters.length) (hstack : S = argsL.reverse ++ .ref b :: rest) (hW : 2 * 0 + (rest.map fun v => v.category).sum ≤ W) (hd : decode c.code pc = .ok (.invokevirtual index, 3))
    (k : ∀ T', Stand p l e R s m args below meth c T' locs cells slots → T'.heap = h → own_Goes p e below P (T'.setTop (mkF m (pc + 3) Ls (w :: rest)))) :
    own_Goes p e below P (T.setTop (mkF m pc Ls S)) := by
  refine own_callV X hx hZ hown w1 w2 w3 w4 w5 w6 hy eT E D hf hl hc hn hsize hlen hstack hW hd fun v T' L' X' hQ => ?_
  obtain ⟨rfl, rfl, e'⟩ := hQ
  rw [List.append_nil] at X'
  exact k T' X' e'
theorem own_getS (X : Stand p l e R s m args below meth c T locs cells slots) (hx : p.tables.exec = Jvm.exec) (hZ : Z.Warmed39 s.vm) {own O n d : String} {index : Nat} (hown : s.vm.findClass own = some m.cls) (w : (Cond.fieldLink own index O n d).before a0 Z = true) (eT : T.heap = h) {v : Value} (F : Sta Z h O n d v)
    {pc : Nat} {Ls : Array Slot} {S : List Value} (hd : decode c.code pc = .ok (.getstatic index, 3))
    (k : ∀ T', Stand p l e R s m args below meth c T' locs cells slots → T'.heap = h → own_Goes p e below P (T'.setTop (mkF m (pc + 3) Ls (v :: S)))) :
    own_Goes p e below P (T.setTop (mkF m pc Ls S)) := by
  obtain ⟨T', X', e', st⟩ := getS X hx hZ (host := "") hown w Via.refl eT F (g := mkF m pc Ls S) rfl hd
  exact own_by st (k T' X' e')
theorem own_getF (X : Stand p l e R s m args below meth c T locs cells slots) (hx : p.tables.exec = Jvm.exec) (hZ : Z.Warmed39 s.vm) {own O n d : String} {index : Nat} (hown : s.vm.findClass own = some m.cls) (w : (Cond.fieldLink own index O n d).before a0 Z = true) (eT : T.heap = h) {a : Addr} {v : Value} (F : Fld Z h a O n d v)
    {pc : Nat} {Ls : Array Slot} {S : List Value} (hd : decode c.code pc = .ok (.getfield index, 3))
    (k : ∀ T', Stand p l e R s m args below meth c T' locs cells slots → T'.heap = h → own_Goes p e below P (T'.setTop (mkF m (pc + 3) Ls (v :: S)))) :
    own_Goes p e below P (T.setTop (mkF m pc Ls (.ref a :: S))) := by
  obtain ⟨T', X', e', st⟩ := getF X hx hZ (host := "") hown (Or.inl w) Via.refl eT F (g := mkF m pc Ls (.ref a :: S)) rfl rfl hd
  exact own_by st (k T' X' e')
/-! a callee or a road that may load a String constant -/
def own_PW (s : State) (Q : Option Value → Heap → List Loc → Prop) (C N : Nat) : Outcome → State → Prop := fun o s₂ => ∃ v L, o = .returned v ∧ Q v s₂.heap L ∧ ReturnedEndW s o s₂ L C N
theorem own_endW {vm0 : Vm} {k0 : Nat} (X : Stand p l e R (s.setVm vm0) m args below meth c T locs cells slots) (hS : s.Since vm0 k0) (hk : k0 ≤ T.heap.size) (hlk : meth.locks = false) (v : Option Value) (hv : meth.sig.returnType = none → v = none) (hC : cells ≤ C) (hN : slots ≤ N) (hq : Q v T.heap locs) :
    ∃ fs, (∀ (f : JFrame) (acts : List Action), f.method = m → f.locked = none → f.entered = [] → (doReturn e (T.setTop f) acts v).1 = T.setFrames fs) ∧ ∀ t0, Steps p.tables e below t0 (T.setFrames fs) → own_Goes p e below (own_PW s Q C N) t0 := by
  obtain ⟨fs, hr, hrun, hended, -, h1, h2, h3⟩ := X.leaveW hS hk hv hlk
  exact ⟨fs, hr, fun t0 st => ⟨_, _, st, hrun, hended, _, _, rfl, hq, ⟨_, rfl⟩, h1, h2, h3.mono hC hN⟩⟩
theorem own_retNW {vm0 : Vm} {k0 : Nat} (X : Stand p l e R (s.setVm vm0) m args below meth c T locs cells slots) (hS : s.Since vm0 k0) (hk : k0 ≤ T.heap.size) (hx : p.tables.exec = Jvm.exec) (hlk : meth.locks = false) {pc : Nat} {Ls : Array Slot} {z : Int32} {ty : FieldType} {rest : List Value} (hret : meth.sig.returnType = some ty) (ht : ty = .boolean ∨ ty = .byte ∨ ty = .char ∨ ty = .short) (hd : decode c.code pc = .ok (.ireturn, 1)) (hC : cells ≤ C) (hN : slots ≤ N) (hq : Q (some (.int (nar ty z))) T.heap locs) : own_Goes p e below (own_PW s Q C N) (T.setTop (mkF m pc Ls (.int z :: rest))) := by
  obtain ⟨fs, hr, k⟩ := own_endW X hS hk hlk (some (.int (nar ty z))) (fun h => by rw [hret] at h; cases h) hC hN hq
  exact k _ (retN X hx hret ht hd hr)
theorem own_retRW {vm0 : Vm} {k0 : Nat} (X : Stand p l e R (s.setVm vm0) m args below meth c T locs cells slots) (hS : s.Since vm0 k0) (hk : k0 ≤ T.heap.size) (hx : p.tables.exec = Jvm.exec) (hlk : meth.locks = false) {pc : Nat} {Ls : Array Slot} {w : Value} {ty : FieldType} {rest : List Value} (hret : meth.sig.returnType = some ty) (ht : ty.isReference = true) (hw : w.isRef = true) (hn : narrow ty w = w) (hd : decode c.code pc = .ok (.areturn, 1)) (hC : cells ≤ C) (hN : slots ≤ N) (hq : Q (some w) T.heap locs) : own_Goes p e below (own_PW s Q C N) (T.setTop (mkF m pc Ls (w :: rest))) := by
  obtain ⟨fs, hr, k⟩ := own_endW X hS hk hlk (some w) (fun h => by rw [hret] at h; cases h) hC hN hq
  exact k _ (retOut X hx hret hn (Or.inr (Or.inr (Or.inr (Or.inr ⟨rfl, ht, hw⟩)))) hd hr)
theorem own_retVW {vm0 : Vm} {k0 : Nat} (X : Stand p l e R (s.setVm vm0) m args below meth c T locs cells slots) (hS : s.Since vm0 k0) (hk : k0 ≤ T.heap.size) (hx : p.tables.exec = Jvm.exec) (hlk : meth.locks = false) {pc : Nat} {Ls : Array Slot} (hret : meth.sig.returnType = none) (hd : decode c.code pc = .ok (.return_, 1)) (hC : cells ≤ C) (hN : slots ≤ N) (hq : Q none T.heap locs) : own_Goes p e below (own_PW s Q C N) (T.setTop (mkF m pc Ls [])) := by
  obtain ⟨fs, hr, k⟩ := own_endW X hS hk hlk none (fun _ => rfl) hC hN hq
  exact k _ (X.returnOut hx hret hd hr)
def own_DoesW (l : Launch) (Z : State) (y : MethodName) (bytes : ByteArray) (maxL : Nat) (ret : Option FieldType) (ws : List Jvm.Cond) (rm : Room) (as' : Array Value) (h : Heap) (Qc : Option Value → Heap → List Loc → Prop) : Prop :=
  MetFree l y (head1 (Jvm.Cond.code y bytes maxL ret :: ws) rm) (fun a U => a = as' ∧ Z.Warmed39 U.vm ∧ U.heap = h) (fun _ _ _ _ _ => True) (fun _ U o U' => ∃ v L, o = .returned v ∧ Qc v U'.heap L ∧ ReturnedEndW U o U' L rm.cells rm.slots)
theorem own_bodyW {y : MethodName} {bytes : ByteArray} {maxL : Nat} {ret : Option FieldType} {ws : List Jvm.Cond} {rm : Room} {as' : Array Value} (hpn : plainName y.cls = true)
    (body : ∀ (p : Program) (e : Env) (s : State) (m : MethodId) (below : List Frame) (meth : Method) (c : Code) (T : State), p.tables.exec = Jvm.exec → c.code = bytes → c.maxLocals = maxL → meth.sig.returnType = ret → meth.locks = false → meth.name = y.name → (s.setVm s.vm).vm.findClass y.cls = some m.cls → Z.Warmed39 (s.setVm s.vm).vm → s.Since s.vm 0 → Stand p l e rm (s.setVm s.vm) m as' below meth c T [] 0 0 → T.heap = h → own_Goes p e below (own_PW s Q rm.cells rm.slots) (T.setTop (entryFrame m as' maxL))) :
    own_DoesW l Z y bytes maxL ret ws rm as' h Q := by
  refine MetFree.of_bodySF (plainFor_of_name hpn) hisR ?_
  intro p e s m args below meth c s₁ Bd hml0 hP hK
  obtain ⟨rfl, hZ, hh⟩ := hP
  exact body p e s m below meth c s₁ Bd.exec Bd.bytes hml0 Bd.returns Bd.notSynchronized (name_of_methodNamed Bd.named Bd.method).1 (findClass_of_methodNamed Bd.named) hZ ((State.WarmedH.refl s).since 0) (Stand.of_body Bd) (by rw [← hh, Bd.state]; rfl)
theorem own_ldcS {vm0 : Vm} {k0 : Nat} (X : Stand p l e R (s.setVm vm0) m args below meth c T locs cells slots) (hx : p.tables.exec = Jvm.exec) (hZ : Z.Warmed39 (s.setVm vm0).vm) {own text : String} {index : Nat} (hown : (s.setVm vm0).vm.findClass own = some m.cls) (w : (Cond.stringLink own index text).before a0 Z = true) (wS : ∀ a ∈ Bundle.stringAtoms, a.before a0 Z = true)
    (eT : T.heap = h) (hS : s.Since vm0 k0) (hk : k0 ≤ h.size) {pc : Nat} {Ls : Array Slot} {S : List Value} (hd : decode c.code pc = .ok (.ldc index, 2)) {n : Nat} (hn : 4 * text.toList.length ≤ n) (hbig : n ≤ 536870912) (hc : cells + 2 ≤ R.cells) (hl : slots + (n + 4) ≤ R.slots)
    (k : ∀ (a : Addr) (T' : State) (h' : Heap) (k1 : Nat), Stand p l e R (s.setVm T'.vm) m args below meth c T' locs (cells + 2) (slots + (n + 4)) → T'.heap = h' → Ext h h' → s.Since T'.vm k1 → k1 ≤ h'.size → Z.Warmed39 (s.setVm T'.vm).vm → (s.setVm T'.vm).vm.findClass own = some m.cls → own_Goes p e below P (T'.setTop (mkF m (pc + 2) Ls (.ref a :: S)))) :
    own_Goes p e below P (T.setTop (mkF m pc Ls S)) := by
  obtain ⟨a, T', h', k1, X', e', E', hS', hk', hZ', hown', st⟩ := ldcS X hx hZ hown w wS eT hS hk (g := mkF m pc Ls S) rfl hd hn hbig hc hl
  exact own_by st (k a T' h' k1 X' e' E' hS' hk' hZ' hown')
theorem own_callSS {vm0 : Vm} {k0 : Nat} (X : Stand p l e R (s.setVm vm0) m args below meth c T locs cells slots) (hx : p.tables.exec = Jvm.exec) (hZ : Z.Warmed39 (s.setVm vm0).vm) (hS : s.Since vm0 k0) (hk : k0 ≤ T.heap.size) {own : String} {index : Nat} {y : MethodName} {bytes : ByteArray} {maxL : Nat} {ret : Option FieldType} {rm : Room} {argsL rest : List Value} {Qc : Option Value → Heap → List Loc → Prop} {W : Nat}
    (hown : (s.setVm vm0).vm.findClass own = some m.cls) (w1 : (Cond.methodLink own index y).before a0 Z = true) (w2 : (Cond.static y).before a0 Z = true) (w3 : (Cond.initialized y.cls).before a0 Z = true) (w4 : (Cond.code y bytes maxL ret).before a0 Z = true)
    (hy : y.cls ≠ "java/lang/invoke/MethodHandle" ∧ y.cls ≠ "java/lang/invoke/VarHandle") (eT : T.heap = h) (D : own_DoesW l Z y bytes maxL ret [] rm argsL.toArray h Qc)
    (hf : rm.frames + 1 ≤ R.frames) (hl : W + (maxL + 11) + rm.locals ≤ R.locals) (hc : cells + rm.cells ≤ R.cells) (hn : slots + rm.slots ≤ R.slots)
    {pc : Nat} {Ls : Array Slot} {S : List Value} (hsize : Ls.size = c.maxLocals) (hlen : ∀ sig, parseMethodDescriptor y.desc = some sig → argsL.length = sig.parameters.length) (hstack : S = argsL.reverse ++ rest) (hW : 2 * 0 + (rest.map fun v => v.category).sum ≤ W) (hd : decode c.code pc = .ok (.invokestatic index, 3))
    (k : ∀ v T' L', Stand p l e R (s.setVm T'.vm) m args below meth c T' (locs ++ L') (cells + rm.cells) (slots + rm.slots) → s.Since T'.vm T'.heap.size → Z.Warmed39 (s.setVm T'.vm).vm → (s.setVm T'.vm).vm.findClass own = some m.cls → Qc v T'.heap L' → own_Goes p e below P (T'.setTop (mkF m (pc + 3) Ls (v.toList ++ rest)))) :
    own_Goes p e below P (T.setTop (mkF m pc Ls S)) := by
  obtain ⟨v, _, ⟨T', L', k', n'⟩, -, X', hS2, hg2, ⟨Lc, hQ, l', y', z'⟩, st⟩ := callSS X hx hown (mvT hZ w1) (mvT hZ w2) (mvT hZ w3) (mvT hZ w4) hy (backOfS (W := W) D hZ w4 w3 hf hl) (g := mkF m pc Ls S) rfl hsize (argsL := argsL) (rest := rest) hlen hstack hW hd (fun _ _ => ⟨rfl, eT, hc, hn⟩)
  dsimp only [Pt.U, Pt.locs, Pt.cells, Pt.slots] at X' l' y' z' st hQ hS2 hg2
  subst l' y' z'
  obtain ⟨X2, hS3, hZ3, hown3⟩ := rebS hS hk X' hS2 hg2 hZ hown
  exact own_tr st (k v T' Lc X2 hS3 hZ3 hown3 hQ)
theorem own_callIS {vm0 : Vm} {k0 : Nat} (X : Stand p l e R (s.setVm vm0) m args below meth c T locs cells slots) (hx : p.tables.exec = Jvm.exec) (hZ : Z.Warmed39 (s.setVm vm0).vm) (hS : s.Since vm0 k0) (hk : k0 ≤ T.heap.size) {own : String} {index : Nat} {y : MethodName} {bytes : ByteArray} {maxL : Nat} {rm : Room} {a : Addr} {argsL rest : List Value} {Qc : Option Value → Heap → List Loc → Prop} {W : Nat} (hy1 : y.name = "<init>")
    (hown : (s.setVm vm0).vm.findClass own = some m.cls) (w1 : (Cond.methodLink own index y).before a0 Z = true) (w2 : (Cond.instanceMethod y).before a0 Z = true) (w3 : (Cond.code y bytes maxL none).before a0 Z = true) (w4 : (Cond.initialized y.cls).before a0 Z = true)
    (hy : y.cls ≠ "java/lang/invoke/MethodHandle" ∧ y.cls ≠ "java/lang/invoke/VarHandle") (eT : T.heap = h) (D : own_DoesW l Z y bytes maxL none [] rm (.ref a :: argsL).toArray h Qc)
    (hf : rm.frames + 1 ≤ R.frames) (hl : W + (maxL + 11) + rm.locals ≤ R.locals) (hc : cells + rm.cells ≤ R.cells) (hn : slots + rm.slots ≤ R.slots)
    {pc : Nat} {Ls : Array Slot} {S : List Value} (hsize : Ls.size = c.maxLocals) (hlen : ∀ sig, parseMethodDescriptor y.desc = some sig → argsL.length = sig.parameters.length) (hstack : S = argsL.reverse ++ .ref a :: rest) (hW : 2 * 0 + (rest.map fun v => v.category).sum ≤ W) (hd : decode c.code pc = .ok (.invokespecial index, 3))
    (k : ∀ v T' L', Stand p l e R (s.setVm T'.vm) m args below meth c T' (locs ++ L') (cells + rm.cells) (slots + rm.slots) → s.Since T'.vm T'.heap.size → Z.Warmed39 (s.setVm T'.vm).vm → (s.setVm T'.vm).vm.findClass own = some m.cls → Qc v T'.heap L' → own_Goes p e below P (T'.setTop (mkF m (pc + 3) Ls (v.toList ++ rest)))) :
    own_Goes p e below P (T.setTop (mkF m pc Ls S)) := by
  obtain ⟨v, _, ⟨T', L', k', n'⟩, -, X', hS2, hg2, ⟨Lc, hQ, l', y', z'⟩, st⟩ := X.specialBackS hx (y := y) hy1 hown (mvT hZ w1) (mvT hZ w2) (mvT hZ w3) hy (backOfS (W := W) D hZ w3 w4 hf hl) (g := mkF m pc Ls S) rfl hsize (Steps.refl _) (a := a) (argsL := argsL) (rest := rest) hlen hstack hW hd (fun _ _ => ⟨rfl, eT, hc, hn⟩)
  dsimp only [Pt.U, Pt.locs, Pt.cells, Pt.slots] at X' l' y' z' st hQ hS2 hg2
  subst l' y' z'
  obtain ⟨X2, hS3, hZ3, hown3⟩ := rebS hS hk X' hS2 hg2 hZ hown
  exact own_tr st (k v T' Lc X2 hS3 hZ3 hown3 hQ)
theorem own_notIns {O N1 C1 K : String} {n : Nat} (w1 : (Cond.superclass C1 N1).before a0 Z = true) (w2 : (Cond.superclass N1 O).before a0 Z = true) (w3 : (Cond.noSuperclass O).before a0 Z = true) (wi : (Cond.instantiable K n).before a0 Z = true) (h1 : O ≠ K) (h2 : N1 ≠ K) (h3 : C1 ≠ K) : ∃ c t, Z.vm.findClass C1 = some c ∧ Z.vm.findClass K = some t ∧ Z.vm.assignable c t = false := by
  obtain ⟨t, kt, g1, g2, g3, g4, -⟩ := Cond.instantiable_spec wi
  have root : NS Z O K := by
    obtain ⟨c, k, q1, q2, q3, -, -⟩ := Cond.noSuperclass_spec w3
    have ne := ids_ne q1 g1 h1
    refine ⟨c, t, q1, g1, fun fuel => ?_⟩
    cases fuel with
    | zero => rfl
    | succ f => simp [Vm.isSubclassAux, ne, q2, q3]
  obtain ⟨c, t', q0, q1, n3⟩ := NS.step w1 (NS.step w2 root h2) h3
  cases g1.symm.trans q1
  obtain ⟨p, k, kp, r1, r2, r3, r4, r5, -, r7⟩ := Cond.superclass_spec q0 w1
  have ne := ids_ne q0 g1 h3
  have g5 : kt.isInterface = false := by
    cases hq : kt.isInterface
    · rfl
    · rw [hq] at g4; cases g4
  refine ⟨c, t, q0, g1, ?_⟩
  show Z.vm.assignableAux (255 + 1) c t = false
  simp [Vm.assignableAux, ne, r2, g2, r5, g3, g5, Vm.isSubclass, n3]
/-! from the case's words -/
theorem own_eqR {args : Array Value} {s : State} {a b : Term} {y : Addr} (h1 : (Cond.eq a b).value args s none s [] = some true) (h2 : b.eval args s none [] s = some (.ref y)) : a.eval args s none [] s = some (.ref y) := by
  simp only [Cond.value, h2] at h1
  cases ha : a.eval args s none [] s with
  | none => simp [ha] at h1
  | some x => cases x <;> simp [ha] at h1 ⊢ <;> exact h1
theorem own_eqI {args : Array Value} {s : State} {a : Term} {n : Int32} (h1 : (Cond.eq a (.int n)).value args s none s [] = some true) : a.eval args s none [] s = some (.int n) := by
  have h2 : (Term.int n).eval args s none [] s = some (.int n) := rfl
  simp only [Cond.value, h2] at h1
  cases ha : a.eval args s none [] s with
  | none => simp [ha] at h1
  | some x => cases x <;> simp [ha] at h1 ⊢ <;> exact h1
theorem own_fld {args : Array Value} {s : State} {t : Term} {a : Addr} {C n d : String} {v : Value} (ht : t.eval args s none [] s = some (.ref a)) (h : (Term.field t C n d).eval args s none [] s = some v) : Fld s s.heap a C n d v := Fld.start (by rw [← fld_at ht]; exact h)
/-- two objects whose field differs are two -/
theorem own_ne {a b : Addr} {C n d : String} {v w : Value} (F : Fld Z h a C n d v) (G : Fld Z h b C n d w) (hn : v ≠ w) : a ≠ b := fun q => by
  subst q
  obtain ⟨c1, f1, k1, i1, g1, h1, h2, -, -, -, -, h7⟩ := F
  obtain ⟨c2, f2, k2, i2, g2, e1, e2, -, -, -, -, e7⟩ := G
  cases h1.symm.trans e1
  cases h2.symm.trans e2
  exact hn (Option.some.inj (h7.symm.trans e7))
/-! arrays: the array at a has n components, the i-th is f i -/
def own_ArrF (Z : State) (h : Heap) (a : Addr) (ty : FieldType) (n : Nat) (f : Nat → Value) : Prop := ∃ cell, Arr Z h a cell ty ∧ cell.slots.size = n ∧ n < 2 ^ 31 ∧ ∀ i, i < n → cell.slots[i]? = some (f i)
theorem own_len {args : Array Value} {s : State} {t : Term} {a : Addr} {cell : Cell} {n : Int32} (h : (Term.length t).eval args s none [] s = some (.int n)) (ht : t.eval args s none [] s = some (.ref a)) (hc : s.arrayAt? a = some cell) : cell.slots.size < 2 ^ 31 ∧ cell.slots.size.toInt32 = n := by
  simp only [Term.eval, ht, hc, Option.bind_eq_bind, Option.bind_some] at h
  split at h
  · rename_i q
    exact ⟨q, by simpa using h⟩
  · cases h
theorem own_clamp {j : Int32} {i : Nat} (h : j.toInt = i) : j.toNatClampNeg = i := by
  show j.toInt.toNat = i
  omega
theorem own_in {j : Int32} {i n : Nat} (h : j.toInt = i) (hi : i < n) : ¬ (j < 0 ∨ n ≤ j.toNatClampNeg) := by
  rw [own_clamp h, Int32.lt_iff_toInt_lt]
  have q : (0 : Int32).toInt = 0 := rfl
  omega
theorem own_arrF {args : Array Value} {s : State} {t : Term} {a : Addr} {ty : FieldType} {f : Nat → Value} {n : Nat} {n32 : Int32} (ht : t.eval args s none [] s = some (.ref a)) (h1 : (Cond.arrayOf t ty).value args s none s [] = some true) (h2 : (Cond.eq (.length t) (.int n32)).value args s none s [] = some true) (hn : n32.toInt = n)
    (hel : ∀ cell, s.arrayAt? a = some cell → s.heap[a]? = some cell → cell.slots.size = n → ∀ i, i < n → cell.slots[i]? = some (f i)) : own_ArrF s s.heap a ty n f := by
  obtain ⟨cell, Ac⟩ := Arr.start ht h1
  have hat := Ac.fin (Vm.Alike.refl _)
  obtain ⟨q1, q2⟩ := own_len (own_eqI h2) ht hat
  have q3 : cell.slots.size = n := by
    have q4 := congrArg Int32.toInt q2
    rw [len_toInt q1, hn] at q4
    omega
  exact ⟨cell, Ac, q3, by omega, hel cell hat Ac.1 q3⟩
theorem own_el {args : Array Value} {s : State} {t : Term} {a : Addr} {cell : Cell} {j : Int32} {v : Value} {i : Nat} (ht : t.eval args s none [] s = some (.ref a)) (hc : s.heap[a]? = some cell) (h : (Term.elem t (.int j)).eval args s none [] s = some v) (hj : j.toInt = i) : cell.slots[i]? = some v := by
  have q := (elem_in h ht rfl hc).2
  rw [own_clamp hj] at q
  exact q
theorem own_ArrF.ext {h' : Heap} {a : Addr} {ty : FieldType} {n : Nat} {f : Nat → Value} (E : Ext h h') (F : own_ArrF Z h a ty n f) : own_ArrF Z h' a ty n f := by
  obtain ⟨cell, h1, h2⟩ := F
  exact ⟨cell, h1.ext E, h2⟩
theorem own_ArrF.keep {h' : Heap} {a : Addr} {ty : FieldType} {n : Nat} {f : Nat → Value} {b : Addr} {sl : Nat} {v : Value} (W : Wr h h' b sl v) (F : own_ArrF Z h a ty n f) (hne : a ≠ b) : own_ArrF Z h' a ty n f := by
  obtain ⟨cell, h1, h2⟩ := F
  exact ⟨cell, h1.other W hne, h2⟩
theorem own_ArrF.set {h' : Heap} {a : Addr} {ty : FieldType} {n : Nat} {f : Nat → Value} {j : Nat} {v : Value} (F : own_ArrF Z h a ty n f) (hj : j < n) (W : Wr h h' a j v) : own_ArrF Z h' a ty n (fun i => if i = j then v else f i) := by
  obtain ⟨cell, h1, h2, h3, h4⟩ := F
  refine ⟨cell.setSlot j v, h1.same W, by simp [Cell.setSlot, h2], h3, fun i hi => ?_⟩
  show _ = some (if i = j then v else f i)
  by_cases q : i = j
  · subst q
    rw [if_pos rfl]
    simp [Cell.setSlot, h2, hi]
  · rw [if_neg q, ← h4 i hi]
    exact Array.getElem?_setIfInBounds_ne (Ne.symm q)
theorem own_ArrF.mono {a : Addr} {ty : FieldType} {n : Nat} {f g : Nat → Value} (F : own_ArrF Z h a ty n f) (hg : ∀ i, i < n → f i = g i) : own_ArrF Z h a ty n g := by
  obtain ⟨cell, h1, h2, h3, h4⟩ := F
  exact ⟨cell, h1, h2, h3, fun i hi => by rw [h4 i hi, hg i hi]⟩
theorem own_alen (X : Stand p l e R s m args below meth c T locs cells slots) (hx : p.tables.exec = Jvm.exec) (hZ : Z.Warmed39 s.vm) (eT : T.heap = h) {a : Addr} {ty : FieldType} {n : Nat} {f : Nat → Value} (F : own_ArrF Z h a ty n f)
    {pc : Nat} {Ls : Array Slot} {S : List Value} (hd : decode c.code pc = .ok (.arraylength, 1)) (k : own_Goes p e below P (T.setTop (mkF m (pc + 1) Ls (.int n.toInt32 :: S)))) : own_Goes p e below P (T.setTop (mkF m pc Ls (.ref a :: S))) := by
  obtain ⟨cell, h1, h2, h3, h4⟩ := F
  subst h2
  exact own_by (fun _ q => X.arraylength hx (by rw [eT]; exact h1.1) (State.isArrayOf_alike hZ.alike h1.2.1) (g := mkF m pc Ls (.ref a :: S)) rfl rfl hd _ q) k
theorem own_aaload (X : Stand p l e R s m args below meth c T locs cells slots) (hx : p.tables.exec = Jvm.exec) (hZ : Z.Warmed39 s.vm) (eT : T.heap = h) {a : Addr} {ty : FieldType} {n : Nat} {f : Nat → Value} (F : own_ArrF Z h a ty n f) (hty : ty.isReference = true) {j : Int32} (i : Nat) (hj : j.toInt = i) (hi : i < n) {v : Value} (hv : f i = v)
    {pc : Nat} {Ls : Array Slot} {S : List Value} (hd : decode c.code pc = .ok (.aaload, 1)) (k : own_Goes p e below P (T.setTop (mkF m (pc + 1) Ls (v :: S)))) : own_Goes p e below P (T.setTop (mkF m pc Ls (.int j :: .ref a :: S))) := by
  obtain ⟨cell, h1, h2, h3, h4⟩ := F
  exact own_by (fun _ q => X.aaload hx (j := j) (v := v) (by rw [eT]; exact h1.1) (State.isArrayOf_alike hZ.alike h1.2.1) hty h1.2.2 (by rw [h2]; exact own_in hj hi) (by rw [own_clamp hj, h4 i hi, hv]) (g := mkF m pc Ls (.int j :: .ref a :: S)) rfl rfl hd _ q) k
theorem own_iaload (X : Stand p l e R s m args below meth c T locs cells slots) (hx : p.tables.exec = Jvm.exec) (hZ : Z.Warmed39 s.vm) (eT : T.heap = h) {a : Addr} {n : Nat} {f : Nat → Value} (F : own_ArrF Z h a .int n f) {j : Int32} (i : Nat) (hj : j.toInt = i) (hi : i < n) {v : Value} (hv : f i = v)
    {pc : Nat} {Ls : Array Slot} {S : List Value} (hd : decode c.code pc = .ok (.iaload, 1)) (k : own_Goes p e below P (T.setTop (mkF m (pc + 1) Ls (v :: S)))) : own_Goes p e below P (T.setTop (mkF m pc Ls (.int j :: .ref a :: S))) := by
  obtain ⟨cell, h1, h2, h3, h4⟩ := F
  exact own_by (fun _ q => X.iaload hx (j := j) (v := v) (by rw [eT]; exact h1.1) (State.isArrayOf_alike hZ.alike h1.2.1) h1.2.2 (by rw [h2]; exact own_in hj hi) (by rw [own_clamp hj, h4 i hi, hv]) (g := mkF m pc Ls (.int j :: .ref a :: S)) rfl rfl hd _ q) k
theorem own_baload (X : Stand p l e R s m args below meth c T locs cells slots) (hx : p.tables.exec = Jvm.exec) (hZ : Z.Warmed39 s.vm) (eT : T.heap = h) {a : Addr} {n : Nat} {f : Nat → Value} (F : own_ArrF Z h a .byte n f) {j : Int32} (i : Nat) (hj : j.toInt = i) (hi : i < n) {v : Value} (hv : f i = v)
    {pc : Nat} {Ls : Array Slot} {S : List Value} (hd : decode c.code pc = .ok (.baload, 1)) (k : own_Goes p e below P (T.setTop (mkF m (pc + 1) Ls (v :: S)))) : own_Goes p e below P (T.setTop (mkF m pc Ls (.int j :: .ref a :: S))) := by
  obtain ⟨cell, h1, h2, h3, h4⟩ := F
  exact own_by (fun _ q => X.baloadBytes hx (j := j) (v := v) (by rw [eT]; exact h1.1) (State.isArrayOf_alike hZ.alike h1.2.1) h1.2.2 (by rw [h2]; exact own_in hj hi) (by rw [own_clamp hj, h4 i hi, hv]) (g := mkF m pc Ls (.int j :: .ref a :: S)) rfl rfl hd _ q) k
theorem own_callVU0 (X : Stand p l e R s m args below meth c T locs cells slots) (hx : p.tables.exec = Jvm.exec) (hZ : Z.Warmed39 s.vm) {own K owner : String} {index : Nat} {y z : MethodName} {bytes : ByteArray} {maxL : Nat} {ret : Option FieldType} {fr lo : Nat} {b : Addr} {argsL rest : List Value} {w : Value} {W : Nat}
    (hown : s.vm.findClass own = some m.cls) (w1 : (Cond.methodLink own index y).before a0 Z = true) (w2 : (Cond.sameMethod y.cls owner y.name y.desc).before a0 Z = true) (w2' : (Cond.declares ⟨owner, y.name, y.desc⟩).before a0 Z = true) (w3 : (Cond.selects K y z).before a0 Z = true) (w4 : (Cond.instanceMethod z).before a0 Z = true) (w5 : (Cond.code z bytes maxL ret).before a0 Z = true) (w6 : (Cond.initialized z.cls).before a0 Z = true)
    (hy : owner ≠ "java/lang/invoke/MethodHandle" ∧ owner ≠ "java/lang/invoke/VarHandle") (eT : T.heap = h) (E : Exa Z h b K) (D : own_Does l Z z bytes maxL ret [] { frames := fr, cells := 0, slots := 0, locals := lo } (.ref b :: argsL).toArray h (own_Is w h))
    (hf : fr + 1 ≤ R.frames) (hl : W + (maxL + 11) + lo ≤ R.locals) (hc : cells ≤ R.cells) (hn : slots ≤ R.slots)
    {pc : Nat} {Ls : Array Slot} {S : List Value} (hsize : Ls.size = c.maxLocals) (hlen : ∀ sig, parseMethodDescriptor y.desc = some sig → argsL.length = sig.parameters.length) (hstack : S = argsL.reverse ++ .ref b :: rest) (hW : 2 * 0 + (rest.map fun v => v.category).sum ≤ W) (hd : decode c.code pc = .ok (.invokevirtual index, 3))
    (k : ∀ T', Stand p l e R s m args below meth c T' locs cells slots → T'.heap = h → own_Goes p e below P (T'.setTop (mkF m (pc + 3) Ls (w :: rest)))) :
    own_Goes p e below P (T.setTop (mkF m pc Ls S)) := by
  obtain ⟨cq, kq, qa, -, qc⟩ := isOf (T := T) hZ eT E
  obtain ⟨v, _, ⟨T', L', k', n'⟩, -, X', ⟨Lc, hQ, l', y', z'⟩, st⟩ := X.virtualBackUp hx (x := y) (y := z) hown (mvT hZ w1) (mvT hZ w2) (mvT hZ w2') hy (mvT hZ w3) (mvT hZ w4) (backOf (W := W) D hZ w5 w6 hf hl) qa qc (g := mkF m pc Ls S) rfl hsize (Steps.refl _) (argsL := argsL) (rest := rest) hlen hstack hW hd (fun _ _ => ⟨rfl, eT, hc, hn⟩)
  dsimp only [Pt.U, Pt.locs, Pt.cells, Pt.slots] at X' l' y' z' st hQ
  subst l' y' z'
  obtain ⟨rfl, rfl, e'⟩ := hQ
  rw [List.append_nil] at X'
  exact own_tr st (k T' X' e')
theorem own_getClass (X : Stand p l e R s m args below meth c T locs cells slots) (hx : p.tables.exec = Jvm.exec) (hZ : Z.Warmed39 s.vm) {own K : String} {index : Nat} {b mir : Addr} {cM : ClassId} {kM : Class} (hown : s.vm.findClass own = some m.cls) (w1 : (Cond.methodLink own index Jvm.Stand.gcN).before a0 Z = true) (w2 : (Cond.declares Jvm.Stand.gcN).before a0 Z = true) (w3 : (Cond.selects K Jvm.Stand.gcN Jvm.Stand.gcN).before a0 Z = true) (w4 : (Cond.instanceMethod Jvm.Stand.gcN).before a0 Z = true) (w5 : (Cond.native Jvm.Stand.gcN).before a0 Z = true)
    (eT : T.heap = h) (E : Exa Z h b K) (m1 : Z.vm.findClass K = some cM) (m2 : Z.vm.classes[cM]? = some kM) (m3 : kM.mirror = some mir)
    {pc : Nat} {Ls : Array Slot} {rest : List Value} (hsize : Ls.size = c.maxLocals) (hd : decode c.code pc = .ok (.invokevirtual index, 3)) (hf : 1 ≤ R.frames) (hl : 2 * 0 + (rest.map fun v => v.category).sum + (nativeFrameWords "java/lang/Object" "getClass" 1 + 11) ≤ R.locals)
    (k : ∀ T', Stand p l e R s m args below meth c T' locs cells slots → T'.heap = h → own_Goes p e below P (T'.setTop (mkF m (pc + 3) Ls (.ref mir :: rest)))) :
    own_Goes p e below P (T.setTop (mkF m pc Ls (.ref b :: rest))) := by
  obtain ⟨cq, kq, qa, qb, qc⟩ := isOf (T := T) hZ eT E
  have e1 : cq = cM := by
    rw [hZ.alike.findClass] at qa
    exact Option.some.inj (qa.symm.trans m1)
  subst e1
  obtain ⟨k', r1, r2⟩ := hZ.alike.2.2 _ _ m2
  cases qb.symm.trans r1
  obtain ⟨vm1, X', st⟩ := X.getClassOf hx hown (mvT hZ w1) (mvT hZ w2) (notFace_of_selects (args := #[]) (mvT hZ w3)) (mvT hZ w3) (mvT hZ w4) (mvT hZ w5) qa qc qb (by rw [r2]; exact m3) (g := mkF m pc Ls (.ref b :: rest)) rfl hsize rfl hd hf hl
  exact own_by st (k _ X' eT)
theorem own_callF0 (X : Stand p l e R s m args below meth c T locs cells slots) (hx : p.tables.exec = Jvm.exec) (hZ : Z.Warmed39 s.vm) {own K : String} {index count : Nat} {y z : MethodName} {bytes : ByteArray} {maxL : Nat} {ret : Option FieldType} {fr lo : Nat} {b : Addr} {argsL rest : List Value} {w : Value} {W : Nat}
    (hown : s.vm.findClass own = some m.cls) (w1 : (Cond.methodLink own index y).before a0 Z = true) (w2 : (Cond.declares y).before a0 Z = true) (w2' : (Cond.interfaceMethod y.cls y.cls y.name y.desc).before args s = true) (w3 : (Cond.selects K y z).before a0 Z = true) (w4 : (Cond.instanceMethod z).before a0 Z = true) (wp : (Cond.publicMethod z).before a0 Z = true) (wu : (Cond.unhidden K y.name y.desc).before a0 Z = true) (wc : (Cond.castable K y.cls).before a0 Z = true) (w5 : (Cond.code z bytes maxL ret).before a0 Z = true) (w6 : (Cond.initialized z.cls).before a0 Z = true)
    (hy : y.cls ≠ "java/lang/invoke/MethodHandle" ∧ y.cls ≠ "java/lang/invoke/VarHandle") (eT : T.heap = h) (E : Exa Z h b K) (D : own_Does l Z z bytes maxL ret [] { frames := fr, cells := 0, slots := 0, locals := lo } (.ref b :: argsL).toArray h (own_Is w h))
    (hf : fr + 1 ≤ R.frames) (hl : W + (maxL + 11) + lo ≤ R.locals) (hc : cells ≤ R.cells) (hn : slots ≤ R.slots)
    {pc : Nat} {Ls : Array Slot} {S : List Value} (hsize : Ls.size = c.maxLocals) (hlen : ∀ sig, parseMethodDescriptor y.desc = some sig → argsL.length = sig.parameters.length) (hstack : S = argsL.reverse ++ .ref b :: rest) (hW : 2 * 0 + (rest.map fun v => v.category).sum ≤ W) (hd : decode c.code pc = .ok (.invokeinterface index count, 5))
    (k : ∀ T', Stand p l e R s m args below meth c T' locs cells slots → T'.heap = h → own_Goes p e below P (T'.setTop (mkF m (pc + 5) Ls (w :: rest)))) :
    own_Goes p e below P (T.setTop (mkF m pc Ls S)) := by
  obtain ⟨cq, kq, qa, qb, qc⟩ := isOf (T := T) hZ eT E
  obtain ⟨v, _, ⟨T', L', k', n'⟩, -, X', ⟨Lc, hQ, l', y', z'⟩, st⟩ := X.interfaceBack hx (xi := y) (y := z) hown (mvT hZ w1) (mvT hZ w2) w2' (mvT hZ w3) (mvT hZ w4) (mvT hZ wp) (mvT hZ wu) (mvT hZ wc) hy (backOf (W := W) D hZ w5 w6 hf hl) qa qb qc (g := mkF m pc Ls S) rfl hsize (Steps.refl _) (argsL := argsL) (rest := rest) hlen hstack hW hd (fun _ _ => ⟨rfl, eT, hc, hn⟩)
  dsimp only [Pt.U, Pt.locs, Pt.cells, Pt.slots] at X' l' y' z' st hQ
  subst l' y' z'
  obtain ⟨rfl, rfl, e'⟩ := hQ
  rw [List.append_nil] at X'
  exact own_tr st (k T' X' e')
theorem own_cast (X : Stand p l e R s m args below meth c T locs cells slots) (hx : p.tables.exec = Jvm.exec) (hZ : Z.Warmed39 s.vm) {own K : String} {index : Nat} (hown : s.vm.findClass own = some m.cls) (w : (Cond.classLink own index K).before a0 Z = true) (eT : T.heap = h) {a : Addr} (F : Ins Z h a K true)
    {pc : Nat} {Ls : Array Slot} {S : List Value} (hd : decode c.code pc = .ok (.checkcast index, 3))
    (k : ∀ T', Stand p l e R s m args below meth c T' locs cells slots → T'.heap = h → own_Goes p e below P (T'.setTop (mkF m (pc + 3) Ls (.ref a :: S)))) :
    own_Goes p e below P (T.setTop (mkF m pc Ls (.ref a :: S))) := by
  obtain ⟨T', X', e', st⟩ := castY X hx hZ hown w eT F (g := mkF m pc Ls (.ref a :: S)) rfl rfl hd
  exact own_by st (k T' X' e')
def own_ArrC (Z : State) (h : Heap) (a : Addr) (ty : FieldType) (n : Nat) (f : Nat → Value) : Prop := ∃ cell, Arr Z h a cell ty ∧ FitC Z cell ∧ cell.slots.size = n ∧ n < 2 ^ 31 ∧ ∀ i, i < n → cell.slots[i]? = some (f i)
theorem own_ArrC.ext {h' : Heap} {a : Addr} {ty : FieldType} {n : Nat} {f : Nat → Value} (E : Ext h h') (F : own_ArrC Z h a ty n f) : own_ArrC Z h' a ty n f := by
  obtain ⟨cell, h1, h2⟩ := F
  exact ⟨cell, h1.ext E, h2⟩
theorem own_ArrF.fit {s : State} {a : Addr} {ty : FieldType} {n : Nat} {f : Nat → Value} (hf : Fit s) (F : own_ArrF s s.heap a ty n f) : own_ArrC s s.heap a ty n f := by
  obtain ⟨cell, h1, h2⟩ := F
  exact ⟨cell, h1, FitC.start hf h1, h2⟩
theorem own_clone (X : Stand p l e R s m args below meth c T locs cells slots) (hx : p.tables.exec = Jvm.exec) (hZ : Z.Warmed39 s.vm) {own ad : String} {index : Nat} {W : Nat} (hown : s.vm.findClass own = some m.cls)
    (w1 : (Cond.methodLink own index ⟨ad, "clone", "()Ljava/lang/Object;"⟩).before a0 Z = true) (w2 : (Cond.sameMethod ad "java/lang/Object" "clone" "()Ljava/lang/Object;").before a0 Z = true) (w3 : (Cond.native ⟨"java/lang/Object", "clone", "()Ljava/lang/Object;"⟩).before a0 Z = true)
    (w4 : (Cond.instanceMethod ⟨"java/lang/Object", "clone", "()Ljava/lang/Object;"⟩).before a0 Z = true) (w5 : (Cond.selects ad ⟨ad, "clone", "()Ljava/lang/Object;"⟩ ⟨"java/lang/Object", "clone", "()Ljava/lang/Object;"⟩).before a0 Z = true) (w6 : (Cond.castable ad "java/lang/Cloneable").before a0 Z = true)
    (eT : T.heap = h) {a : Addr} {ty : FieldType} {n : Nat} {f : Nat → Value} (A : own_ArrC Z h a ty n f) (E : Exa Z h a ad) {pc : Nat} {Ls : Array Slot} {rest : List Value} (hsize : Ls.size = c.maxLocals) (hd : decode c.code pc = .ok (.invokevirtual index, 3))
    (hf : 1 ≤ R.frames) (hW : 2 * 0 + (rest.map fun v => v.category).sum ≤ W) (hl : W + 14 ≤ R.locals) (hc : cells + 1 ≤ R.cells) (hsl : slots + n ≤ R.slots)
    (k : ∀ T' h', Stand p l e R s m args below meth c T' locs (cells + 1) (slots + n) → T'.heap = h' → Ext h h' → own_ArrF Z h' h.size ty n f → Exa Z h' h.size ad → own_Goes p e below P (T'.setTop (mkF m (pc + 3) Ls (.ref h.size :: rest)))) :
    own_Goes p e below P (T.setTop (mkF m pc Ls (.ref a :: rest))) := by
  obtain ⟨cell, h1, h2, h3, h4, h5⟩ := A
  obtain ⟨T', h', X', e', E', A', Ex', st⟩ := cloneA X hx hZ hown w1 w2 w3 w4 w5 w6 eT h1 E h2 (g := mkF m pc Ls (.ref a :: rest)) rfl hsize rfl hd hf (W := W) (cap := n) hW hl (by omega) hc hsl
  exact own_by st (k T' h' X' e' E' ⟨_, A', h3, h4, h5⟩ Ex')
/-! what is made and written -/
theorem own_Ext.refl (h : Heap) : Ext h h := ⟨Nat.le_refl _, fun _ _ q => q⟩
theorem own_Ext.trans {h h' h'' : Heap} (E : Ext h h') (E' : Ext h' h'') : Ext h h'' := ⟨Nat.le_trans E.1 E'.1, fun a c q => E'.2 a c (E.2 a c q)⟩
theorem own_Ext.keep {h h' h'' : Heap} {ws : List Addr} (E : Ext h h') (K : Keep h' h'' ws) (q : ∀ x ∈ ws, h.size ≤ x) : Ext h h'' :=
  ⟨Nat.le_trans E.1 K.1, fun a c r => K.2.1 a c (E.2 a c r) fun z => absurd (Array.getElem?_eq_some_iff.mp r).1 (Nat.not_lt.mpr (q a z))⟩
theorem own_Ext.wr {h h' h'' : Heap} {a : Addr} {sl : Nat} {v : Value} (E : Ext h h') (W : Wr h' h'' a sl v) (q : h.size ≤ a) : Ext h h'' := own_Ext.keep E (Keep.of_wr W) fun x hx => by cases List.mem_singleton.mp hx; exact q
theorem own_newO (X : Stand p l e R s m args below meth c T locs cells slots) (hx : p.tables.exec = Jvm.exec) (hZ : Z.Warmed39 s.vm) {own K : String} {index n : Nat} (hown : s.vm.findClass own = some m.cls) (w : (Cond.classLink own index K).before a0 Z = true) (wi : (Cond.instantiable K n).before a0 Z = true) (wz : (Cond.initialized K).before a0 Z = true) (eT : T.heap = h)
    {pc : Nat} {Ls : Array Slot} {S : List Value} (hd : decode c.code pc = .ok (.new index, 3)) (hc : cells + 1 ≤ R.cells) (hl : slots + n ≤ R.slots)
    (k : ∀ T' h', Stand p l e R s m args below meth c T' locs (cells + 1) (slots + n) → T'.heap = h' → Ext h h' → Exa Z h' h.size K → (∀ (O nm d : String) (ty : FieldType), Laid Z a0 K O nm d → parseFieldDescriptor d = some ty → Fld Z h' h.size O nm d (defaultValue ty)) → own_Goes p e below P (T'.setTop (mkF m (pc + 3) Ls (.ref h.size :: S)))) :
    own_Goes p e below P (T.setTop (mkF m pc Ls S)) := by
  obtain ⟨T', h', X', e', E', A', D', -, st⟩ := newO X hx hZ hown w wi wz eT (g := mkF m pc Ls S) rfl hd hc hl
  exact own_by st (k T' h' X' e' E' A' (fun O nm d ty q r => D' q r))
theorem own_callI (X : Stand p l e R s m args below meth c T locs cells slots) (hx : p.tables.exec = Jvm.exec) (hZ : Z.Warmed39 s.vm) {own : String} {index : Nat} {y : MethodName} {bytes : ByteArray} {maxL : Nat} {rm : Room} {a : Addr} {argsL rest : List Value} {Qc : Option Value → Heap → List Loc → Prop} {W : Nat} (hy1 : y.name = "<init>")
    (hown : s.vm.findClass own = some m.cls) (w1 : (Cond.methodLink own index y).before a0 Z = true) (w2 : (Cond.instanceMethod y).before a0 Z = true) (w3 : (Cond.code y bytes maxL none).before a0 Z = true) (w4 : (Cond.initialized y.cls).before a0 Z = true)
    (hy : y.cls ≠ "java/lang/invoke/MethodHandle" ∧ y.cls ≠ "java/lang/invoke/VarHandle") (eT : T.heap = h) (D : own_Does l Z y bytes maxL none [] rm (.ref a :: argsL).toArray h Qc)
    (hf : rm.frames + 1 ≤ R.frames) (hl : W + (maxL + 11) + rm.locals ≤ R.locals) (hc : cells + rm.cells ≤ R.cells) (hn : slots + rm.slots ≤ R.slots)
    {pc : Nat} {Ls : Array Slot} {S : List Value} (hsize : Ls.size = c.maxLocals) (hlen : ∀ sig, parseMethodDescriptor y.desc = some sig → argsL.length = sig.parameters.length) (hstack : S = argsL.reverse ++ .ref a :: rest) (hW : 2 * 0 + (rest.map fun v => v.category).sum ≤ W) (hd : decode c.code pc = .ok (.invokespecial index, 3))
    (k : ∀ v T' L', Stand p l e R s m args below meth c T' (locs ++ L') (cells + rm.cells) (slots + rm.slots) → Qc v T'.heap L' → own_Goes p e below P (T'.setTop (mkF m (pc + 3) Ls (v.toList ++ rest)))) :
    own_Goes p e below P (T.setTop (mkF m pc Ls S)) := by
  obtain ⟨v, _, ⟨T', L', k', n'⟩, -, X', ⟨Lc, hQ, l', y', z'⟩, st⟩ := X.specialBack hx (y := y) hy1 hown (mvT hZ w1) (mvT hZ w2) (mvT hZ w3) hy (backOf (W := W) D hZ w3 w4 hf hl) (g := mkF m pc Ls S) rfl hsize (Steps.refl _) (a := a) (argsL := argsL) (rest := rest) hlen hstack hW hd (fun _ _ => ⟨rfl, eT, hc, hn⟩)
  dsimp only [Pt.U, Pt.locs, Pt.cells, Pt.slots] at X' l' y' z' st hQ
  subst l' y' z'
  exact own_tr st (k v T' Lc X' hQ)
theorem own_initO (X : Stand p l e R s m args below meth c T locs cells slots) (hx : p.tables.exec = Jvm.exec) (hZ : Z.Warmed39 s.vm) {own : String} {idx : Nat} {a : Addr} {rest : List Value} {W : Nat} (hown : s.vm.findClass own = some m.cls) (w1 : (Cond.methodLink own idx Lib.objectInit).before a0 Z = true) (w2 : (Cond.instanceMethod Lib.objectInit).before a0 Z = true)
    (w3 : (Cond.code Lib.objectInit ⟨#[0xb1]⟩ 1 none).before a0 Z = true) (eT : T.heap = h) {pc : Nat} {Ls : Array Slot} (hsize : Ls.size = c.maxLocals) (hd : decode c.code pc = .ok (.invokespecial idx, 3)) (hf : 1 ≤ R.frames) (hW : 2 * 0 + (rest.map fun v => v.category).sum ≤ W) (hl : W + 12 ≤ R.locals)
    (k : ∀ T', Stand p l e R s m args below meth c T' locs cells slots → T'.heap = h → own_Goes p e below P (T'.setTop (mkF m (pc + 3) Ls rest))) :
    own_Goes p e below P (T.setTop (mkF m pc Ls (.ref a :: rest))) := by
  obtain ⟨T', X', e', st⟩ := initO X hx hZ hown w1 w2 w3 eT (g := mkF m pc Ls (.ref a :: rest)) rfl hsize rfl hd hf (W := W) hW hl
  exact own_by st (k T' X' e')
theorem own_putF (X : Stand p l e R s m args below meth c T locs cells slots) (hx : p.tables.exec = Jvm.exec) (hZ : Z.Warmed39 s.vm) {own O n d K : String} {index kk : Nat} {ty : FieldType} (hown : s.vm.findClass own = some m.cls) (w : (Cond.fieldLink own index O n d).before a0 Z = true)
    (eT : T.heap = h) {a : Addr} {v old : Value} (F : Fld Z h a O n d old) (E : Exa Z h a K) (L : (Cond.lays K O n d).before a0 Z = true ∨ ((Cond.laysFinal K O n d).before a0 Z = true ∧ own = O ∧ meth.name = "<init>")) (wi : (Cond.instantiable K kk).before a0 Z = true)
    (hty : parseFieldDescriptor d = some ty) (hn : narrow ty v = v) (hf : fits ty v = true) {pc : Nat} {Ls : Array Slot} {rest : List Value} (hd : decode c.code pc = .ok (.putfield index, 3))
    (k : ∀ T' h', Stand p l e R s m args below meth c T' (locs ++ [⟨a, Jvm.RoadKit.slotOf Z O n d⟩]) cells slots → T'.heap = h' → Wr h h' a (Jvm.RoadKit.slotOf Z O n d) v → own_Goes p e below P (T'.setTop (mkF m (pc + 3) Ls rest))) :
    own_Goes p e below P (T.setTop (mkF m pc Ls (v :: .ref a :: rest))) := by
  obtain ⟨T', h', X', e', W', st⟩ := putF X hx hZ hown (host := "") (Or.inl w) Via.refl eT F E L wi hty hn hf (g := mkF m pc Ls (v :: .ref a :: rest)) rfl rfl hd
  exact own_by st (k T' h' X' e' W')
theorem own_arr_new {a : Addr} {cA : ClassId} {ty : FieldType} {n : Int32} {i : Nat} (A : Arr Z h a (newA cA ty n) ty) (hn : n.toInt = i) : own_ArrF Z h a ty i (fun _ => defaultValue ty) := by
  have q : n.toNatClampNeg = i := own_clamp hn
  refine ⟨_, A, by rw [sz_new, q], ?_, fun j hj => ?_⟩
  · have := Int32.toInt_lt n; omega
  · simp [newA, q, hj]
theorem own_newR (X : Stand p l e R s m args below meth c T locs cells slots) (hx : p.tables.exec = Jvm.exec) (hZ : Z.Warmed39 s.vm) {own K : String} {index : Nat} (hown : s.vm.findClass own = some m.cls) (w1 : (Cond.classLink own index K).before a0 Z = true) (w2 : (Cond.arrayOver (.object K)).before a0 Z = true) (eT : T.heap = h)
    {pc : Nat} {Ls : Array Slot} {S : List Value} (hd : decode c.code pc = .ok (.anewarray index, 3)) {n : Int32} (i : Nat) (hi : n.toInt = i) (hb : i * 8 ≤ 536870912) (hc : cells + 1 ≤ R.cells) (hl : slots + i ≤ R.slots)
    (k : ∀ T' h' cA, Stand p l e R s m args below meth c T' locs (cells + 1) (slots + i) → T'.heap = h' → Ext h h' → Arr Z h' h.size (newA cA (.object K) n) (.object K) → Ovr Z cA K → own_Goes p e below P (T'.setTop (mkF m (pc + 3) Ls (.ref h.size :: S)))) :
    own_Goes p e below P (T.setTop (mkF m pc Ls (.int n :: S))) := by
  have q : n.toNatClampNeg = i := own_clamp hi
  have q2 : ¬ n < 0 := by rw [Int32.lt_iff_toInt_lt, hi]; have : (0 : Int32).toInt = 0 := rfl; omega
  obtain ⟨T', h', cA, X', e', E', A', O', st⟩ := newR X hx hZ hown w1 w2 eT (g := mkF m pc Ls (.int n :: S)) rfl hd rfl q2 (cap := i) (by omega) hb hc hl
  exact own_by st (k T' h' cA X' e' E' A' O')
theorem own_newP (X : Stand p l e R s m args below meth c T locs cells slots) (hx : p.tables.exec = Jvm.exec) (hZ : Z.Warmed39 s.vm) {aty : ArrayType} (w : (Cond.arrayClass (newarray.typeOf aty)).before a0 Z = true) (eT : T.heap = h)
    {pc : Nat} {Ls : Array Slot} {S : List Value} (hd : decode c.code pc = .ok (.newarray aty, 2)) {n : Int32} (i : Nat) (hi : n.toInt = i) (hb : i * 8 ≤ 536870912) (hc : cells + 1 ≤ R.cells) (hl : slots + i ≤ R.slots)
    (k : ∀ T' h', Stand p l e R s m args below meth c T' locs (cells + 1) (slots + i) → T'.heap = h' → Ext h h' → own_ArrF Z h' h.size (newarray.typeOf aty) i (fun _ => defaultValue (newarray.typeOf aty)) → own_Goes p e below P (T'.setTop (mkF m (pc + 2) Ls (.ref h.size :: S)))) :
    own_Goes p e below P (T.setTop (mkF m pc Ls (.int n :: S))) := by
  have q : n.toNatClampNeg = i := own_clamp hi
  have q2 : ¬ n < 0 := by rw [Int32.lt_iff_toInt_lt, hi]; have : (0 : Int32).toInt = 0 := rfl; omega
  obtain ⟨T', h', cA, X', e', E', A', st⟩ := newP X hx hZ w eT (g := mkF m pc Ls (.int n :: S)) rfl hd rfl q2 (cap := i) (by omega) hb hc hl
  exact own_by st (k T' h' X' e' E' (own_arr_new A' hi))
theorem own_stI (X : Stand p l e R s m args below meth c T locs cells slots) (hx : p.tables.exec = Jvm.exec) (hZ : Z.Warmed39 s.vm) (eT : T.heap = h) {a : Addr} {n : Nat} {f : Nat → Value} (F : own_ArrF Z h a .int n f) {j x : Int32} (i : Nat) (hj : j.toInt = i) (hi : i < n)
    {pc : Nat} {Ls : Array Slot} {S : List Value} (hd : decode c.code pc = .ok (.iastore, 1))
    (k : ∀ T' h', Stand p l e R s m args below meth c T' (locs ++ [⟨a, i⟩]) cells slots → T'.heap = h' → Wr h h' a i (.int x) → own_ArrF Z h' a .int n (fun q => if q = i then .int x else f q) → own_Goes p e below P (T'.setTop (mkF m (pc + 1) Ls S))) :
    own_Goes p e below P (T.setTop (mkF m pc Ls (.int x :: .int j :: .ref a :: S))) := by
  have F' := F
  obtain ⟨cell, h1, h2, h3, h4⟩ := F'
  have q := own_clamp hj
  obtain ⟨T', h', X', e', W', st⟩ := stI X hx hZ eT h1 (j := j) (x := x) (by rw [h2]; exact own_in hj hi) (g := mkF m pc Ls (.int x :: .int j :: .ref a :: S)) rfl rfl hd
  rw [q] at X' W'
  exact own_by st (k T' h' X' e' W' (F.set hi W'))
theorem own_stR (X : Stand p l e R s m args below meth c T locs cells slots) (hx : p.tables.exec = Jvm.exec) (hZ : Z.Warmed39 s.vm) (eT : T.heap = h) {a : Addr} {ty : FieldType} {n : Nat} {f : Nat → Value} (F : own_ArrF Z h a ty n f) (hty : ty.isReference = true) {v : Value} (hs : Sto Z h a v) {j : Int32} (i : Nat) (hj : j.toInt = i) (hi : i < n)
    {pc : Nat} {Ls : Array Slot} {S : List Value} (hd : decode c.code pc = .ok (.aastore, 1))
    (k : ∀ T' h', Stand p l e R s m args below meth c T' (locs ++ [⟨a, i⟩]) cells slots → T'.heap = h' → Wr h h' a i v → own_ArrF Z h' a ty n (fun q => if q = i then v else f q) → own_Goes p e below P (T'.setTop (mkF m (pc + 1) Ls S))) :
    own_Goes p e below P (T.setTop (mkF m pc Ls (v :: .int j :: .ref a :: S))) := by
  have F' := F
  obtain ⟨cell, h1, h2, h3, h4⟩ := F'
  have q := own_clamp hj
  obtain ⟨T', h', X', e', W', st⟩ := stR X hx hZ eT h1 (j := j) (v := v) (by rw [h2]; exact own_in hj hi) hty hs (g := mkF m pc Ls (v :: .int j :: .ref a :: S)) rfl rfl hd
  rw [q] at X' W'
  exact own_by st (k T' h' X' e' W' (F.set hi W'))
theorem own_Fr.snoc {k : Nat} {L : List Loc} {a : Addr} {i : Nat} (N : Fr k L) (q : k ≤ a) : Fr k (L ++ [⟨a, i⟩]) := N.app fun y hy => by cases List.mem_singleton.mp hy; exact q
/-- the first k components are filled -/
def own_pre (g : Nat → Value) (d : Value) (k : Nat) : Nat → Value := fun q => if q < k then g q else d
theorem own_pre_step (g : Nat → Value) (d : Value) (k : Nat) (q : Nat) : (if q = k then g k else own_pre g d k q) = own_pre g d (k + 1) q := by
  unfold own_pre
  by_cases h1 : q = k
  · subst h1; rw [if_pos rfl, if_pos (Nat.lt_succ_self _)]
  · rw [if_neg h1]
    by_cases h2 : q < k
    · rw [if_pos h2, if_pos (by omega)]
    · rw [if_neg h2, if_neg (by omega)]
theorem own_pre_all {g : Nat → Value} {d : Value} {n i : Nat} (hi : i < n) : own_pre g d n i = g i := if_pos hi
def own_ArrR (Z : State) (h : Heap) (a : Addr) (K : String) (n : Nat) (f : Nat → Value) : Prop := ∃ cell, Arr Z h a cell (.object K) ∧ Ovr Z cell.cls K ∧ cell.slots.size = n ∧ n < 2 ^ 31 ∧ ∀ i, i < n → cell.slots[i]? = some (f i)
theorem own_ArrR.toF {a : Addr} {K : String} {n : Nat} {f : Nat → Value} (F : own_ArrR Z h a K n f) : own_ArrF Z h a (.object K) n f := by
  obtain ⟨cell, h1, -, h2⟩ := F
  exact ⟨cell, h1, h2⟩
theorem own_ArrR.ext {h' : Heap} {a : Addr} {K : String} {n : Nat} {f : Nat → Value} (E : Ext h h') (F : own_ArrR Z h a K n f) : own_ArrR Z h' a K n f := by
  obtain ⟨cell, h1, h2⟩ := F
  exact ⟨cell, h1.ext E, h2⟩
theorem own_ArrR.keep {h' : Heap} {a : Addr} {K : String} {n : Nat} {f : Nat → Value} {b : Addr} {sl : Nat} {v : Value} (W : Wr h h' b sl v) (F : own_ArrR Z h a K n f) (hne : a ≠ b) : own_ArrR Z h' a K n f := by
  obtain ⟨cell, h1, h2⟩ := F
  exact ⟨cell, h1.other W hne, h2⟩
theorem own_ArrF.lt {a : Addr} {ty : FieldType} {n : Nat} {f : Nat → Value} (F : own_ArrF Z h a ty n f) : a < h.size := by
  obtain ⟨cell, h1, -⟩ := F
  exact h1.lt
theorem own_ArrR.lt {a : Addr} {K : String} {n : Nat} {f : Nat → Value} (F : own_ArrR Z h a K n f) : a < h.size := F.toF.lt
theorem own_newRp (g : Nat → Value) (X : Stand p l e R s m args below meth c T locs cells slots) (hx : p.tables.exec = Jvm.exec) (hZ : Z.Warmed39 s.vm) {own K : String} {index : Nat} (hown : s.vm.findClass own = some m.cls) (w1 : (Cond.classLink own index K).before a0 Z = true) (w2 : (Cond.arrayOver (.object K)).before a0 Z = true) (eT : T.heap = h)
    {pc : Nat} {Ls : Array Slot} {S : List Value} (hd : decode c.code pc = .ok (.anewarray index, 3)) {n : Int32} (i : Nat) (hi : n.toInt = i) (hb : i * 8 ≤ 536870912) (hc : cells + 1 ≤ R.cells) (hl : slots + i ≤ R.slots)
    (k : ∀ T' h', Stand p l e R s m args below meth c T' locs (cells + 1) (slots + i) → T'.heap = h' → Ext h h' → own_ArrR Z h' h.size K i (own_pre g .null 0) → own_Goes p e below P (T'.setTop (mkF m (pc + 3) Ls (.ref h.size :: S)))) :
    own_Goes p e below P (T.setTop (mkF m pc Ls (.int n :: S))) := by
  refine own_newR X hx hZ hown w1 w2 eT hd i hi hb hc hl fun T' h' cA X' e' E' A' O' => k T' h' X' e' E' ?_
  have q : n.toNatClampNeg = i := own_clamp hi
  refine ⟨_, A', O', by rw [sz_new, q], ?_, fun j hj => ?_⟩
  · have := Int32.toInt_lt n; omega
  · simp [newA, q, hj, own_pre, defaultValue]
theorem own_stRp (g : Nat → Value) (X : Stand p l e R s m args below meth c T locs cells slots) (hx : p.tables.exec = Jvm.exec) (hZ : Z.Warmed39 s.vm) (eT : T.heap = h) {a : Addr} {K : String} {n : Nat} {i : Nat} (F : own_ArrR Z h a K n (own_pre g .null i)) {v : Value} (hs : v = .null ∨ ∃ y, v = .ref y ∧ Exa Z h y K) (hv : v = g i) {j : Int32} (hj : j.toInt = i) (hi : i < n)
    {pc : Nat} {Ls : Array Slot} {S : List Value} (hd : decode c.code pc = .ok (.aastore, 1))
    (k : ∀ T' h', Stand p l e R s m args below meth c T' (locs ++ [⟨a, i⟩]) cells slots → T'.heap = h' → Wr h h' a i v → own_ArrR Z h' a K n (own_pre g .null (i + 1)) → own_Goes p e below P (T'.setTop (mkF m (pc + 1) Ls S))) :
    own_Goes p e below P (T.setTop (mkF m pc Ls (v :: .int j :: .ref a :: S))) := by
  have F' := F
  obtain ⟨cell, h1, hO, h2, h3, h4⟩ := F'
  have hst : Sto Z h a v := by
    rcases hs with rfl | ⟨y, rfl, Ey⟩
    · exact Or.inl rfl
    · exact Sto.of h1 hO (Ins.self Ey)
  refine own_stR X hx hZ eT F.toF rfl hst i hj hi hd fun T' h' X' e' W' F2 => k T' h' X' e' W' ?_
  refine ⟨cell.setSlot i v, h1.same W', hO, by simp [Cell.setSlot, h2], h3, fun q hq => ?_⟩
  rw [← own_pre_step, ← hv]
  by_cases z : q = i
  · subst z
    rw [if_pos rfl]
    simp [Cell.setSlot, h2, hq]
  · rw [if_neg z, ← h4 q hq]
    exact Array.getElem?_setIfInBounds_ne (Ne.symm z)
theorem own_newIp (g : Nat → Value) (X : Stand p l e R s m args below meth c T locs cells slots) (hx : p.tables.exec = Jvm.exec) (hZ : Z.Warmed39 s.vm) (w : (Cond.arrayClass .int).before a0 Z = true) (eT : T.heap = h)
    {pc : Nat} {Ls : Array Slot} {S : List Value} (hd : decode c.code pc = .ok (.newarray .int, 2)) {n : Int32} (i : Nat) (hi : n.toInt = i) (hb : i * 8 ≤ 536870912) (hc : cells + 1 ≤ R.cells) (hl : slots + i ≤ R.slots)
    (k : ∀ T' h', Stand p l e R s m args below meth c T' locs (cells + 1) (slots + i) → T'.heap = h' → Ext h h' → own_ArrF Z h' h.size .int i (own_pre g (.int 0) 0) → own_Goes p e below P (T'.setTop (mkF m (pc + 2) Ls (.ref h.size :: S)))) :
    own_Goes p e below P (T.setTop (mkF m pc Ls (.int n :: S))) :=
  own_newP X hx hZ (aty := .int) w eT hd i hi hb hc hl fun T' h' X' e' E' F => k T' h' X' e' E' (F.mono fun _ _ => rfl)
theorem own_stIp (g : Nat → Value) (X : Stand p l e R s m args below meth c T locs cells slots) (hx : p.tables.exec = Jvm.exec) (hZ : Z.Warmed39 s.vm) (eT : T.heap = h) {a : Addr} {n : Nat} {i : Nat} (F : own_ArrF Z h a .int n (own_pre g (.int 0) i)) {j x : Int32} (hv : .int x = g i) (hj : j.toInt = i) (hi : i < n)
    {pc : Nat} {Ls : Array Slot} {S : List Value} (hd : decode c.code pc = .ok (.iastore, 1))
    (k : ∀ T' h', Stand p l e R s m args below meth c T' (locs ++ [⟨a, i⟩]) cells slots → T'.heap = h' → Wr h h' a i (.int x) → own_ArrF Z h' a .int n (own_pre g (.int 0) (i + 1)) → own_Goes p e below P (T'.setTop (mkF m (pc + 1) Ls S))) :
    own_Goes p e below P (T.setTop (mkF m pc Ls (.int x :: .int j :: .ref a :: S))) :=
  own_stI X hx hZ eT F i hj hi hd fun T' h' X' e' W' F2 => k T' h' X' e' W' (F2.mono fun q _ => by rw [hv]; exact own_pre_step g (.int 0) i q)
/-! ints -/
theorem own_mask (x : Int32) : (x &&& 2147483647).toInt = x.toInt % 2 ^ 31 := Jvm.Kit.i32_mask x 2147483647 (k := 31) (by decide) (by decide)
theorem own_mod (x n : Int32) (M : Int) (hM : n.toInt = M) (hn : 0 < M) : 0 ≤ ((x &&& 2147483647) % n).toInt ∧ ((x &&& 2147483647) % n).toInt < M := by
  have h1 := own_mask x
  rw [Int32.toInt_mod]
  have h2 : 0 ≤ (x &&& 2147483647).toInt := by omega
  subst hM
  exact ⟨Int.tmod_nonneg _ h2, Int.tmod_lt_of_pos _ hn⟩
theorem own_mask2 (x : Int32) : 0 ≤ (x &&& 3).toInt ∧ (x &&& 3).toInt < 4 := by
  have h1 : (x &&& 3).toInt = x.toInt % 2 ^ 2 := Jvm.Kit.i32_mask x 3 (k := 2) (by decide) (by decide)
  omega
theorem own_mask3 (x : Int32) : 0 ≤ (x &&& 7).toInt ∧ (x &&& 7).toInt < 8 := by
  have h1 : (x &&& 7).toInt = x.toInt % 2 ^ 3 := Jvm.Kit.i32_mask x 7 (k := 3) (by decide) (by decide)
  omega
theorem own_eqInt {x y : Int32} (h : x.toInt = y.toInt) : x = y := Int32.toInt_inj.mp h
theorem own_nat {x : Int32} {n : Nat} (h0 : 0 ≤ x.toInt) (h1 : x.toInt < n) : ∃ i : Nat, i < n ∧ x.toInt = i := ⟨x.toInt.toNat, by omega, by omega⟩
end OwnKit

theorem own_pd0 : parseMethodDescriptor "()I" = some ⟨[], some .int⟩ := by decide +kernel
theorem own_pd1 : parseMethodDescriptor "()[Lcom/example/threshline/threshline/Handbook;" = some ⟨[], some (.array (.object "com/example/threshline/threshline/Handbook"))⟩ := by decide +kernel
theorem own_pd2 : parseMethodDescriptor "([Lcom/example/threshline/threshline/Edition;ILjava/lang/String;)Lcom/example/threshline/threshline/Edition;" = some ⟨[(.array (.object "com/example/threshline/threshline/Edition")), .int, (.object "java/lang/String")], some (.object "com/example/threshline/threshline/Edition")⟩ := by decide +kernel
theorem own_pd3 : parseMethodDescriptor "(I)Lcom/example/threshline/threshline/Handbook;" = some ⟨[.int], some (.object "com/example/threshline/threshline/Handbook")⟩ := by decide +kernel
theorem own_pn0 : plainName "com/example/threshline/threshline/Handbook" = true := by first | (simp [plainName, overriddenIn]; done) | decide +kernel
theorem own_pn1 : plainName "com/example/threshline/threshline/Edition" = true := by first | (simp [plainName, overriddenIn]; done) | decide +kernel
theorem own_pn2 : plainName "com/example/threshline/threshline/HandbookGoverningPinLaw" = true := by first | (simp [plainName, overriddenIn]; done) | decide +kernel
theorem own_w0 {a0 : Array Value} {Z : State} (hw : ∀ d ∈ tables_1, d.before a0 Z = true) : (Jvm.Cond.methodLink "com/example/threshline/threshline/HandbookGoverningPinLaw" 11 (⟨"com/example/threshline/threshline/Handbook", "governing", "(I)Lcom/example/threshline/threshline/Handbook;"⟩ : MethodName)).before a0 Z = true := hw _ (List.mem_of_getElem? (i := 0) rfl)
theorem own_w1 {a0 : Array Value} {Z : State} (hw : ∀ d ∈ tables_1, d.before a0 Z = true) : (Jvm.Cond.static (⟨"com/example/threshline/threshline/Handbook", "governing", "(I)Lcom/example/threshline/threshline/Handbook;"⟩ : MethodName)).before a0 Z = true := hw _ (List.mem_of_getElem? (i := 1) rfl)
theorem own_w2 {a0 : Array Value} {Z : State} (hw : ∀ d ∈ tables_1, d.before a0 Z = true) : (Jvm.Cond.initialized "com/example/threshline/threshline/Handbook").before a0 Z = true := hw _ (List.mem_of_getElem? (i := 2) rfl)
theorem own_w3 {a0 : Array Value} {Z : State} (hw : ∀ d ∈ tables_1, d.before a0 Z = true) : (Jvm.Cond.code (⟨"com/example/threshline/threshline/Handbook", "governing", "(I)Lcom/example/threshline/threshline/Handbook;"⟩ : MethodName) prog_38_method_5_code 1 (Option.some (FieldType.object "com/example/threshline/threshline/Handbook"))).before a0 Z = true := hw _ (List.mem_of_getElem? (i := 3) rfl)
theorem own_w4 {a0 : Array Value} {Z : State} (hw : ∀ d ∈ tables_1, d.before a0 Z = true) : (Jvm.Cond.methodLink "com/example/threshline/threshline/Handbook" 33 (⟨"com/example/threshline/threshline/Handbook", "values", "()[Lcom/example/threshline/threshline/Handbook;"⟩ : MethodName)).before a0 Z = true := hw _ (List.mem_of_getElem? (i := 4) rfl)
theorem own_w5 {a0 : Array Value} {Z : State} (hw : ∀ d ∈ tables_1, d.before a0 Z = true) : (Jvm.Cond.static (⟨"com/example/threshline/threshline/Handbook", "values", "()[Lcom/example/threshline/threshline/Handbook;"⟩ : MethodName)).before a0 Z = true := hw _ (List.mem_of_getElem? (i := 5) rfl)
theorem own_w6 {a0 : Array Value} {Z : State} (hw : ∀ d ∈ tables_1, d.before a0 Z = true) : (Jvm.Cond.code (⟨"com/example/threshline/threshline/Handbook", "values", "()[Lcom/example/threshline/threshline/Handbook;"⟩ : MethodName) prog_38_method_1_code 0 (Option.some (FieldType.array (FieldType.object "com/example/threshline/threshline/Handbook")))).before a0 Z = true := hw _ (List.mem_of_getElem? (i := 6) rfl)
theorem own_w7 {a0 : Array Value} {Z : State} (hw : ∀ d ∈ tables_1, d.before a0 Z = true) : (Jvm.Cond.fieldLink "com/example/threshline/threshline/Handbook" 10 "com/example/threshline/threshline/Handbook" "$VALUES" "[Lcom/example/threshline/threshline/Handbook;").before a0 Z = true := hw _ (List.mem_of_getElem? (i := 7) rfl)
theorem own_w8 {a0 : Array Value} {Z : State} (hw : ∀ d ∈ tables_1, d.before a0 Z = true) : (Jvm.Cond.laysStatic "com/example/threshline/threshline/Handbook" "$VALUES" "[Lcom/example/threshline/threshline/Handbook;").before a0 Z = true := hw _ (List.mem_of_getElem? (i := 8) rfl)
theorem own_w9 {a0 : Array Value} {Z : State} (hw : ∀ d ∈ tables_1, d.before a0 Z = true) : (Jvm.Cond.methodLink "com/example/threshline/threshline/Handbook" 14 (⟨"[Lcom/example/threshline/threshline/Handbook;", "clone", "()Ljava/lang/Object;"⟩ : MethodName)).before a0 Z = true := hw _ (List.mem_of_getElem? (i := 9) rfl)
theorem own_w10 {a0 : Array Value} {Z : State} (hw : ∀ d ∈ tables_1, d.before a0 Z = true) : (Jvm.Cond.sameMethod "[Lcom/example/threshline/threshline/Handbook;" "java/lang/Object" "clone" "()Ljava/lang/Object;").before a0 Z = true := hw _ (List.mem_of_getElem? (i := 10) rfl)
theorem own_w12 {a0 : Array Value} {Z : State} (hw : ∀ d ∈ tables_1, d.before a0 Z = true) : (Jvm.Cond.instanceMethod (⟨"java/lang/Object", "clone", "()Ljava/lang/Object;"⟩ : MethodName)).before a0 Z = true := hw _ (List.mem_of_getElem? (i := 12) rfl)
theorem own_w13 {a0 : Array Value} {Z : State} (hw : ∀ d ∈ tables_1, d.before a0 Z = true) : (Jvm.Cond.selects "[Lcom/example/threshline/threshline/Handbook;" (⟨"[Lcom/example/threshline/threshline/Handbook;", "clone", "()Ljava/lang/Object;"⟩ : MethodName) (⟨"java/lang/Object", "clone", "()Ljava/lang/Object;"⟩ : MethodName)).before a0 Z = true := hw _ (List.mem_of_getElem? (i := 13) rfl)
theorem own_w14 {a0 : Array Value} {Z : State} (hw : ∀ d ∈ tables_1, d.before a0 Z = true) : (Jvm.Cond.native (⟨"java/lang/Object", "clone", "()Ljava/lang/Object;"⟩ : MethodName)).before a0 Z = true := hw _ (List.mem_of_getElem? (i := 14) rfl)
theorem own_w15 {a0 : Array Value} {Z : State} (hw : ∀ d ∈ tables_1, d.before a0 Z = true) : (Jvm.Cond.castable "[Lcom/example/threshline/threshline/Handbook;" "java/lang/Cloneable").before a0 Z = true := hw _ (List.mem_of_getElem? (i := 15) rfl)
theorem own_w16 {a0 : Array Value} {Z : State} (hw : ∀ d ∈ tables_1, d.before a0 Z = true) : (Jvm.Cond.laysStatic "com/example/threshline/threshline/Handbook" "EDITION_1997" "Lcom/example/threshline/threshline/Handbook;").before a0 Z = true := hw _ (List.mem_of_getElem? (i := 16) rfl)
theorem own_w17 {a0 : Array Value} {Z : State} (hw : ∀ d ∈ tables_1, d.before a0 Z = true) : (Jvm.Cond.laysStatic "com/example/threshline/threshline/Handbook" "EDITION_2018" "Lcom/example/threshline/threshline/Handbook;").before a0 Z = true := hw _ (List.mem_of_getElem? (i := 17) rfl)
theorem own_w19 {a0 : Array Value} {Z : State} (hw : ∀ d ∈ tables_1, d.before a0 Z = true) : (Jvm.Cond.classLink "com/example/threshline/threshline/Handbook" 15 "[Lcom/example/threshline/threshline/Handbook;").before a0 Z = true := hw _ (List.mem_of_getElem? (i := 19) rfl)
theorem own_w20 {a0 : Array Value} {Z : State} (hw : ∀ d ∈ tables_1, d.before a0 Z = true) : (Jvm.Cond.castable "[Lcom/example/threshline/threshline/Handbook;" "[Lcom/example/threshline/threshline/Handbook;").before a0 Z = true := hw _ (List.mem_of_getElem? (i := 20) rfl)
theorem own_w22 {a0 : Array Value} {Z : State} (hw : ∀ d ∈ tables_1, d.before a0 Z = true) : (Jvm.Cond.initialized "java/lang/String").before a0 Z = true := hw _ (List.mem_of_getElem? (i := 22) rfl)
theorem own_w23 {a0 : Array Value} {Z : State} (hw : ∀ d ∈ tables_1, d.before a0 Z = true) : (Jvm.Cond.instantiable "java/lang/String" 4).before a0 Z = true := hw _ (List.mem_of_getElem? (i := 23) rfl)
theorem own_w24 {a0 : Array Value} {Z : State} (hw : ∀ d ∈ tables_1, d.before a0 Z = true) : (Jvm.Cond.arrayClass FieldType.byte).before a0 Z = true := hw _ (List.mem_of_getElem? (i := 24) rfl)
theorem own_w25 {a0 : Array Value} {Z : State} (hw : ∀ d ∈ tables_1, d.before a0 Z = true) : (Jvm.Cond.laysFinal "java/lang/String" "java/lang/String" "value" "[B").before a0 Z = true := hw _ (List.mem_of_getElem? (i := 25) rfl)
theorem own_w26 {a0 : Array Value} {Z : State} (hw : ∀ d ∈ tables_1, d.before a0 Z = true) : (Jvm.Cond.laysFinal "java/lang/String" "java/lang/String" "coder" "B").before a0 Z = true := hw _ (List.mem_of_getElem? (i := 26) rfl)
theorem own_w27 {a0 : Array Value} {Z : State} (hw : ∀ d ∈ tables_1, d.before a0 Z = true) : (Jvm.Cond.soleField "java/lang/String" "value").before a0 Z = true := hw _ (List.mem_of_getElem? (i := 27) rfl)
theorem own_w28 {a0 : Array Value} {Z : State} (hw : ∀ d ∈ tables_1, d.before a0 Z = true) : (Jvm.Cond.soleField "java/lang/String" "coder").before a0 Z = true := hw _ (List.mem_of_getElem? (i := 28) rfl)
theorem own_w29 {a0 : Array Value} {Z : State} (hw : ∀ d ∈ tables_1, d.before a0 Z = true) : (Jvm.Cond.methodLink "com/example/threshline/threshline/Handbook" 39 (⟨"com/example/threshline/threshline/Edition", "governing", "([Lcom/example/threshline/threshline/Edition;ILjava/lang/String;)Lcom/example/threshline/threshline/Edition;"⟩ : MethodName)).before a0 Z = true := hw _ (List.mem_of_getElem? (i := 29) rfl)
theorem own_w30 {a0 : Array Value} {Z : State} (hw : ∀ d ∈ tables_1, d.before a0 Z = true) : (Jvm.Cond.static (⟨"com/example/threshline/threshline/Edition", "governing", "([Lcom/example/threshline/threshline/Edition;ILjava/lang/String;)Lcom/example/threshline/threshline/Edition;"⟩ : MethodName)).before a0 Z = true := hw _ (List.mem_of_getElem? (i := 30) rfl)
theorem own_w31 {a0 : Array Value} {Z : State} (hw : ∀ d ∈ tables_1, d.before a0 Z = true) : (Jvm.Cond.initialized "com/example/threshline/threshline/Edition").before a0 Z = true := hw _ (List.mem_of_getElem? (i := 31) rfl)
theorem own_w32 {a0 : Array Value} {Z : State} (hw : ∀ d ∈ tables_1, d.before a0 Z = true) : (Jvm.Cond.code (⟨"com/example/threshline/threshline/Edition", "governing", "([Lcom/example/threshline/threshline/Edition;ILjava/lang/String;)Lcom/example/threshline/threshline/Edition;"⟩ : MethodName) prog_35_method_2_code 4 (Option.some (FieldType.object "com/example/threshline/threshline/Edition"))).before a0 Z = true := hw _ (List.mem_of_getElem? (i := 32) rfl)
theorem own_w33 {a0 : Array Value} {Z : State} (hw : ∀ d ∈ tables_1, d.before a0 Z = true) : (Jvm.Cond.methodLink "com/example/threshline/threshline/Edition" 1 (⟨"com/example/threshline/threshline/Edition", "firstCropYear", "()I"⟩ : MethodName)).before a0 Z = true := hw _ (List.mem_of_getElem? (i := 33) rfl)
theorem own_w34 {a0 : Array Value} {Z : State} (hw : ∀ d ∈ tables_1, d.before a0 Z = true) : (Jvm.Cond.declares (⟨"com/example/threshline/threshline/Edition", "firstCropYear", "()I"⟩ : MethodName)).before a0 Z = true := hw _ (List.mem_of_getElem? (i := 34) rfl)
theorem own_w35 {a0 : Array Value} {Z : State} (hw : ∀ d ∈ tables_1, d.before a0 Z = true) : (Jvm.Cond.interfaceMethod "com/example/threshline/threshline/Edition" "com/example/threshline/threshline/Edition" "firstCropYear" "()I").before a0 Z = true := hw _ (List.mem_of_getElem? (i := 35) rfl)
theorem own_w36 {a0 : Array Value} {Z : State} (hw : ∀ d ∈ tables_1, d.before a0 Z = true) : (Jvm.Cond.selects "com/example/threshline/threshline/Handbook" (⟨"com/example/threshline/threshline/Edition", "firstCropYear", "()I"⟩ : MethodName) (⟨"com/example/threshline/threshline/Handbook", "firstCropYear", "()I"⟩ : MethodName)).before a0 Z = true := hw _ (List.mem_of_getElem? (i := 36) rfl)
theorem own_w37 {a0 : Array Value} {Z : State} (hw : ∀ d ∈ tables_1, d.before a0 Z = true) : (Jvm.Cond.instanceMethod (⟨"com/example/threshline/threshline/Handbook", "firstCropYear", "()I"⟩ : MethodName)).before a0 Z = true := hw _ (List.mem_of_getElem? (i := 37) rfl)
theorem own_w38 {a0 : Array Value} {Z : State} (hw : ∀ d ∈ tables_1, d.before a0 Z = true) : (Jvm.Cond.publicMethod (⟨"com/example/threshline/threshline/Handbook", "firstCropYear", "()I"⟩ : MethodName)).before a0 Z = true := hw _ (List.mem_of_getElem? (i := 38) rfl)
theorem own_w39 {a0 : Array Value} {Z : State} (hw : ∀ d ∈ tables_1, d.before a0 Z = true) : (Jvm.Cond.unhidden "com/example/threshline/threshline/Handbook" "firstCropYear" "()I").before a0 Z = true := hw _ (List.mem_of_getElem? (i := 39) rfl)
theorem own_w40 {a0 : Array Value} {Z : State} (hw : ∀ d ∈ tables_1, d.before a0 Z = true) : (Jvm.Cond.castable "com/example/threshline/threshline/Handbook" "com/example/threshline/threshline/Edition").before a0 Z = true := hw _ (List.mem_of_getElem? (i := 40) rfl)
theorem own_w41 {a0 : Array Value} {Z : State} (hw : ∀ d ∈ tables_1, d.before a0 Z = true) : (Jvm.Cond.code (⟨"com/example/threshline/threshline/Handbook", "firstCropYear", "()I"⟩ : MethodName) prog_38_method_4_code 1 (Option.some FieldType.int)).before a0 Z = true := hw _ (List.mem_of_getElem? (i := 41) rfl)
theorem own_w42 {a0 : Array Value} {Z : State} (hw : ∀ d ∈ tables_1, d.before a0 Z = true) : (Jvm.Cond.fieldLink "com/example/threshline/threshline/Handbook" 29 "com/example/threshline/threshline/Handbook" "firstCropYear" "I").before a0 Z = true := hw _ (List.mem_of_getElem? (i := 42) rfl)
theorem own_w44 {a0 : Array Value} {Z : State} (hw : ∀ d ∈ tables_1, d.before a0 Z = true) : (Jvm.Cond.classLink "com/example/threshline/threshline/Handbook" 1 "com/example/threshline/threshline/Handbook").before a0 Z = true := hw _ (List.mem_of_getElem? (i := 44) rfl)
theorem own_w45 {a0 : Array Value} {Z : State} (hw : ∀ d ∈ tables_1, d.before a0 Z = true) : (Jvm.Cond.castable "com/example/threshline/threshline/Handbook" "com/example/threshline/threshline/Handbook").before a0 Z = true := hw _ (List.mem_of_getElem? (i := 45) rfl)
theorem own_w46 {a0 : Array Value} {Z : State} (hw : ∀ d ∈ tables_1, d.before a0 Z = true) : (Jvm.Cond.fieldLink "com/example/threshline/threshline/HandbookGoverningPinLaw" 21 "com/example/threshline/threshline/Handbook" "EDITION_1997" "Lcom/example/threshline/threshline/Handbook;").before a0 Z = true := hw _ (List.mem_of_getElem? (i := 46) rfl)
theorem own_w47 {a0 : Array Value} {Z : State} (hw : ∀ d ∈ tables_1, d.before a0 Z = true) : (Jvm.Cond.methodLink "com/example/threshline/threshline/HandbookGoverningPinLaw" 24 (⟨"com/example/threshline/threshline/Handbook", "firstCropYear", "()I"⟩ : MethodName)).before a0 Z = true := hw _ (List.mem_of_getElem? (i := 47) rfl)
theorem own_w48 {a0 : Array Value} {Z : State} (hw : ∀ d ∈ tables_1, d.before a0 Z = true) : (Jvm.Cond.declares (⟨"com/example/threshline/threshline/Handbook", "firstCropYear", "()I"⟩ : MethodName)).before a0 Z = true := hw _ (List.mem_of_getElem? (i := 48) rfl)
theorem own_w49 {a0 : Array Value} {Z : State} (hw : ∀ d ∈ tables_1, d.before a0 Z = true) : (Jvm.Cond.selects "com/example/threshline/threshline/Handbook" (⟨"com/example/threshline/threshline/Handbook", "firstCropYear", "()I"⟩ : MethodName) (⟨"com/example/threshline/threshline/Handbook", "firstCropYear", "()I"⟩ : MethodName)).before a0 Z = true := hw _ (List.mem_of_getElem? (i := 49) rfl)
theorem own_w50 {a0 : Array Value} {Z : State} (hw : ∀ d ∈ tables_1, d.before a0 Z = true) : (Jvm.Cond.constant "com/example/threshline/threshline/HandbookGoverningPinLaw" 7 (2147483647 : Int32)).before a0 Z = true := hw _ (List.mem_of_getElem? (i := 50) rfl)
theorem own_w51 {a0 : Array Value} {Z : State} (hw : ∀ d ∈ tables_1, d.before a0 Z = true) : (Jvm.Cond.constant "com/example/threshline/threshline/HandbookGoverningPinLaw" 10 (2147481651 : Int32)).before a0 Z = true := hw _ (List.mem_of_getElem? (i := 51) rfl)
theorem own_w52 {a0 : Array Value} {Z : State} (hw : ∀ d ∈ tables_1, d.before a0 Z = true) : (Jvm.Cond.fieldLink "com/example/threshline/threshline/HandbookGoverningPinLaw" 17 "com/example/threshline/threshline/Handbook" "EDITION_2018" "Lcom/example/threshline/threshline/Handbook;").before a0 Z = true := hw _ (List.mem_of_getElem? (i := 52) rfl)
def own_W (Z : State) (h : Heap) (A : Nat → Addr) : Prop :=
  Sta Z h "com/example/threshline/threshline/Handbook" "$VALUES" "[Lcom/example/threshline/threshline/Handbook;" (.ref (A 0)) ∧
  Exa Z h (A 0) "[Lcom/example/threshline/threshline/Handbook;" ∧
  Sta Z h "com/example/threshline/threshline/Handbook" "EDITION_1997" "Lcom/example/threshline/threshline/Handbook;" (.ref (A 1)) ∧
  Exa Z h (A 1) "com/example/threshline/threshline/Handbook" ∧
  Sta Z h "com/example/threshline/threshline/Handbook" "EDITION_2018" "Lcom/example/threshline/threshline/Handbook;" (.ref (A 2)) ∧
  Exa Z h (A 2) "com/example/threshline/threshline/Handbook" ∧
  own_ArrC Z h (A 0) (Jvm.ClassFile.FieldType.object "com/example/threshline/threshline/Handbook") 2 (fun i => ([(.ref (A 1)), (.ref (A 2))] : List Value).getD i .null) ∧
  Fld Z h (A 2) "com/example/threshline/threshline/Handbook" "firstCropYear" "I" (.int (2018 : Int32)) ∧
  Fld Z h (A 1) "com/example/threshline/threshline/Handbook" "firstCropYear" "I" (.int (1997 : Int32))
theorem own_f0 {Z : State} {h : Heap} {A : Nat → Addr} (W : own_W Z h A) : Sta Z h "com/example/threshline/threshline/Handbook" "$VALUES" "[Lcom/example/threshline/threshline/Handbook;" (.ref (A 0)) := W.1
theorem own_f1 {Z : State} {h : Heap} {A : Nat → Addr} (W : own_W Z h A) : Exa Z h (A 0) "[Lcom/example/threshline/threshline/Handbook;" := W.2.1
theorem own_f2 {Z : State} {h : Heap} {A : Nat → Addr} (W : own_W Z h A) : Sta Z h "com/example/threshline/threshline/Handbook" "EDITION_1997" "Lcom/example/threshline/threshline/Handbook;" (.ref (A 1)) := W.2.2.1
theorem own_f3 {Z : State} {h : Heap} {A : Nat → Addr} (W : own_W Z h A) : Exa Z h (A 1) "com/example/threshline/threshline/Handbook" := W.2.2.2.1
theorem own_f4 {Z : State} {h : Heap} {A : Nat → Addr} (W : own_W Z h A) : Sta Z h "com/example/threshline/threshline/Handbook" "EDITION_2018" "Lcom/example/threshline/threshline/Handbook;" (.ref (A 2)) := W.2.2.2.2.1
theorem own_f5 {Z : State} {h : Heap} {A : Nat → Addr} (W : own_W Z h A) : Exa Z h (A 2) "com/example/threshline/threshline/Handbook" := W.2.2.2.2.2.1
theorem own_f6 {Z : State} {h : Heap} {A : Nat → Addr} (W : own_W Z h A) : own_ArrC Z h (A 0) (Jvm.ClassFile.FieldType.object "com/example/threshline/threshline/Handbook") 2 (fun i => ([(.ref (A 1)), (.ref (A 2))] : List Value).getD i .null) := W.2.2.2.2.2.2.1
theorem own_f7 {Z : State} {h : Heap} {A : Nat → Addr} (W : own_W Z h A) : Fld Z h (A 2) "com/example/threshline/threshline/Handbook" "firstCropYear" "I" (.int (2018 : Int32)) := W.2.2.2.2.2.2.2.1
theorem own_f8 {Z : State} {h : Heap} {A : Nat → Addr} (W : own_W Z h A) : Fld Z h (A 1) "com/example/threshline/threshline/Handbook" "firstCropYear" "I" (.int (1997 : Int32)) := W.2.2.2.2.2.2.2.2
theorem own_Wext {Z : State} {h h' : Heap} {A : Nat → Addr} (W : own_W Z h A) (E : Ext h h') : own_W Z h' A := ⟨(own_f0 W).ext E, (own_f1 W).ext E, (own_f2 W).ext E, (own_f3 W).ext E, (own_f4 W).ext E, (own_f5 W).ext E, (own_f6 W).ext E, (own_f7 W).ext E, (own_f8 W).ext E⟩
theorem own_world {s : State} {args : Array Value} (hw : ∀ d ∈ tables_1, d.before args s = true) (hn : narrow_1.value args s none s [] = some true) (hfit : Fit s) : ∃ A : Nat → Addr, own_W s s.heap A := by
  obtain ⟨n0, r0⟩ := and_e hn
  obtain ⟨n1, r1⟩ := and_e r0
  obtain ⟨n2, r2⟩ := and_e r1
  obtain ⟨n3, r3⟩ := and_e r2
  obtain ⟨n4, r4⟩ := and_e r3
  obtain ⟨n5, r5⟩ := and_e r4
  obtain ⟨n6, r6⟩ := and_e r5
  obtain ⟨n7, r7⟩ := and_e r6
  obtain ⟨a0, v0⟩ := exa_v n1
  obtain ⟨a1, v1⟩ := exa_v n3
  obtain ⟨a2, v2⟩ := exa_v n5
  exact ⟨fun n => [a0, a1, a2].getD n 0, Sta.start v0 (Or.inr ⟨(own_w2 hw), (own_w8 hw)⟩), Exa.start v0 n1, Sta.start v1 (Or.inr ⟨(own_w2 hw), (own_w16 hw)⟩), Exa.start v1 n3, Sta.start v2 (Or.inr ⟨(own_w2 hw), (own_w17 hw)⟩), Exa.start v2 n5, (own_ArrF.fit hfit (own_arrF v0 n0 n2 (by decide) (fun cell hat hc hs i hi => match i, hi with | 0, _ => own_el v0 hc (own_eqR n4 v1) (by decide) | 1, _ => own_el v0 hc (own_eqR n6 v2) (by decide) | (k + 2), hi => absurd hi (by omega)))), own_fld v2 (own_eqI n7), own_fld v1 (own_eqI r7)⟩
theorem own_d4_0 : decode prog_38_method_4_code 0 = .ok (.aload_n 0, 1) := by decide +kernel
theorem own_d4_1 : decode prog_38_method_4_code 1 = .ok (.getfield 29, 3) := by decide +kernel
theorem own_d4_4 : decode prog_38_method_4_code 4 = .ok (.ireturn, 1) := by decide +kernel
def own_r_fcy (A : Nat → Addr) (b : Addr) (u : Int32) : Int32 := u
set_option maxRecDepth 65536 in
set_option maxHeartbeats 40000000 in
theorem rm_fcy (l : Launch) {Z : State} {a0 : Array Value} (hw : ∀ d ∈ tables_1, d.before a0 Z = true) {A : Nat → Addr} {h0 : Heap} (W : own_W Z h0 A) (b : Addr) (u : Int32) (F : Fld Z h0 b "com/example/threshline/threshline/Handbook" "firstCropYear" "I" (.int u)) :
    own_Does l Z (⟨"com/example/threshline/threshline/Handbook", "firstCropYear", "()I"⟩ : MethodName) prog_38_method_4_code 1 (some .int) [] ({ frames := 0, cells := 0, slots := 0, locals := 0 } : Room) #[(.ref b)] h0 (own_Is (.int (own_r_fcy A b u)) h0) := by
  refine own_body own_pn0 ?_
  intro p e s m below meth c T0 hx hby hml hret hlk hnm hown hZ X0 e0
  refine own_tr (XT.entry (Ls := #[.val (.ref b)]) rfl) ?_
  show own_Goes p e below _ (T0.setTop (mkF m 0 #[.val (.ref b)] []))
  refine own_by (fun _ zz => XS.aloadN X0.here hx rfl (hb hby own_d4_0) rfl rfl zz) ?_
  show own_Goes p e below _ (T0.setTop (mkF m 1 #[.val (.ref b)] [(.ref b)]))
  refine own_getF X0 hx hZ hown (own_w42 hw) e0 F (hb hby own_d4_1) fun T1 X1 e1 => ?_
  show own_Goes p e below _ (T1.setTop (mkF m 4 #[.val (.ref b)] [(.int u)]))
  refine own_retI X1 hx hlk hret (hb hby own_d4_4) (by decide) (by decide) ?_
  exact ⟨by unfold own_r_fcy; rfl, rfl, e1⟩
theorem own_d3_0 : decode prog_35_method_2_code 0 = .ok (.aload_n 0, 1) := by decide +kernel
theorem own_d3_1 : decode prog_35_method_2_code 1 = .ok (.arraylength, 1) := by decide +kernel
theorem own_d3_2 : decode prog_35_method_2_code 2 = .ok (.iconst 1, 1) := by decide +kernel
theorem own_d3_3 : decode prog_35_method_2_code 3 = .ok (.isub, 1) := by decide +kernel
theorem own_d3_4 : decode prog_35_method_2_code 4 = .ok (.istore_n 3, 1) := by decide +kernel
theorem own_d3_5 : decode prog_35_method_2_code 5 = .ok (.iload_n 3, 1) := by decide +kernel
theorem own_d3_6 : decode prog_35_method_2_code 6 = .ok (.ifCond .lt 25, 3) := by decide +kernel
theorem own_d3_9 : decode prog_35_method_2_code 9 = .ok (.aload_n 0, 1) := by decide +kernel
theorem own_d3_10 : decode prog_35_method_2_code 10 = .ok (.iload_n 3, 1) := by decide +kernel
theorem own_d3_11 : decode prog_35_method_2_code 11 = .ok (.aaload, 1) := by decide +kernel
theorem own_d3_12 : decode prog_35_method_2_code 12 = .ok (.invokeinterface 1 1, 5) := by decide +kernel
theorem own_d3_17 : decode prog_35_method_2_code 17 = .ok (.iload_n 1, 1) := by decide +kernel
theorem own_d3_18 : decode prog_35_method_2_code 18 = .ok (.if_icmp .gt 7, 3) := by decide +kernel
theorem own_d3_21 : decode prog_35_method_2_code 21 = .ok (.aload_n 0, 1) := by decide +kernel
theorem own_d3_22 : decode prog_35_method_2_code 22 = .ok (.iload_n 3, 1) := by decide +kernel
theorem own_d3_23 : decode prog_35_method_2_code 23 = .ok (.aaload, 1) := by decide +kernel
theorem own_d3_24 : decode prog_35_method_2_code 24 = .ok (.areturn, 1) := by decide +kernel
theorem own_d3_25 : decode prog_35_method_2_code 25 = .ok (.iinc 3 (-1), 3) := by decide +kernel
theorem own_d3_28 : decode prog_35_method_2_code 28 = .ok (.goto (-23), 3) := by decide +kernel
theorem own_d3_31 : decode prog_35_method_2_code 31 = .ok (.new 7, 3) := by decide +kernel
theorem own_d3_34 : decode prog_35_method_2_code 34 = .ok (.dup, 1) := by decide +kernel
theorem own_d3_35 : decode prog_35_method_2_code 35 = .ok (.ldc 9, 2) := by decide +kernel
theorem own_d3_37 : decode prog_35_method_2_code 37 = .ok (.iload_n 1, 1) := by decide +kernel
theorem own_d3_38 : decode prog_35_method_2_code 38 = .ok (.aload_n 0, 1) := by decide +kernel
theorem own_d3_39 : decode prog_35_method_2_code 39 = .ok (.iconst 0, 1) := by decide +kernel
theorem own_d3_40 : decode prog_35_method_2_code 40 = .ok (.aaload, 1) := by decide +kernel
theorem own_d3_41 : decode prog_35_method_2_code 41 = .ok (.invokeinterface 1 1, 5) := by decide +kernel
theorem own_d3_46 : decode prog_35_method_2_code 46 = .ok (.aload_n 2, 1) := by decide +kernel
theorem own_d3_47 : decode prog_35_method_2_code 47 = .ok (.invokedynamic 11, 5) := by decide +kernel
theorem own_d3_52 : decode prog_35_method_2_code 52 = .ok (.invokespecial 15, 3) := by decide +kernel
theorem own_d3_55 : decode prog_35_method_2_code 55 = .ok (.athrow, 1) := by decide +kernel
def own_r_gov (A : Nat → Addr) (a : Addr) (y : Int32) (t : Addr) : Addr := if y < (own_r_fcy A (A 2) (2018 : Int32)) then (A 1) else (A 2)
set_option maxRecDepth 65536 in
set_option maxHeartbeats 40000000 in
theorem rm_gov (l : Launch) {Z : State} {a0 : Array Value} (hw : ∀ d ∈ tables_1, d.before a0 Z = true) {A : Nat → Addr} {h0 : Heap} (W : own_W Z h0 A) (a : Addr) (y : Int32) (t : Addr) (hy : ¬ y < (1997 : Int32)) (FA : own_ArrF Z h0 a (.object "com/example/threshline/threshline/Handbook") 2 (fun i => ([(.ref (A 1)), (.ref (A 2))] : List Value).getD i .null)) :
    own_Does l Z (⟨"com/example/threshline/threshline/Edition", "governing", "([Lcom/example/threshline/threshline/Edition;ILjava/lang/String;)Lcom/example/threshline/threshline/Edition;"⟩ : MethodName) prog_35_method_2_code 4 (some (.object "com/example/threshline/threshline/Edition")) [] ({ frames := 1, cells := 0, slots := 0, locals := 12 } : Room) #[(.ref a), (.int y), (.ref t)] h0 (own_Is (.ref (own_r_gov A a y t)) h0) := by
  refine own_body own_pn1 ?_
  intro p e s m below meth c T0 hx hby hml hret hlk hnm hown hZ X0 e0
  refine own_tr (XT.entry (Ls := #[.val (.ref a), .val (.int y), .val (.ref t), .unset]) rfl) ?_
  show own_Goes p e below _ (T0.setTop (mkF m 0 #[.val (.ref a), .val (.int y), .val (.ref t), .unset] []))
  refine own_by (fun _ zz => XS.aloadN X0.here hx rfl (hb hby own_d3_0) rfl rfl zz) ?_
  show own_Goes p e below _ (T0.setTop (mkF m 1 #[.val (.ref a), .val (.int y), .val (.ref t), .unset] [(.ref a)]))
  refine own_alen X0 hx hZ e0 FA (hb hby own_d3_1) ?_
  show own_Goes p e below _ (T0.setTop (mkF m 2 #[.val (.ref a), .val (.int y), .val (.ref t), .unset] [(.int (2 : Int32))]))
  refine own_by (fun _ zz => XS.iconst X0.here hx rfl (hb hby own_d3_2) zz) ?_
  show own_Goes p e below _ (T0.setTop (mkF m 3 #[.val (.ref a), .val (.int y), .val (.ref t), .unset] [(.int (1 : Int32)), (.int (2 : Int32))]))
  refine own_by (fun _ zz => XS.isub X0.here hx rfl (hb hby own_d3_3) rfl zz) ?_
  show own_Goes p e below _ (T0.setTop (mkF m 4 #[.val (.ref a), .val (.int y), .val (.ref t), .unset] [(.int ((2 : Int32) - (1 : Int32)))]))
  show own_Goes p e below _ (T0.setTop (mkF m 4 #[.val (.ref a), .val (.int y), .val (.ref t), .unset] [(.int (1 : Int32))]))
  refine own_by (fun _ zz => XS.istoreN X0.here hx rfl (hb hby own_d3_4) rfl (l' := #[.val (.ref a), .val (.int y), .val (.ref t), .val (.int (1 : Int32))]) rfl zz) ?_
  show own_Goes p e below _ (T0.setTop (mkF m 5 #[.val (.ref a), .val (.int y), .val (.ref t), .val (.int (1 : Int32))] []))
  refine own_by (fun _ zz => XS.iloadN X0.here hx rfl (hb hby own_d3_5) rfl zz) ?_
  show own_Goes p e below _ (T0.setTop (mkF m 6 #[.val (.ref a), .val (.int y), .val (.ref t), .val (.int (1 : Int32))] [(.int (1 : Int32))]))
  refine own_by (fun _ zz => XS.ifNo X0.here hx rfl (hb hby own_d3_6) rfl (by decide) zz) ?_
  show own_Goes p e below _ (T0.setTop (mkF m 9 #[.val (.ref a), .val (.int y), .val (.ref t), .val (.int (1 : Int32))] []))
  refine own_by (fun _ zz => XS.aloadN X0.here hx rfl (hb hby own_d3_9) rfl rfl zz) ?_
  show own_Goes p e below _ (T0.setTop (mkF m 10 #[.val (.ref a), .val (.int y), .val (.ref t), .val (.int (1 : Int32))] [(.ref a)]))
  refine own_by (fun _ zz => XS.iloadN X0.here hx rfl (hb hby own_d3_10) rfl zz) ?_
  show own_Goes p e below _ (T0.setTop (mkF m 11 #[.val (.ref a), .val (.int y), .val (.ref t), .val (.int (1 : Int32))] [(.int (1 : Int32)), (.ref a)]))
  refine own_aaload X0 hx hZ e0 FA rfl 1 (by decide) (by decide) (v := (.ref (A 2))) rfl (hb hby own_d3_11) ?_
  show own_Goes p e below _ (T0.setTop (mkF m 12 #[.val (.ref a), .val (.int y), .val (.ref t), .val (.int (1 : Int32))] [(.ref (A 2))]))
  refine own_callF0 X0 hx hZ (W := 0) (K := "com/example/threshline/threshline/Handbook") (argsL := []) (rest := []) hown (own_w33 hw) (own_w34 hw) (mvT hZ (own_w35 hw)) (own_w36 hw) (own_w37 hw) (own_w38 hw) (own_w39 hw) (own_w40 hw) (own_w41 hw) (own_w2 hw) (by decide) e0 (own_f5 W) (rm_fcy l hw W (A 2) (2018 : Int32) (own_f7 W)) (by decide) (by decide) (by decide) (by decide) (by rw [hml]; rfl) (lenOf own_pd0 rfl) rfl (Nat.le_of_ble_eq_true rfl) (hb hby own_d3_12) fun T1 X1 e1 => ?_
  show own_Goes p e below _ (T1.setTop (mkF m 17 #[.val (.ref a), .val (.int y), .val (.ref t), .val (.int (1 : Int32))] [(.int (own_r_fcy A (A 2) (2018 : Int32)))]))
  refine own_by (fun _ zz => XS.iloadN X1.here hx rfl (hb hby own_d3_17) rfl zz) ?_
  show own_Goes p e below _ (T1.setTop (mkF m 18 #[.val (.ref a), .val (.int y), .val (.ref t), .val (.int (1 : Int32))] [(.int y), (.int (own_r_fcy A (A 2) (2018 : Int32)))]))
  by_cases q2 : y < (own_r_fcy A (A 2) (2018 : Int32))
  · refine own_by (fun _ zz => XS.icmpYes X1.here hx rfl (pc0 := 18) (pc' := 25) rfl (hb hby own_d3_18) rfl (XT.ii_gt_t q2) (by decide) (by decide) zz) ?_
    show own_Goes p e below _ (T1.setTop (mkF m 25 #[.val (.ref a), .val (.int y), .val (.ref t), .val (.int (1 : Int32))] []))
    refine own_by (fun _ zz => XT.iincV X1.here hx rfl (l' := #[.val (.ref a), .val (.int y), .val (.ref t), .val (.int ((1 : Int32) + (-1 : Int32)))]) (-1 : Int32) (hb hby own_d3_25) rfl rfl rfl zz) ?_
    show own_Goes p e below _ (T1.setTop (mkF m 28 #[.val (.ref a), .val (.int y), .val (.ref t), .val (.int ((1 : Int32) + (-1 : Int32)))] []))
    show own_Goes p e below _ (T1.setTop (mkF m 28 #[.val (.ref a), .val (.int y), .val (.ref t), .val (.int (0 : Int32))] []))
    refine own_by (fun _ zz => XS.goto X1.here hx rfl (pc0 := 28) (pc' := 5) rfl (hb hby own_d3_28) (by decide) (by decide) zz) ?_
    show own_Goes p e below _ (T1.setTop (mkF m 5 #[.val (.ref a), .val (.int y), .val (.ref t), .val (.int (0 : Int32))] []))
    refine own_by (fun _ zz => XS.iloadN X1.here hx rfl (hb hby own_d3_5) rfl zz) ?_
    show own_Goes p e below _ (T1.setTop (mkF m 6 #[.val (.ref a), .val (.int y), .val (.ref t), .val (.int (0 : Int32))] [(.int (0 : Int32))]))
    refine own_by (fun _ zz => XS.ifNo X1.here hx rfl (hb hby own_d3_6) rfl (by decide) zz) ?_
    show own_Goes p e below _ (T1.setTop (mkF m 9 #[.val (.ref a), .val (.int y), .val (.ref t), .val (.int (0 : Int32))] []))
    refine own_by (fun _ zz => XS.aloadN X1.here hx rfl (hb hby own_d3_9) rfl rfl zz) ?_
    show own_Goes p e below _ (T1.setTop (mkF m 10 #[.val (.ref a), .val (.int y), .val (.ref t), .val (.int (0 : Int32))] [(.ref a)]))
    refine own_by (fun _ zz => XS.iloadN X1.here hx rfl (hb hby own_d3_10) rfl zz) ?_
    show own_Goes p e below _ (T1.setTop (mkF m 11 #[.val (.ref a), .val (.int y), .val (.ref t), .val (.int (0 : Int32))] [(.int (0 : Int32)), (.ref a)]))
    refine own_aaload X1 hx hZ e1 FA rfl 0 (by decide) (by decide) (v := (.ref (A 1))) rfl (hb hby own_d3_11) ?_
    show own_Goes p e below _ (T1.setTop (mkF m 12 #[.val (.ref a), .val (.int y), .val (.ref t), .val (.int (0 : Int32))] [(.ref (A 1))]))
    refine own_callF0 X1 hx hZ (W := 0) (K := "com/example/threshline/threshline/Handbook") (argsL := []) (rest := []) hown (own_w33 hw) (own_w34 hw) (mvT hZ (own_w35 hw)) (own_w36 hw) (own_w37 hw) (own_w38 hw) (own_w39 hw) (own_w40 hw) (own_w41 hw) (own_w2 hw) (by decide) e1 (own_f3 W) (rm_fcy l hw W (A 1) (1997 : Int32) (own_f8 W)) (by decide) (by decide) (by decide) (by decide) (by rw [hml]; rfl) (lenOf own_pd0 rfl) rfl (Nat.le_of_ble_eq_true rfl) (hb hby own_d3_12) fun T3 X3 e3 => ?_
    show own_Goes p e below _ (T3.setTop (mkF m 17 #[.val (.ref a), .val (.int y), .val (.ref t), .val (.int (0 : Int32))] [(.int (own_r_fcy A (A 1) (1997 : Int32)))]))
    refine own_by (fun _ zz => XS.iloadN X3.here hx rfl (hb hby own_d3_17) rfl zz) ?_
    show own_Goes p e below _ (T3.setTop (mkF m 18 #[.val (.ref a), .val (.int y), .val (.ref t), .val (.int (0 : Int32))] [(.int y), (.int (own_r_fcy A (A 1) (1997 : Int32)))]))
    refine own_by (fun _ zz => XS.icmpNo X3.here hx rfl (hb hby own_d3_18) rfl (XT.ii_gt_f (by unfold own_r_fcy; exact hy)) zz) ?_
    show own_Goes p e below _ (T3.setTop (mkF m 21 #[.val (.ref a), .val (.int y), .val (.ref t), .val (.int (0 : Int32))] []))
    refine own_by (fun _ zz => XS.aloadN X3.here hx rfl (hb hby own_d3_21) rfl rfl zz) ?_
    show own_Goes p e below _ (T3.setTop (mkF m 22 #[.val (.ref a), .val (.int y), .val (.ref t), .val (.int (0 : Int32))] [(.ref a)]))
    refine own_by (fun _ zz => XS.iloadN X3.here hx rfl (hb hby own_d3_22) rfl zz) ?_
    show own_Goes p e below _ (T3.setTop (mkF m 23 #[.val (.ref a), .val (.int y), .val (.ref t), .val (.int (0 : Int32))] [(.int (0 : Int32)), (.ref a)]))
    refine own_aaload X3 hx hZ e3 FA rfl 0 (by decide) (by decide) (v := (.ref (A 1))) rfl (hb hby own_d3_23) ?_
    show own_Goes p e below _ (T3.setTop (mkF m 24 #[.val (.ref a), .val (.int y), .val (.ref t), .val (.int (0 : Int32))] [(.ref (A 1))]))
    refine own_retR X3 hx hlk hret rfl rfl rfl (hb hby own_d3_24) (by decide) (by decide) ?_
    exact ⟨by unfold own_r_gov; rw [if_pos q2] <;> rfl, rfl, e3⟩
  · refine own_by (fun _ zz => XS.icmpNo X1.here hx rfl (hb hby own_d3_18) rfl (XT.ii_gt_f q2) zz) ?_
    show own_Goes p e below _ (T1.setTop (mkF m 21 #[.val (.ref a), .val (.int y), .val (.ref t), .val (.int (1 : Int32))] []))
    refine own_by (fun _ zz => XS.aloadN X1.here hx rfl (hb hby own_d3_21) rfl rfl zz) ?_
    show own_Goes p e below _ (T1.setTop (mkF m 22 #[.val (.ref a), .val (.int y), .val (.ref t), .val (.int (1 : Int32))] [(.ref a)]))
    refine own_by (fun _ zz => XS.iloadN X1.here hx rfl (hb hby own_d3_22) rfl zz) ?_
    show own_Goes p e below _ (T1.setTop (mkF m 23 #[.val (.ref a), .val (.int y), .val (.ref t), .val (.int (1 : Int32))] [(.int (1 : Int32)), (.ref a)]))
    refine own_aaload X1 hx hZ e1 FA rfl 1 (by decide) (by decide) (v := (.ref (A 2))) rfl (hb hby own_d3_23) ?_
    show own_Goes p e below _ (T1.setTop (mkF m 24 #[.val (.ref a), .val (.int y), .val (.ref t), .val (.int (1 : Int32))] [(.ref (A 2))]))
    refine own_retR X1 hx hlk hret rfl rfl rfl (hb hby own_d3_24) (by decide) (by decide) ?_
    exact ⟨by unfold own_r_gov; rw [if_neg q2] <;> rfl, rfl, e1⟩
theorem own_d2_0 : decode prog_38_method_1_code 0 = .ok (.getstatic 10, 3) := by decide +kernel
theorem own_d2_3 : decode prog_38_method_1_code 3 = .ok (.invokevirtual 14, 3) := by decide +kernel
theorem own_d2_6 : decode prog_38_method_1_code 6 = .ok (.checkcast 15, 3) := by decide +kernel
theorem own_d2_9 : decode prog_38_method_1_code 9 = .ok (.areturn, 1) := by decide +kernel
def own_Vals (Z : State) (h0 : Heap) (A : Nat → Addr) : Option Value → Heap → List Loc → Prop := fun v h L => v = some (.ref h0.size) ∧ L = [] ∧ Ext h0 h ∧ own_ArrF Z h h0.size (.object "com/example/threshline/threshline/Handbook") 2 (fun i => ([(.ref (A 1)), (.ref (A 2))] : List Value).getD i .null)
set_option maxRecDepth 65536 in
set_option maxHeartbeats 40000000 in
theorem rm_values (l : Launch) {Z : State} {a0 : Array Value} (hw : ∀ d ∈ tables_1, d.before a0 Z = true) {A : Nat → Addr} {h0 : Heap} (W : own_W Z h0 A) :
    own_Does l Z (⟨"com/example/threshline/threshline/Handbook", "values", "()[Lcom/example/threshline/threshline/Handbook;"⟩ : MethodName) prog_38_method_1_code 0 (some (.array (.object "com/example/threshline/threshline/Handbook"))) [] ({ frames := 1, cells := 1, slots := 2, locals := 14 } : Room) #[] h0 (own_Vals Z h0 A) := by
  refine own_body own_pn0 ?_
  intro p e s m below meth c T0 hx hby hml hret hlk hnm hown hZ X0 e0
  refine own_tr (XT.entry (Ls := #[]) rfl) ?_
  show own_Goes p e below _ (T0.setTop (mkF m 0 #[] []))
  refine own_getS X0 hx hZ hown (own_w7 hw) e0 (own_f0 W) (hb hby own_d2_0) fun T1 X1 e1 => ?_
  show own_Goes p e below _ (T1.setTop (mkF m 3 #[] [(.ref (A 0))]))
  refine own_clone X1 hx hZ (W := 0) hown (own_w9 hw) (own_w10 hw) (own_w14 hw) (own_w12 hw) (own_w13 hw) (own_w15 hw) e1 (own_f6 W) (own_f1 W) (by rw [hml]; rfl) (hb hby own_d2_3) (by decide) (Nat.le_of_ble_eq_true rfl) (by decide) (by decide) (by decide) fun T2 h2 X2 e2 E2 F2 A2 => ?_
  show own_Goes p e below _ (T2.setTop (mkF m 6 #[] [(.ref h0.size)]))
  refine own_cast X2 hx hZ hown (own_w19 hw) e2 (Ins.of_exa A2 (own_w20 hw)) (hb hby own_d2_6) fun T3 X3 e3 => ?_
  show own_Goes p e below _ (T3.setTop (mkF m 9 #[] [(.ref h0.size)]))
  refine own_retR X3 hx hlk hret rfl rfl rfl (hb hby own_d2_9) (by decide) (by decide) ?_
  exact ⟨rfl, rfl, by rw [e3]; exact E2, by rw [e3]; exact F2⟩
def own_g (A : Nat → Addr) (y : Int32) : Addr := if y < (2018 : Int32) then (A 1) else (A 2)
theorem own_g_exa {Z : State} {h : Heap} {A : Nat → Addr} (W : own_W Z h A) (y : Int32) : Exa Z h (own_g A y) "com/example/threshline/threshline/Handbook" := by
  unfold own_g; split
  · exact (own_f3 W)
  · exact (own_f5 W)
theorem own_strs {a0 : Array Value} {Z : State} (hw : ∀ d ∈ tables_1, d.before a0 Z = true) : ∀ a ∈ Bundle.stringAtoms, a.before a0 Z = true := fun d hd => by
  simp only [Bundle.stringAtoms, List.mem_cons, List.not_mem_nil, or_false] at hd
  rcases hd with rfl | rfl | rfl | rfl | rfl | rfl | rfl
  · first | exact (own_w22 hw) | exact (own_w23 hw) | exact (own_w24 hw) | exact (own_w25 hw) | exact (own_w26 hw) | exact (own_w27 hw) | exact (own_w28 hw)
  · first | exact (own_w22 hw) | exact (own_w23 hw) | exact (own_w24 hw) | exact (own_w25 hw) | exact (own_w26 hw) | exact (own_w27 hw) | exact (own_w28 hw)
  · first | exact (own_w22 hw) | exact (own_w23 hw) | exact (own_w24 hw) | exact (own_w25 hw) | exact (own_w26 hw) | exact (own_w27 hw) | exact (own_w28 hw)
  · first | exact (own_w22 hw) | exact (own_w23 hw) | exact (own_w24 hw) | exact (own_w25 hw) | exact (own_w26 hw) | exact (own_w27 hw) | exact (own_w28 hw)
  · first | exact (own_w22 hw) | exact (own_w23 hw) | exact (own_w24 hw) | exact (own_w25 hw) | exact (own_w26 hw) | exact (own_w27 hw) | exact (own_w28 hw)
  · first | exact (own_w22 hw) | exact (own_w23 hw) | exact (own_w24 hw) | exact (own_w25 hw) | exact (own_w26 hw) | exact (own_w27 hw) | exact (own_w28 hw)
  · first | exact (own_w22 hw) | exact (own_w23 hw) | exact (own_w24 hw) | exact (own_w25 hw) | exact (own_w26 hw) | exact (own_w27 hw) | exact (own_w28 hw)
theorem own_d1_0 : decode prog_38_method_5_code 0 = .ok (.invokestatic 33, 3) := by decide +kernel
theorem own_d1_3 : decode prog_38_method_5_code 3 = .ok (.iload_n 0, 1) := by decide +kernel
theorem own_d1_4 : decode prog_38_method_5_code 4 = .ok (.ldc 37, 2) := by decide +kernel
theorem own_d1_6 : decode prog_38_method_5_code 6 = .ok (.invokestatic 39, 3) := by decide +kernel
theorem own_d1_9 : decode prog_38_method_5_code 9 = .ok (.checkcast 1, 3) := by decide +kernel
theorem own_d1_12 : decode prog_38_method_5_code 12 = .ok (.areturn, 1) := by decide +kernel
def own_Gov (h0 : Heap) (A : Nat → Addr) (y : Int32) : Option Value → Heap → List Loc → Prop := fun v h L => v = some (.ref (own_g A y)) ∧ L = [] ∧ Ext h0 h
set_option maxRecDepth 65536 in
set_option maxHeartbeats 40000000 in
theorem rm_governing (l : Launch) {Z : State} {a0 : Array Value} (hw : ∀ d ∈ tables_1, d.before a0 Z = true) {A : Nat → Addr} {h0 : Heap} (W : own_W Z h0 A) (y : Int32) (hy : ¬ y < (1997 : Int32)) :
    own_DoesW l Z (⟨"com/example/threshline/threshline/Handbook", "governing", "(I)Lcom/example/threshline/threshline/Handbook;"⟩ : MethodName) prog_38_method_5_code 1 (some (.object "com/example/threshline/threshline/Handbook")) [] ({ frames := 2, cells := 3, slots := 146, locals := 27 } : Room) #[(.int y)] h0 (own_Gov h0 A y) := by
  refine own_bodyW own_pn0 ?_
  intro p e s m below meth c T0 hx hby hml hret hlk hnm hown hZ hS X0 e0
  refine own_tr (XT.entry (Ls := #[.val (.int y)]) rfl) ?_
  show own_Goes p e below _ (T0.setTop (mkF m 0 #[.val (.int y)] []))
  refine own_callS X0 hx hZ (W := 0) (argsL := []) (rest := []) hown (own_w4 hw) (own_w5 hw) (own_w2 hw) (own_w6 hw) (by decide) e0 (rm_values l hw W) (by decide) (by decide) (by decide) (by decide) (by rw [hml]; rfl) (lenOf own_pd1 rfl) rfl (Nat.le_of_ble_eq_true rfl) (hb hby own_d1_0) fun v1 T1 L1 X1 hQ1 => ?_
  obtain ⟨rfl, rfl, EE1, F1⟩ := hQ1
  rw [List.append_nil] at X1
  have e1 : T1.heap = T1.heap := rfl
  show own_Goes p e below _ (T1.setTop (mkF m 3 #[.val (.int y)] [(.ref h0.size)]))
  refine own_by (fun _ zz => XS.iloadN X1.here hx rfl (hb hby own_d1_3) rfl zz) ?_
  show own_Goes p e below _ (T1.setTop (mkF m 4 #[.val (.int y)] [(.int y), (.ref h0.size)]))
  refine own_ldcS X1 hx hZ hown (hw _ (List.mem_of_getElem? (i := 21) rfl)) (own_strs hw) e1 hS (Nat.zero_le _) (hb hby own_d1_4) (n := 140) (by decide +kernel) (by decide) (by decide) (by decide) fun a2 T2 h2 k2 X2 e2 E2 hS2 hk2 hZ2 hown2 => ?_
  have EE2 := own_Ext.trans EE1 E2
  have W2 := own_Wext W EE2
  have F3 := F1.ext E2
  show own_Goes p e below _ (T2.setTop (mkF m 6 #[.val (.int y)] [(.ref a2), (.int y), (.ref h0.size)]))
  refine own_callS0 X2 hx hZ2 (W := 0) (argsL := [(.ref h0.size), (.int y), (.ref a2)]) (rest := []) hown2 (own_w29 hw) (own_w30 hw) (own_w31 hw) (own_w32 hw) (by decide) e2 (rm_gov l hw W2 h0.size y a2 hy F3) (by decide) (by decide) (by decide) (by decide) (by rw [hml]; rfl) (lenOf own_pd2 rfl) rfl (Nat.le_of_ble_eq_true rfl) (hb hby own_d1_6) fun T4 X4 e4 => ?_
  show own_Goes p e below _ (T4.setTop (mkF m 9 #[.val (.int y)] [(.ref (own_g A y))]))
  refine own_cast X4 hx hZ2 hown2 (own_w44 hw) e4 (Ins.of_exa (own_g_exa W2 y) (own_w45 hw)) (hb hby own_d1_9) fun T5 X5 e5 => ?_
  show own_Goes p e below _ (T5.setTop (mkF m 12 #[.val (.int y)] [(.ref (own_g A y))]))
  refine own_retRW X5 hS2 (by rw [e5]; exact hk2) hx hlk hret rfl rfl rfl (hb hby own_d1_12) (by decide) (by decide) ?_
  exact ⟨rfl, rfl, by rw [e5]; exact EE2⟩
theorem own_m31 (x : Int32) : 0 ≤ (x &&& (31 : Int32)).toInt ∧ (x &&& (31 : Int32)).toInt < 2147481651 := by
  have z : (x &&& (31 : Int32)).toInt = x.toInt % 2 ^ 5 := Jvm.Kit.i32_mask x 31 (k := 5) (by decide) (by decide)
  omega
theorem own_yr {x : Int32} (h : 0 ≤ x.toInt ∧ x.toInt < 2147481651) : ¬ ((1997 : Int32) + x) < (1997 : Int32) := by
  have z : (1997 : Int32).toInt = 1997 := by decide
  rw [Int32.lt_iff_toInt_lt, Jvm.Kit.i32_add (by omega) (by omega)]
  omega
theorem own_g_fcy {Z : State} {h : Heap} {A : Nat → Addr} (W : own_W Z h A) (y : Int32) : Fld Z h (own_g A y) "com/example/threshline/threshline/Handbook" "firstCropYear" "I" (.int (if y < (2018 : Int32) then 1997 else 2018)) := by
  unfold own_g; split
  · exact (own_f8 W)
  · exact (own_f7 W)
def own_Q (h0 : Heap) (v : Option Value) (h : Heap) (L : List Loc) : Prop := v = some (.int 1) ∧ L = []
set_option maxRecDepth 65536 in
set_option maxHeartbeats 40000000 in
theorem rm_law (l : Launch) {Z : State} {a0 : Array Value} (hw : ∀ d ∈ tables_1, d.before a0 Z = true) (ws : List Jvm.Cond) {A : Nat → Addr} {h0 : Heap} (W : own_W Z h0 A) (p0 : Int32) (p1 : Int32) :
    own_DoesW l Z x code maxLocals ret ws room_1 #[(.int p0), (.int p1)] h0 (own_Q h0) := by
  refine own_bodyW own_pn2 ?_
  intro p e s m below meth c T0 hx hby hml hret hlk hnm hown hZ hS X0 e0
  refine own_tr (XT.entry (Ls := #[.val (.int p0), .val (.int p1), .unset, .unset, .unset]) rfl) ?_
  show own_Goes p e below _ (T0.setTop (mkF m 0 #[.val (.int p0), .val (.int p1), .unset, .unset, .unset] []))
  refine own_by (fun _ zz => XS.iloadN X0.here hx rfl (hb hby at_0) rfl zz) ?_
  show own_Goes p e below _ (T0.setTop (mkF m 1 #[.val (.int p0), .val (.int p1), .unset, .unset, .unset] [(.int p1)]))
  refine own_by (fun _ zz => XS.iconst X0.here hx rfl (hb hby at_1) zz) ?_
  show own_Goes p e below _ (T0.setTop (mkF m 2 #[.val (.int p0), .val (.int p1), .unset, .unset, .unset] [(.int (1 : Int32)), (.int p1)]))
  refine own_by (fun _ zz => XS.iand X0.here hx rfl (hb hby at_2) rfl zz) ?_
  show own_Goes p e below _ (T0.setTop (mkF m 3 #[.val (.int p0), .val (.int p1), .unset, .unset, .unset] [(.int (p1 &&& (1 : Int32)))]))
  by_cases q1 : (p1 &&& (1 : Int32)) = 0
  · refine own_by (fun _ zz => XS.ifYes X0.here hx rfl (pc0 := 3) (pc' := 18) rfl (hb hby at_3) rfl (XT.i0_eq_t q1) (by decide) (by decide) zz) ?_
    show own_Goes p e below _ (T0.setTop (mkF m 18 #[.val (.int p0), .val (.int p1), .unset, .unset, .unset] []))
    refine own_by (fun _ zz => XS.iloadN X0.here hx rfl (hb hby at_18) rfl zz) ?_
    show own_Goes p e below _ (T0.setTop (mkF m 19 #[.val (.int p0), .val (.int p1), .unset, .unset, .unset] [(.int p0)]))
    refine own_by (fun _ zz => XS.sipush X0.here hx rfl (hb hby at_19) zz) ?_
    show own_Goes p e below _ (T0.setTop (mkF m 22 #[.val (.int p0), .val (.int p1), .unset, .unset, .unset] [(.int (1997 : Int32)), (.int p0)]))
    by_cases q2 : p0 < (1997 : Int32)
    · refine own_by (fun _ zz => XS.icmpYes X0.here hx rfl (pc0 := 22) (pc' := 30) rfl (hb hby at_22) rfl (XT.ii_lt_t q2) (by decide) (by decide) zz) ?_
      show own_Goes p e below _ (T0.setTop (mkF m 30 #[.val (.int p0), .val (.int p1), .unset, .unset, .unset] []))
      refine own_by (fun _ zz => XS.sipush X0.here hx rfl (hb hby at_30) zz) ?_
      show own_Goes p e below _ (T0.setTop (mkF m 33 #[.val (.int p0), .val (.int p1), .unset, .unset, .unset] [(.int (1997 : Int32))]))
      refine own_by (fun _ zz => XS.iloadN X0.here hx rfl (hb hby at_33) rfl zz) ?_
      show own_Goes p e below _ (T0.setTop (mkF m 34 #[.val (.int p0), .val (.int p1), .unset, .unset, .unset] [(.int p0), (.int (1997 : Int32))]))
      refine own_by (fun _ zz => X0.ldcI hx hown (mvT hZ (own_w50 hw)) rfl (hb hby at_34) zz) ?_
      show own_Goes p e below _ (T0.setTop (mkF m 36 #[.val (.int p0), .val (.int p1), .unset, .unset, .unset] [(.int (2147483647 : Int32)), (.int p0), (.int (1997 : Int32))]))
      refine own_by (fun _ zz => XS.iand X0.here hx rfl (hb hby at_36) rfl zz) ?_
      show own_Goes p e below _ (T0.setTop (mkF m 37 #[.val (.int p0), .val (.int p1), .unset, .unset, .unset] [(.int (p0 &&& (2147483647 : Int32))), (.int (1997 : Int32))]))
      refine own_by (fun _ zz => X0.ldcI hx hown (mvT hZ (own_w51 hw)) rfl (hb hby at_37) zz) ?_
      show own_Goes p e below _ (T0.setTop (mkF m 39 #[.val (.int p0), .val (.int p1), .unset, .unset, .unset] [(.int (2147481651 : Int32)), (.int (p0 &&& (2147483647 : Int32))), (.int (1997 : Int32))]))
      refine own_by (fun _ zz => iremM X0 hx rfl (hb hby at_39) rfl (by decide) zz) ?_
      show own_Goes p e below _ (T0.setTop (mkF m 40 #[.val (.int p0), .val (.int p1), .unset, .unset, .unset] [(.int ((p0 &&& (2147483647 : Int32)) % (2147481651 : Int32))), (.int (1997 : Int32))]))
      refine own_by (fun _ zz => XS.iadd X0.here hx rfl (hb hby at_40) rfl zz) ?_
      show own_Goes p e below _ (T0.setTop (mkF m 41 #[.val (.int p0), .val (.int p1), .unset, .unset, .unset] [(.int ((1997 : Int32) + ((p0 &&& (2147483647 : Int32)) % (2147481651 : Int32))))]))
      refine own_by (fun _ zz => XS.istoreN X0.here hx rfl (hb hby at_41) rfl (l' := #[.val (.int p0), .val (.int p1), .val (.int ((1997 : Int32) + ((p0 &&& (2147483647 : Int32)) % (2147481651 : Int32)))), .unset, .unset]) rfl zz) ?_
      show own_Goes p e below _ (T0.setTop (mkF m 42 #[.val (.int p0), .val (.int p1), .val (.int ((1997 : Int32) + ((p0 &&& (2147483647 : Int32)) % (2147481651 : Int32)))), .unset, .unset] []))
      refine own_by (fun _ zz => XS.iloadN X0.here hx rfl (hb hby at_42) rfl zz) ?_
      show own_Goes p e below _ (T0.setTop (mkF m 43 #[.val (.int p0), .val (.int p1), .val (.int ((1997 : Int32) + ((p0 &&& (2147483647 : Int32)) % (2147481651 : Int32)))), .unset, .unset] [(.int ((1997 : Int32) + ((p0 &&& (2147483647 : Int32)) % (2147481651 : Int32))))]))
      refine own_callSS X0 hx hZ hS (Nat.zero_le _) (W := 0) (argsL := [(.int ((1997 : Int32) + ((p0 &&& (2147483647 : Int32)) % (2147481651 : Int32))))]) (rest := []) hown (own_w0 hw) (own_w1 hw) (own_w2 hw) (own_w3 hw) (by decide) e0 (rm_governing l hw W ((1997 : Int32) + ((p0 &&& (2147483647 : Int32)) % (2147481651 : Int32))) (own_yr (own_mod p0 2147481651 2147481651 (by decide) (by decide)))) (by decide) (by decide) (by decide) (by decide) (by rw [hml]; rfl) (lenOf own_pd3 rfl) rfl (Nat.le_of_ble_eq_true rfl) (hb hby at_43) fun v3 T3 L3 X3 hS3 hZ3 hown3 hQ3 => ?_
      obtain ⟨rfl, rfl, EE3⟩ := hQ3
      rw [List.append_nil] at X3
      have e3 : T3.heap = T3.heap := rfl
      have W3 := own_Wext W EE3
      have hk3 : T3.heap.size ≤ T3.heap.size := Nat.le_refl _
      show own_Goes p e below _ (T3.setTop (mkF m 46 #[.val (.int p0), .val (.int p1), .val (.int ((1997 : Int32) + ((p0 &&& (2147483647 : Int32)) % (2147481651 : Int32)))), .unset, .unset] [(.ref (own_g A ((1997 : Int32) + ((p0 &&& (2147483647 : Int32)) % (2147481651 : Int32)))))]))
      refine own_by (fun _ zz => XS.astoreN X3.here hx rfl (hb hby at_46) rfl rfl (l' := #[.val (.int p0), .val (.int p1), .val (.int ((1997 : Int32) + ((p0 &&& (2147483647 : Int32)) % (2147481651 : Int32)))), .val (.ref (own_g A ((1997 : Int32) + ((p0 &&& (2147483647 : Int32)) % (2147481651 : Int32))))), .unset]) rfl zz) ?_
      show own_Goes p e below _ (T3.setTop (mkF m 47 #[.val (.int p0), .val (.int p1), .val (.int ((1997 : Int32) + ((p0 &&& (2147483647 : Int32)) % (2147481651 : Int32)))), .val (.ref (own_g A ((1997 : Int32) + ((p0 &&& (2147483647 : Int32)) % (2147481651 : Int32))))), .unset] []))
      refine own_by (fun _ zz => XS.iloadN X3.here hx rfl (hb hby at_47) rfl zz) ?_
      show own_Goes p e below _ (T3.setTop (mkF m 48 #[.val (.int p0), .val (.int p1), .val (.int ((1997 : Int32) + ((p0 &&& (2147483647 : Int32)) % (2147481651 : Int32)))), .val (.ref (own_g A ((1997 : Int32) + ((p0 &&& (2147483647 : Int32)) % (2147481651 : Int32))))), .unset] [(.int ((1997 : Int32) + ((p0 &&& (2147483647 : Int32)) % (2147481651 : Int32))))]))
      refine own_by (fun _ zz => XS.sipush X3.here hx rfl (hb hby at_48) zz) ?_
      show own_Goes p e below _ (T3.setTop (mkF m 51 #[.val (.int p0), .val (.int p1), .val (.int ((1997 : Int32) + ((p0 &&& (2147483647 : Int32)) % (2147481651 : Int32)))), .val (.ref (own_g A ((1997 : Int32) + ((p0 &&& (2147483647 : Int32)) % (2147481651 : Int32))))), .unset] [(.int (2018 : Int32)), (.int ((1997 : Int32) + ((p0 &&& (2147483647 : Int32)) % (2147481651 : Int32))))]))
      by_cases q4 : ((1997 : Int32) + ((p0 &&& (2147483647 : Int32)) % (2147481651 : Int32))) < (2018 : Int32)
      · refine own_by (fun _ zz => XS.icmpYes X3.here hx rfl (pc0 := 51) (pc' := 62) rfl (hb hby at_51) rfl (XT.ii_lt_t q4) (by decide) (by decide) zz) ?_
        show own_Goes p e below _ (T3.setTop (mkF m 62 #[.val (.int p0), .val (.int p1), .val (.int ((1997 : Int32) + ((p0 &&& (2147483647 : Int32)) % (2147481651 : Int32)))), .val (.ref (own_g A ((1997 : Int32) + ((p0 &&& (2147483647 : Int32)) % (2147481651 : Int32))))), .unset] []))
        refine own_getS X3 hx hZ3 hown3 (own_w46 hw) e3 (own_f2 W3) (hb hby at_62) fun T5 X5 e5 => ?_
        show own_Goes p e below _ (T5.setTop (mkF m 65 #[.val (.int p0), .val (.int p1), .val (.int ((1997 : Int32) + ((p0 &&& (2147483647 : Int32)) % (2147481651 : Int32)))), .val (.ref (own_g A ((1997 : Int32) + ((p0 &&& (2147483647 : Int32)) % (2147481651 : Int32))))), .unset] [(.ref (A 1))]))
        refine own_by (fun _ zz => XS.astore X5.here hx rfl (hb hby at_65) rfl rfl (l' := #[.val (.int p0), .val (.int p1), .val (.int ((1997 : Int32) + ((p0 &&& (2147483647 : Int32)) % (2147481651 : Int32)))), .val (.ref (own_g A ((1997 : Int32) + ((p0 &&& (2147483647 : Int32)) % (2147481651 : Int32))))), .val (.ref (A 1))]) rfl zz) ?_
        show own_Goes p e below _ (T5.setTop (mkF m 67 #[.val (.int p0), .val (.int p1), .val (.int ((1997 : Int32) + ((p0 &&& (2147483647 : Int32)) % (2147481651 : Int32)))), .val (.ref (own_g A ((1997 : Int32) + ((p0 &&& (2147483647 : Int32)) % (2147481651 : Int32))))), .val (.ref (A 1))] []))
        refine own_by (fun _ zz => XS.aloadN X5.here hx rfl (hb hby at_67) rfl rfl zz) ?_
        show own_Goes p e below _ (T5.setTop (mkF m 68 #[.val (.int p0), .val (.int p1), .val (.int ((1997 : Int32) + ((p0 &&& (2147483647 : Int32)) % (2147481651 : Int32)))), .val (.ref (own_g A ((1997 : Int32) + ((p0 &&& (2147483647 : Int32)) % (2147481651 : Int32))))), .val (.ref (A 1))] [(.ref (own_g A ((1997 : Int32) + ((p0 &&& (2147483647 : Int32)) % (2147481651 : Int32)))))]))
        refine own_by (fun _ zz => XS.aload X5.here hx rfl (hb hby at_68) rfl rfl zz) ?_
        show own_Goes p e below _ (T5.setTop (mkF m 70 #[.val (.int p0), .val (.int p1), .val (.int ((1997 : Int32) + ((p0 &&& (2147483647 : Int32)) % (2147481651 : Int32)))), .val (.ref (own_g A ((1997 : Int32) + ((p0 &&& (2147483647 : Int32)) % (2147481651 : Int32))))), .val (.ref (A 1))] [(.ref (A 1)), (.ref (own_g A ((1997 : Int32) + ((p0 &&& (2147483647 : Int32)) % (2147481651 : Int32)))))]))
        refine own_by (fun _ zz => XT.acmpNo X5.here hx rfl (hb hby at_70) rfl rfl rfl (XT.aa_ne_f (congrArg Value.ref (by unfold own_g; exact if_pos q4))) zz) ?_
        show own_Goes p e below _ (T5.setTop (mkF m 73 #[.val (.int p0), .val (.int p1), .val (.int ((1997 : Int32) + ((p0 &&& (2147483647 : Int32)) % (2147481651 : Int32)))), .val (.ref (own_g A ((1997 : Int32) + ((p0 &&& (2147483647 : Int32)) % (2147481651 : Int32))))), .val (.ref (A 1))] []))
        refine own_by (fun _ zz => XS.aloadN X5.here hx rfl (hb hby at_73) rfl rfl zz) ?_
        show own_Goes p e below _ (T5.setTop (mkF m 74 #[.val (.int p0), .val (.int p1), .val (.int ((1997 : Int32) + ((p0 &&& (2147483647 : Int32)) % (2147481651 : Int32)))), .val (.ref (own_g A ((1997 : Int32) + ((p0 &&& (2147483647 : Int32)) % (2147481651 : Int32))))), .val (.ref (A 1))] [(.ref (own_g A ((1997 : Int32) + ((p0 &&& (2147483647 : Int32)) % (2147481651 : Int32)))))]))
        refine own_callV0 X5 hx hZ3 (W := 0) (K := "com/example/threshline/threshline/Handbook") (argsL := []) (rest := []) hown3 (own_w47 hw) (own_w48 hw) (own_w49 hw) (own_w37 hw) (own_w41 hw) (own_w2 hw) (by decide) e5 (own_g_exa W3 ((1997 : Int32) + ((p0 &&& (2147483647 : Int32)) % (2147481651 : Int32)))) (rm_fcy l hw W3 (own_g A ((1997 : Int32) + ((p0 &&& (2147483647 : Int32)) % (2147481651 : Int32)))) (if ((1997 : Int32) + ((p0 &&& (2147483647 : Int32)) % (2147481651 : Int32))) < (2018 : Int32) then 1997 else 2018) (own_g_fcy W3 ((1997 : Int32) + ((p0 &&& (2147483647 : Int32)) % (2147481651 : Int32))))) (by decide) (by decide) (by decide) (by decide) (by rw [hml]; rfl) (lenOf own_pd0 rfl) rfl (Nat.le_of_ble_eq_true rfl) (hb hby at_74) fun T6 X6 e6 => ?_
        show own_Goes p e below _ (T6.setTop (mkF m 77 #[.val (.int p0), .val (.int p1), .val (.int ((1997 : Int32) + ((p0 &&& (2147483647 : Int32)) % (2147481651 : Int32)))), .val (.ref (own_g A ((1997 : Int32) + ((p0 &&& (2147483647 : Int32)) % (2147481651 : Int32))))), .val (.ref (A 1))] [(.int (own_r_fcy A (own_g A ((1997 : Int32) + ((p0 &&& (2147483647 : Int32)) % (2147481651 : Int32)))) (if ((1997 : Int32) + ((p0 &&& (2147483647 : Int32)) % (2147481651 : Int32))) < (2018 : Int32) then 1997 else 2018)))]))
        refine own_by (fun _ zz => XS.iloadN X6.here hx rfl (hb hby at_77) rfl zz) ?_
        show own_Goes p e below _ (T6.setTop (mkF m 78 #[.val (.int p0), .val (.int p1), .val (.int ((1997 : Int32) + ((p0 &&& (2147483647 : Int32)) % (2147481651 : Int32)))), .val (.ref (own_g A ((1997 : Int32) + ((p0 &&& (2147483647 : Int32)) % (2147481651 : Int32))))), .val (.ref (A 1))] [(.int ((1997 : Int32) + ((p0 &&& (2147483647 : Int32)) % (2147481651 : Int32)))), (.int (own_r_fcy A (own_g A ((1997 : Int32) + ((p0 &&& (2147483647 : Int32)) % (2147481651 : Int32)))) (if ((1997 : Int32) + ((p0 &&& (2147483647 : Int32)) % (2147481651 : Int32))) < (2018 : Int32) then 1997 else 2018)))]))
        refine own_by (fun _ zz => XS.icmpNo X6.here hx rfl (hb hby at_78) rfl (XT.ii_gt_f (by unfold own_r_fcy; rw [if_pos q4]; exact (own_yr (own_mod p0 2147481651 2147481651 (by decide) (by decide))))) zz) ?_
        show own_Goes p e below _ (T6.setTop (mkF m 81 #[.val (.int p0), .val (.int p1), .val (.int ((1997 : Int32) + ((p0 &&& (2147483647 : Int32)) % (2147481651 : Int32)))), .val (.ref (own_g A ((1997 : Int32) + ((p0 &&& (2147483647 : Int32)) % (2147481651 : Int32))))), .val (.ref (A 1))] []))
        refine own_by (fun _ zz => XS.iconst X6.here hx rfl (hb hby at_81) zz) ?_
        show own_Goes p e below _ (T6.setTop (mkF m 82 #[.val (.int p0), .val (.int p1), .val (.int ((1997 : Int32) + ((p0 &&& (2147483647 : Int32)) % (2147481651 : Int32)))), .val (.ref (own_g A ((1997 : Int32) + ((p0 &&& (2147483647 : Int32)) % (2147481651 : Int32))))), .val (.ref (A 1))] [(.int (1 : Int32))]))
        refine own_by (fun _ zz => XS.goto X6.here hx rfl (pc0 := 82) (pc' := 86) rfl (hb hby at_82) (by decide) (by decide) zz) ?_
        show own_Goes p e below _ (T6.setTop (mkF m 86 #[.val (.int p0), .val (.int p1), .val (.int ((1997 : Int32) + ((p0 &&& (2147483647 : Int32)) % (2147481651 : Int32)))), .val (.ref (own_g A ((1997 : Int32) + ((p0 &&& (2147483647 : Int32)) % (2147481651 : Int32))))), .val (.ref (A 1))] [(.int (1 : Int32))]))
        refine own_retNW X6 hS3 (by rw [e6]; exact hk3) hx hlk (ty := .boolean) hret (by simp) (hb hby at_86) (by decide) (by decide) ?_
        exact ⟨rfl, rfl⟩
      · refine own_by (fun _ zz => XS.icmpNo X3.here hx rfl (hb hby at_51) rfl (XT.ii_lt_f q4) zz) ?_
        show own_Goes p e below _ (T3.setTop (mkF m 54 #[.val (.int p0), .val (.int p1), .val (.int ((1997 : Int32) + ((p0 &&& (2147483647 : Int32)) % (2147481651 : Int32)))), .val (.ref (own_g A ((1997 : Int32) + ((p0 &&& (2147483647 : Int32)) % (2147481651 : Int32))))), .unset] []))
        refine own_getS X3 hx hZ3 hown3 (own_w52 hw) e3 (own_f4 W3) (hb hby at_54) fun T7 X7 e7 => ?_
        show own_Goes p e below _ (T7.setTop (mkF m 57 #[.val (.int p0), .val (.int p1), .val (.int ((1997 : Int32) + ((p0 &&& (2147483647 : Int32)) % (2147481651 : Int32)))), .val (.ref (own_g A ((1997 : Int32) + ((p0 &&& (2147483647 : Int32)) % (2147481651 : Int32))))), .unset] [(.ref (A 2))]))
        refine own_by (fun _ zz => XS.astore X7.here hx rfl (hb hby at_57) rfl rfl (l' := #[.val (.int p0), .val (.int p1), .val (.int ((1997 : Int32) + ((p0 &&& (2147483647 : Int32)) % (2147481651 : Int32)))), .val (.ref (own_g A ((1997 : Int32) + ((p0 &&& (2147483647 : Int32)) % (2147481651 : Int32))))), .val (.ref (A 2))]) rfl zz) ?_
        show own_Goes p e below _ (T7.setTop (mkF m 59 #[.val (.int p0), .val (.int p1), .val (.int ((1997 : Int32) + ((p0 &&& (2147483647 : Int32)) % (2147481651 : Int32)))), .val (.ref (own_g A ((1997 : Int32) + ((p0 &&& (2147483647 : Int32)) % (2147481651 : Int32))))), .val (.ref (A 2))] []))
        refine own_by (fun _ zz => XS.goto X7.here hx rfl (pc0 := 59) (pc' := 67) rfl (hb hby at_59) (by decide) (by decide) zz) ?_
        show own_Goes p e below _ (T7.setTop (mkF m 67 #[.val (.int p0), .val (.int p1), .val (.int ((1997 : Int32) + ((p0 &&& (2147483647 : Int32)) % (2147481651 : Int32)))), .val (.ref (own_g A ((1997 : Int32) + ((p0 &&& (2147483647 : Int32)) % (2147481651 : Int32))))), .val (.ref (A 2))] []))
        refine own_by (fun _ zz => XS.aloadN X7.here hx rfl (hb hby at_67) rfl rfl zz) ?_
        show own_Goes p e below _ (T7.setTop (mkF m 68 #[.val (.int p0), .val (.int p1), .val (.int ((1997 : Int32) + ((p0 &&& (2147483647 : Int32)) % (2147481651 : Int32)))), .val (.ref (own_g A ((1997 : Int32) + ((p0 &&& (2147483647 : Int32)) % (2147481651 : Int32))))), .val (.ref (A 2))] [(.ref (own_g A ((1997 : Int32) + ((p0 &&& (2147483647 : Int32)) % (2147481651 : Int32)))))]))
        refine own_by (fun _ zz => XS.aload X7.here hx rfl (hb hby at_68) rfl rfl zz) ?_
        show own_Goes p e below _ (T7.setTop (mkF m 70 #[.val (.int p0), .val (.int p1), .val (.int ((1997 : Int32) + ((p0 &&& (2147483647 : Int32)) % (2147481651 : Int32)))), .val (.ref (own_g A ((1997 : Int32) + ((p0 &&& (2147483647 : Int32)) % (2147481651 : Int32))))), .val (.ref (A 2))] [(.ref (A 2)), (.ref (own_g A ((1997 : Int32) + ((p0 &&& (2147483647 : Int32)) % (2147481651 : Int32)))))]))
        refine own_by (fun _ zz => XT.acmpNo X7.here hx rfl (hb hby at_70) rfl rfl rfl (XT.aa_ne_f (congrArg Value.ref (by unfold own_g; exact if_neg q4))) zz) ?_
        show own_Goes p e below _ (T7.setTop (mkF m 73 #[.val (.int p0), .val (.int p1), .val (.int ((1997 : Int32) + ((p0 &&& (2147483647 : Int32)) % (2147481651 : Int32)))), .val (.ref (own_g A ((1997 : Int32) + ((p0 &&& (2147483647 : Int32)) % (2147481651 : Int32))))), .val (.ref (A 2))] []))
        refine own_by (fun _ zz => XS.aloadN X7.here hx rfl (hb hby at_73) rfl rfl zz) ?_
        show own_Goes p e below _ (T7.setTop (mkF m 74 #[.val (.int p0), .val (.int p1), .val (.int ((1997 : Int32) + ((p0 &&& (2147483647 : Int32)) % (2147481651 : Int32)))), .val (.ref (own_g A ((1997 : Int32) + ((p0 &&& (2147483647 : Int32)) % (2147481651 : Int32))))), .val (.ref (A 2))] [(.ref (own_g A ((1997 : Int32) + ((p0 &&& (2147483647 : Int32)) % (2147481651 : Int32)))))]))
        refine own_callV0 X7 hx hZ3 (W := 0) (K := "com/example/threshline/threshline/Handbook") (argsL := []) (rest := []) hown3 (own_w47 hw) (own_w48 hw) (own_w49 hw) (own_w37 hw) (own_w41 hw) (own_w2 hw) (by decide) e7 (own_g_exa W3 ((1997 : Int32) + ((p0 &&& (2147483647 : Int32)) % (2147481651 : Int32)))) (rm_fcy l hw W3 (own_g A ((1997 : Int32) + ((p0 &&& (2147483647 : Int32)) % (2147481651 : Int32)))) (if ((1997 : Int32) + ((p0 &&& (2147483647 : Int32)) % (2147481651 : Int32))) < (2018 : Int32) then 1997 else 2018) (own_g_fcy W3 ((1997 : Int32) + ((p0 &&& (2147483647 : Int32)) % (2147481651 : Int32))))) (by decide) (by decide) (by decide) (by decide) (by rw [hml]; rfl) (lenOf own_pd0 rfl) rfl (Nat.le_of_ble_eq_true rfl) (hb hby at_74) fun T8 X8 e8 => ?_
        show own_Goes p e below _ (T8.setTop (mkF m 77 #[.val (.int p0), .val (.int p1), .val (.int ((1997 : Int32) + ((p0 &&& (2147483647 : Int32)) % (2147481651 : Int32)))), .val (.ref (own_g A ((1997 : Int32) + ((p0 &&& (2147483647 : Int32)) % (2147481651 : Int32))))), .val (.ref (A 2))] [(.int (own_r_fcy A (own_g A ((1997 : Int32) + ((p0 &&& (2147483647 : Int32)) % (2147481651 : Int32)))) (if ((1997 : Int32) + ((p0 &&& (2147483647 : Int32)) % (2147481651 : Int32))) < (2018 : Int32) then 1997 else 2018)))]))
        refine own_by (fun _ zz => XS.iloadN X8.here hx rfl (hb hby at_77) rfl zz) ?_
        show own_Goes p e below _ (T8.setTop (mkF m 78 #[.val (.int p0), .val (.int p1), .val (.int ((1997 : Int32) + ((p0 &&& (2147483647 : Int32)) % (2147481651 : Int32)))), .val (.ref (own_g A ((1997 : Int32) + ((p0 &&& (2147483647 : Int32)) % (2147481651 : Int32))))), .val (.ref (A 2))] [(.int ((1997 : Int32) + ((p0 &&& (2147483647 : Int32)) % (2147481651 : Int32)))), (.int (own_r_fcy A (own_g A ((1997 : Int32) + ((p0 &&& (2147483647 : Int32)) % (2147481651 : Int32)))) (if ((1997 : Int32) + ((p0 &&& (2147483647 : Int32)) % (2147481651 : Int32))) < (2018 : Int32) then 1997 else 2018)))]))
        refine own_by (fun _ zz => XS.icmpNo X8.here hx rfl (hb hby at_78) rfl (XT.ii_gt_f (by unfold own_r_fcy; rw [if_neg q4]; exact q4)) zz) ?_
        show own_Goes p e below _ (T8.setTop (mkF m 81 #[.val (.int p0), .val (.int p1), .val (.int ((1997 : Int32) + ((p0 &&& (2147483647 : Int32)) % (2147481651 : Int32)))), .val (.ref (own_g A ((1997 : Int32) + ((p0 &&& (2147483647 : Int32)) % (2147481651 : Int32))))), .val (.ref (A 2))] []))
        refine own_by (fun _ zz => XS.iconst X8.here hx rfl (hb hby at_81) zz) ?_
        show own_Goes p e below _ (T8.setTop (mkF m 82 #[.val (.int p0), .val (.int p1), .val (.int ((1997 : Int32) + ((p0 &&& (2147483647 : Int32)) % (2147481651 : Int32)))), .val (.ref (own_g A ((1997 : Int32) + ((p0 &&& (2147483647 : Int32)) % (2147481651 : Int32))))), .val (.ref (A 2))] [(.int (1 : Int32))]))
        refine own_by (fun _ zz => XS.goto X8.here hx rfl (pc0 := 82) (pc' := 86) rfl (hb hby at_82) (by decide) (by decide) zz) ?_
        show own_Goes p e below _ (T8.setTop (mkF m 86 #[.val (.int p0), .val (.int p1), .val (.int ((1997 : Int32) + ((p0 &&& (2147483647 : Int32)) % (2147481651 : Int32)))), .val (.ref (own_g A ((1997 : Int32) + ((p0 &&& (2147483647 : Int32)) % (2147481651 : Int32))))), .val (.ref (A 2))] [(.int (1 : Int32))]))
        refine own_retNW X8 hS3 (by rw [e8]; exact hk3) hx hlk (ty := .boolean) hret (by simp) (hb hby at_86) (by decide) (by decide) ?_
        exact ⟨rfl, rfl⟩
    · refine own_by (fun _ zz => XS.icmpNo X0.here hx rfl (hb hby at_22) rfl (XT.ii_lt_f q2) zz) ?_
      show own_Goes p e below _ (T0.setTop (mkF m 25 #[.val (.int p0), .val (.int p1), .unset, .unset, .unset] []))
      refine own_by (fun _ zz => XS.iloadN X0.here hx rfl (hb hby at_25) rfl zz) ?_
      show own_Goes p e below _ (T0.setTop (mkF m 26 #[.val (.int p0), .val (.int p1), .unset, .unset, .unset] [(.int p0)]))
      refine own_by (fun _ zz => XS.istoreN X0.here hx rfl (hb hby at_26) rfl (l' := #[.val (.int p0), .val (.int p1), .val (.int p0), .unset, .unset]) rfl zz) ?_
      show own_Goes p e below _ (T0.setTop (mkF m 27 #[.val (.int p0), .val (.int p1), .val (.int p0), .unset, .unset] []))
      refine own_by (fun _ zz => XS.goto X0.here hx rfl (pc0 := 27) (pc' := 42) rfl (hb hby at_27) (by decide) (by decide) zz) ?_
      show own_Goes p e below _ (T0.setTop (mkF m 42 #[.val (.int p0), .val (.int p1), .val (.int p0), .unset, .unset] []))
      refine own_by (fun _ zz => XS.iloadN X0.here hx rfl (hb hby at_42) rfl zz) ?_
      show own_Goes p e below _ (T0.setTop (mkF m 43 #[.val (.int p0), .val (.int p1), .val (.int p0), .unset, .unset] [(.int p0)]))
      refine own_callSS X0 hx hZ hS (Nat.zero_le _) (W := 0) (argsL := [(.int p0)]) (rest := []) hown (own_w0 hw) (own_w1 hw) (own_w2 hw) (own_w3 hw) (by decide) e0 (rm_governing l hw W p0 q2) (by decide) (by decide) (by decide) (by decide) (by rw [hml]; rfl) (lenOf own_pd3 rfl) rfl (Nat.le_of_ble_eq_true rfl) (hb hby at_43) fun v9 T9 L9 X9 hS9 hZ9 hown9 hQ9 => ?_
      obtain ⟨rfl, rfl, EE9⟩ := hQ9
      rw [List.append_nil] at X9
      have e9 : T9.heap = T9.heap := rfl
      have W9 := own_Wext W EE9
      have hk9 : T9.heap.size ≤ T9.heap.size := Nat.le_refl _
      show own_Goes p e below _ (T9.setTop (mkF m 46 #[.val (.int p0), .val (.int p1), .val (.int p0), .unset, .unset] [(.ref (own_g A p0))]))
      refine own_by (fun _ zz => XS.astoreN X9.here hx rfl (hb hby at_46) rfl rfl (l' := #[.val (.int p0), .val (.int p1), .val (.int p0), .val (.ref (own_g A p0)), .unset]) rfl zz) ?_
      show own_Goes p e below _ (T9.setTop (mkF m 47 #[.val (.int p0), .val (.int p1), .val (.int p0), .val (.ref (own_g A p0)), .unset] []))
      refine own_by (fun _ zz => XS.iloadN X9.here hx rfl (hb hby at_47) rfl zz) ?_
      show own_Goes p e below _ (T9.setTop (mkF m 48 #[.val (.int p0), .val (.int p1), .val (.int p0), .val (.ref (own_g A p0)), .unset] [(.int p0)]))
      refine own_by (fun _ zz => XS.sipush X9.here hx rfl (hb hby at_48) zz) ?_
      show own_Goes p e below _ (T9.setTop (mkF m 51 #[.val (.int p0), .val (.int p1), .val (.int p0), .val (.ref (own_g A p0)), .unset] [(.int (2018 : Int32)), (.int p0)]))
      by_cases q10 : p0 < (2018 : Int32)
      · refine own_by (fun _ zz => XS.icmpYes X9.here hx rfl (pc0 := 51) (pc' := 62) rfl (hb hby at_51) rfl (XT.ii_lt_t q10) (by decide) (by decide) zz) ?_
        show own_Goes p e below _ (T9.setTop (mkF m 62 #[.val (.int p0), .val (.int p1), .val (.int p0), .val (.ref (own_g A p0)), .unset] []))
        refine own_getS X9 hx hZ9 hown9 (own_w46 hw) e9 (own_f2 W9) (hb hby at_62) fun T11 X11 e11 => ?_
        show own_Goes p e below _ (T11.setTop (mkF m 65 #[.val (.int p0), .val (.int p1), .val (.int p0), .val (.ref (own_g A p0)), .unset] [(.ref (A 1))]))
        refine own_by (fun _ zz => XS.astore X11.here hx rfl (hb hby at_65) rfl rfl (l' := #[.val (.int p0), .val (.int p1), .val (.int p0), .val (.ref (own_g A p0)), .val (.ref (A 1))]) rfl zz) ?_
        show own_Goes p e below _ (T11.setTop (mkF m 67 #[.val (.int p0), .val (.int p1), .val (.int p0), .val (.ref (own_g A p0)), .val (.ref (A 1))] []))
        refine own_by (fun _ zz => XS.aloadN X11.here hx rfl (hb hby at_67) rfl rfl zz) ?_
        show own_Goes p e below _ (T11.setTop (mkF m 68 #[.val (.int p0), .val (.int p1), .val (.int p0), .val (.ref (own_g A p0)), .val (.ref (A 1))] [(.ref (own_g A p0))]))
        refine own_by (fun _ zz => XS.aload X11.here hx rfl (hb hby at_68) rfl rfl zz) ?_
        show own_Goes p e below _ (T11.setTop (mkF m 70 #[.val (.int p0), .val (.int p1), .val (.int p0), .val (.ref (own_g A p0)), .val (.ref (A 1))] [(.ref (A 1)), (.ref (own_g A p0))]))
        refine own_by (fun _ zz => XT.acmpNo X11.here hx rfl (hb hby at_70) rfl rfl rfl (XT.aa_ne_f (congrArg Value.ref (by unfold own_g; exact if_pos q10))) zz) ?_
        show own_Goes p e below _ (T11.setTop (mkF m 73 #[.val (.int p0), .val (.int p1), .val (.int p0), .val (.ref (own_g A p0)), .val (.ref (A 1))] []))
        refine own_by (fun _ zz => XS.aloadN X11.here hx rfl (hb hby at_73) rfl rfl zz) ?_
        show own_Goes p e below _ (T11.setTop (mkF m 74 #[.val (.int p0), .val (.int p1), .val (.int p0), .val (.ref (own_g A p0)), .val (.ref (A 1))] [(.ref (own_g A p0))]))
        refine own_callV0 X11 hx hZ9 (W := 0) (K := "com/example/threshline/threshline/Handbook") (argsL := []) (rest := []) hown9 (own_w47 hw) (own_w48 hw) (own_w49 hw) (own_w37 hw) (own_w41 hw) (own_w2 hw) (by decide) e11 (own_g_exa W9 p0) (rm_fcy l hw W9 (own_g A p0) (if p0 < (2018 : Int32) then 1997 else 2018) (own_g_fcy W9 p0)) (by decide) (by decide) (by decide) (by decide) (by rw [hml]; rfl) (lenOf own_pd0 rfl) rfl (Nat.le_of_ble_eq_true rfl) (hb hby at_74) fun T12 X12 e12 => ?_
        show own_Goes p e below _ (T12.setTop (mkF m 77 #[.val (.int p0), .val (.int p1), .val (.int p0), .val (.ref (own_g A p0)), .val (.ref (A 1))] [(.int (own_r_fcy A (own_g A p0) (if p0 < (2018 : Int32) then 1997 else 2018)))]))
        refine own_by (fun _ zz => XS.iloadN X12.here hx rfl (hb hby at_77) rfl zz) ?_
        show own_Goes p e below _ (T12.setTop (mkF m 78 #[.val (.int p0), .val (.int p1), .val (.int p0), .val (.ref (own_g A p0)), .val (.ref (A 1))] [(.int p0), (.int (own_r_fcy A (own_g A p0) (if p0 < (2018 : Int32) then 1997 else 2018)))]))
        refine own_by (fun _ zz => XS.icmpNo X12.here hx rfl (hb hby at_78) rfl (XT.ii_gt_f (by unfold own_r_fcy; rw [if_pos q10]; exact q2)) zz) ?_
        show own_Goes p e below _ (T12.setTop (mkF m 81 #[.val (.int p0), .val (.int p1), .val (.int p0), .val (.ref (own_g A p0)), .val (.ref (A 1))] []))
        refine own_by (fun _ zz => XS.iconst X12.here hx rfl (hb hby at_81) zz) ?_
        show own_Goes p e below _ (T12.setTop (mkF m 82 #[.val (.int p0), .val (.int p1), .val (.int p0), .val (.ref (own_g A p0)), .val (.ref (A 1))] [(.int (1 : Int32))]))
        refine own_by (fun _ zz => XS.goto X12.here hx rfl (pc0 := 82) (pc' := 86) rfl (hb hby at_82) (by decide) (by decide) zz) ?_
        show own_Goes p e below _ (T12.setTop (mkF m 86 #[.val (.int p0), .val (.int p1), .val (.int p0), .val (.ref (own_g A p0)), .val (.ref (A 1))] [(.int (1 : Int32))]))
        refine own_retNW X12 hS9 (by rw [e12]; exact hk9) hx hlk (ty := .boolean) hret (by simp) (hb hby at_86) (by decide) (by decide) ?_
        exact ⟨rfl, rfl⟩
      · refine own_by (fun _ zz => XS.icmpNo X9.here hx rfl (hb hby at_51) rfl (XT.ii_lt_f q10) zz) ?_
        show own_Goes p e below _ (T9.setTop (mkF m 54 #[.val (.int p0), .val (.int p1), .val (.int p0), .val (.ref (own_g A p0)), .unset] []))
        refine own_getS X9 hx hZ9 hown9 (own_w52 hw) e9 (own_f4 W9) (hb hby at_54) fun T13 X13 e13 => ?_
        show own_Goes p e below _ (T13.setTop (mkF m 57 #[.val (.int p0), .val (.int p1), .val (.int p0), .val (.ref (own_g A p0)), .unset] [(.ref (A 2))]))
        refine own_by (fun _ zz => XS.astore X13.here hx rfl (hb hby at_57) rfl rfl (l' := #[.val (.int p0), .val (.int p1), .val (.int p0), .val (.ref (own_g A p0)), .val (.ref (A 2))]) rfl zz) ?_
        show own_Goes p e below _ (T13.setTop (mkF m 59 #[.val (.int p0), .val (.int p1), .val (.int p0), .val (.ref (own_g A p0)), .val (.ref (A 2))] []))
        refine own_by (fun _ zz => XS.goto X13.here hx rfl (pc0 := 59) (pc' := 67) rfl (hb hby at_59) (by decide) (by decide) zz) ?_
        show own_Goes p e below _ (T13.setTop (mkF m 67 #[.val (.int p0), .val (.int p1), .val (.int p0), .val (.ref (own_g A p0)), .val (.ref (A 2))] []))
        refine own_by (fun _ zz => XS.aloadN X13.here hx rfl (hb hby at_67) rfl rfl zz) ?_
        show own_Goes p e below _ (T13.setTop (mkF m 68 #[.val (.int p0), .val (.int p1), .val (.int p0), .val (.ref (own_g A p0)), .val (.ref (A 2))] [(.ref (own_g A p0))]))
        refine own_by (fun _ zz => XS.aload X13.here hx rfl (hb hby at_68) rfl rfl zz) ?_
        show own_Goes p e below _ (T13.setTop (mkF m 70 #[.val (.int p0), .val (.int p1), .val (.int p0), .val (.ref (own_g A p0)), .val (.ref (A 2))] [(.ref (A 2)), (.ref (own_g A p0))]))
        refine own_by (fun _ zz => XT.acmpNo X13.here hx rfl (hb hby at_70) rfl rfl rfl (XT.aa_ne_f (congrArg Value.ref (by unfold own_g; exact if_neg q10))) zz) ?_
        show own_Goes p e below _ (T13.setTop (mkF m 73 #[.val (.int p0), .val (.int p1), .val (.int p0), .val (.ref (own_g A p0)), .val (.ref (A 2))] []))
        refine own_by (fun _ zz => XS.aloadN X13.here hx rfl (hb hby at_73) rfl rfl zz) ?_
        show own_Goes p e below _ (T13.setTop (mkF m 74 #[.val (.int p0), .val (.int p1), .val (.int p0), .val (.ref (own_g A p0)), .val (.ref (A 2))] [(.ref (own_g A p0))]))
        refine own_callV0 X13 hx hZ9 (W := 0) (K := "com/example/threshline/threshline/Handbook") (argsL := []) (rest := []) hown9 (own_w47 hw) (own_w48 hw) (own_w49 hw) (own_w37 hw) (own_w41 hw) (own_w2 hw) (by decide) e13 (own_g_exa W9 p0) (rm_fcy l hw W9 (own_g A p0) (if p0 < (2018 : Int32) then 1997 else 2018) (own_g_fcy W9 p0)) (by decide) (by decide) (by decide) (by decide) (by rw [hml]; rfl) (lenOf own_pd0 rfl) rfl (Nat.le_of_ble_eq_true rfl) (hb hby at_74) fun T14 X14 e14 => ?_
        show own_Goes p e below _ (T14.setTop (mkF m 77 #[.val (.int p0), .val (.int p1), .val (.int p0), .val (.ref (own_g A p0)), .val (.ref (A 2))] [(.int (own_r_fcy A (own_g A p0) (if p0 < (2018 : Int32) then 1997 else 2018)))]))
        refine own_by (fun _ zz => XS.iloadN X14.here hx rfl (hb hby at_77) rfl zz) ?_
        show own_Goes p e below _ (T14.setTop (mkF m 78 #[.val (.int p0), .val (.int p1), .val (.int p0), .val (.ref (own_g A p0)), .val (.ref (A 2))] [(.int p0), (.int (own_r_fcy A (own_g A p0) (if p0 < (2018 : Int32) then 1997 else 2018)))]))
        refine own_by (fun _ zz => XS.icmpNo X14.here hx rfl (hb hby at_78) rfl (XT.ii_gt_f (by unfold own_r_fcy; rw [if_neg q10]; exact q10)) zz) ?_
        show own_Goes p e below _ (T14.setTop (mkF m 81 #[.val (.int p0), .val (.int p1), .val (.int p0), .val (.ref (own_g A p0)), .val (.ref (A 2))] []))
        refine own_by (fun _ zz => XS.iconst X14.here hx rfl (hb hby at_81) zz) ?_
        show own_Goes p e below _ (T14.setTop (mkF m 82 #[.val (.int p0), .val (.int p1), .val (.int p0), .val (.ref (own_g A p0)), .val (.ref (A 2))] [(.int (1 : Int32))]))
        refine own_by (fun _ zz => XS.goto X14.here hx rfl (pc0 := 82) (pc' := 86) rfl (hb hby at_82) (by decide) (by decide) zz) ?_
        show own_Goes p e below _ (T14.setTop (mkF m 86 #[.val (.int p0), .val (.int p1), .val (.int p0), .val (.ref (own_g A p0)), .val (.ref (A 2))] [(.int (1 : Int32))]))
        refine own_retNW X14 hS9 (by rw [e14]; exact hk9) hx hlk (ty := .boolean) hret (by simp) (hb hby at_86) (by decide) (by decide) ?_
        exact ⟨rfl, rfl⟩
  · refine own_by (fun _ zz => XS.ifNo X0.here hx rfl (hb hby at_3) rfl (XT.i0_eq_f q1) zz) ?_
    show own_Goes p e below _ (T0.setTop (mkF m 6 #[.val (.int p0), .val (.int p1), .unset, .unset, .unset] []))
    refine own_by (fun _ zz => XS.sipush X0.here hx rfl (hb hby at_6) zz) ?_
    show own_Goes p e below _ (T0.setTop (mkF m 9 #[.val (.int p0), .val (.int p1), .unset, .unset, .unset] [(.int (1997 : Int32))]))
    refine own_by (fun _ zz => XS.iloadN X0.here hx rfl (hb hby at_9) rfl zz) ?_
    show own_Goes p e below _ (T0.setTop (mkF m 10 #[.val (.int p0), .val (.int p1), .unset, .unset, .unset] [(.int p0), (.int (1997 : Int32))]))
    refine own_by (fun _ zz => XS.bipush X0.here hx rfl (hb hby at_10) zz) ?_
    show own_Goes p e below _ (T0.setTop (mkF m 12 #[.val (.int p0), .val (.int p1), .unset, .unset, .unset] [(.int (31 : Int32)), (.int p0), (.int (1997 : Int32))]))
    refine own_by (fun _ zz => XS.iand X0.here hx rfl (hb hby at_12) rfl zz) ?_
    show own_Goes p e below _ (T0.setTop (mkF m 13 #[.val (.int p0), .val (.int p1), .unset, .unset, .unset] [(.int (p0 &&& (31 : Int32))), (.int (1997 : Int32))]))
    refine own_by (fun _ zz => XS.iadd X0.here hx rfl (hb hby at_13) rfl zz) ?_
    show own_Goes p e below _ (T0.setTop (mkF m 14 #[.val (.int p0), .val (.int p1), .unset, .unset, .unset] [(.int ((1997 : Int32) + (p0 &&& (31 : Int32))))]))
    refine own_by (fun _ zz => XS.istoreN X0.here hx rfl (hb hby at_14) rfl (l' := #[.val (.int p0), .val (.int p1), .val (.int ((1997 : Int32) + (p0 &&& (31 : Int32)))), .unset, .unset]) rfl zz) ?_
    show own_Goes p e below _ (T0.setTop (mkF m 15 #[.val (.int p0), .val (.int p1), .val (.int ((1997 : Int32) + (p0 &&& (31 : Int32)))), .unset, .unset] []))
    refine own_by (fun _ zz => XS.goto X0.here hx rfl (pc0 := 15) (pc' := 42) rfl (hb hby at_15) (by decide) (by decide) zz) ?_
    show own_Goes p e below _ (T0.setTop (mkF m 42 #[.val (.int p0), .val (.int p1), .val (.int ((1997 : Int32) + (p0 &&& (31 : Int32)))), .unset, .unset] []))
    refine own_by (fun _ zz => XS.iloadN X0.here hx rfl (hb hby at_42) rfl zz) ?_
    show own_Goes p e below _ (T0.setTop (mkF m 43 #[.val (.int p0), .val (.int p1), .val (.int ((1997 : Int32) + (p0 &&& (31 : Int32)))), .unset, .unset] [(.int ((1997 : Int32) + (p0 &&& (31 : Int32))))]))
    refine own_callSS X0 hx hZ hS (Nat.zero_le _) (W := 0) (argsL := [(.int ((1997 : Int32) + (p0 &&& (31 : Int32))))]) (rest := []) hown (own_w0 hw) (own_w1 hw) (own_w2 hw) (own_w3 hw) (by decide) e0 (rm_governing l hw W ((1997 : Int32) + (p0 &&& (31 : Int32))) (own_yr (own_m31 p0))) (by decide) (by decide) (by decide) (by decide) (by rw [hml]; rfl) (lenOf own_pd3 rfl) rfl (Nat.le_of_ble_eq_true rfl) (hb hby at_43) fun v15 T15 L15 X15 hS15 hZ15 hown15 hQ15 => ?_
    obtain ⟨rfl, rfl, EE15⟩ := hQ15
    rw [List.append_nil] at X15
    have e15 : T15.heap = T15.heap := rfl
    have W15 := own_Wext W EE15
    have hk15 : T15.heap.size ≤ T15.heap.size := Nat.le_refl _
    show own_Goes p e below _ (T15.setTop (mkF m 46 #[.val (.int p0), .val (.int p1), .val (.int ((1997 : Int32) + (p0 &&& (31 : Int32)))), .unset, .unset] [(.ref (own_g A ((1997 : Int32) + (p0 &&& (31 : Int32)))))]))
    refine own_by (fun _ zz => XS.astoreN X15.here hx rfl (hb hby at_46) rfl rfl (l' := #[.val (.int p0), .val (.int p1), .val (.int ((1997 : Int32) + (p0 &&& (31 : Int32)))), .val (.ref (own_g A ((1997 : Int32) + (p0 &&& (31 : Int32))))), .unset]) rfl zz) ?_
    show own_Goes p e below _ (T15.setTop (mkF m 47 #[.val (.int p0), .val (.int p1), .val (.int ((1997 : Int32) + (p0 &&& (31 : Int32)))), .val (.ref (own_g A ((1997 : Int32) + (p0 &&& (31 : Int32))))), .unset] []))
    refine own_by (fun _ zz => XS.iloadN X15.here hx rfl (hb hby at_47) rfl zz) ?_
    show own_Goes p e below _ (T15.setTop (mkF m 48 #[.val (.int p0), .val (.int p1), .val (.int ((1997 : Int32) + (p0 &&& (31 : Int32)))), .val (.ref (own_g A ((1997 : Int32) + (p0 &&& (31 : Int32))))), .unset] [(.int ((1997 : Int32) + (p0 &&& (31 : Int32))))]))
    refine own_by (fun _ zz => XS.sipush X15.here hx rfl (hb hby at_48) zz) ?_
    show own_Goes p e below _ (T15.setTop (mkF m 51 #[.val (.int p0), .val (.int p1), .val (.int ((1997 : Int32) + (p0 &&& (31 : Int32)))), .val (.ref (own_g A ((1997 : Int32) + (p0 &&& (31 : Int32))))), .unset] [(.int (2018 : Int32)), (.int ((1997 : Int32) + (p0 &&& (31 : Int32))))]))
    by_cases q16 : ((1997 : Int32) + (p0 &&& (31 : Int32))) < (2018 : Int32)
    · refine own_by (fun _ zz => XS.icmpYes X15.here hx rfl (pc0 := 51) (pc' := 62) rfl (hb hby at_51) rfl (XT.ii_lt_t q16) (by decide) (by decide) zz) ?_
      show own_Goes p e below _ (T15.setTop (mkF m 62 #[.val (.int p0), .val (.int p1), .val (.int ((1997 : Int32) + (p0 &&& (31 : Int32)))), .val (.ref (own_g A ((1997 : Int32) + (p0 &&& (31 : Int32))))), .unset] []))
      refine own_getS X15 hx hZ15 hown15 (own_w46 hw) e15 (own_f2 W15) (hb hby at_62) fun T17 X17 e17 => ?_
      show own_Goes p e below _ (T17.setTop (mkF m 65 #[.val (.int p0), .val (.int p1), .val (.int ((1997 : Int32) + (p0 &&& (31 : Int32)))), .val (.ref (own_g A ((1997 : Int32) + (p0 &&& (31 : Int32))))), .unset] [(.ref (A 1))]))
      refine own_by (fun _ zz => XS.astore X17.here hx rfl (hb hby at_65) rfl rfl (l' := #[.val (.int p0), .val (.int p1), .val (.int ((1997 : Int32) + (p0 &&& (31 : Int32)))), .val (.ref (own_g A ((1997 : Int32) + (p0 &&& (31 : Int32))))), .val (.ref (A 1))]) rfl zz) ?_
      show own_Goes p e below _ (T17.setTop (mkF m 67 #[.val (.int p0), .val (.int p1), .val (.int ((1997 : Int32) + (p0 &&& (31 : Int32)))), .val (.ref (own_g A ((1997 : Int32) + (p0 &&& (31 : Int32))))), .val (.ref (A 1))] []))
      refine own_by (fun _ zz => XS.aloadN X17.here hx rfl (hb hby at_67) rfl rfl zz) ?_
      show own_Goes p e below _ (T17.setTop (mkF m 68 #[.val (.int p0), .val (.int p1), .val (.int ((1997 : Int32) + (p0 &&& (31 : Int32)))), .val (.ref (own_g A ((1997 : Int32) + (p0 &&& (31 : Int32))))), .val (.ref (A 1))] [(.ref (own_g A ((1997 : Int32) + (p0 &&& (31 : Int32)))))]))
      refine own_by (fun _ zz => XS.aload X17.here hx rfl (hb hby at_68) rfl rfl zz) ?_
      show own_Goes p e below _ (T17.setTop (mkF m 70 #[.val (.int p0), .val (.int p1), .val (.int ((1997 : Int32) + (p0 &&& (31 : Int32)))), .val (.ref (own_g A ((1997 : Int32) + (p0 &&& (31 : Int32))))), .val (.ref (A 1))] [(.ref (A 1)), (.ref (own_g A ((1997 : Int32) + (p0 &&& (31 : Int32)))))]))
      refine own_by (fun _ zz => XT.acmpNo X17.here hx rfl (hb hby at_70) rfl rfl rfl (XT.aa_ne_f (congrArg Value.ref (by unfold own_g; exact if_pos q16))) zz) ?_
      show own_Goes p e below _ (T17.setTop (mkF m 73 #[.val (.int p0), .val (.int p1), .val (.int ((1997 : Int32) + (p0 &&& (31 : Int32)))), .val (.ref (own_g A ((1997 : Int32) + (p0 &&& (31 : Int32))))), .val (.ref (A 1))] []))
      refine own_by (fun _ zz => XS.aloadN X17.here hx rfl (hb hby at_73) rfl rfl zz) ?_
      show own_Goes p e below _ (T17.setTop (mkF m 74 #[.val (.int p0), .val (.int p1), .val (.int ((1997 : Int32) + (p0 &&& (31 : Int32)))), .val (.ref (own_g A ((1997 : Int32) + (p0 &&& (31 : Int32))))), .val (.ref (A 1))] [(.ref (own_g A ((1997 : Int32) + (p0 &&& (31 : Int32)))))]))
      refine own_callV0 X17 hx hZ15 (W := 0) (K := "com/example/threshline/threshline/Handbook") (argsL := []) (rest := []) hown15 (own_w47 hw) (own_w48 hw) (own_w49 hw) (own_w37 hw) (own_w41 hw) (own_w2 hw) (by decide) e17 (own_g_exa W15 ((1997 : Int32) + (p0 &&& (31 : Int32)))) (rm_fcy l hw W15 (own_g A ((1997 : Int32) + (p0 &&& (31 : Int32)))) (if ((1997 : Int32) + (p0 &&& (31 : Int32))) < (2018 : Int32) then 1997 else 2018) (own_g_fcy W15 ((1997 : Int32) + (p0 &&& (31 : Int32))))) (by decide) (by decide) (by decide) (by decide) (by rw [hml]; rfl) (lenOf own_pd0 rfl) rfl (Nat.le_of_ble_eq_true rfl) (hb hby at_74) fun T18 X18 e18 => ?_
      show own_Goes p e below _ (T18.setTop (mkF m 77 #[.val (.int p0), .val (.int p1), .val (.int ((1997 : Int32) + (p0 &&& (31 : Int32)))), .val (.ref (own_g A ((1997 : Int32) + (p0 &&& (31 : Int32))))), .val (.ref (A 1))] [(.int (own_r_fcy A (own_g A ((1997 : Int32) + (p0 &&& (31 : Int32)))) (if ((1997 : Int32) + (p0 &&& (31 : Int32))) < (2018 : Int32) then 1997 else 2018)))]))
      refine own_by (fun _ zz => XS.iloadN X18.here hx rfl (hb hby at_77) rfl zz) ?_
      show own_Goes p e below _ (T18.setTop (mkF m 78 #[.val (.int p0), .val (.int p1), .val (.int ((1997 : Int32) + (p0 &&& (31 : Int32)))), .val (.ref (own_g A ((1997 : Int32) + (p0 &&& (31 : Int32))))), .val (.ref (A 1))] [(.int ((1997 : Int32) + (p0 &&& (31 : Int32)))), (.int (own_r_fcy A (own_g A ((1997 : Int32) + (p0 &&& (31 : Int32)))) (if ((1997 : Int32) + (p0 &&& (31 : Int32))) < (2018 : Int32) then 1997 else 2018)))]))
      refine own_by (fun _ zz => XS.icmpNo X18.here hx rfl (hb hby at_78) rfl (XT.ii_gt_f (by unfold own_r_fcy; rw [if_pos q16]; exact (own_yr (own_m31 p0)))) zz) ?_
      show own_Goes p e below _ (T18.setTop (mkF m 81 #[.val (.int p0), .val (.int p1), .val (.int ((1997 : Int32) + (p0 &&& (31 : Int32)))), .val (.ref (own_g A ((1997 : Int32) + (p0 &&& (31 : Int32))))), .val (.ref (A 1))] []))
      refine own_by (fun _ zz => XS.iconst X18.here hx rfl (hb hby at_81) zz) ?_
      show own_Goes p e below _ (T18.setTop (mkF m 82 #[.val (.int p0), .val (.int p1), .val (.int ((1997 : Int32) + (p0 &&& (31 : Int32)))), .val (.ref (own_g A ((1997 : Int32) + (p0 &&& (31 : Int32))))), .val (.ref (A 1))] [(.int (1 : Int32))]))
      refine own_by (fun _ zz => XS.goto X18.here hx rfl (pc0 := 82) (pc' := 86) rfl (hb hby at_82) (by decide) (by decide) zz) ?_
      show own_Goes p e below _ (T18.setTop (mkF m 86 #[.val (.int p0), .val (.int p1), .val (.int ((1997 : Int32) + (p0 &&& (31 : Int32)))), .val (.ref (own_g A ((1997 : Int32) + (p0 &&& (31 : Int32))))), .val (.ref (A 1))] [(.int (1 : Int32))]))
      refine own_retNW X18 hS15 (by rw [e18]; exact hk15) hx hlk (ty := .boolean) hret (by simp) (hb hby at_86) (by decide) (by decide) ?_
      exact ⟨rfl, rfl⟩
    · refine own_by (fun _ zz => XS.icmpNo X15.here hx rfl (hb hby at_51) rfl (XT.ii_lt_f q16) zz) ?_
      show own_Goes p e below _ (T15.setTop (mkF m 54 #[.val (.int p0), .val (.int p1), .val (.int ((1997 : Int32) + (p0 &&& (31 : Int32)))), .val (.ref (own_g A ((1997 : Int32) + (p0 &&& (31 : Int32))))), .unset] []))
      refine own_getS X15 hx hZ15 hown15 (own_w52 hw) e15 (own_f4 W15) (hb hby at_54) fun T19 X19 e19 => ?_
      show own_Goes p e below _ (T19.setTop (mkF m 57 #[.val (.int p0), .val (.int p1), .val (.int ((1997 : Int32) + (p0 &&& (31 : Int32)))), .val (.ref (own_g A ((1997 : Int32) + (p0 &&& (31 : Int32))))), .unset] [(.ref (A 2))]))
      refine own_by (fun _ zz => XS.astore X19.here hx rfl (hb hby at_57) rfl rfl (l' := #[.val (.int p0), .val (.int p1), .val (.int ((1997 : Int32) + (p0 &&& (31 : Int32)))), .val (.ref (own_g A ((1997 : Int32) + (p0 &&& (31 : Int32))))), .val (.ref (A 2))]) rfl zz) ?_
      show own_Goes p e below _ (T19.setTop (mkF m 59 #[.val (.int p0), .val (.int p1), .val (.int ((1997 : Int32) + (p0 &&& (31 : Int32)))), .val (.ref (own_g A ((1997 : Int32) + (p0 &&& (31 : Int32))))), .val (.ref (A 2))] []))
      refine own_by (fun _ zz => XS.goto X19.here hx rfl (pc0 := 59) (pc' := 67) rfl (hb hby at_59) (by decide) (by decide) zz) ?_
      show own_Goes p e below _ (T19.setTop (mkF m 67 #[.val (.int p0), .val (.int p1), .val (.int ((1997 : Int32) + (p0 &&& (31 : Int32)))), .val (.ref (own_g A ((1997 : Int32) + (p0 &&& (31 : Int32))))), .val (.ref (A 2))] []))
      refine own_by (fun _ zz => XS.aloadN X19.here hx rfl (hb hby at_67) rfl rfl zz) ?_
      show own_Goes p e below _ (T19.setTop (mkF m 68 #[.val (.int p0), .val (.int p1), .val (.int ((1997 : Int32) + (p0 &&& (31 : Int32)))), .val (.ref (own_g A ((1997 : Int32) + (p0 &&& (31 : Int32))))), .val (.ref (A 2))] [(.ref (own_g A ((1997 : Int32) + (p0 &&& (31 : Int32)))))]))
      refine own_by (fun _ zz => XS.aload X19.here hx rfl (hb hby at_68) rfl rfl zz) ?_
      show own_Goes p e below _ (T19.setTop (mkF m 70 #[.val (.int p0), .val (.int p1), .val (.int ((1997 : Int32) + (p0 &&& (31 : Int32)))), .val (.ref (own_g A ((1997 : Int32) + (p0 &&& (31 : Int32))))), .val (.ref (A 2))] [(.ref (A 2)), (.ref (own_g A ((1997 : Int32) + (p0 &&& (31 : Int32)))))]))
      refine own_by (fun _ zz => XT.acmpNo X19.here hx rfl (hb hby at_70) rfl rfl rfl (XT.aa_ne_f (congrArg Value.ref (by unfold own_g; exact if_neg q16))) zz) ?_
      show own_Goes p e below _ (T19.setTop (mkF m 73 #[.val (.int p0), .val (.int p1), .val (.int ((1997 : Int32) + (p0 &&& (31 : Int32)))), .val (.ref (own_g A ((1997 : Int32) + (p0 &&& (31 : Int32))))), .val (.ref (A 2))] []))
      refine own_by (fun _ zz => XS.aloadN X19.here hx rfl (hb hby at_73) rfl rfl zz) ?_
      show own_Goes p e below _ (T19.setTop (mkF m 74 #[.val (.int p0), .val (.int p1), .val (.int ((1997 : Int32) + (p0 &&& (31 : Int32)))), .val (.ref (own_g A ((1997 : Int32) + (p0 &&& (31 : Int32))))), .val (.ref (A 2))] [(.ref (own_g A ((1997 : Int32) + (p0 &&& (31 : Int32)))))]))
      refine own_callV0 X19 hx hZ15 (W := 0) (K := "com/example/threshline/threshline/Handbook") (argsL := []) (rest := []) hown15 (own_w47 hw) (own_w48 hw) (own_w49 hw) (own_w37 hw) (own_w41 hw) (own_w2 hw) (by decide) e19 (own_g_exa W15 ((1997 : Int32) + (p0 &&& (31 : Int32)))) (rm_fcy l hw W15 (own_g A ((1997 : Int32) + (p0 &&& (31 : Int32)))) (if ((1997 : Int32) + (p0 &&& (31 : Int32))) < (2018 : Int32) then 1997 else 2018) (own_g_fcy W15 ((1997 : Int32) + (p0 &&& (31 : Int32))))) (by decide) (by decide) (by decide) (by decide) (by rw [hml]; rfl) (lenOf own_pd0 rfl) rfl (Nat.le_of_ble_eq_true rfl) (hb hby at_74) fun T20 X20 e20 => ?_
      show own_Goes p e below _ (T20.setTop (mkF m 77 #[.val (.int p0), .val (.int p1), .val (.int ((1997 : Int32) + (p0 &&& (31 : Int32)))), .val (.ref (own_g A ((1997 : Int32) + (p0 &&& (31 : Int32))))), .val (.ref (A 2))] [(.int (own_r_fcy A (own_g A ((1997 : Int32) + (p0 &&& (31 : Int32)))) (if ((1997 : Int32) + (p0 &&& (31 : Int32))) < (2018 : Int32) then 1997 else 2018)))]))
      refine own_by (fun _ zz => XS.iloadN X20.here hx rfl (hb hby at_77) rfl zz) ?_
      show own_Goes p e below _ (T20.setTop (mkF m 78 #[.val (.int p0), .val (.int p1), .val (.int ((1997 : Int32) + (p0 &&& (31 : Int32)))), .val (.ref (own_g A ((1997 : Int32) + (p0 &&& (31 : Int32))))), .val (.ref (A 2))] [(.int ((1997 : Int32) + (p0 &&& (31 : Int32)))), (.int (own_r_fcy A (own_g A ((1997 : Int32) + (p0 &&& (31 : Int32)))) (if ((1997 : Int32) + (p0 &&& (31 : Int32))) < (2018 : Int32) then 1997 else 2018)))]))
      refine own_by (fun _ zz => XS.icmpNo X20.here hx rfl (hb hby at_78) rfl (XT.ii_gt_f (by unfold own_r_fcy; rw [if_neg q16]; exact q16)) zz) ?_
      show own_Goes p e below _ (T20.setTop (mkF m 81 #[.val (.int p0), .val (.int p1), .val (.int ((1997 : Int32) + (p0 &&& (31 : Int32)))), .val (.ref (own_g A ((1997 : Int32) + (p0 &&& (31 : Int32))))), .val (.ref (A 2))] []))
      refine own_by (fun _ zz => XS.iconst X20.here hx rfl (hb hby at_81) zz) ?_
      show own_Goes p e below _ (T20.setTop (mkF m 82 #[.val (.int p0), .val (.int p1), .val (.int ((1997 : Int32) + (p0 &&& (31 : Int32)))), .val (.ref (own_g A ((1997 : Int32) + (p0 &&& (31 : Int32))))), .val (.ref (A 2))] [(.int (1 : Int32))]))
      refine own_by (fun _ zz => XS.goto X20.here hx rfl (pc0 := 82) (pc' := 86) rfl (hb hby at_82) (by decide) (by decide) zz) ?_
      show own_Goes p e below _ (T20.setTop (mkF m 86 #[.val (.int p0), .val (.int p1), .val (.int ((1997 : Int32) + (p0 &&& (31 : Int32)))), .val (.ref (own_g A ((1997 : Int32) + (p0 &&& (31 : Int32))))), .val (.ref (A 2))] [(.int (1 : Int32))]))
      refine own_retNW X20 hS15 (by rw [e20]; exact hk15) hx hlk (ty := .boolean) hret (by simp) (hb hby at_86) (by decide) (by decide) ?_
      exact ⟨rfl, rfl⟩
set_option maxRecDepth 65536 in
set_option maxHeartbeats 40000000 in
theorem comes_1 {Post : Tables → Env → Array Value → State → Outcome → State → Prop} (hpost : ∀ tb e args s v u, (limb_1_1.after args s (.returned v) u = true ∧ limb_1_2.after args s (.returned v) u = true ∧ True) → ReturnedEndW s (.returned v) u (Jvm.fieldLocs frame_1_writes args s ++ Jvm.arrayLocs frame_1_arrays args s ++ Jvm.staticLocs frame_1_statics s) 16 1152 → Post tb e args s (.returned v) u) :
    ArmFor flags0 classFile x code maxLocals ret World_1 tables_1 room_1 Calls_1 rest_1 Pre_1 Post := by
  intro l hfl _ _ p e ha hc hk s m args below hf hA hF happ hP
  obtain ⟨hcalls, hrest, hpre⟩ := hP
  obtain ⟨-, -, -, hnamed, -, -, -, hat⟩ := (Spec.applies_iff hf).mp happ
  obtain ⟨hg, hn⟩ := and_e (Cond.before_iff.mp (show (Jvm.Cond.and given_1 narrow_1).before args s = true from hpre))
  obtain ⟨g0, hg0⟩ := and_e hg
  obtain ⟨i0, hg1⟩ := and_e hg0
  obtain ⟨w0, w1, rfl⟩ : ∃ w0 w1 : Value, args = #[w0, w1] := by
    have hs : args.size = 2 := by simpa [Cond.value, given_1] using g0
    obtain ⟨L⟩ := args
    match L, hs with
    | [w0, w1], _ => exact ⟨w0, w1, rfl⟩
  have hw := fun d (hd : d ∈ tables_1) => atoms_spec (ws := Jvm.Cond.code x code maxLocals ret :: tables_1) hat d (List.mem_cons_of_mem _ hd)
  have hfit : Fit s := fun {y c} hc i hi => by
    obtain ⟨ha, rfl⟩ := Array.getElem?_eq_some_iff.mp hc
    have q := List.all_eq_true.mp ((Array.all_eq_true_iff_forall_mem.mp hF) _ (Array.getElem_mem ha)) i (List.mem_range.mpr hi)
    simpa [Array.getElem?_eq_getElem hi] using q
  obtain ⟨j0, y0⟩ := is_v i0
  obtain rfl : w0 = (.int j0) := Option.some.inj y0
  obtain ⟨j1, y1⟩ := is_v hg1
  obtain rfl : w1 = (.int j1) := Option.some.inj y1
  obtain ⟨A, W⟩ := own_world hw hn hfit
  obtain ⟨n, o, h1, h2, h3, _, L, rfl, ⟨rfl, rfl⟩, hq⟩ := rm_law l hw tables_1 W j0 j1 p e ha hc hk s m _ below hf ((Spec.applies_iff_loose hf).mp happ).1 ⟨rfl, State.Warmed39.refl s, rfl⟩ trivial
  refine ⟨n, _, h1, h2, h3, hpost _ _ _ _ _ _ ⟨Cond.after_iff.mpr rfl, Cond.after_iff.mpr (eq_i res_at (Term.int_eval (1)) rfl), trivial⟩ ⟨hq.1, hq.2.1, hq.2.2.1, (hq.2.2.2.sift fun y hy => nomatch hy).mono (by decide) (by decide)⟩⟩
theorem main_1_1 : Claimed_1_1 := comes_1 fun _ _ _ _ _ _ h hF => ⟨h.1, hF⟩
theorem main_1_2 : Claimed_1_2 := comes_1 fun _ _ _ _ _ _ h hF => ⟨h.2.1, hF⟩
end Jvm.Pilot.@@N@@
namespace Jvm.Pilot.@@N@@
open Jvm Jvm.ClassFile Sem Op Lib Jvm.Free Jvm.Stand Jvm.Pilot.@@N@@.Jvm.D
/-! MADE BY PROGRAM (witnessworld.py) out of the Statement's table words and the real class files: 17 classes; the members and pool entries that the words name. The judged class is class 1, her method 1. -/
namespace start1
open Jvm.ClassFile
def u (s : String) : CpInfo := .utf8 (stringToUtf16 s)
/-- a pool by its gaps: so many unusable entries, then the entry; so many at the end -/
def gap : Nat → List CpInfo → List CpInfo
  | 0, r => r
  | n + 1, r => .unusable :: gap n r
def poolList (es : List (Nat × CpInfo)) (last : Nat) : List CpInfo := es.foldr (fun e r => gap e.1 (e.2 :: r)) (gap last [])
def pool (es : List (Nat × CpInfo)) (last : Nat) : Array CpInfo := ⟨poolList es last⟩
def fileOf (pool : Array CpInfo) (this : Nat) (attrs : Array Attribute := #[]) (ms : Array MethodInfo := #[]) (fl : Nat := 33) (sup : Nat := 0) (ifs : Array Nat := #[]) (fds : Array FieldInfo := #[]) : ClassFile where
  minorVersion := 0
  majorVersion := 65
  constantPool := pool
  accessFlags := fl
  thisClass := this
  superClass := sup
  interfaces := ifs
  fields := fds
  methods := ms
  attributes := attrs
def plain (name : String) (sup : Option ClassId) : Class where
  name := name
  kind := .ordinary
  loader := none
  accessFlags := 33
  super := sup
  interfaces := #[]
  cf := none
  fields := #[]
  methods := #[]
  instanceTypes := #[]
  staticTypes := #[]
  resolved := #[]
  callSites := []
  init := .initialized
  statics := none
  mirror := none

def pool0 : Array CpInfo := pool [(5, u "<init>"), (0, u "()V"), (1, .class_ 10), (1, u "java/lang/Object"), (85, u "clone"), (0, u "()Ljava/lang/Object;")] 26

def k0m0 : Method := { name := "<init>", desc := "()V", sig := { parameters := [], returnType := none }, accessFlags := 1, code := none }
def k0m1 : Method := { name := "clone", desc := "()Ljava/lang/Object;", sig := { parameters := [], returnType := some (.object "java/lang/Object") }, accessFlags := 260, code := none }
/-- java/lang/Object -/
def k0 : Class := { plain "java/lang/Object" none with
  accessFlags := 33
  interfaces := #[]
  cf := some (fileOf pool0 8 #[] #[{ accessFlags := 1, nameIndex := 5, descriptorIndex := 6, attributes := #[] }, { accessFlags := 260, nameIndex := 96, descriptorIndex := 97, attributes := #[] }] 33 0 #[] #[])
  fields := #[]
  methods := #[k0m0, k0m1]
  instanceTypes := #[]
  staticTypes := #[]
  resolved := Array.replicate 124 none
  statics := none }

def pool1 : Array CpInfo := pool [(2, .class_ 4), (1, u "java/lang/Object"), (0, u "<init>"), (0, u "()V"), (0, .integer 2147483647), (2, .integer 2147481651), (0, .methodref 12 13), (0, .class_ 14), (0, .nameAndType 15 16), (0, u "com/example/threshline/threshline/Handbook"), (0, u "governing"), (0, u "(I)Lcom/example/threshline/threshline/Handbook;"), (0, .fieldref 12 18), (0, .nameAndType 19 20), (0, u "EDITION_2018"), (0, u "Lcom/example/threshline/threshline/Handbook;"), (0, .fieldref 12 22), (0, .nameAndType 23 20), (0, u "EDITION_1997"), (0, .methodref 12 25), (0, .nameAndType 26 27), (0, u "firstCropYear"), (0, u "()I"), (0, .class_ 29), (0, u "com/example/threshline/threshline/HandbookGoverningPinLaw"), (2, u "law"), (0, u "(II)Z")] 6

def k1m0 : Method := { name := "<init>", desc := "()V", sig := { parameters := [], returnType := none }, accessFlags := 2, code := none }
def k1c1 : Code := { maxStack := 3, maxLocals := 5, code := code, exceptionTable := #[], attributes := #[] }
def k1m1 : Method := { name := "law", desc := "(II)Z", sig := { parameters := [.int, .int], returnType := some .boolean }, accessFlags := 9, code := some k1c1 }
/-- com/example/threshline/threshline/HandbookGoverningPinLaw -/
def k1 : Class := { plain "com/example/threshline/threshline/HandbookGoverningPinLaw" (some 0) with
  accessFlags := 49
  interfaces := #[]
  cf := some (fileOf pool1 28 #[] #[{ accessFlags := 2, nameIndex := 5, descriptorIndex := 6, attributes := #[] }, { accessFlags := 9, nameIndex := 32, descriptorIndex := 33, attributes := #[] }] 49 2 #[] #[])
  fields := #[]
  methods := #[k1m0, k1m1]
  instanceTypes := #[]
  staticTypes := #[]
  resolved := Array.replicate 40 none
  statics := none }

def pool2 : Array CpInfo := pool [(1, .class_ 2), (0, u "java/lang/constant/Constable"), (0, .class_ 4), (0, u "java/lang/Object")] 6

/-- java/lang/constant/Constable -/
def k2 : Class := { plain "java/lang/constant/Constable" (some 0) with
  accessFlags := 1537
  interfaces := #[]
  cf := some (fileOf pool2 1 #[] #[] 1537 3 #[] #[])
  fields := #[]
  methods := #[]
  instanceTypes := #[]
  staticTypes := #[]
  resolved := Array.replicate 11 none
  statics := none }

def pool3 : Array CpInfo := pool [(1, .class_ 2), (0, u "java/lang/Comparable"), (0, .class_ 4), (0, u "java/lang/Object")] 7

/-- java/lang/Comparable -/
def k3 : Class := { plain "java/lang/Comparable" (some 0) with
  accessFlags := 1537
  interfaces := #[]
  cf := some (fileOf pool3 1 #[] #[] 1537 3 #[] #[])
  fields := #[]
  methods := #[]
  instanceTypes := #[]
  staticTypes := #[]
  resolved := Array.replicate 12 none
  statics := none }

def pool4 : Array CpInfo := pool [(1, .class_ 2), (0, u "java/io/Serializable"), (0, .class_ 4), (0, u "java/lang/Object")] 2

/-- java/io/Serializable -/
def k4 : Class := { plain "java/io/Serializable" (some 0) with
  accessFlags := 1537
  interfaces := #[]
  cf := some (fileOf pool4 1 #[] #[] 1537 3 #[] #[])
  fields := #[]
  methods := #[]
  instanceTypes := #[]
  staticTypes := #[]
  resolved := Array.replicate 7 none
  statics := none }

def pool5 : Array CpInfo := pool [(2, .class_ 4), (1, u "java/lang/Enum"), (0, u "name"), (0, u "Ljava/lang/String;"), (2, u "ordinal"), (0, u "I"), (1, .class_ 14), (1, u "java/lang/Object"), (4, u "hash"), (86, .class_ 108), (1, u "java/lang/Enum$EnumDesc"), (2, .class_ 112), (0, u "java/lang/constant/Constable"), (0, .class_ 114), (0, u "java/lang/Comparable"), (0, .class_ 116), (0, u "java/io/Serializable")] 87

/-- java/lang/Enum -/
def k5 : Class := { plain "java/lang/Enum" (some 0) with
  accessFlags := 1057
  interfaces := #[2, 3, 4]
  cf := some (fileOf pool5 2 #[.nestMembers #[106]] #[] 1057 12 #[111, 113, 115] #[{ accessFlags := 18, nameIndex := 5, descriptorIndex := 6, attributes := #[] }, { accessFlags := 18, nameIndex := 9, descriptorIndex := 10, attributes := #[] }, { accessFlags := 2, nameIndex := 19, descriptorIndex := 10, attributes := #[] }])
  fields := #[{ name := "name", type := (.object "java/lang/String"), accessFlags := 18, slot := 0, constantValue := 0 }, { name := "ordinal", type := .int, accessFlags := 18, slot := 1, constantValue := 0 }, { name := "hash", type := .int, accessFlags := 2, slot := 2, constantValue := 0 }]
  methods := #[]
  instanceTypes := #[(.object "java/lang/String"), .int, .int]
  staticTypes := #[]
  resolved := Array.replicate 204 none
  statics := none }

def pool6 : Array CpInfo := pool [(1, .interfaceMethodref 2 3), (0, .class_ 4), (0, .nameAndType 5 6), (0, u "com/example/threshline/threshline/Edition"), (0, u "firstCropYear"), (0, u "()I"), (12, .class_ 20), (0, u "java/lang/Object"), (0, u "governing"), (0, u "([Lcom/example/threshline/threshline/Edition;ILjava/lang/String;)Lcom/example/threshline/threshline/Edition;")] 23

def k6m0 : Method := { name := "firstCropYear", desc := "()I", sig := { parameters := [], returnType := some .int }, accessFlags := 1025, code := none }
def k6c1 : Code := { maxStack := 6, maxLocals := 4, code := prog_35_method_2_code, exceptionTable := #[], attributes := #[] }
def k6m1 : Method := { name := "governing", desc := "([Lcom/example/threshline/threshline/Edition;ILjava/lang/String;)Lcom/example/threshline/threshline/Edition;", sig := { parameters := [(.array (.object "com/example/threshline/threshline/Edition")), .int, (.object "java/lang/String")], returnType := some (.object "com/example/threshline/threshline/Edition") }, accessFlags := 9, code := some k6c1 }
/-- com/example/threshline/threshline/Edition -/
def k6 : Class := { plain "com/example/threshline/threshline/Edition" (some 0) with
  accessFlags := 1536
  interfaces := #[]
  cf := some (fileOf pool6 2 #[] #[{ accessFlags := 1025, nameIndex := 5, descriptorIndex := 6, attributes := #[] }, { accessFlags := 9, nameIndex := 21, descriptorIndex := 22, attributes := #[] }] 1536 19 #[] #[])
  fields := #[]
  methods := #[k6m0, k6m1]
  instanceTypes := #[]
  staticTypes := #[]
  resolved := Array.replicate 46 none
  statics := none }

def pool7 : Array CpInfo := pool [(1, .class_ 2), (0, u "com/example/threshline/threshline/Handbook"), (2, u "EDITION_1997"), (0, u "Lcom/example/threshline/threshline/Handbook;"), (2, u "EDITION_2018"), (0, .fieldref 1 11), (0, .nameAndType 12 13), (0, u "$VALUES"), (0, u "[Lcom/example/threshline/threshline/Handbook;"), (0, .methodref 15 16), (0, .class_ 13), (0, .nameAndType 17 18), (0, u "clone"), (0, u "()Ljava/lang/Object;"), (1, .class_ 22), (1, u "java/lang/Enum"), (6, .fieldref 1 30), (0, .nameAndType 31 32), (0, u "firstCropYear"), (0, u "I"), (0, .methodref 1 34), (0, .nameAndType 35 36), (0, u "values"), (0, u "()[Lcom/example/threshline/threshline/Handbook;"), (0, .string 38), (0, u "the handbooks this version computes"), (0, .interfaceMethodref 40 41), (0, .class_ 42), (0, .nameAndType 43 44), (0, u "com/example/threshline/threshline/Edition"), (0, u "governing"), (0, u "([Lcom/example/threshline/threshline/Edition;ILjava/lang/String;)Lcom/example/threshline/threshline/Edition;"), (14, u "()I"), (0, u "(I)Lcom/example/threshline/threshline/Handbook;")] 8

def k7c0 : Code := { maxStack := 1, maxLocals := 0, code := prog_38_method_1_code, exceptionTable := #[], attributes := #[] }
def k7m0 : Method := { name := "values", desc := "()[Lcom/example/threshline/threshline/Handbook;", sig := { parameters := [], returnType := some (.array (.object "com/example/threshline/threshline/Handbook")) }, accessFlags := 9, code := some k7c0 }
def k7c1 : Code := { maxStack := 1, maxLocals := 1, code := prog_38_method_4_code, exceptionTable := #[], attributes := #[] }
def k7m1 : Method := { name := "firstCropYear", desc := "()I", sig := { parameters := [], returnType := some .int }, accessFlags := 1, code := some k7c1 }
def k7c2 : Code := { maxStack := 3, maxLocals := 1, code := prog_38_method_5_code, exceptionTable := #[], attributes := #[] }
def k7m2 : Method := { name := "governing", desc := "(I)Lcom/example/threshline/threshline/Handbook;", sig := { parameters := [.int], returnType := some (.object "com/example/threshline/threshline/Handbook") }, accessFlags := 8, code := some k7c2 }
/-- com/example/threshline/threshline/Handbook -/
def k7 : Class := { plain "com/example/threshline/threshline/Handbook" (some 5) with
  accessFlags := 16432
  interfaces := #[6]
  cf := some (fileOf pool7 1 #[] #[{ accessFlags := 9, nameIndex := 35, descriptorIndex := 36, attributes := #[] }, { accessFlags := 1, nameIndex := 31, descriptorIndex := 59, attributes := #[] }, { accessFlags := 8, nameIndex := 43, descriptorIndex := 60, attributes := #[] }] 16432 20 #[40] #[{ accessFlags := 16409, nameIndex := 5, descriptorIndex := 6, attributes := #[] }, { accessFlags := 16409, nameIndex := 9, descriptorIndex := 6, attributes := #[] }, { accessFlags := 18, nameIndex := 31, descriptorIndex := 32, attributes := #[] }, { accessFlags := 4122, nameIndex := 12, descriptorIndex := 13, attributes := #[] }])
  fields := #[{ name := "EDITION_1997", type := (.object "com/example/threshline/threshline/Handbook"), accessFlags := 16409, slot := 0, constantValue := 0 }, { name := "EDITION_2018", type := (.object "com/example/threshline/threshline/Handbook"), accessFlags := 16409, slot := 1, constantValue := 0 }, { name := "firstCropYear", type := .int, accessFlags := 18, slot := 3, constantValue := 0 }, { name := "$VALUES", type := (.array (.object "com/example/threshline/threshline/Handbook")), accessFlags := 4122, slot := 2, constantValue := 0 }]
  methods := #[k7m0, k7m1, k7m2]
  instanceTypes := #[(.object "java/lang/String"), .int, .int, .int]
  staticTypes := #[(.object "com/example/threshline/threshline/Handbook"), (.object "com/example/threshline/threshline/Handbook"), (.array (.object "com/example/threshline/threshline/Handbook"))]
  resolved := Array.replicate 69 none
  statics := some 0 }

def pool8 : Array CpInfo := pool [(1, .class_ 2), (0, u "java/lang/Cloneable"), (0, .class_ 4), (0, u "java/lang/Object")] 2

/-- java/lang/Cloneable -/
def k8 : Class := { plain "java/lang/Cloneable" (some 0) with
  accessFlags := 1537
  interfaces := #[]
  cf := some (fileOf pool8 1 #[] #[] 1537 3 #[] #[])
  fields := #[]
  methods := #[]
  instanceTypes := #[]
  staticTypes := #[]
  resolved := Array.replicate 7 none
  statics := none }

def pool9 : Array CpInfo := pool [(2, .class_ 4), (1, u "java/lang/CharSequence"), (42, .class_ 48), (0, u "java/lang/CharSequence$1CodePointIterator"), (10, .class_ 60), (0, u "java/lang/CharSequence$1CharIterator"), (5, .class_ 67), (0, u "java/lang/Object")] 63

/-- java/lang/CharSequence -/
def k9 : Class := { plain "java/lang/CharSequence" (some 0) with
  accessFlags := 1537
  interfaces := #[]
  cf := some (fileOf pool9 2 #[.nestMembers #[47, 59]] #[] 1537 66 #[] #[])
  fields := #[]
  methods := #[]
  instanceTypes := #[]
  staticTypes := #[]
  resolved := Array.replicate 131 none
  statics := none }

def pool10 : Array CpInfo := pool [(1, .class_ 2), (0, u "java/lang/constant/ConstantDesc"), (0, .class_ 4), (0, u "java/lang/Object")] 32

/-- java/lang/constant/ConstantDesc -/
def k10 : Class := { plain "java/lang/constant/ConstantDesc" (some 0) with
  accessFlags := 1537
  interfaces := #[]
  cf := some (fileOf pool10 1 #[] #[] 1537 3 #[] #[])
  fields := #[]
  methods := #[]
  instanceTypes := #[]
  staticTypes := #[]
  resolved := Array.replicate 37 none
  statics := none }

def pool11 : Array CpInfo := pool [(2, .class_ 4), (1, u "java/lang/Object"), (0, u "<init>"), (0, u "()V"), (3, .class_ 12), (1, u "java/lang/String"), (0, u "value"), (0, u "[B"), (2, u "coder"), (0, u "B"), (2, u "hash"), (0, u "I"), (2, u "hashIsZero"), (0, u "Z"), (13, u "COMPACT_STRINGS"), (534, .class_ 576), (0, u "java/lang/CharSequence"), (22, u "CASE_INSENSITIVE_ORDER"), (0, u "Ljava/util/Comparator;"), (500, u "serialPersistentFields"), (0, u "[Ljava/io/ObjectStreamField;"), (0, .class_ 1104), (0, u "java/lang/String$CaseInsensitiveComparator"), (1, .class_ 1107), (0, u "java/io/Serializable"), (0, .class_ 1109), (0, u "java/lang/Comparable"), (0, .class_ 1111), (0, u "java/lang/constant/Constable"), (0, .class_ 1113), (0, u "java/lang/constant/ConstantDesc"), (2, u "serialVersionUID"), (0, u "J"), (3, u "REPL"), (0, u "C"), (2, u "LATIN1"), (1, u "UTF16")] 323

def k11m0 : Method := { name := "<init>", desc := "()V", sig := { parameters := [], returnType := none }, accessFlags := 1, code := none }
/-- java/lang/String -/
def k11 : Class := { plain "java/lang/String" (some 0) with
  accessFlags := 49
  interfaces := #[4, 3, 9, 2, 10]
  cf := some (fileOf pool11 10 #[.nestMembers #[1103]] #[{ accessFlags := 1, nameIndex := 5, descriptorIndex := 6, attributes := #[] }] 49 2 #[1106, 1108, 575, 1110, 1112] #[{ accessFlags := 18, nameIndex := 13, descriptorIndex := 14, attributes := #[] }, { accessFlags := 18, nameIndex := 17, descriptorIndex := 18, attributes := #[] }, { accessFlags := 2, nameIndex := 21, descriptorIndex := 22, attributes := #[] }, { accessFlags := 2, nameIndex := 25, descriptorIndex := 26, attributes := #[] }, { accessFlags := 26, nameIndex := 1116, descriptorIndex := 1117, attributes := #[] }, { accessFlags := 24, nameIndex := 40, descriptorIndex := 26, attributes := #[] }, { accessFlags := 26, nameIndex := 1101, descriptorIndex := 1102, attributes := #[] }, { accessFlags := 26, nameIndex := 1121, descriptorIndex := 1122, attributes := #[] }, { accessFlags := 25, nameIndex := 599, descriptorIndex := 600, attributes := #[] }, { accessFlags := 24, nameIndex := 1125, descriptorIndex := 18, attributes := #[] }, { accessFlags := 24, nameIndex := 1127, descriptorIndex := 18, attributes := #[] }])
  fields := #[{ name := "value", type := (.array .byte), accessFlags := 18, slot := 0, constantValue := 0 }, { name := "coder", type := .byte, accessFlags := 18, slot := 1, constantValue := 0 }, { name := "hash", type := .int, accessFlags := 2, slot := 2, constantValue := 0 }, { name := "hashIsZero", type := .boolean, accessFlags := 2, slot := 3, constantValue := 0 }, { name := "serialVersionUID", type := .long, accessFlags := 26, slot := 0, constantValue := 0 }, { name := "COMPACT_STRINGS", type := .boolean, accessFlags := 24, slot := 1, constantValue := 0 }, { name := "serialPersistentFields", type := (.array (.object "java/io/ObjectStreamField")), accessFlags := 26, slot := 2, constantValue := 0 }, { name := "REPL", type := .char, accessFlags := 26, slot := 3, constantValue := 0 }, { name := "CASE_INSENSITIVE_ORDER", type := (.object "java/util/Comparator"), accessFlags := 25, slot := 4, constantValue := 0 }, { name := "LATIN1", type := .byte, accessFlags := 24, slot := 5, constantValue := 0 }, { name := "UTF16", type := .byte, accessFlags := 24, slot := 6, constantValue := 0 }]
  methods := #[k11m0]
  instanceTypes := #[(.array .byte), .byte, .int, .boolean]
  staticTypes := #[.long, .boolean, (.array (.object "java/io/ObjectStreamField")), .char, (.object "java/util/Comparator"), .byte, .byte]
  resolved := Array.replicate 1451 none
  statics := none }

/-- the primitive byte -/
def k12 : Class := { plain "byte" none with kind := .primitive 'B', accessFlags := 0x411 }
/-- [B -/
def k13 : Class := { plain "[B" (some 0) with kind := .array 12 .byte, interfaces := #[8, 4], accessFlags := 1041 }

/-- the primitive int -/
def k14 : Class := { plain "int" none with kind := .primitive 'I', accessFlags := 0x411 }
/-- [I -/
def k15 : Class := { plain "[I" (some 0) with kind := .array 14 .int, interfaces := #[8, 4], accessFlags := 1041 }

/-- [Lcom/example/threshline/threshline/Handbook; -/
def k16 : Class := { plain "[Lcom/example/threshline/threshline/Handbook;" (some 0) with kind := .array 7 (.object "com/example/threshline/threshline/Handbook"), interfaces := #[8, 4], accessFlags := 1041 }

def heap : Heap := #[{ cls := 7, slots := #[.ref 2, .ref 3, .ref 1], vm := .statics 7 },
  { cls := 16, slots := #[.ref 2, .ref 3], vm := .none },
  { cls := 7, slots := #[.null, .int 0, .int 0, .int 1997], vm := .none },
  { cls := 7, slots := #[.null, .int 0, .int 0, .int 2018], vm := .none }]
def classes : Array Class := #[k0, k1, k2, k3, k4, k5, k6, k7, k8, k9, k10, k11, k12, k13, k14, k15, k16]
def interned : List (Array UInt16 × Addr) := []
def slotsUsed : Nat := 13
def theMethod : MethodId := ⟨1, 1⟩
def args0 : Array Value := #[.int 5, .int 6]
def aboutOver (below : List Frame) : State where
  vm := { classes := classes, interned := interned.toArray }
  heap := heap
  slotsUsed := slotsUsed
  threads := #[{ frames := .invoking theMethod args0 :: below }]
def below0 : List Frame := [.native { method := ⟨0, 0⟩, args := #[] }]
def about1 : State := aboutOver below0
def p0 : Program := .bare "" "" ""
def e0 : Env := launch0.env 0 0 0
theorem w_frames : about1.frames = Frame.invoking theMethod args0 :: below0 := rfl
set_option maxRecDepth 65536 in
theorem w_args : argsFit about1.vm theMethod args0 = true := by decide +kernel
set_option maxRecDepth 65536 in
theorem w_heap : heapFits about1 = true := by decide +kernel
set_option maxRecDepth 65536 in
theorem w_runnable : about1.curStatus? = some .runnable := by decide +kernel
set_option maxRecDepth 65536 in
theorem w_alone : about1.alone = true := by decide +kernel
set_option maxRecDepth 65536 in
theorem w_named : about1.methodNamed? x = some theMethod := by decide +kernel
set_option maxRecDepth 65536 in
theorem w_hears : about1.hears theMethod below0 = true := by decide +kernel
set_option maxRecDepth 65536 in
theorem w_ripe : about1.ripe theMethod args0 below0 = true := by decide +kernel
theorem w_running : about1.status = .running := rfl
set_option maxRecDepth 65536 in
theorem w_room : about1.hasRoom e0.platform room_1 = true :=
  launch0.hasRoom_least _ room_1 (by decide +kernel) (by decide +kernel) (by decide +kernel) (by decide +kernel) (by decide +kernel) (by decide +kernel)
theorem allAtoms_all (ts : List Jvm.Cond) (a : Array Jvm.Value) (st : Jvm.State) : (allAtoms ts).before a st = ts.all (fun c => c.before a st) := by
  induction ts with
  | nil => rfl
  | cons c t ih =>
    show (Jvm.Cond.and c (allAtoms t)).before a st = _
    rw [Jvm.Cond.before_and, ih, List.all_cons]
def words1 : List Jvm.Cond := Jvm.Cond.code x code maxLocals ret :: tables_1
/-- a 'code' word, met by the world's own term for the bytes: nothing is compared byte by byte -/
theorem code_word {y : MethodName} {bytes : ByteArray} {mx : Nat} {rt : Option FieldType} {a : Array Value} {s : State} {m : MethodId} {meth : Method} {c : Code} (h1 : s.methodNamed? y = some m) (h2 : s.vm.method? m = some meth) (h3 : meth.code = some c) (h4 : c.code = bytes)
    (h5 : (c.maxLocals == mx && c.exceptionTable.isEmpty && decide (c.maxStack ≤ mostOperands) && decide (meth.sig.returnType = rt) && !meth.locks && decide (parseMethodDescriptor y.desc = some meth.sig)) = true) : (Jvm.Cond.code y bytes mx rt).before a s = true := by
  simp only [Bool.and_eq_true, beq_iff_eq, Bool.not_eq_true', decide_eq_true_eq] at h5
  obtain ⟨⟨⟨⟨⟨g1, g2⟩, g3⟩, g4⟩, g5⟩, g6⟩ := h5
  simp [Cond.before, Cond.holds, Cond.value, h1, h2, h3, h4, g1, g2, g3, g4, g5, g6]
def isCode : Jvm.Cond → Bool
  | .code _ _ _ _ => true
  | _ => false
theorem all_split {L : List Jvm.Cond} {P : Jvm.Cond → Bool} (h1 : L.all (fun c => isCode c || P c) = true) (h2 : ∀ c ∈ L.filter isCode, P c = true) : L.all P = true := by
  refine List.all_eq_true.mpr fun c hc => ?_
  have h := List.all_eq_true.mp h1 c hc
  rcases Bool.eq_false_or_eq_true (isCode c) with hi | hi
  · exact h2 c (List.mem_filter.mpr ⟨hc, hi⟩)
  · simpa [hi] using h
set_option maxRecDepth 65536 in
theorem w_c0 : (Jvm.Cond.code x code maxLocals ret).before args0 about1 = true := code_word (m := ⟨1, 1⟩) (meth := k1m1) (c := k1c1) (by decide +kernel) rfl rfl rfl (by decide +kernel)
set_option maxRecDepth 65536 in
theorem w_c1 : (Jvm.Cond.code ({ cls := "com/example/threshline/threshline/Handbook", name := "governing", desc := "(I)Lcom/example/threshline/threshline/Handbook;" } : Jvm.MethodName) prog_38_method_5_code (1 : Nat) (Option.some (Jvm.ClassFile.FieldType.object "com/example/threshline/threshline/Handbook"))).before args0 about1 = true := code_word (m := ⟨7, 2⟩) (meth := k7m2) (c := k7c2) (by decide +kernel) rfl rfl rfl (by decide +kernel)
set_option maxRecDepth 65536 in
theorem w_c2 : (Jvm.Cond.code ({ cls := "com/example/threshline/threshline/Handbook", name := "values", desc := "()[Lcom/example/threshline/threshline/Handbook;" } : Jvm.MethodName) prog_38_method_1_code (0 : Nat) (Option.some (Jvm.ClassFile.FieldType.array (Jvm.ClassFile.FieldType.object "com/example/threshline/threshline/Handbook")))).before args0 about1 = true := code_word (m := ⟨7, 0⟩) (meth := k7m0) (c := k7c0) (by decide +kernel) rfl rfl rfl (by decide +kernel)
set_option maxRecDepth 65536 in
theorem w_c3 : (Jvm.Cond.code ({ cls := "com/example/threshline/threshline/Edition", name := "governing", desc := "([Lcom/example/threshline/threshline/Edition;ILjava/lang/String;)Lcom/example/threshline/threshline/Edition;" } : Jvm.MethodName) prog_35_method_2_code (4 : Nat) (Option.some (Jvm.ClassFile.FieldType.object "com/example/threshline/threshline/Edition"))).before args0 about1 = true := code_word (m := ⟨6, 1⟩) (meth := k6m1) (c := k6c1) (by decide +kernel) rfl rfl rfl (by decide +kernel)
set_option maxRecDepth 65536 in
theorem w_c4 : (Jvm.Cond.code ({ cls := "com/example/threshline/threshline/Handbook", name := "firstCropYear", desc := "()I" } : Jvm.MethodName) prog_38_method_4_code (1 : Nat) (Option.some Jvm.ClassFile.FieldType.int)).before args0 about1 = true := code_word (m := ⟨7, 1⟩) (meth := k7m1) (c := k7c1) (by decide +kernel) rfl rfl rfl (by decide +kernel)
def codes1 : List Jvm.Cond := [Jvm.Cond.code x code maxLocals ret, Jvm.Cond.code ({ cls := "com/example/threshline/threshline/Handbook", name := "governing", desc := "(I)Lcom/example/threshline/threshline/Handbook;" } : Jvm.MethodName) prog_38_method_5_code (1 : Nat) (Option.some (Jvm.ClassFile.FieldType.object "com/example/threshline/threshline/Handbook")), Jvm.Cond.code ({ cls := "com/example/threshline/threshline/Handbook", name := "values", desc := "()[Lcom/example/threshline/threshline/Handbook;" } : Jvm.MethodName) prog_38_method_1_code (0 : Nat) (Option.some (Jvm.ClassFile.FieldType.array (Jvm.ClassFile.FieldType.object "com/example/threshline/threshline/Handbook"))), Jvm.Cond.code ({ cls := "com/example/threshline/threshline/Edition", name := "governing", desc := "([Lcom/example/threshline/threshline/Edition;ILjava/lang/String;)Lcom/example/threshline/threshline/Edition;" } : Jvm.MethodName) prog_35_method_2_code (4 : Nat) (Option.some (Jvm.ClassFile.FieldType.object "com/example/threshline/threshline/Edition")), Jvm.Cond.code ({ cls := "com/example/threshline/threshline/Handbook", name := "firstCropYear", desc := "()I" } : Jvm.MethodName) prog_38_method_4_code (1 : Nat) (Option.some Jvm.ClassFile.FieldType.int)]
set_option maxRecDepth 65536 in
theorem codes_eq : words1.filter isCode = codes1 := rfl
theorem w_codes : ∀ c ∈ words1.filter isCode, c.before args0 about1 = true := by
  rw [codes_eq]
  intro c hc
  simp only [codes1, List.mem_cons, List.not_mem_nil, or_false] at hc
  rcases hc with rfl | rfl | rfl | rfl | rfl
  · exact w_c0
  · exact w_c1
  · exact w_c2
  · exact w_c3
  · exact w_c4
set_option maxRecDepth 65536 in
theorem w_t1 : (words1.take 24).all (fun c => isCode c || c.before args0 about1) = true := by decide +kernel
set_option maxRecDepth 65536 in
theorem w_t2 : ((words1.drop 24).take 24).all (fun c => isCode c || c.before args0 about1) = true := by decide +kernel
set_option maxRecDepth 65536 in
theorem w_t3 : ((words1.drop 24).drop 24).all (fun c => isCode c || c.before args0 about1) = true := by decide +kernel
theorem w_tables : (allAtoms (Jvm.Cond.code x code maxLocals ret :: tables_1)).before args0 about1 = true := by
  rw [allAtoms_all]
  show words1.all (fun c => c.before args0 about1) = true
  refine all_split ?_ w_codes
  rw [← List.take_append_drop 24 words1, List.all_append, w_t1, ← List.take_append_drop 24 (words1.drop 24), List.all_append, w_t2, w_t3]
  rfl
set_option maxRecDepth 65536 in
theorem w_case : (Jvm.Cond.and given_1 narrow_1).before args0 about1 = true := by decide +kernel
theorem w_applies : (headSpec (Jvm.Cond.code x code maxLocals ret :: tables_1) room_1).applies x e0.platform about1 = true :=
  (Spec.applies_iff w_frames).mpr ⟨w_running, w_runnable, w_alone, w_named, w_hears, w_ripe, w_room, w_tables⟩
theorem atStart : AtStart classFile x code maxLocals ret World_1 tables_1 room_1 Calls_1 rest_1 Pre_1 launch0 p0 e0 about1 theMethod args0 below0 :=
  ⟨lists_1, trivial, launch0.admits_env _ _ _, launch0.least_env, fairChoices_fair.cas, fairChoices_fair.clock, w_frames, w_args, w_heap, w_applies, trivial, trivial, w_case⟩
end start1
theorem witness_1 : WitnessClaimed_1 := ⟨start1.p0, start1.e0, start1.about1, start1.theMethod, start1.args0, start1.below0, start1.atStart⟩
end Jvm.Pilot.@@N@@
