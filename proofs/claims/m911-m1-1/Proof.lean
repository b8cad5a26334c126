import JvmDerived
import JvmDerived.Pilot.@@N@@Statement
import JvmDerived.Pilot.@@N@@Code
set_option linter.unusedVariables false
set_option linter.unusedSimpArgs false
@@BLOCK:NumsL.lean.txt@@
namespace Jvm.RoadKit
open Sem ClassFile Op Lib Jvm.Stand Jvm.Free Jvm.LawKit
section New
variable {p : Program} {l : Launch} {e : Env} {R : Room} {s : State} {m : MethodId} {args : Array Value} {below : List Frame} {meth : Method} {c : Code} {T : State} {locs : List Loc} {cells slots : Nat}
theorem retI (X : Stand p l e R s m args below meth c T locs cells slots) (hx : p.tables.exec = Jvm.exec) {pc : Nat} {Ls : Array Slot} {z : Int32} {rest : List Value} (hret : meth.sig.returnType = some .int) (hd : decode c.code pc = .ok (.ireturn, 1)) {fs : List Frame}
    (hl : ∀ (f : JFrame) (acts : List Action), f.method = m → f.locked = none → f.entered = [] → (doReturn e (T.setTop f) acts (some (.int z))).1 = T.setFrames fs) : Steps p.tables e below (T.setTop (mkF m pc Ls (.int z :: rest))) (T.setFrames fs) := by
  have hm' : T.vm.method? m = some meth := X.method'
  have hn : narrow .int (.int z) = .int z := rfl
  show Steps p.tables e below (T.setTop { method := m, pc := pc, locals := Ls, stack := _ :: rest, locked := none }) _
  jvm_step X.here [X.here.top, hx, hd, hm', hret, hn]
  first | (intro acts; rw [hl _ acts rfl rfl rfl]) | rw [hl _ _ rfl rfl rfl]
  exact Steps.refl _
end New
end Jvm.RoadKit
namespace Jvm.Pilot.@@N@@
open Jvm Jvm.ClassFile Sem Op Lib Jvm.Free Jvm.Stand Jvm.LawKit Jvm.RoadKit Bundle Jvm.Pilot.@@N@@.Jvm.D
section OwnKit
variable {p : Program} {l : Launch} {e : Env} {R : Room} {s : State} {m : MethodId} {args : Array Value} {below : List Frame} {meth : Method} {c : Code} {T : State} {locs : List Loc} {cells slots : Nat} {Z : State} {a0 : Array Value} {h : Heap} {Q : Option Value → Heap → List Loc → Prop} {C N : Nat} {t t' : State} {P : Outcome → State → Prop}
/-- from the state t the run comes to a return that meets Q -/
def own_Goes (p : Program) (e : Env) (below : List Frame) (P : Outcome → State → Prop) (t : State) : Prop :=
  ∃ s₂ o, Steps p.tables e below t s₂ ∧ s₂.status = .running ∧ Ended s₂ below o ∧ P o s₂
def own_P (s : State) (Q : Option Value → Heap → List Loc → Prop) (C N : Nat) : Outcome → State → Prop := fun o s₂ => ∃ v L, o = .returned v ∧ Q v s₂.heap L ∧ FrameEnd s o s₂ L C N
theorem own_by (st : ∀ target, Steps p.tables e below t' target → Steps p.tables e below t target) (k : own_Goes p e below P t') : own_Goes p e below P t := by
  obtain ⟨s₂, o, h1, h2⟩ := k
  exact ⟨s₂, o, st _ h1, h2⟩
theorem own_tr (st : Steps p.tables e below t t') (k : own_Goes p e below P t') : own_Goes p e below P t := by
  obtain ⟨s₂, o, h1, h2⟩ := k
  exact ⟨s₂, o, st.trans h1, h2⟩
theorem own_retI (X : Stand p l e R s m args below meth c T locs cells slots) (hx : p.tables.exec = Jvm.exec) (hlk : meth.locks = false) {pc : Nat} {Ls : Array Slot} {z : Int32} {rest : List Value} (hret : meth.sig.returnType = some .int) (hd : decode c.code pc = .ok (.ireturn, 1)) (hC : cells ≤ C) (hN : slots ≤ N) (hq : Q (some (.int z)) T.heap locs) : own_Goes p e below (own_P s Q C N) (T.setTop (mkF m pc Ls (.int z :: rest))) := by
  obtain ⟨fs, hr, hrun, hended, hW, hsame⟩ := X.leave (v := some (.int z)) (fun h => by rw [hret] at h; cases h) hlk
  exact ⟨_, _, retI X hx hret hd hr, hrun, hended, _, _, rfl, hq, ⟨_, rfl⟩, hW, hsame.mono hC hN⟩
theorem own_retN (X : Stand p l e R s m args below meth c T locs cells slots) (hx : p.tables.exec = Jvm.exec) (hlk : meth.locks = false) {pc : Nat} {Ls : Array Slot} {z : Int32} {ty : FieldType} {rest : List Value} (hret : meth.sig.returnType = some ty) (ht : ty = .boolean ∨ ty = .byte ∨ ty = .char ∨ ty = .short) (hd : decode c.code pc = .ok (.ireturn, 1)) (hC : cells ≤ C) (hN : slots ≤ N) (hq : Q (some (.int (nar ty z))) T.heap locs) : own_Goes p e below (own_P s Q C N) (T.setTop (mkF m pc Ls (.int z :: rest))) := by
  obtain ⟨fs, hr, hrun, hended, hW, hsame⟩ := X.leave (v := some (.int (nar ty z))) (fun h => by rw [hret] at h; cases h) hlk
  exact ⟨_, _, retN X hx hret ht hd hr, hrun, hended, _, _, rfl, hq, ⟨_, rfl⟩, hW, hsame.mono hC hN⟩
theorem own_retR (X : Stand p l e R s m args below meth c T locs cells slots) (hx : p.tables.exec = Jvm.exec) (hlk : meth.locks = false) {pc : Nat} {Ls : Array Slot} {w : Value} {ty : FieldType} {rest : List Value} (hret : meth.sig.returnType = some ty) (ht : ty.isReference = true) (hw : w.isRef = true) (hn : narrow ty w = w) (hd : decode c.code pc = .ok (.areturn, 1)) (hC : cells ≤ C) (hN : slots ≤ N) (hq : Q (some w) T.heap locs) : own_Goes p e below (own_P s Q C N) (T.setTop (mkF m pc Ls (w :: rest))) := by
  obtain ⟨fs, hr, hrun, hended, hW, hsame⟩ := X.leave (v := some w) (fun h => by rw [hret] at h; cases h) hlk
  exact ⟨_, _, retOut X hx hret hn (Or.inr (Or.inr (Or.inr (Or.inr ⟨rfl, ht, hw⟩)))) hd hr, hrun, hended, _, _, rfl, hq, ⟨_, rfl⟩, hW, hsame.mono hC hN⟩
theorem own_retV (X : Stand p l e R s m args below meth c T locs cells slots) (hx : p.tables.exec = Jvm.exec) (hlk : meth.locks = false) {pc : Nat} {Ls : Array Slot} (hret : meth.sig.returnType = none) (hd : decode c.code pc = .ok (.return_, 1)) (hC : cells ≤ C) (hN : slots ≤ N) (hq : Q none T.heap locs) : own_Goes p e below (own_P s Q C N) (T.setTop (mkF m pc Ls [])) := by
  obtain ⟨fs, hr, hrun, hended, hW, hsame⟩ := X.leave (v := none) (fun _ => rfl) hlk
  exact ⟨_, _, X.returnOut hx hret hd hr, hrun, hended, _, _, rfl, hq, ⟨_, rfl⟩, hW, hsame.mono hC hN⟩
/-- the method y, called with as' on the heap h, returns so that Qc holds -/
def own_Does (l : Launch) (Z : State) (y : MethodName) (bytes : ByteArray) (maxL : Nat) (ret : Option FieldType) (ws : List Jvm.Cond) (rm : Room) (as' : Array Value) (h : Heap) (Qc : Option Value → Heap → List Loc → Prop) : Prop :=
  MetFree l y (head1 (Jvm.Cond.code y bytes maxL ret :: ws) rm) (fun a U => a = as' ∧ Z.Warmed39 U.vm ∧ U.heap = h) (fun _ _ _ _ _ => True) (fun _ U o U' => ∃ v L, o = .returned v ∧ Qc v U'.heap L ∧ FrameEnd U o U' L rm.cells rm.slots)
theorem own_body {y : MethodName} {bytes : ByteArray} {maxL : Nat} {ret : Option FieldType} {ws : List Jvm.Cond} {rm : Room} {as' : Array Value} (hpn : plainName y.cls = true)
    (body : ∀ (p : Program) (e : Env) (s : State) (m : MethodId) (below : List Frame) (meth : Method) (c : Code) (T : State), p.tables.exec = Jvm.exec → c.code = bytes → c.maxLocals = maxL → meth.sig.returnType = ret → meth.locks = false → meth.name = y.name → s.vm.findClass y.cls = some m.cls → Z.Warmed39 s.vm → Stand p l e rm s m as' below meth c T [] 0 0 → T.heap = h → own_Goes p e below (own_P s Q rm.cells rm.slots) (T.setTop (entryFrame m as' maxL))) :
    own_Does l Z y bytes maxL ret ws rm as' h Q := by
  refine MetFree.of_bodySF (plainFor_of_name hpn) hisR ?_
  intro p e s m args below meth c s₁ Bd hml0 hP hK
  obtain ⟨rfl, hZ, hh⟩ := hP
  exact body p e s m below meth c s₁ Bd.exec Bd.bytes hml0 Bd.returns Bd.notSynchronized (name_of_methodNamed Bd.named Bd.method).1 (findClass_of_methodNamed Bd.named) hZ (Stand.of_body Bd) (by rw [← hh, Bd.state]; rfl)
theorem own_bodyP {y : MethodName} {bytes : ByteArray} {maxL : Nat} {ret : Option FieldType} {ws : List Jvm.Cond} {rm : Room} {as' : Array Value} (hpn : plainFor y = true)
    (body : ∀ (p : Program) (e : Env) (s : State) (m : MethodId) (below : List Frame) (meth : Method) (c : Code) (T : State), p.tables.exec = Jvm.exec → c.code = bytes → c.maxLocals = maxL → meth.sig.returnType = ret → meth.locks = false → meth.name = y.name → s.vm.findClass y.cls = some m.cls → Z.Warmed39 s.vm → Stand p l e rm s m as' below meth c T [] 0 0 → T.heap = h → own_Goes p e below (own_P s Q rm.cells rm.slots) (T.setTop (entryFrame m as' maxL))) :
    own_Does l Z y bytes maxL ret ws rm as' h Q := by
  refine MetFree.of_bodySF hpn hisR ?_
  intro p e s m args below meth c s₁ Bd hml0 hP hK
  obtain ⟨rfl, hZ, hh⟩ := hP
  exact body p e s m below meth c s₁ Bd.exec Bd.bytes hml0 Bd.returns Bd.notSynchronized (name_of_methodNamed Bd.named Bd.method).1 (findClass_of_methodNamed Bd.named) hZ (Stand.of_body Bd) (by rw [← hh, Bd.state]; rfl)
/-- it returns w, and nothing has been written -/
def own_Is (w : Value) (h : Heap) : Option Value → Heap → List Loc → Prop := fun v h' L => v = some w ∧ L = [] ∧ h' = h
theorem own_callS (X : Stand p l e R s m args below meth c T locs cells slots) (hx : p.tables.exec = Jvm.exec) (hZ : Z.Warmed39 s.vm) {own : String} {index : Nat} {y : MethodName} {bytes : ByteArray} {maxL : Nat} {ret : Option FieldType} {rm : Room} {argsL rest : List Value} {Qc : Option Value → Heap → List Loc → Prop} {W : Nat}
    (hown : s.vm.findClass own = some m.cls) (w1 : (Cond.methodLink own index y).before a0 Z = true) (w2 : (Cond.static y).before a0 Z = true) (w3 : (Cond.initialized y.cls).before a0 Z = true) (w4 : (Cond.code y bytes maxL ret).before a0 Z = true)
    (hy : y.cls ≠ "java/lang/invoke/MethodHandle" ∧ y.cls ≠ "java/lang/invoke/VarHandle") (eT : T.heap = h) (D : own_Does l Z y bytes maxL ret [] rm argsL.toArray h Qc)
    (hf : rm.frames + 1 ≤ R.frames) (hl : W + (maxL + 11) + rm.locals ≤ R.locals) (hc : cells + rm.cells ≤ R.cells) (hn : slots + rm.slots ≤ R.slots)
    {pc : Nat} {Ls : Array Slot} {S : List Value} (hsize : Ls.size = c.maxLocals) (hlen : ∀ sig, parseMethodDescriptor y.desc = some sig → argsL.length = sig.parameters.length) (hstack : S = argsL.reverse ++ rest) (hW : 2 * 0 + (rest.map fun v => v.category).sum ≤ W) (hd : decode c.code pc = .ok (.invokestatic index, 3))
    (k : ∀ v T' L', Stand p l e R s m args below meth c T' (locs ++ L') (cells + rm.cells) (slots + rm.slots) → Qc v T'.heap L' → own_Goes p e below P (T'.setTop (mkF m (pc + 3) Ls (v.toList ++ rest)))) :
    own_Goes p e below P (T.setTop (mkF m pc Ls S)) := by
  obtain ⟨v, _, ⟨T', L', k', n'⟩, -, X', ⟨Lc, hQ, l', y', z'⟩, st⟩ := Jvm.LawKit.callS X hx hown (mvT hZ w1) (mvT hZ w2) (mvT hZ w3) (mvT hZ w4) hy (backOf (W := W) D hZ w4 w3 hf hl) (g := mkF m pc Ls S) rfl hsize (argsL := argsL) (rest := rest) hlen hstack hW hd (fun _ _ => ⟨rfl, eT, hc, hn⟩)
  dsimp only [Pt.U, Pt.locs, Pt.cells, Pt.slots] at X' l' y' z' st hQ
  subst l' y' z'
  exact own_by st (k v T' Lc X' hQ)
theorem own_callS0 (X : Stand p l e R s m args below meth c T locs cells slots) (hx : p.tables.exec = Jvm.exec) (hZ : Z.Warmed39 s.vm) {own : String} {index : Nat} {y : MethodName} {bytes : ByteArray} {maxL : Nat} {ret : Option FieldType} {fr lo : Nat} {argsL rest : List Value} {w : Value} {W : Nat}
    (hown : s.vm.findClass own = some m.cls) (w1 : (Cond.methodLink own index y).before a0 Z = true) (w2 : (Cond.static y).before a0 Z = true) (w3 : (Cond.initialized y.cls).before a0 Z = true) (w4 : (Cond.code y bytes maxL ret).before a0 Z = true)
    (hy : y.cls ≠ "java/lang/invoke/MethodHandle" ∧ y.cls ≠ "java/lang/invoke/VarHandle") (eT : T.heap = h) (D : own_Does l Z y bytes maxL ret [] { frames := fr, cells := 0, slots := 0, locals := lo } argsL.toArray h (own_Is w h))
    (hf : fr + 1 ≤ R.frames) (hl : W + (maxL + 11) + lo ≤ R.locals) (hc : cells ≤ R.cells) (hn : slots ≤ R.slots)
    {pc : Nat} {Ls : Array Slot} {S : List Value} (hsize : Ls.size = c.maxLocals) (hlen : ∀ sig, parseMethodDescriptor y.desc = some sig → argsL.length = sig.parameters.length) (hstack : S = argsL.reverse ++ rest) (hW : 2 * 0 + (rest.map fun v => v.category).sum ≤ W) (hd : decode c.code pc = .ok (.invokestatic index, 3))
    (k : ∀ T', Stand p l e R s m args below meth c T' locs cells slots → T'.heap = h → own_Goes p e below P (T'.setTop (mkF m (pc + 3) Ls (w :: rest)))) :
    own_Goes p e below P (T.setTop (mkF m pc Ls S)) := by
  refine own_callS X hx hZ hown w1 w2 w3 w4 hy eT D hf hl hc hn hsize hlen hstack hW hd fun v T' L' X' hQ => ?_
  obtain ⟨rfl, rfl, e'⟩ := hQ
  rw [List.append_nil] at X'
  exact k T' X' e'
theorem own_callV (X : Stand p l e R s m args below meth c T locs cells slots) (hx : p.tables.exec = Jvm.exec) (hZ : Z.Warmed39 s.vm) {own K : String} {index : Nat} {y : MethodName} {bytes : ByteArray} {maxL : Nat} {ret : Option FieldType} {rm : Room} {b : Addr} {argsL rest : List Value} {Qc : Option Value → Heap → List Loc → Prop} {W : Nat}
    (hown : s.vm.findClass own = some m.cls) (w1 : (Cond.methodLink own index y).before a0 Z = true) (w2 : (Cond.declares y).before a0 Z = true) (w3 : (Cond.selects K y y).before a0 Z = true) (w4 : (Cond.instanceMethod y).before a0 Z = true) (w5 : (Cond.code y bytes maxL ret).before a0 Z = true) (w6 : (Cond.initialized y.cls).before a0 Z = true)
    (hy : y.cls ≠ "java/lang/invoke/MethodHandle" ∧ y.cls ≠ "java/lang/invoke/VarHandle") (eT : T.heap = h) (E : Exa Z h b K) (D : own_Does l Z y bytes maxL ret [] rm (.ref b :: argsL).toArray h Qc)
    (hf : rm.frames + 1 ≤ R.frames) (hl : W + (maxL + 11) + rm.locals ≤ R.locals) (hc : cells + rm.cells ≤ R.cells) (hn : slots + rm.slots ≤ R.slots)
    {pc : Nat} {Ls : Array Slot} {S : List Value} (hsize : Ls.size = c.maxLocals) (hlen : ∀ sig, parseMethodDescriptor y.desc = some sig → argsL.length = sig.parameters.length) (hstack : S = argsL.reverse ++ .ref b :: rest) (hW : 2 * 0 + (rest.map fun v => v.category).sum ≤ W) (hd : decode c.code pc = .ok (.invokevirtual index, 3))
    (k : ∀ v T' L', Stand p l e R s m args below meth c T' (locs ++ L') (cells + rm.cells) (slots + rm.slots) → Qc v T'.heap L' → own_Goes p e below P (T'.setTop (mkF m (pc + 3) Ls (v.toList ++ rest)))) :
    own_Goes p e below P (T.setTop (mkF m pc Ls S)) := by
  obtain ⟨cq, kq, qa, -, qc⟩ := isOf (T := T) hZ eT E
  obtain ⟨v, _, ⟨T', L', k', n'⟩, -, X', ⟨Lc, hQ, l', y', z'⟩, st⟩ := X.virtualBack hx (y := y) (z := y) hown (mvT hZ w1) (mvT hZ w2) (notFace_of_selects (args := #[]) (mvT hZ w3)) (mvT hZ w3) (mvT hZ w4) hy (backOf (W := W) D hZ w5 w6 hf hl) qa qc (g := mkF m pc Ls S) rfl hsize (Steps.refl _) (argsL := argsL) (rest := rest) hlen hstack hW hd (fun _ _ => ⟨rfl, eT, hc, hn⟩)
  dsimp only [Pt.U, Pt.locs, Pt.cells, Pt.slots] at X' l' y' z' st hQ
  subst l' y' z'
  exact own_tr st (k v T' Lc X' hQ)
theorem own_callV0 (X : Stand p l e R s m args below meth c T locs cells slots) (hx : p.tables.exec = Jvm.exec) (hZ : Z.Warmed39 s.vm) {own K : String} {index : Nat} {y : MethodName} {bytes : ByteArray} {maxL : Nat} {ret : Option FieldType} {fr lo : Nat} {b : Addr} {argsL rest : List Value} {w : Value} {W : Nat}
    (hown : s.vm.findClass own = some m.cls) (w1 : (Cond.methodLink own index y).before a0 Z = true) (w2 : (Cond.declares y).before a0 Z = true) (w3 : (Cond.selects K y y).before a0 Z = true) (w4 : (Cond.instanceMethod y).before a0 Z = true) (w5 : (Cond.code y bytes maxL ret).before a0 Z = true) (w6 : (Cond.initialized y.cls).before a0 Z = true)
    (hy : y.cls ≠ "java/lang/invoke/MethodHandle" ∧ y.cls ≠ "java/lang/invoke/VarHandle") (eT : T.heap = h) (E : Exa Z h b K) (D : own_Does l Z y bytes maxL ret [] { frames := fr, cells := 0, slots := 0, locals := lo } (.ref b :: argsL).toArray h (own_Is w h))
    (hf : fr + 1 ≤ R.frames) (hl : W + (maxL + 11) + lo ≤ R.locals) (hc : cells ≤ R.cells) (hn : slots ≤ R.slots)
    {pc : Nat} {Ls : Array Slot} {S : List Value} (hsize : Ls.size = c.maxLocals) (hlen : ∀ sig, parseMethodDescriptor y.desc = some sig → argsL.length = sig.parameters.length) (hstack : S = argsL.reverse ++ .ref b :: rest) (hW : 2 * 0 + (rest.map fun v => v.category).sum ≤ W) (hd : decode c.code pc = .ok (.invokevirtual index, 3))
    (k : ∀ T', Stand p l e R s m args below meth c T' locs cells slots → T'.heap = h → own_Goes p e below P (T'.setTop (mkF m (pc + 3) Ls (w :: rest)))) :
    own_Goes p e below P (T.setTop (mkF m pc Ls S)) := by
  refine own_callV X hx hZ hown w1 w2 w3 w4 w5 w6 hy eT E D hf hl hc hn hsize hlen hstack hW hd fun v T' L' X' hQ => ?_
  obtain ⟨rfl, rfl, e'⟩ := hQ
  rw [List.append_nil] at X'
  exact k T' X' e'
theorem own_getS (X : Stand p l e R s m args below meth c T locs cells slots) (hx : p.tables.exec = Jvm.exec) (hZ : Z.Warmed39 s.vm) {own O n d : String} {index : Nat} (hown : s.vm.findClass own = some m.cls) (w : (Cond.fieldLink own index O n d).before a0 Z = true) (eT : T.heap = h) {v : Value} (F : Sta Z h O n d v)
    {pc : Nat} {Ls : Array Slot} {S : List Value} (hd : decode c.code pc = .ok (.getstatic index, 3))
    (k : ∀ T', Stand p l e R s m args below meth c T' locs cells slots → T'.heap = h → own_Goes p e below P (T'.setTop (mkF m (pc + 3) Ls (v :: S)))) :
    own_Goes p e below P (T.setTop (mkF m pc Ls S)) := by
  obtain ⟨T', X', e', st⟩ := getS X hx hZ (host := "") hown w Via.refl eT F (g := mkF m pc Ls S) rfl hd
  exact own_by st (k T' X' e')
theorem own_getF (X : Stand p l e R s m args below meth c T locs cells slots) (hx : p.tables.exec = Jvm.exec) (hZ : Z.Warmed39 s.vm) {own O n d : String} {index : Nat} (hown : s.vm.findClass own = some m.cls) (w : (Cond.fieldLink own index O n d).before a0 Z = true) (eT : T.heap = h) {a : Addr} {v : Value} (F : Fld Z h a O n d v)
    {pc : Nat} {Ls : Array Slot} {S : List Value} (hd : decode c.code pc = .ok (.getfield index, 3))
    (k : ∀ T', Stand p l e R s m args below meth c T' locs cells slots → T'.heap = h → own_Goes p e below P (T'.setTop (mkF m (pc + 3) Ls (v :: S)))) :
    own_Goes p e below P (T.setTop (mkF m pc Ls (.ref a :: S))) := by
  obtain ⟨T', X', e', st⟩ := getF X hx hZ (host := "") hown (Or.inl w) Via.refl eT F (g := mkF m pc Ls (.ref a :: S)) rfl rfl hd
  exact own_by st (k T' X' e')
/-! a callee or a road that may load a String constant -/
def own_PW (s : State) (Q : Option Value → Heap → List Loc → Prop) (C N : Nat) : Outcome → State → Prop := fun o s₂ => ∃ v L, o = .returned v ∧ Q v s₂.heap L ∧ ReturnedEndW s o s₂ L C N
theorem own_endW {vm0 : Vm} {k0 : Nat} (X : Stand p l e R (s.setVm vm0) m args below meth c T locs cells slots) (hS : s.Since vm0 k0) (hk : k0 ≤ T.heap.size) (hlk : meth.locks = false) (v : Option Value) (hv : meth.sig.returnType = none → v = none) (hC : cells ≤ C) (hN : slots ≤ N) (hq : Q v T.heap locs) :
    ∃ fs, (∀ (f : JFrame) (acts : List Action), f.method = m → f.locked = none → f.entered = [] → (doReturn e (T.setTop f) acts v).1 = T.setFrames fs) ∧ ∀ t0, Steps p.tables e below t0 (T.setFrames fs) → own_Goes p e below (own_PW s Q C N) t0 := by
  obtain ⟨fs, hr, hrun, hended, -, h1, h2, h3⟩ := X.leaveW hS hk hv hlk
  exact ⟨fs, hr, fun t0 st => ⟨_, _, st, hrun, hended, _, _, rfl, hq, ⟨_, rfl⟩, h1, h2, h3.mono hC hN⟩⟩
theorem own_retNW {vm0 : Vm} {k0 : Nat} (X : Stand p l e R (s.setVm vm0) m args below meth c T locs cells slots) (hS : s.Since vm0 k0) (hk : k0 ≤ T.heap.size) (hx : p.tables.exec = Jvm.exec) (hlk : meth.locks = false) {pc : Nat} {Ls : Array Slot} {z : Int32} {ty : FieldType} {rest : List Value} (hret : meth.sig.returnType = some ty) (ht : ty = .boolean ∨ ty = .byte ∨ ty = .char ∨ ty = .short) (hd : decode c.code pc = .ok (.ireturn, 1)) (hC : cells ≤ C) (hN : slots ≤ N) (hq : Q (some (.int (nar ty z))) T.heap locs) : own_Goes p e below (own_PW s Q C N) (T.setTop (mkF m pc Ls (.int z :: rest))) := by
  obtain ⟨fs, hr, k⟩ := own_endW X hS hk hlk (some (.int (nar ty z))) (fun h => by rw [hret] at h; cases h) hC hN hq
  exact k _ (retN X hx hret ht hd hr)
theorem own_retRW {vm0 : Vm} {k0 : Nat} (X : Stand p l e R (s.setVm vm0) m args below meth c T locs cells slots) (hS : s.Since vm0 k0) (hk : k0 ≤ T.heap.size) (hx : p.tables.exec = Jvm.exec) (hlk : meth.locks = false) {pc : Nat} {Ls : Array Slot} {w : Value} {ty : FieldType} {rest : List Value} (hret : meth.sig.returnType = some ty) (ht : ty.isReference = true) (hw : w.isRef = true) (hn : narrow ty w = w) (hd : decode c.code pc = .ok (.areturn, 1)) (hC : cells ≤ C) (hN : slots ≤ N) (hq : Q (some w) T.heap locs) : own_Goes p e below (own_PW s Q C N) (T.setTop (mkF m pc Ls (w :: rest))) := by
  obtain ⟨fs, hr, k⟩ := own_endW X hS hk hlk (some w) (fun h => by rw [hret] at h; cases h) hC hN hq
  exact k _ (retOut X hx hret hn (Or.inr (Or.inr (Or.inr (Or.inr ⟨rfl, ht, hw⟩)))) hd hr)
theorem own_retVW {vm0 : Vm} {k0 : Nat} (X : Stand p l e R (s.setVm vm0) m args below meth c T locs cells slots) (hS : s.Since vm0 k0) (hk : k0 ≤ T.heap.size) (hx : p.tables.exec = Jvm.exec) (hlk : meth.locks = false) {pc : Nat} {Ls : Array Slot} (hret : meth.sig.returnType = none) (hd : decode c.code pc = .ok (.return_, 1)) (hC : cells ≤ C) (hN : slots ≤ N) (hq : Q none T.heap locs) : own_Goes p e below (own_PW s Q C N) (T.setTop (mkF m pc Ls [])) := by
  obtain ⟨fs, hr, k⟩ := own_endW X hS hk hlk none (fun _ => rfl) hC hN hq
  exact k _ (X.returnOut hx hret hd hr)
def own_DoesW (l : Launch) (Z : State) (y : MethodName) (bytes : ByteArray) (maxL : Nat) (ret : Option FieldType) (ws : List Jvm.Cond) (rm : Room) (as' : Array Value) (h : Heap) (Qc : Option Value → Heap → List Loc → Prop) : Prop :=
  MetFree l y (head1 (Jvm.Cond.code y bytes maxL ret :: ws) rm) (fun a U => a = as' ∧ Z.Warmed39 U.vm ∧ U.heap = h) (fun _ _ _ _ _ => True) (fun _ U o U' => ∃ v L, o = .returned v ∧ Qc v U'.heap L ∧ ReturnedEndW U o U' L rm.cells rm.slots)
theorem own_bodyW {y : MethodName} {bytes : ByteArray} {maxL : Nat} {ret : Option FieldType} {ws : List Jvm.Cond} {rm : Room} {as' : Array Value} (hpn : plainName y.cls = true)
    (body : ∀ (p : Program) (e : Env) (s : State) (m : MethodId) (below : List Frame) (meth : Method) (c : Code) (T : State), p.tables.exec = Jvm.exec → c.code = bytes → c.maxLocals = maxL → meth.sig.returnType = ret → meth.locks = false → meth.name = y.name → (s.setVm s.vm).vm.findClass y.cls = some m.cls → Z.Warmed39 (s.setVm s.vm).vm → s.Since s.vm 0 → Stand p l e rm (s.setVm s.vm) m as' below meth c T [] 0 0 → T.heap = h → own_Goes p e below (own_PW s Q rm.cells rm.slots) (T.setTop (entryFrame m as' maxL))) :
    own_DoesW l Z y bytes maxL ret ws rm as' h Q := by
  refine MetFree.of_bodySF (plainFor_of_name hpn) hisR ?_
  intro p e s m args below meth c s₁ Bd hml0 hP hK
  obtain ⟨rfl, hZ, hh⟩ := hP
  exact body p e s m below meth c s₁ Bd.exec Bd.bytes hml0 Bd.returns Bd.notSynchronized (name_of_methodNamed Bd.named Bd.method).1 (findClass_of_methodNamed Bd.named) hZ ((State.WarmedH.refl s).since 0) (Stand.of_body Bd) (by rw [← hh, Bd.state]; rfl)
theorem own_ldcS {vm0 : Vm} {k0 : Nat} (X : Stand p l e R (s.setVm vm0) m args below meth c T locs cells slots) (hx : p.tables.exec = Jvm.exec) (hZ : Z.Warmed39 (s.setVm vm0).vm) {own text : String} {index : Nat} (hown : (s.setVm vm0).vm.findClass own = some m.cls) (w : (Cond.stringLink own index text).before a0 Z = true) (wS : ∀ a ∈ Bundle.stringAtoms, a.before a0 Z = true)
    (eT : T.heap = h) (hS : s.Since vm0 k0) (hk : k0 ≤ h.size) {pc : Nat} {Ls : Array Slot} {S : List Value} (hd : decode c.code pc = .ok (.ldc index, 2)) {n : Nat} (hn : 4 * text.toList.length ≤ n) (hbig : n ≤ 536870912) (hc : cells + 2 ≤ R.cells) (hl : slots + (n + 4) ≤ R.slots)
    (k : ∀ (a : Addr) (T' : State) (h' : Heap) (k1 : Nat), Stand p l e R (s.setVm T'.vm) m args below meth c T' locs (cells + 2) (slots + (n + 4)) → T'.heap = h' → Ext h h' → s.Since T'.vm k1 → k1 ≤ h'.size → Z.Warmed39 (s.setVm T'.vm).vm → (s.setVm T'.vm).vm.findClass own = some m.cls → own_Goes p e below P (T'.setTop (mkF m (pc + 2) Ls (.ref a :: S)))) :
    own_Goes p e below P (T.setTop (mkF m pc Ls S)) := by
  obtain ⟨a, T', h', k1, X', e', E', hS', hk', hZ', hown', st⟩ := ldcS X hx hZ hown w wS eT hS hk (g := mkF m pc Ls S) rfl hd hn hbig hc hl
  exact own_by st (k a T' h' k1 X' e' E' hS' hk' hZ' hown')
theorem own_callSS {vm0 : Vm} {k0 : Nat} (X : Stand p l e R (s.setVm vm0) m args below meth c T locs cells slots) (hx : p.tables.exec = Jvm.exec) (hZ : Z.Warmed39 (s.setVm vm0).vm) (hS : s.Since vm0 k0) (hk : k0 ≤ T.heap.size) {own : String} {index : Nat} {y : MethodName} {bytes : ByteArray} {maxL : Nat} {ret : Option FieldType} {rm : Room} {argsL rest : List Value} {Qc : Option Value → Heap → List Loc → Prop} {W : Nat}
    (hown : (s.setVm vm0).vm.findClass own = some m.cls) (w1 : (Cond.methodLink own index y).before a0 Z = true) (w2 : (Cond.static y).before a0 Z = true) (w3 : (Cond.initialized y.cls).before a0 Z = true) (w4 : (Cond.code y bytes maxL ret).before a0 Z = true)
    (hy : y.cls ≠ "java/lang/invoke/MethodHandle" ∧ y.cls ≠ "java/lang/invoke/VarHandle") (eT : T.heap = h) (D : own_DoesW l Z y bytes maxL ret [] rm argsL.toArray h Qc)
    (hf : rm.frames + 1 ≤ R.frames) (hl : W + (maxL + 11) + rm.locals ≤ R.locals) (hc : cells + rm.cells ≤ R.cells) (hn : slots + rm.slots ≤ R.slots)
    {pc : Nat} {Ls : Array Slot} {S : List Value} (hsize : Ls.size = c.maxLocals) (hlen : ∀ sig, parseMethodDescriptor y.desc = some sig → argsL.length = sig.parameters.length) (hstack : S = argsL.reverse ++ rest) (hW : 2 * 0 + (rest.map fun v => v.category).sum ≤ W) (hd : decode c.code pc = .ok (.invokestatic index, 3))
    (k : ∀ v T' L', Stand p l e R (s.setVm T'.vm) m args below meth c T' (locs ++ L') (cells + rm.cells) (slots + rm.slots) → s.Since T'.vm T'.heap.size → Z.Warmed39 (s.setVm T'.vm).vm → (s.setVm T'.vm).vm.findClass own = some m.cls → Qc v T'.heap L' → own_Goes p e below P (T'.setTop (mkF m (pc + 3) Ls (v.toList ++ rest)))) :
    own_Goes p e below P (T.setTop (mkF m pc Ls S)) := by
  obtain ⟨v, _, ⟨T', L', k', n'⟩, -, X', hS2, hg2, ⟨Lc, hQ, l', y', z'⟩, st⟩ := callSS X hx hown (mvT hZ w1) (mvT hZ w2) (mvT hZ w3) (mvT hZ w4) hy (backOfS (W := W) D hZ w4 w3 hf hl) (g := mkF m pc Ls S) rfl hsize (argsL := argsL) (rest := rest) hlen hstack hW hd (fun _ _ => ⟨rfl, eT, hc, hn⟩)
  dsimp only [Pt.U, Pt.locs, Pt.cells, Pt.slots] at X' l' y' z' st hQ hS2 hg2
  subst l' y' z'
  obtain ⟨X2, hS3, hZ3, hown3⟩ := rebS hS hk X' hS2 hg2 hZ hown
  exact own_tr st (k v T' Lc X2 hS3 hZ3 hown3 hQ)
theorem own_callIS {vm0 : Vm} {k0 : Nat} (X : Stand p l e R (s.setVm vm0) m args below meth c T locs cells slots) (hx : p.tables.exec = Jvm.exec) (hZ : Z.Warmed39 (s.setVm vm0).vm) (hS : s.Since vm0 k0) (hk : k0 ≤ T.heap.size) {own : String} {index : Nat} {y : MethodName} {bytes : ByteArray} {maxL : Nat} {rm : Room} {a : Addr} {argsL rest : List Value} {Qc : Option Value → Heap → List Loc → Prop} {W : Nat} (hy1 : y.name = "<init>")
    (hown : (s.setVm vm0).vm.findClass own = some m.cls) (w1 : (Cond.methodLink own index y).before a0 Z = true) (w2 : (Cond.instanceMethod y).before a0 Z = true) (w3 : (Cond.code y bytes maxL none).before a0 Z = true) (w4 : (Cond.initialized y.cls).before a0 Z = true)
    (hy : y.cls ≠ "java/lang/invoke/MethodHandle" ∧ y.cls ≠ "java/lang/invoke/VarHandle") (eT : T.heap = h) (D : own_DoesW l Z y bytes maxL none [] rm (.ref a :: argsL).toArray h Qc)
    (hf : rm.frames + 1 ≤ R.frames) (hl : W + (maxL + 11) + rm.locals ≤ R.locals) (hc : cells + rm.cells ≤ R.cells) (hn : slots + rm.slots ≤ R.slots)
    {pc : Nat} {Ls : Array Slot} {S : List Value} (hsize : Ls.size = c.maxLocals) (hlen : ∀ sig, parseMethodDescriptor y.desc = some sig → argsL.length = sig.parameters.length) (hstack : S = argsL.reverse ++ .ref a :: rest) (hW : 2 * 0 + (rest.map fun v => v.category).sum ≤ W) (hd : decode c.code pc = .ok (.invokespecial index, 3))
    (k : ∀ v T' L', Stand p l e R (s.setVm T'.vm) m args below meth c T' (locs ++ L') (cells + rm.cells) (slots + rm.slots) → s.Since T'.vm T'.heap.size → Z.Warmed39 (s.setVm T'.vm).vm → (s.setVm T'.vm).vm.findClass own = some m.cls → Qc v T'.heap L' → own_Goes p e below P (T'.setTop (mkF m (pc + 3) Ls (v.toList ++ rest)))) :
    own_Goes p e below P (T.setTop (mkF m pc Ls S)) := by
  obtain ⟨v, _, ⟨T', L', k', n'⟩, -, X', hS2, hg2, ⟨Lc, hQ, l', y', z'⟩, st⟩ := X.specialBackS hx (y := y) hy1 hown (mvT hZ w1) (mvT hZ w2) (mvT hZ w3) hy (backOfS (W := W) D hZ w3 w4 hf hl) (g := mkF m pc Ls S) rfl hsize (Steps.refl _) (a := a) (argsL := argsL) (rest := rest) hlen hstack hW hd (fun _ _ => ⟨rfl, eT, hc, hn⟩)
  dsimp only [Pt.U, Pt.locs, Pt.cells, Pt.slots] at X' l' y' z' st hQ hS2 hg2
  subst l' y' z'
  obtain ⟨X2, hS3, hZ3, hown3⟩ := rebS hS hk X' hS2 hg2 hZ hown
  exact own_tr st (k v T' Lc X2 hS3 hZ3 hown3 hQ)
theorem own_notIns {O N1 C1 K : String} {n : Nat} (w1 : (Cond.superclass C1 N1).before a0 Z = true) (w2 : (Cond.superclass N1 O).before a0 Z = true) (w3 : (Cond.noSuperclass O).before a0 Z = true) (wi : (Cond.instantiable K n).before a0 Z = true) (h1 : O ≠ K) (h2 : N1 ≠ K) (h3 : C1 ≠ K) : ∃ c t, Z.vm.findClass C1 = some c ∧ Z.vm.findClass K = some t ∧ Z.vm.assignable c t = false := by
  obtain ⟨t, kt, g1, g2, g3, g4, -⟩ := Cond.instantiable_spec wi
  have root : NS Z O K := by
    obtain ⟨c, k, q1, q2, q3, -, -⟩ := Cond.noSuperclass_spec w3
    have ne := ids_ne q1 g1 h1
    refine ⟨c, t, q1, g1, fun fuel => ?_⟩
    cases fuel with
    | zero => rfl
    | succ f => simp [Vm.isSubclassAux, ne, q2, q3]
  obtain ⟨c, t', q0, q1, n3⟩ := NS.step w1 (NS.step w2 root h2) h3
  cases g1.symm.trans q1
  obtain ⟨p, k, kp, r1, r2, r3, r4, r5, -, r7⟩ := Cond.superclass_spec q0 w1
  have ne := ids_ne q0 g1 h3
  have g5 : kt.isInterface = false := by
    cases hq : kt.isInterface
    · rfl
    · rw [hq] at g4; cases g4
  refine ⟨c, t, q0, g1, ?_⟩
  show Z.vm.assignableAux (255 + 1) c t = false
  simp [Vm.assignableAux, ne, r2, g2, r5, g3, g5, Vm.isSubclass, n3]
/-! from the case's words -/
theorem own_eqR {args : Array Value} {s : State} {a b : Term} {y : Addr} (h1 : (Cond.eq a b).value args s none s [] = some true) (h2 : b.eval args s none [] s = some (.ref y)) : a.eval args s none [] s = some (.ref y) := by
  simp only [Cond.value, h2] at h1
  cases ha : a.eval args s none [] s with
  | none => simp [ha] at h1
  | some x => cases x <;> simp [ha] at h1 ⊢ <;> exact h1
theorem own_eqI {args : Array Value} {s : State} {a : Term} {n : Int32} (h1 : (Cond.eq a (.int n)).value args s none s [] = some true) : a.eval args s none [] s = some (.int n) := by
  have h2 : (Term.int n).eval args s none [] s = some (.int n) := rfl
  simp only [Cond.value, h2] at h1
  cases ha : a.eval args s none [] s with
  | none => simp [ha] at h1
  | some x => cases x <;> simp [ha] at h1 ⊢ <;> exact h1
theorem own_fld {args : Array Value} {s : State} {t : Term} {a : Addr} {C n d : String} {v : Value} (ht : t.eval args s none [] s = some (.ref a)) (h : (Term.field t C n d).eval args s none [] s = some v) : Fld s s.heap a C n d v := Fld.start (by rw [← fld_at ht]; exact h)
/-- two objects whose field differs are two -/
theorem own_ne {a b : Addr} {C n d : String} {v w : Value} (F : Fld Z h a C n d v) (G : Fld Z h b C n d w) (hn : v ≠ w) : a ≠ b := fun q => by
  subst q
  obtain ⟨c1, f1, k1, i1, g1, h1, h2, -, -, -, -, h7⟩ := F
  obtain ⟨c2, f2, k2, i2, g2, e1, e2, -, -, -, -, e7⟩ := G
  cases h1.symm.trans e1
  cases h2.symm.trans e2
  exact hn (Option.some.inj (h7.symm.trans e7))
/-! arrays: the array at a has n components, the i-th is f i -/
def own_ArrF (Z : State) (h : Heap) (a : Addr) (ty : FieldType) (n : Nat) (f : Nat → Value) : Prop := ∃ cell, Arr Z h a cell ty ∧ cell.slots.size = n ∧ n < 2 ^ 31 ∧ ∀ i, i < n → cell.slots[i]? = some (f i)
theorem own_len {args : Array Value} {s : State} {t : Term} {a : Addr} {cell : Cell} {n : Int32} (h : (Term.length t).eval args s none [] s = some (.int n)) (ht : t.eval args s none [] s = some (.ref a)) (hc : s.arrayAt? a = some cell) : cell.slots.size < 2 ^ 31 ∧ cell.slots.size.toInt32 = n := by
  simp only [Term.eval, ht, hc, Option.bind_eq_bind, Option.bind_some] at h
  split at h
  · rename_i q
    exact ⟨q, by simpa using h⟩
  · cases h
theorem own_clamp {j : Int32} {i : Nat} (h : j.toInt = i) : j.toNatClampNeg = i := by
  show j.toInt.toNat = i
  omega
theorem own_in {j : Int32} {i n : Nat} (h : j.toInt = i) (hi : i < n) : ¬ (j < 0 ∨ n ≤ j.toNatClampNeg) := by
  rw [own_clamp h, Int32.lt_iff_toInt_lt]
  have q : (0 : Int32).toInt = 0 := rfl
  omega
theorem own_arrF {args : Array Value} {s : State} {t : Term} {a : Addr} {ty : FieldType} {f : Nat → Value} {n : Nat} {n32 : Int32} (ht : t.eval args s none [] s = some (.ref a)) (h1 : (Cond.arrayOf t ty).value args s none s [] = some true) (h2 : (Cond.eq (.length t) (.int n32)).value args s none s [] = some true) (hn : n32.toInt = n)
    (hel : ∀ cell, s.arrayAt? a = some cell → s.heap[a]? = some cell → cell.slots.size = n → ∀ i, i < n → cell.slots[i]? = some (f i)) : own_ArrF s s.heap a ty n f := by
  obtain ⟨cell, Ac⟩ := Arr.start ht h1
  have hat := Ac.fin (Vm.Alike.refl _)
  obtain ⟨q1, q2⟩ := own_len (own_eqI h2) ht hat
  have q3 : cell.slots.size = n := by
    have q4 := congrArg Int32.toInt q2
    rw [len_toInt q1, hn] at q4
    omega
  exact ⟨cell, Ac, q3, by omega, hel cell hat Ac.1 q3⟩
theorem own_el {args : Array Value} {s : State} {t : Term} {a : Addr} {cell : Cell} {j : Int32} {v : Value} {i : Nat} (ht : t.eval args s none [] s = some (.ref a)) (hc : s.heap[a]? = some cell) (h : (Term.elem t (.int j)).eval args s none [] s = some v) (hj : j.toInt = i) : cell.slots[i]? = some v := by
  have q := (elem_in h ht rfl hc).2
  rw [own_clamp hj] at q
  exact q
theorem own_ArrF.ext {h' : Heap} {a : Addr} {ty : FieldType} {n : Nat} {f : Nat → Value} (E : Ext h h') (F : own_ArrF Z h a ty n f) : own_ArrF Z h' a ty n f := by
  obtain ⟨cell, h1, h2⟩ := F
  exact ⟨cell, h1.ext E, h2⟩
theorem own_ArrF.keep {h' : Heap} {a : Addr} {ty : FieldType} {n : Nat} {f : Nat → Value} {b : Addr} {sl : Nat} {v : Value} (W : Wr h h' b sl v) (F : own_ArrF Z h a ty n f) (hne : a ≠ b) : own_ArrF Z h' a ty n f := by
  obtain ⟨cell, h1, h2⟩ := F
  exact ⟨cell, h1.other W hne, h2⟩
theorem own_ArrF.set {h' : Heap} {a : Addr} {ty : FieldType} {n : Nat} {f : Nat → Value} {j : Nat} {v : Value} (F : own_ArrF Z h a ty n f) (hj : j < n) (W : Wr h h' a j v) : own_ArrF Z h' a ty n (fun i => if i = j then v else f i) := by
  obtain ⟨cell, h1, h2, h3, h4⟩ := F
  refine ⟨cell.setSlot j v, h1.same W, by simp [Cell.setSlot, h2], h3, fun i hi => ?_⟩
  show _ = some (if i = j then v else f i)
  by_cases q : i = j
  · subst q
    rw [if_pos rfl]
    simp [Cell.setSlot, h2, hi]
  · rw [if_neg q, ← h4 i hi]
    exact Array.getElem?_setIfInBounds_ne (Ne.symm q)
theorem own_ArrF.mono {a : Addr} {ty : FieldType} {n : Nat} {f g : Nat → Value} (F : own_ArrF Z h a ty n f) (hg : ∀ i, i < n → f i = g i) : own_ArrF Z h a ty n g := by
  obtain ⟨cell, h1, h2, h3, h4⟩ := F
  exact ⟨cell, h1, h2, h3, fun i hi => by rw [h4 i hi, hg i hi]⟩
theorem own_alen (X : Stand p l e R s m args below meth c T locs cells slots) (hx : p.tables.exec = Jvm.exec) (hZ : Z.Warmed39 s.vm) (eT : T.heap = h) {a : Addr} {ty : FieldType} {n : Nat} {f : Nat → Value} (F : own_ArrF Z h a ty n f)
    {pc : Nat} {Ls : Array Slot} {S : List Value} (hd : decode c.code pc = .ok (.arraylength, 1)) (k : own_Goes p e below P (T.setTop (mkF m (pc + 1) Ls (.int n.toInt32 :: S)))) : own_Goes p e below P (T.setTop (mkF m pc Ls (.ref a :: S))) := by
  obtain ⟨cell, h1, h2, h3, h4⟩ := F
  subst h2
  exact own_by (fun _ q => X.arraylength hx (by rw [eT]; exact h1.1) (State.isArrayOf_alike hZ.alike h1.2.1) (g := mkF m pc Ls (.ref a :: S)) rfl rfl hd _ q) k
theorem own_aaload (X : Stand p l e R s m args below meth c T locs cells slots) (hx : p.tables.exec = Jvm.exec) (hZ : Z.Warmed39 s.vm) (eT : T.heap = h) {a : Addr} {ty : FieldType} {n : Nat} {f : Nat → Value} (F : own_ArrF Z h a ty n f) (hty : ty.isReference = true) {j : Int32} (i : Nat) (hj : j.toInt = i) (hi : i < n) {v : Value} (hv : f i = v)
    {pc : Nat} {Ls : Array Slot} {S : List Value} (hd : decode c.code pc = .ok (.aaload, 1)) (k : own_Goes p e below P (T.setTop (mkF m (pc + 1) Ls (v :: S)))) : own_Goes p e below P (T.setTop (mkF m pc Ls (.int j :: .ref a :: S))) := by
  obtain ⟨cell, h1, h2, h3, h4⟩ := F
  exact own_by (fun _ q => X.aaload hx (j := j) (v := v) (by rw [eT]; exact h1.1) (State.isArrayOf_alike hZ.alike h1.2.1) hty h1.2.2 (by rw [h2]; exact own_in hj hi) (by rw [own_clamp hj, h4 i hi, hv]) (g := mkF m pc Ls (.int j :: .ref a :: S)) rfl rfl hd _ q) k
theorem own_iaload (X : Stand p l e R s m args below meth c T locs cells slots) (hx : p.tables.exec = Jvm.exec) (hZ : Z.Warmed39 s.vm) (eT : T.heap = h) {a : Addr} {n : Nat} {f : Nat → Value} (F : own_ArrF Z h a .int n f) {j : Int32} (i : Nat) (hj : j.toInt = i) (hi : i < n) {v : Value} (hv : f i = v)
    {pc : Nat} {Ls : Array Slot} {S : List Value} (hd : decode c.code pc = .ok (.iaload, 1)) (k : own_Goes p e below P (T.setTop (mkF m (pc + 1) Ls (v :: S)))) : own_Goes p e below P (T.setTop (mkF m pc Ls (.int j :: .ref a :: S))) := by
  obtain ⟨cell, h1, h2, h3, h4⟩ := F
  exact own_by (fun _ q => X.iaload hx (j := j) (v := v) (by rw [eT]; exact h1.1) (State.isArrayOf_alike hZ.alike h1.2.1) h1.2.2 (by rw [h2]; exact own_in hj hi) (by rw [own_clamp hj, h4 i hi, hv]) (g := mkF m pc Ls (.int j :: .ref a :: S)) rfl rfl hd _ q) k
theorem own_baload (X : Stand p l e R s m args below meth c T locs cells slots) (hx : p.tables.exec = Jvm.exec) (hZ : Z.Warmed39 s.vm) (eT : T.heap = h) {a : Addr} {n : Nat} {f : Nat → Value} (F : own_ArrF Z h a .byte n f) {j : Int32} (i : Nat) (hj : j.toInt = i) (hi : i < n) {v : Value} (hv : f i = v)
    {pc : Nat} {Ls : Array Slot} {S : List Value} (hd : decode c.code pc = .ok (.baload, 1)) (k : own_Goes p e below P (T.setTop (mkF m (pc + 1) Ls (v :: S)))) : own_Goes p e below P (T.setTop (mkF m pc Ls (.int j :: .ref a :: S))) := by
  obtain ⟨cell, h1, h2, h3, h4⟩ := F
  exact own_by (fun _ q => X.baloadBytes hx (j := j) (v := v) (by rw [eT]; exact h1.1) (State.isArrayOf_alike hZ.alike h1.2.1) h1.2.2 (by rw [h2]; exact own_in hj hi) (by rw [own_clamp hj, h4 i hi, hv]) (g := mkF m pc Ls (.int j :: .ref a :: S)) rfl rfl hd _ q) k
theorem own_callVU0 (X : Stand p l e R s m args below meth c T locs cells slots) (hx : p.tables.exec = Jvm.exec) (hZ : Z.Warmed39 s.vm) {own K owner : String} {index : Nat} {y z : MethodName} {bytes : ByteArray} {maxL : Nat} {ret : Option FieldType} {fr lo : Nat} {b : Addr} {argsL rest : List Value} {w : Value} {W : Nat}
    (hown : s.vm.findClass own = some m.cls) (w1 : (Cond.methodLink own index y).before a0 Z = true) (w2 : (Cond.sameMethod y.cls owner y.name y.desc).before a0 Z = true) (w2' : (Cond.declares ⟨owner, y.name, y.desc⟩).before a0 Z = true) (w3 : (Cond.selects K y z).before a0 Z = true) (w4 : (Cond.instanceMethod z).before a0 Z = true) (w5 : (Cond.code z bytes maxL ret).before a0 Z = true) (w6 : (Cond.initialized z.cls).before a0 Z = true)
    (hy : owner ≠ "java/lang/invoke/MethodHandle" ∧ owner ≠ "java/lang/invoke/VarHandle") (eT : T.heap = h) (E : Exa Z h b K) (D : own_Does l Z z bytes maxL ret [] { frames := fr, cells := 0, slots := 0, locals := lo } (.ref b :: argsL).toArray h (own_Is w h))
    (hf : fr + 1 ≤ R.frames) (hl : W + (maxL + 11) + lo ≤ R.locals) (hc : cells ≤ R.cells) (hn : slots ≤ R.slots)
    {pc : Nat} {Ls : Array Slot} {S : List Value} (hsize : Ls.size = c.maxLocals) (hlen : ∀ sig, parseMethodDescriptor y.desc = some sig → argsL.length = sig.parameters.length) (hstack : S = argsL.reverse ++ .ref b :: rest) (hW : 2 * 0 + (rest.map fun v => v.category).sum ≤ W) (hd : decode c.code pc = .ok (.invokevirtual index, 3))
    (k : ∀ T', Stand p l e R s m args below meth c T' locs cells slots → T'.heap = h → own_Goes p e below P (T'.setTop (mkF m (pc + 3) Ls (w :: rest)))) :
    own_Goes p e below P (T.setTop (mkF m pc Ls S)) := by
  obtain ⟨cq, kq, qa, -, qc⟩ := isOf (T := T) hZ eT E
  obtain ⟨v, _, ⟨T', L', k', n'⟩, -, X', ⟨Lc, hQ, l', y', z'⟩, st⟩ := X.virtualBackUp hx (x := y) (y := z) hown (mvT hZ w1) (mvT hZ w2) (mvT hZ w2') hy (mvT hZ w3) (mvT hZ w4) (backOf (W := W) D hZ w5 w6 hf hl) qa qc (g := mkF m pc Ls S) rfl hsize (Steps.refl _) (argsL := argsL) (rest := rest) hlen hstack hW hd (fun _ _ => ⟨rfl, eT, hc, hn⟩)
  dsimp only [Pt.U, Pt.locs, Pt.cells, Pt.slots] at X' l' y' z' st hQ
  subst l' y' z'
  obtain ⟨rfl, rfl, e'⟩ := hQ
  rw [List.append_nil] at X'
  exact own_tr st (k T' X' e')
theorem own_getClass (X : Stand p l e R s m args below meth c T locs cells slots) (hx : p.tables.exec = Jvm.exec) (hZ : Z.Warmed39 s.vm) {own K : String} {index : Nat} {b mir : Addr} {cM : ClassId} {kM : Class} (hown : s.vm.findClass own = some m.cls) (w1 : (Cond.methodLink own index Jvm.Stand.gcN).before a0 Z = true) (w2 : (Cond.declares Jvm.Stand.gcN).before a0 Z = true) (w3 : (Cond.selects K Jvm.Stand.gcN Jvm.Stand.gcN).before a0 Z = true) (w4 : (Cond.instanceMethod Jvm.Stand.gcN).before a0 Z = true) (w5 : (Cond.native Jvm.Stand.gcN).before a0 Z = true)
    (eT : T.heap = h) (E : Exa Z h b K) (m1 : Z.vm.findClass K = some cM) (m2 : Z.vm.classes[cM]? = some kM) (m3 : kM.mirror = some mir)
    {pc : Nat} {Ls : Array Slot} {rest : List Value} (hsize : Ls.size = c.maxLocals) (hd : decode c.code pc = .ok (.invokevirtual index, 3)) (hf : 1 ≤ R.frames) (hl : 2 * 0 + (rest.map fun v => v.category).sum + (nativeFrameWords "java/lang/Object" "getClass" 1 + 11) ≤ R.locals)
    (k : ∀ T', Stand p l e R s m args below meth c T' locs cells slots → T'.heap = h → own_Goes p e below P (T'.setTop (mkF m (pc + 3) Ls (.ref mir :: rest)))) :
    own_Goes p e below P (T.setTop (mkF m pc Ls (.ref b :: rest))) := by
  obtain ⟨cq, kq, qa, qb, qc⟩ := isOf (T := T) hZ eT E
  have e1 : cq = cM := by
    rw [hZ.alike.findClass] at qa
    exact Option.some.inj (qa.symm.trans m1)
  subst e1
  obtain ⟨k', r1, r2⟩ := hZ.alike.2.2 _ _ m2
  cases qb.symm.trans r1
  obtain ⟨vm1, X', st⟩ := X.getClassOf hx hown (mvT hZ w1) (mvT hZ w2) (notFace_of_selects (args := #[]) (mvT hZ w3)) (mvT hZ w3) (mvT hZ w4) (mvT hZ w5) qa qc qb (by rw [r2]; exact m3) (g := mkF m pc Ls (.ref b :: rest)) rfl hsize rfl hd hf hl
  exact own_by st (k _ X' eT)
theorem own_callF0 (X : Stand p l e R s m args below meth c T locs cells slots) (hx : p.tables.exec = Jvm.exec) (hZ : Z.Warmed39 s.vm) {own K : String} {index count : Nat} {y z : MethodName} {bytes : ByteArray} {maxL : Nat} {ret : Option FieldType} {fr lo : Nat} {b : Addr} {argsL rest : List Value} {w : Value} {W : Nat}
    (hown : s.vm.findClass own = some m.cls) (w1 : (Cond.methodLink own index y).before a0 Z = true) (w2 : (Cond.declares y).before a0 Z = true) (w2' : (Cond.interfaceMethod y.cls y.cls y.name y.desc).before args s = true) (w3 : (Cond.selects K y z).before a0 Z = true) (w4 : (Cond.instanceMethod z).before a0 Z = true) (wp : (Cond.publicMethod z).before a0 Z = true) (wu : (Cond.unhidden K y.name y.desc).before a0 Z = true) (wc : (Cond.castable K y.cls).before a0 Z = true) (w5 : (Cond.code z bytes maxL ret).before a0 Z = true) (w6 : (Cond.initialized z.cls).before a0 Z = true)
    (hy : y.cls ≠ "java/lang/invoke/MethodHandle" ∧ y.cls ≠ "java/lang/invoke/VarHandle") (eT : T.heap = h) (E : Exa Z h b K) (D : own_Does l Z z bytes maxL ret [] { frames := fr, cells := 0, slots := 0, locals := lo } (.ref b :: argsL).toArray h (own_Is w h))
    (hf : fr + 1 ≤ R.frames) (hl : W + (maxL + 11) + lo ≤ R.locals) (hc : cells ≤ R.cells) (hn : slots ≤ R.slots)
    {pc : Nat} {Ls : Array Slot} {S : List Value} (hsize : Ls.size = c.maxLocals) (hlen : ∀ sig, parseMethodDescriptor y.desc = some sig → argsL.length = sig.parameters.length) (hstack : S = argsL.reverse ++ .ref b :: rest) (hW : 2 * 0 + (rest.map fun v => v.category).sum ≤ W) (hd : decode c.code pc = .ok (.invokeinterface index count, 5))
    (k : ∀ T', Stand p l e R s m args below meth c T' locs cells slots → T'.heap = h → own_Goes p e below P (T'.setTop (mkF m (pc + 5) Ls (w :: rest)))) :
    own_Goes p e below P (T.setTop (mkF m pc Ls S)) := by
  obtain ⟨cq, kq, qa, qb, qc⟩ := isOf (T := T) hZ eT E
  obtain ⟨v, _, ⟨T', L', k', n'⟩, -, X', ⟨Lc, hQ, l', y', z'⟩, st⟩ := X.interfaceBack hx (xi := y) (y := z) hown (mvT hZ w1) (mvT hZ w2) w2' (mvT hZ w3) (mvT hZ w4) (mvT hZ wp) (mvT hZ wu) (mvT hZ wc) hy (backOf (W := W) D hZ w5 w6 hf hl) qa qb qc (g := mkF m pc Ls S) rfl hsize (Steps.refl _) (argsL := argsL) (rest := rest) hlen hstack hW hd (fun _ _ => ⟨rfl, eT, hc, hn⟩)
  dsimp only [Pt.U, Pt.locs, Pt.cells, Pt.slots] at X' l' y' z' st hQ
  subst l' y' z'
  obtain ⟨rfl, rfl, e'⟩ := hQ
  rw [List.append_nil] at X'
  exact own_tr st (k T' X' e')
theorem own_cast (X : Stand p l e R s m args below meth c T locs cells slots) (hx : p.tables.exec = Jvm.exec) (hZ : Z.Warmed39 s.vm) {own K : String} {index : Nat} (hown : s.vm.findClass own = some m.cls) (w : (Cond.classLink own index K).before a0 Z = true) (eT : T.heap = h) {a : Addr} (F : Ins Z h a K true)
    {pc : Nat} {Ls : Array Slot} {S : List Value} (hd : decode c.code pc = .ok (.checkcast index, 3))
    (k : ∀ T', Stand p l e R s m args below meth c T' locs cells slots → T'.heap = h → own_Goes p e below P (T'.setTop (mkF m (pc + 3) Ls (.ref a :: S)))) :
    own_Goes p e below P (T.setTop (mkF m pc Ls (.ref a :: S))) := by
  obtain ⟨T', X', e', st⟩ := castY X hx hZ hown w eT F (g := mkF m pc Ls (.ref a :: S)) rfl rfl hd
  exact own_by st (k T' X' e')
def own_ArrC (Z : State) (h : Heap) (a : Addr) (ty : FieldType) (n : Nat) (f : Nat → Value) : Prop := ∃ cell, Arr Z h a cell ty ∧ FitC Z cell ∧ cell.slots.size = n ∧ n < 2 ^ 31 ∧ ∀ i, i < n → cell.slots[i]? = some (f i)
theorem own_ArrC.ext {h' : Heap} {a : Addr} {ty : FieldType} {n : Nat} {f : Nat → Value} (E : Ext h h') (F : own_ArrC Z h a ty n f) : own_ArrC Z h' a ty n f := by
  obtain ⟨cell, h1, h2⟩ := F
  exact ⟨cell, h1.ext E, h2⟩
theorem own_ArrF.fit {s : State} {a : Addr} {ty : FieldType} {n : Nat} {f : Nat → Value} (hf : Fit s) (F : own_ArrF s s.heap a ty n f) : own_ArrC s s.heap a ty n f := by
  obtain ⟨cell, h1, h2⟩ := F
  exact ⟨cell, h1, FitC.start hf h1, h2⟩
theorem own_clone (X : Stand p l e R s m args below meth c T locs cells slots) (hx : p.tables.exec = Jvm.exec) (hZ : Z.Warmed39 s.vm) {own ad : String} {index : Nat} {W : Nat} (hown : s.vm.findClass own = some m.cls)
    (w1 : (Cond.methodLink own index ⟨ad, "clone", "()Ljava/lang/Object;"⟩).before a0 Z = true) (w2 : (Cond.sameMethod ad "java/lang/Object" "clone" "()Ljava/lang/Object;").before a0 Z = true) (w3 : (Cond.native ⟨"java/lang/Object", "clone", "()Ljava/lang/Object;"⟩).before a0 Z = true)
    (w4 : (Cond.instanceMethod ⟨"java/lang/Object", "clone", "()Ljava/lang/Object;"⟩).before a0 Z = true) (w5 : (Cond.selects ad ⟨ad, "clone", "()Ljava/lang/Object;"⟩ ⟨"java/lang/Object", "clone", "()Ljava/lang/Object;"⟩).before a0 Z = true) (w6 : (Cond.castable ad "java/lang/Cloneable").before a0 Z = true)
    (eT : T.heap = h) {a : Addr} {ty : FieldType} {n : Nat} {f : Nat → Value} (A : own_ArrC Z h a ty n f) (E : Exa Z h a ad) {pc : Nat} {Ls : Array Slot} {rest : List Value} (hsize : Ls.size = c.maxLocals) (hd : decode c.code pc = .ok (.invokevirtual index, 3))
    (hf : 1 ≤ R.frames) (hW : 2 * 0 + (rest.map fun v => v.category).sum ≤ W) (hl : W + 14 ≤ R.locals) (hc : cells + 1 ≤ R.cells) (hsl : slots + n ≤ R.slots)
    (k : ∀ T' h', Stand p l e R s m args below meth c T' locs (cells + 1) (slots + n) → T'.heap = h' → Ext h h' → own_ArrF Z h' h.size ty n f → Exa Z h' h.size ad → own_Goes p e below P (T'.setTop (mkF m (pc + 3) Ls (.ref h.size :: rest)))) :
    own_Goes p e below P (T.setTop (mkF m pc Ls (.ref a :: rest))) := by
  obtain ⟨cell, h1, h2, h3, h4, h5⟩ := A
  obtain ⟨T', h', X', e', E', A', Ex', st⟩ := cloneA X hx hZ hown w1 w2 w3 w4 w5 w6 eT h1 E h2 (g := mkF m pc Ls (.ref a :: rest)) rfl hsize rfl hd hf (W := W) (cap := n) hW hl (by omega) hc hsl
  exact own_by st (k T' h' X' e' E' ⟨_, A', h3, h4, h5⟩ Ex')
/-! what is made and written -/
theorem own_Ext.refl (h : Heap) : Ext h h := ⟨Nat.le_refl _, fun _ _ q => q⟩
theorem own_Ext.trans {h h' h'' : Heap} (E : Ext h h') (E' : Ext h' h'') : Ext h h'' := ⟨Nat.le_trans E.1 E'.1, fun a c q => E'.2 a c (E.2 a c q)⟩
theorem own_Ext.keep {h h' h'' : Heap} {ws : List Addr} (E : Ext h h') (K : Keep h' h'' ws) (q : ∀ x ∈ ws, h.size ≤ x) : Ext h h'' :=
  ⟨Nat.le_trans E.1 K.1, fun a c r => K.2.1 a c (E.2 a c r) fun z => absurd (Array.getElem?_eq_some_iff.mp r).1 (Nat.not_lt.mpr (q a z))⟩
theorem own_Ext.wr {h h' h'' : Heap} {a : Addr} {sl : Nat} {v : Value} (E : Ext h h') (W : Wr h' h'' a sl v) (q : h.size ≤ a) : Ext h h'' := own_Ext.keep E (Keep.of_wr W) fun x hx => by cases List.mem_singleton.mp hx; exact q
theorem own_newO (X : Stand p l e R s m args below meth c T locs cells slots) (hx : p.tables.exec = Jvm.exec) (hZ : Z.Warmed39 s.vm) {own K : String} {index n : Nat} (hown : s.vm.findClass own = some m.cls) (w : (Cond.classLink own index K).before a0 Z = true) (wi : (Cond.instantiable K n).before a0 Z = true) (wz : (Cond.initialized K).before a0 Z = true) (eT : T.heap = h)
    {pc : Nat} {Ls : Array Slot} {S : List Value} (hd : decode c.code pc = .ok (.new index, 3)) (hc : cells + 1 ≤ R.cells) (hl : slots + n ≤ R.slots)
    (k : ∀ T' h', Stand p l e R s m args below meth c T' locs (cells + 1) (slots + n) → T'.heap = h' → Ext h h' → Exa Z h' h.size K → (∀ (O nm d : String) (ty : FieldType), Laid Z a0 K O nm d → parseFieldDescriptor d = some ty → Fld Z h' h.size O nm d (defaultValue ty)) → own_Goes p e below P (T'.setTop (mkF m (pc + 3) Ls (.ref h.size :: S)))) :
    own_Goes p e below P (T.setTop (mkF m pc Ls S)) := by
  obtain ⟨T', h', X', e', E', A', D', -, st⟩ := newO X hx hZ hown w wi wz eT (g := mkF m pc Ls S) rfl hd hc hl
  exact own_by st (k T' h' X' e' E' A' (fun O nm d ty q r => D' q r))
theorem own_callI (X : Stand p l e R s m args below meth c T locs cells slots) (hx : p.tables.exec = Jvm.exec) (hZ : Z.Warmed39 s.vm) {own : String} {index : Nat} {y : MethodName} {bytes : ByteArray} {maxL : Nat} {rm : Room} {a : Addr} {argsL rest : List Value} {Qc : Option Value → Heap → List Loc → Prop} {W : Nat} (hy1 : y.name = "<init>")
    (hown : s.vm.findClass own = some m.cls) (w1 : (Cond.methodLink own index y).before a0 Z = true) (w2 : (Cond.instanceMethod y).before a0 Z = true) (w3 : (Cond.code y bytes maxL none).before a0 Z = true) (w4 : (Cond.initialized y.cls).before a0 Z = true)
    (hy : y.cls ≠ "java/lang/invoke/MethodHandle" ∧ y.cls ≠ "java/lang/invoke/VarHandle") (eT : T.heap = h) (D : own_Does l Z y bytes maxL none [] rm (.ref a :: argsL).toArray h Qc)
    (hf : rm.frames + 1 ≤ R.frames) (hl : W + (maxL + 11) + rm.locals ≤ R.locals) (hc : cells + rm.cells ≤ R.cells) (hn : slots + rm.slots ≤ R.slots)
    {pc : Nat} {Ls : Array Slot} {S : List Value} (hsize : Ls.size = c.maxLocals) (hlen : ∀ sig, parseMethodDescriptor y.desc = some sig → argsL.length = sig.parameters.length) (hstack : S = argsL.reverse ++ .ref a :: rest) (hW : 2 * 0 + (rest.map fun v => v.category).sum ≤ W) (hd : decode c.code pc = .ok (.invokespecial index, 3))
    (k : ∀ v T' L', Stand p l e R s m args below meth c T' (locs ++ L') (cells + rm.cells) (slots + rm.slots) → Qc v T'.heap L' → own_Goes p e below P (T'.setTop (mkF m (pc + 3) Ls (v.toList ++ rest)))) :
    own_Goes p e below P (T.setTop (mkF m pc Ls S)) := by
  obtain ⟨v, _, ⟨T', L', k', n'⟩, -, X', ⟨Lc, hQ, l', y', z'⟩, st⟩ := X.specialBack hx (y := y) hy1 hown (mvT hZ w1) (mvT hZ w2) (mvT hZ w3) hy (backOf (W := W) D hZ w3 w4 hf hl) (g := mkF m pc Ls S) rfl hsize (Steps.refl _) (a := a) (argsL := argsL) (rest := rest) hlen hstack hW hd (fun _ _ => ⟨rfl, eT, hc, hn⟩)
  dsimp only [Pt.U, Pt.locs, Pt.cells, Pt.slots] at X' l' y' z' st hQ
  subst l' y' z'
  exact own_tr st (k v T' Lc X' hQ)
theorem own_initO (X : Stand p l e R s m args below meth c T locs cells slots) (hx : p.tables.exec = Jvm.exec) (hZ : Z.Warmed39 s.vm) {own : String} {idx : Nat} {a : Addr} {rest : List Value} {W : Nat} (hown : s.vm.findClass own = some m.cls) (w1 : (Cond.methodLink own idx Lib.objectInit).before a0 Z = true) (w2 : (Cond.instanceMethod Lib.objectInit).before a0 Z = true)
    (w3 : (Cond.code Lib.objectInit ⟨#[0xb1]⟩ 1 none).before a0 Z = true) (eT : T.heap = h) {pc : Nat} {Ls : Array Slot} (hsize : Ls.size = c.maxLocals) (hd : decode c.code pc = .ok (.invokespecial idx, 3)) (hf : 1 ≤ R.frames) (hW : 2 * 0 + (rest.map fun v => v.category).sum ≤ W) (hl : W + 12 ≤ R.locals)
    (k : ∀ T', Stand p l e R s m args below meth c T' locs cells slots → T'.heap = h → own_Goes p e below P (T'.setTop (mkF m (pc + 3) Ls rest))) :
    own_Goes p e below P (T.setTop (mkF m pc Ls (.ref a :: rest))) := by
  obtain ⟨T', X', e', st⟩ := initO X hx hZ hown w1 w2 w3 eT (g := mkF m pc Ls (.ref a :: rest)) rfl hsize rfl hd hf (W := W) hW hl
  exact own_by st (k T' X' e')
theorem own_putF (X : Stand p l e R s m args below meth c T locs cells slots) (hx : p.tables.exec = Jvm.exec) (hZ : Z.Warmed39 s.vm) {own O n d K : String} {index kk : Nat} {ty : FieldType} (hown : s.vm.findClass own = some m.cls) (w : (Cond.fieldLink own index O n d).before a0 Z = true)
    (eT : T.heap = h) {a : Addr} {v old : Value} (F : Fld Z h a O n d old) (E : Exa Z h a K) (L : (Cond.lays K O n d).before a0 Z = true ∨ ((Cond.laysFinal K O n d).before a0 Z = true ∧ own = O ∧ meth.name = "<init>")) (wi : (Cond.instantiable K kk).before a0 Z = true)
    (hty : parseFieldDescriptor d = some ty) (hn : narrow ty v = v) (hf : fits ty v = true) {pc : Nat} {Ls : Array Slot} {rest : List Value} (hd : decode c.code pc = .ok (.putfield index, 3))
    (k : ∀ T' h', Stand p l e R s m args below meth c T' (locs ++ [⟨a, Jvm.RoadKit.slotOf Z O n d⟩]) cells slots → T'.heap = h' → Wr h h' a (Jvm.RoadKit.slotOf Z O n d) v → own_Goes p e below P (T'.setTop (mkF m (pc + 3) Ls rest))) :
    own_Goes p e below P (T.setTop (mkF m pc Ls (v :: .ref a :: rest))) := by
  obtain ⟨T', h', X', e', W', st⟩ := putF X hx hZ hown (host := "") (Or.inl w) Via.refl eT F E L wi hty hn hf (g := mkF m pc Ls (v :: .ref a :: rest)) rfl rfl hd
  exact own_by st (k T' h' X' e' W')
theorem own_arr_new {a : Addr} {cA : ClassId} {ty : FieldType} {n : Int32} {i : Nat} (A : Arr Z h a (newA cA ty n) ty) (hn : n.toInt = i) : own_ArrF Z h a ty i (fun _ => defaultValue ty) := by
  have q : n.toNatClampNeg = i := own_clamp hn
  refine ⟨_, A, by rw [sz_new, q], ?_, fun j hj => ?_⟩
  · have := Int32.toInt_lt n; omega
  · simp [newA, q, hj]
theorem own_newR (X : Stand p l e R s m args below meth c T locs cells slots) (hx : p.tables.exec = Jvm.exec) (hZ : Z.Warmed39 s.vm) {own K : String} {index : Nat} (hown : s.vm.findClass own = some m.cls) (w1 : (Cond.classLink own index K).before a0 Z = true) (w2 : (Cond.arrayOver (.object K)).before a0 Z = true) (eT : T.heap = h)
    {pc : Nat} {Ls : Array Slot} {S : List Value} (hd : decode c.code pc = .ok (.anewarray index, 3)) {n : Int32} (i : Nat) (hi : n.toInt = i) (hb : i * 8 ≤ 536870912) (hc : cells + 1 ≤ R.cells) (hl : slots + i ≤ R.slots)
    (k : ∀ T' h' cA, Stand p l e R s m args below meth c T' locs (cells + 1) (slots + i) → T'.heap = h' → Ext h h' → Arr Z h' h.size (newA cA (.object K) n) (.object K) → Ovr Z cA K → own_Goes p e below P (T'.setTop (mkF m (pc + 3) Ls (.ref h.size :: S)))) :
    own_Goes p e below P (T.setTop (mkF m pc Ls (.int n :: S))) := by
  have q : n.toNatClampNeg = i := own_clamp hi
  have q2 : ¬ n < 0 := by rw [Int32.lt_iff_toInt_lt, hi]; have : (0 : Int32).toInt = 0 := rfl; omega
  obtain ⟨T', h', cA, X', e', E', A', O', st⟩ := newR X hx hZ hown w1 w2 eT (g := mkF m pc Ls (.int n :: S)) rfl hd rfl q2 (cap := i) (by omega) hb hc hl
  exact own_by st (k T' h' cA X' e' E' A' O')
theorem own_newP (X : Stand p l e R s m args below meth c T locs cells slots) (hx : p.tables.exec = Jvm.exec) (hZ : Z.Warmed39 s.vm) {aty : ArrayType} (w : (Cond.arrayClass (newarray.typeOf aty)).before a0 Z = true) (eT : T.heap = h)
    {pc : Nat} {Ls : Array Slot} {S : List Value} (hd : decode c.code pc = .ok (.newarray aty, 2)) {n : Int32} (i : Nat) (hi : n.toInt = i) (hb : i * 8 ≤ 536870912) (hc : cells + 1 ≤ R.cells) (hl : slots + i ≤ R.slots)
    (k : ∀ T' h', Stand p l e R s m args below meth c T' locs (cells + 1) (slots + i) → T'.heap = h' → Ext h h' → own_ArrF Z h' h.size (newarray.typeOf aty) i (fun _ => defaultValue (newarray.typeOf aty)) → own_Goes p e below P (T'.setTop (mkF m (pc + 2) Ls (.ref h.size :: S)))) :
    own_Goes p e below P (T.setTop (mkF m pc Ls (.int n :: S))) := by
  have q : n.toNatClampNeg = i := own_clamp hi
  have q2 : ¬ n < 0 := by rw [Int32.lt_iff_toInt_lt, hi]; have : (0 : Int32).toInt = 0 := rfl; omega
  obtain ⟨T', h', cA, X', e', E', A', st⟩ := newP X hx hZ w eT (g := mkF m pc Ls (.int n :: S)) rfl hd rfl q2 (cap := i) (by omega) hb hc hl
  exact own_by st (k T' h' X' e' E' (own_arr_new A' hi))
theorem own_stI (X : Stand p l e R s m args below meth c T locs cells slots) (hx : p.tables.exec = Jvm.exec) (hZ : Z.Warmed39 s.vm) (eT : T.heap = h) {a : Addr} {n : Nat} {f : Nat → Value} (F : own_ArrF Z h a .int n f) {j x : Int32} (i : Nat) (hj : j.toInt = i) (hi : i < n)
    {pc : Nat} {Ls : Array Slot} {S : List Value} (hd : decode c.code pc = .ok (.iastore, 1))
    (k : ∀ T' h', Stand p l e R s m args below meth c T' (locs ++ [⟨a, i⟩]) cells slots → T'.heap = h' → Wr h h' a i (.int x) → own_ArrF Z h' a .int n (fun q => if q = i then .int x else f q) → own_Goes p e below P (T'.setTop (mkF m (pc + 1) Ls S))) :
    own_Goes p e below P (T.setTop (mkF m pc Ls (.int x :: .int j :: .ref a :: S))) := by
  have F' := F
  obtain ⟨cell, h1, h2, h3, h4⟩ := F'
  have q := own_clamp hj
  obtain ⟨T', h', X', e', W', st⟩ := stI X hx hZ eT h1 (j := j) (x := x) (by rw [h2]; exact own_in hj hi) (g := mkF m pc Ls (.int x :: .int j :: .ref a :: S)) rfl rfl hd
  rw [q] at X' W'
  exact own_by st (k T' h' X' e' W' (F.set hi W'))
theorem own_stR (X : Stand p l e R s m args below meth c T locs cells slots) (hx : p.tables.exec = Jvm.exec) (hZ : Z.Warmed39 s.vm) (eT : T.heap = h) {a : Addr} {ty : FieldType} {n : Nat} {f : Nat → Value} (F : own_ArrF Z h a ty n f) (hty : ty.isReference = true) {v : Value} (hs : Sto Z h a v) {j : Int32} (i : Nat) (hj : j.toInt = i) (hi : i < n)
    {pc : Nat} {Ls : Array Slot} {S : List Value} (hd : decode c.code pc = .ok (.aastore, 1))
    (k : ∀ T' h', Stand p l e R s m args below meth c T' (locs ++ [⟨a, i⟩]) cells slots → T'.heap = h' → Wr h h' a i v → own_ArrF Z h' a ty n (fun q => if q = i then v else f q) → own_Goes p e below P (T'.setTop (mkF m (pc + 1) Ls S))) :
    own_Goes p e below P (T.setTop (mkF m pc Ls (v :: .int j :: .ref a :: S))) := by
  have F' := F
  obtain ⟨cell, h1, h2, h3, h4⟩ := F'
  have q := own_clamp hj
  obtain ⟨T', h', X', e', W', st⟩ := stR X hx hZ eT h1 (j := j) (v := v) (by rw [h2]; exact own_in hj hi) hty hs (g := mkF m pc Ls (v :: .int j :: .ref a :: S)) rfl rfl hd
  rw [q] at X' W'
  exact own_by st (k T' h' X' e' W' (F.set hi W'))
theorem own_Fr.snoc {k : Nat} {L : List Loc} {a : Addr} {i : Nat} (N : Fr k L) (q : k ≤ a) : Fr k (L ++ [⟨a, i⟩]) := N.app fun y hy => by cases List.mem_singleton.mp hy; exact q
/-- the first k components are filled -/
def own_pre (g : Nat → Value) (d : Value) (k : Nat) : Nat → Value := fun q => if q < k then g q else d
theorem own_pre_step (g : Nat → Value) (d : Value) (k : Nat) (q : Nat) : (if q = k then g k else own_pre g d k q) = own_pre g d (k + 1) q := by
  unfold own_pre
  by_cases h1 : q = k
  · subst h1; rw [if_pos rfl, if_pos (Nat.lt_succ_self _)]
  · rw [if_neg h1]
    by_cases h2 : q < k
    · rw [if_pos h2, if_pos (by omega)]
    · rw [if_neg h2, if_neg (by omega)]
theorem own_pre_all {g : Nat → Value} {d : Value} {n i : Nat} (hi : i < n) : own_pre g d n i = g i := if_pos hi
def own_ArrR (Z : State) (h : Heap) (a : Addr) (K : String) (n : Nat) (f : Nat → Value) : Prop := ∃ cell, Arr Z h a cell (.object K) ∧ Ovr Z cell.cls K ∧ cell.slots.size = n ∧ n < 2 ^ 31 ∧ ∀ i, i < n → cell.slots[i]? = some (f i)
theorem own_ArrR.toF {a : Addr} {K : String} {n : Nat} {f : Nat → Value} (F : own_ArrR Z h a K n f) : own_ArrF Z h a (.object K) n f := by
  obtain ⟨cell, h1, -, h2⟩ := F
  exact ⟨cell, h1, h2⟩
theorem own_ArrR.ext {h' : Heap} {a : Addr} {K : String} {n : Nat} {f : Nat → Value} (E : Ext h h') (F : own_ArrR Z h a K n f) : own_ArrR Z h' a K n f := by
  obtain ⟨cell, h1, h2⟩ := F
  exact ⟨cell, h1.ext E, h2⟩
theorem own_ArrR.keep {h' : Heap} {a : Addr} {K : String} {n : Nat} {f : Nat → Value} {b : Addr} {sl : Nat} {v : Value} (W : Wr h h' b sl v) (F : own_ArrR Z h a K n f) (hne : a ≠ b) : own_ArrR Z h' a K n f := by
  obtain ⟨cell, h1, h2⟩ := F
  exact ⟨cell, h1.other W hne, h2⟩
theorem own_ArrF.lt {a : Addr} {ty : FieldType} {n : Nat} {f : Nat → Value} (F : own_ArrF Z h a ty n f) : a < h.size := by
  obtain ⟨cell, h1, -⟩ := F
  exact h1.lt
theorem own_ArrR.lt {a : Addr} {K : String} {n : Nat} {f : Nat → Value} (F : own_ArrR Z h a K n f) : a < h.size := F.toF.lt
theorem own_newRp (g : Nat → Value) (X : Stand p l e R s m args below meth c T locs cells slots) (hx : p.tables.exec = Jvm.exec) (hZ : Z.Warmed39 s.vm) {own K : String} {index : Nat} (hown : s.vm.findClass own = some m.cls) (w1 : (Cond.classLink own index K).before a0 Z = true) (w2 : (Cond.arrayOver (.object K)).before a0 Z = true) (eT : T.heap = h)
    {pc : Nat} {Ls : Array Slot} {S : List Value} (hd : decode c.code pc = .ok (.anewarray index, 3)) {n : Int32} (i : Nat) (hi : n.toInt = i) (hb : i * 8 ≤ 536870912) (hc : cells + 1 ≤ R.cells) (hl : slots + i ≤ R.slots)
    (k : ∀ T' h', Stand p l e R s m args below meth c T' locs (cells + 1) (slots + i) → T'.heap = h' → Ext h h' → own_ArrR Z h' h.size K i (own_pre g .null 0) → own_Goes p e below P (T'.setTop (mkF m (pc + 3) Ls (.ref h.size :: S)))) :
    own_Goes p e below P (T.setTop (mkF m pc Ls (.int n :: S))) := by
  refine own_newR X hx hZ hown w1 w2 eT hd i hi hb hc hl fun T' h' cA X' e' E' A' O' => k T' h' X' e' E' ?_
  have q : n.toNatClampNeg = i := own_clamp hi
  refine ⟨_, A', O', by rw [sz_new, q], ?_, fun j hj => ?_⟩
  · have := Int32.toInt_lt n; omega
  · simp [newA, q, hj, own_pre, defaultValue]
theorem own_stRp (g : Nat → Value) (X : Stand p l e R s m args below meth c T locs cells slots) (hx : p.tables.exec = Jvm.exec) (hZ : Z.Warmed39 s.vm) (eT : T.heap = h) {a : Addr} {K : String} {n : Nat} {i : Nat} (F : own_ArrR Z h a K n (own_pre g .null i)) {v : Value} (hs : v = .null ∨ ∃ y, v = .ref y ∧ Exa Z h y K) (hv : v = g i) {j : Int32} (hj : j.toInt = i) (hi : i < n)
    {pc : Nat} {Ls : Array Slot} {S : List Value} (hd : decode c.code pc = .ok (.aastore, 1))
    (k : ∀ T' h', Stand p l e R s m args below meth c T' (locs ++ [⟨a, i⟩]) cells slots → T'.heap = h' → Wr h h' a i v → own_ArrR Z h' a K n (own_pre g .null (i + 1)) → own_Goes p e below P (T'.setTop (mkF m (pc + 1) Ls S))) :
    own_Goes p e below P (T.setTop (mkF m pc Ls (v :: .int j :: .ref a :: S))) := by
  have F' := F
  obtain ⟨cell, h1, hO, h2, h3, h4⟩ := F'
  have hst : Sto Z h a v := by
    rcases hs with rfl | ⟨y, rfl, Ey⟩
    · exact Or.inl rfl
    · exact Sto.of h1 hO (Ins.self Ey)
  refine own_stR X hx hZ eT F.toF rfl hst i hj hi hd fun T' h' X' e' W' F2 => k T' h' X' e' W' ?_
  refine ⟨cell.setSlot i v, h1.same W', hO, by simp [Cell.setSlot, h2], h3, fun q hq => ?_⟩
  rw [← own_pre_step, ← hv]
  by_cases z : q = i
  · subst z
    rw [if_pos rfl]
    simp [Cell.setSlot, h2, hq]
  · rw [if_neg z, ← h4 q hq]
    exact Array.getElem?_setIfInBounds_ne (Ne.symm z)
theorem own_newIp (g : Nat → Value) (X : Stand p l e R s m args below meth c T locs cells slots) (hx : p.tables.exec = Jvm.exec) (hZ : Z.Warmed39 s.vm) (w : (Cond.arrayClass .int).before a0 Z = true) (eT : T.heap = h)
    {pc : Nat} {Ls : Array Slot} {S : List Value} (hd : decode c.code pc = .ok (.newarray .int, 2)) {n : Int32} (i : Nat) (hi : n.toInt = i) (hb : i * 8 ≤ 536870912) (hc : cells + 1 ≤ R.cells) (hl : slots + i ≤ R.slots)
    (k : ∀ T' h', Stand p l e R s m args below meth c T' locs (cells + 1) (slots + i) → T'.heap = h' → Ext h h' → own_ArrF Z h' h.size .int i (own_pre g (.int 0) 0) → own_Goes p e below P (T'.setTop (mkF m (pc + 2) Ls (.ref h.size :: S)))) :
    own_Goes p e below P (T.setTop (mkF m pc Ls (.int n :: S))) :=
  own_newP X hx hZ (aty := .int) w eT hd i hi hb hc hl fun T' h' X' e' E' F => k T' h' X' e' E' (F.mono fun _ _ => rfl)
theorem own_stIp (g : Nat → Value) (X : Stand p l e R s m args below meth c T locs cells slots) (hx : p.tables.exec = Jvm.exec) (hZ : Z.Warmed39 s.vm) (eT : T.heap = h) {a : Addr} {n : Nat} {i : Nat} (F : own_ArrF Z h a .int n (own_pre g (.int 0) i)) {j x : Int32} (hv : .int x = g i) (hj : j.toInt = i) (hi : i < n)
    {pc : Nat} {Ls : Array Slot} {S : List Value} (hd : decode c.code pc = .ok (.iastore, 1))
    (k : ∀ T' h', Stand p l e R s m args below meth c T' (locs ++ [⟨a, i⟩]) cells slots → T'.heap = h' → Wr h h' a i (.int x) → own_ArrF Z h' a .int n (own_pre g (.int 0) (i + 1)) → own_Goes p e below P (T'.setTop (mkF m (pc + 1) Ls S))) :
    own_Goes p e below P (T.setTop (mkF m pc Ls (.int x :: .int j :: .ref a :: S))) :=
  own_stI X hx hZ eT F i hj hi hd fun T' h' X' e' W' F2 => k T' h' X' e' W' (F2.mono fun q _ => by rw [hv]; exact own_pre_step g (.int 0) i q)
/-! ints -/
theorem own_mask (x : Int32) : (x &&& 2147483647).toInt = x.toInt % 2 ^ 31 := Jvm.Kit.i32_mask x 2147483647 (k := 31) (by decide) (by decide)
theorem own_mod (x n : Int32) (M : Int) (hM : n.toInt = M) (hn : 0 < M) : 0 ≤ ((x &&& 2147483647) % n).toInt ∧ ((x &&& 2147483647) % n).toInt < M := by
  have h1 := own_mask x
  rw [Int32.toInt_mod]
  have h2 : 0 ≤ (x &&& 2147483647).toInt := by omega
  subst hM
  exact ⟨Int.tmod_nonneg _ h2, Int.tmod_lt_of_pos _ hn⟩
theorem own_mask2 (x : Int32) : 0 ≤ (x &&& 3).toInt ∧ (x &&& 3).toInt < 4 := by
  have h1 : (x &&& 3).toInt = x.toInt % 2 ^ 2 := Jvm.Kit.i32_mask x 3 (k := 2) (by decide) (by decide)
  omega
theorem own_mask3 (x : Int32) : 0 ≤ (x &&& 7).toInt ∧ (x &&& 7).toInt < 8 := by
  have h1 : (x &&& 7).toInt = x.toInt % 2 ^ 3 := Jvm.Kit.i32_mask x 7 (k := 3) (by decide) (by decide)
  omega
theorem own_eqInt {x y : Int32} (h : x.toInt = y.toInt) : x = y := Int32.toInt_inj.mp h
theorem own_nat {x : Int32} {n : Nat} (h0 : 0 ≤ x.toInt) (h1 : x.toInt < n) : ∃ i : Nat, i < n ∧ x.toInt = i := ⟨x.toInt.toNat, by omega, by omega⟩
end OwnKit

theorem own_pd0 : parseMethodDescriptor "()V" = some ⟨[], none⟩ := by decide +kernel
theorem own_pd1 : parseMethodDescriptor "(I)V" = some ⟨[.int], none⟩ := by decide +kernel
theorem own_pd2 : parseMethodDescriptor "(Ljava/lang/Object;Ljava/lang/String;)Ljava/lang/Object;" = some ⟨[(.object "java/lang/Object"), (.object "java/lang/String")], some (.object "java/lang/Object")⟩ := by decide +kernel
theorem own_pd3 : parseMethodDescriptor "(I)Lcom/example/cartouche/cartouche/Rule;" = some ⟨[.int], some (.object "com/example/cartouche/cartouche/Rule")⟩ := by decide +kernel
theorem own_pd4 : parseMethodDescriptor "(Lcom/example/cartouche/cartouche/Rule;I)V" = some ⟨[(.object "com/example/cartouche/cartouche/Rule"), .int], none⟩ := by decide +kernel
theorem own_pd5 : parseMethodDescriptor "(Ljava/lang/Object;)Z" = some ⟨[(.object "java/lang/Object")], some .boolean⟩ := by decide +kernel
theorem own_pd6 : parseMethodDescriptor "(I)Ljava/lang/Integer;" = some ⟨[.int], some (.object "java/lang/Integer")⟩ := by decide +kernel
theorem own_pn0 : plainName "com/example/cartouche/cartouche/FaultEqualsPinLaw" = true := by first | (simp [plainName, overriddenIn]; done) | decide +kernel
theorem own_pn1 : plainName "java/util/Objects" = true := by first | (simp [plainName, overriddenIn]; done) | decide +kernel
theorem own_pn2 : plainName "com/example/cartouche/cartouche/Fault" = true := by first | (simp [plainName, overriddenIn]; done) | decide +kernel
theorem own_pn3 : plainName "java/lang/Number" = true := by first | (simp [plainName, overriddenIn]; done) | decide +kernel
theorem own_pn4 : plainName "java/lang/Integer" = true := by first | (simp [plainName, overriddenIn]; done) | decide +kernel
theorem own_w0 {a0 : Array Value} {Z : State} (hw : ∀ d ∈ tables_1, d.before a0 Z = true) : (Jvm.Cond.methodLink "com/example/cartouche/cartouche/FaultEqualsPinLaw" 34 (⟨"com/example/cartouche/cartouche/FaultEqualsPinLaw", "pick", "(I)Lcom/example/cartouche/cartouche/Rule;"⟩ : MethodName)).before a0 Z = true := hw _ (List.mem_of_getElem? (i := 0) rfl)
theorem own_w1 {a0 : Array Value} {Z : State} (hw : ∀ d ∈ tables_1, d.before a0 Z = true) : (Jvm.Cond.static (⟨"com/example/cartouche/cartouche/FaultEqualsPinLaw", "pick", "(I)Lcom/example/cartouche/cartouche/Rule;"⟩ : MethodName)).before a0 Z = true := hw _ (List.mem_of_getElem? (i := 1) rfl)
theorem own_w2 {a0 : Array Value} {Z : State} (hw : ∀ d ∈ tables_1, d.before a0 Z = true) : (Jvm.Cond.initialized "com/example/cartouche/cartouche/FaultEqualsPinLaw").before a0 Z = true := hw _ (List.mem_of_getElem? (i := 2) rfl)
theorem own_w3 {a0 : Array Value} {Z : State} (hw : ∀ d ∈ tables_1, d.before a0 Z = true) : (Jvm.Cond.code (⟨"com/example/cartouche/cartouche/FaultEqualsPinLaw", "pick", "(I)Lcom/example/cartouche/cartouche/Rule;"⟩ : MethodName) method_2_code 2 (Option.some (FieldType.object "com/example/cartouche/cartouche/Rule"))).before a0 Z = true := hw _ (List.mem_of_getElem? (i := 3) rfl)
theorem own_w4 {a0 : Array Value} {Z : State} (hw : ∀ d ∈ tables_1, d.before a0 Z = true) : (Jvm.Cond.fieldLink "com/example/cartouche/cartouche/FaultEqualsPinLaw" 7 "com/example/cartouche/cartouche/Rule" "CARRIER_CODE" "Lcom/example/cartouche/cartouche/Rule;").before a0 Z = true := hw _ (List.mem_of_getElem? (i := 4) rfl)
theorem own_w5 {a0 : Array Value} {Z : State} (hw : ∀ d ∈ tables_1, d.before a0 Z = true) : (Jvm.Cond.initialized "com/example/cartouche/cartouche/Rule").before a0 Z = true := hw _ (List.mem_of_getElem? (i := 5) rfl)
theorem own_w6 {a0 : Array Value} {Z : State} (hw : ∀ d ∈ tables_1, d.before a0 Z = true) : (Jvm.Cond.laysStatic "com/example/cartouche/cartouche/Rule" "CARRIER_CODE" "Lcom/example/cartouche/cartouche/Rule;").before a0 Z = true := hw _ (List.mem_of_getElem? (i := 6) rfl)
theorem own_w7 {a0 : Array Value} {Z : State} (hw : ∀ d ∈ tables_1, d.before a0 Z = true) : (Jvm.Cond.fieldLink "com/example/cartouche/cartouche/FaultEqualsPinLaw" 19 "com/example/cartouche/cartouche/Rule" "AI_VALUE" "Lcom/example/cartouche/cartouche/Rule;").before a0 Z = true := hw _ (List.mem_of_getElem? (i := 7) rfl)
theorem own_w8 {a0 : Array Value} {Z : State} (hw : ∀ d ∈ tables_1, d.before a0 Z = true) : (Jvm.Cond.laysStatic "com/example/cartouche/cartouche/Rule" "AI_VALUE" "Lcom/example/cartouche/cartouche/Rule;").before a0 Z = true := hw _ (List.mem_of_getElem? (i := 8) rfl)
theorem own_w9 {a0 : Array Value} {Z : State} (hw : ∀ d ∈ tables_1, d.before a0 Z = true) : (Jvm.Cond.constant "com/example/cartouche/cartouche/FaultEqualsPinLaw" 40 (2147483647 : Int32)).before a0 Z = true := hw _ (List.mem_of_getElem? (i := 9) rfl)
theorem own_w10 {a0 : Array Value} {Z : State} (hw : ∀ d ∈ tables_1, d.before a0 Z = true) : (Jvm.Cond.classLink "com/example/cartouche/cartouche/FaultEqualsPinLaw" 41 "com/example/cartouche/cartouche/Fault").before a0 Z = true := hw _ (List.mem_of_getElem? (i := 10) rfl)
theorem own_w11 {a0 : Array Value} {Z : State} (hw : ∀ d ∈ tables_1, d.before a0 Z = true) : (Jvm.Cond.instantiable "com/example/cartouche/cartouche/Fault" 2).before a0 Z = true := hw _ (List.mem_of_getElem? (i := 11) rfl)
theorem own_w12 {a0 : Array Value} {Z : State} (hw : ∀ d ∈ tables_1, d.before a0 Z = true) : (Jvm.Cond.initialized "com/example/cartouche/cartouche/Fault").before a0 Z = true := hw _ (List.mem_of_getElem? (i := 12) rfl)
theorem own_w13 {a0 : Array Value} {Z : State} (hw : ∀ d ∈ tables_1, d.before a0 Z = true) : (Jvm.Cond.methodLink "com/example/cartouche/cartouche/FaultEqualsPinLaw" 43 (⟨"com/example/cartouche/cartouche/Fault", "<init>", "(Lcom/example/cartouche/cartouche/Rule;I)V"⟩ : MethodName)).before a0 Z = true := hw _ (List.mem_of_getElem? (i := 13) rfl)
theorem own_w14 {a0 : Array Value} {Z : State} (hw : ∀ d ∈ tables_1, d.before a0 Z = true) : (Jvm.Cond.instanceMethod (⟨"com/example/cartouche/cartouche/Fault", "<init>", "(Lcom/example/cartouche/cartouche/Rule;I)V"⟩ : MethodName)).before a0 Z = true := hw _ (List.mem_of_getElem? (i := 14) rfl)
theorem own_w15 {a0 : Array Value} {Z : State} (hw : ∀ d ∈ tables_1, d.before a0 Z = true) : (Jvm.Cond.code (⟨"com/example/cartouche/cartouche/Fault", "<init>", "(Lcom/example/cartouche/cartouche/Rule;I)V"⟩ : MethodName) prog_6_method_1_code 3 (Option.none : Option FieldType)).before a0 Z = true := hw _ (List.mem_of_getElem? (i := 15) rfl)
theorem own_w16 {a0 : Array Value} {Z : State} (hw : ∀ d ∈ tables_1, d.before a0 Z = true) : (Jvm.Cond.methodLink "com/example/cartouche/cartouche/Fault" 1 (⟨"java/lang/Object", "<init>", "()V"⟩ : MethodName)).before a0 Z = true := hw _ (List.mem_of_getElem? (i := 16) rfl)
theorem own_w17 {a0 : Array Value} {Z : State} (hw : ∀ d ∈ tables_1, d.before a0 Z = true) : (Jvm.Cond.instanceMethod (⟨"java/lang/Object", "<init>", "()V"⟩ : MethodName)).before a0 Z = true := hw _ (List.mem_of_getElem? (i := 17) rfl)
theorem own_w18 {a0 : Array Value} {Z : State} (hw : ∀ d ∈ tables_1, d.before a0 Z = true) : (Jvm.Cond.code (⟨"java/lang/Object", "<init>", "()V"⟩ : MethodName) object_method_1_code 1 (Option.none : Option FieldType)).before a0 Z = true := hw _ (List.mem_of_getElem? (i := 18) rfl)
theorem own_w20 {a0 : Array Value} {Z : State} (hw : ∀ d ∈ tables_1, d.before a0 Z = true) : (Jvm.Cond.initialized "java/lang/String").before a0 Z = true := hw _ (List.mem_of_getElem? (i := 20) rfl)
theorem own_w21 {a0 : Array Value} {Z : State} (hw : ∀ d ∈ tables_1, d.before a0 Z = true) : (Jvm.Cond.instantiable "java/lang/String" 4).before a0 Z = true := hw _ (List.mem_of_getElem? (i := 21) rfl)
theorem own_w22 {a0 : Array Value} {Z : State} (hw : ∀ d ∈ tables_1, d.before a0 Z = true) : (Jvm.Cond.arrayClass FieldType.byte).before a0 Z = true := hw _ (List.mem_of_getElem? (i := 22) rfl)
theorem own_w23 {a0 : Array Value} {Z : State} (hw : ∀ d ∈ tables_1, d.before a0 Z = true) : (Jvm.Cond.laysFinal "java/lang/String" "java/lang/String" "value" "[B").before a0 Z = true := hw _ (List.mem_of_getElem? (i := 23) rfl)
theorem own_w24 {a0 : Array Value} {Z : State} (hw : ∀ d ∈ tables_1, d.before a0 Z = true) : (Jvm.Cond.laysFinal "java/lang/String" "java/lang/String" "coder" "B").before a0 Z = true := hw _ (List.mem_of_getElem? (i := 24) rfl)
theorem own_w25 {a0 : Array Value} {Z : State} (hw : ∀ d ∈ tables_1, d.before a0 Z = true) : (Jvm.Cond.soleField "java/lang/String" "value").before a0 Z = true := hw _ (List.mem_of_getElem? (i := 25) rfl)
theorem own_w26 {a0 : Array Value} {Z : State} (hw : ∀ d ∈ tables_1, d.before a0 Z = true) : (Jvm.Cond.soleField "java/lang/String" "coder").before a0 Z = true := hw _ (List.mem_of_getElem? (i := 26) rfl)
theorem own_w27 {a0 : Array Value} {Z : State} (hw : ∀ d ∈ tables_1, d.before a0 Z = true) : (Jvm.Cond.methodLink "com/example/cartouche/cartouche/Fault" 18 (⟨"java/util/Objects", "requireNonNull", "(Ljava/lang/Object;Ljava/lang/String;)Ljava/lang/Object;"⟩ : MethodName)).before a0 Z = true := hw _ (List.mem_of_getElem? (i := 27) rfl)
theorem own_w28 {a0 : Array Value} {Z : State} (hw : ∀ d ∈ tables_1, d.before a0 Z = true) : (Jvm.Cond.static (⟨"java/util/Objects", "requireNonNull", "(Ljava/lang/Object;Ljava/lang/String;)Ljava/lang/Object;"⟩ : MethodName)).before a0 Z = true := hw _ (List.mem_of_getElem? (i := 28) rfl)
theorem own_w29 {a0 : Array Value} {Z : State} (hw : ∀ d ∈ tables_1, d.before a0 Z = true) : (Jvm.Cond.initialized "java/util/Objects").before a0 Z = true := hw _ (List.mem_of_getElem? (i := 29) rfl)
theorem own_w30 {a0 : Array Value} {Z : State} (hw : ∀ d ∈ tables_1, d.before a0 Z = true) : (Jvm.Cond.code (⟨"java/util/Objects", "requireNonNull", "(Ljava/lang/Object;Ljava/lang/String;)Ljava/lang/Object;"⟩ : MethodName) jdk_31_method_11_code 2 (Option.some (FieldType.object "java/lang/Object"))).before a0 Z = true := hw _ (List.mem_of_getElem? (i := 30) rfl)
theorem own_w31 {a0 : Array Value} {Z : State} (hw : ∀ d ∈ tables_1, d.before a0 Z = true) : (Jvm.Cond.classLink "com/example/cartouche/cartouche/Fault" 24 "com/example/cartouche/cartouche/Rule").before a0 Z = true := hw _ (List.mem_of_getElem? (i := 31) rfl)
theorem own_w33 {a0 : Array Value} {Z : State} (hw : ∀ d ∈ tables_1, d.before a0 Z = true) : (Jvm.Cond.fieldLink "com/example/cartouche/cartouche/Fault" 26 "com/example/cartouche/cartouche/Fault" "rule" "Lcom/example/cartouche/cartouche/Rule;").before a0 Z = true := hw _ (List.mem_of_getElem? (i := 33) rfl)
theorem own_w34 {a0 : Array Value} {Z : State} (hw : ∀ d ∈ tables_1, d.before a0 Z = true) : (Jvm.Cond.laysFinal "com/example/cartouche/cartouche/Fault" "com/example/cartouche/cartouche/Fault" "rule" "Lcom/example/cartouche/cartouche/Rule;").before a0 Z = true := hw _ (List.mem_of_getElem? (i := 34) rfl)
theorem own_w35 {a0 : Array Value} {Z : State} (hw : ∀ d ∈ tables_1, d.before a0 Z = true) : (Jvm.Cond.fieldLink "com/example/cartouche/cartouche/Fault" 31 "com/example/cartouche/cartouche/Fault" "offset" "I").before a0 Z = true := hw _ (List.mem_of_getElem? (i := 35) rfl)
theorem own_w36 {a0 : Array Value} {Z : State} (hw : ∀ d ∈ tables_1, d.before a0 Z = true) : (Jvm.Cond.laysFinal "com/example/cartouche/cartouche/Fault" "com/example/cartouche/cartouche/Fault" "offset" "I").before a0 Z = true := hw _ (List.mem_of_getElem? (i := 36) rfl)
theorem own_w37 {a0 : Array Value} {Z : State} (hw : ∀ d ∈ tables_1, d.before a0 Z = true) : (Jvm.Cond.methodLink "com/example/cartouche/cartouche/FaultEqualsPinLaw" 46 (⟨"com/example/cartouche/cartouche/Fault", "equals", "(Ljava/lang/Object;)Z"⟩ : MethodName)).before a0 Z = true := hw _ (List.mem_of_getElem? (i := 37) rfl)
theorem own_w38 {a0 : Array Value} {Z : State} (hw : ∀ d ∈ tables_1, d.before a0 Z = true) : (Jvm.Cond.declares (⟨"com/example/cartouche/cartouche/Fault", "equals", "(Ljava/lang/Object;)Z"⟩ : MethodName)).before a0 Z = true := hw _ (List.mem_of_getElem? (i := 38) rfl)
theorem own_w39 {a0 : Array Value} {Z : State} (hw : ∀ d ∈ tables_1, d.before a0 Z = true) : (Jvm.Cond.instanceMethod (⟨"com/example/cartouche/cartouche/Fault", "equals", "(Ljava/lang/Object;)Z"⟩ : MethodName)).before a0 Z = true := hw _ (List.mem_of_getElem? (i := 39) rfl)
theorem own_w40 {a0 : Array Value} {Z : State} (hw : ∀ d ∈ tables_1, d.before a0 Z = true) : (Jvm.Cond.selects "com/example/cartouche/cartouche/Fault" (⟨"com/example/cartouche/cartouche/Fault", "equals", "(Ljava/lang/Object;)Z"⟩ : MethodName) (⟨"com/example/cartouche/cartouche/Fault", "equals", "(Ljava/lang/Object;)Z"⟩ : MethodName)).before a0 Z = true := hw _ (List.mem_of_getElem? (i := 40) rfl)
theorem own_w41 {a0 : Array Value} {Z : State} (hw : ∀ d ∈ tables_1, d.before a0 Z = true) : (Jvm.Cond.code (⟨"com/example/cartouche/cartouche/Fault", "equals", "(Ljava/lang/Object;)Z"⟩ : MethodName) prog_6_method_4_code 3 (Option.some FieldType.boolean)).before a0 Z = true := hw _ (List.mem_of_getElem? (i := 41) rfl)
theorem own_w42 {a0 : Array Value} {Z : State} (hw : ∀ d ∈ tables_1, d.before a0 Z = true) : (Jvm.Cond.classLink "com/example/cartouche/cartouche/Fault" 27 "com/example/cartouche/cartouche/Fault").before a0 Z = true := hw _ (List.mem_of_getElem? (i := 42) rfl)
theorem own_w44 {a0 : Array Value} {Z : State} (hw : ∀ d ∈ tables_1, d.before a0 Z = true) : (Jvm.Cond.fieldLink "com/example/cartouche/cartouche/FaultEqualsPinLaw" 22 "com/example/cartouche/cartouche/Rule" "FIELD_LENGTH" "Lcom/example/cartouche/cartouche/Rule;").before a0 Z = true := hw _ (List.mem_of_getElem? (i := 44) rfl)
theorem own_w45 {a0 : Array Value} {Z : State} (hw : ∀ d ∈ tables_1, d.before a0 Z = true) : (Jvm.Cond.laysStatic "com/example/cartouche/cartouche/Rule" "FIELD_LENGTH" "Lcom/example/cartouche/cartouche/Rule;").before a0 Z = true := hw _ (List.mem_of_getElem? (i := 45) rfl)
theorem own_w46 {a0 : Array Value} {Z : State} (hw : ∀ d ∈ tables_1, d.before a0 Z = true) : (Jvm.Cond.fieldLink "com/example/cartouche/cartouche/FaultEqualsPinLaw" 31 "com/example/cartouche/cartouche/Rule" "AFTER_TRAILER" "Lcom/example/cartouche/cartouche/Rule;").before a0 Z = true := hw _ (List.mem_of_getElem? (i := 46) rfl)
theorem own_w47 {a0 : Array Value} {Z : State} (hw : ∀ d ∈ tables_1, d.before a0 Z = true) : (Jvm.Cond.laysStatic "com/example/cartouche/cartouche/Rule" "AFTER_TRAILER" "Lcom/example/cartouche/cartouche/Rule;").before a0 Z = true := hw _ (List.mem_of_getElem? (i := 47) rfl)
theorem own_w48 {a0 : Array Value} {Z : State} (hw : ∀ d ∈ tables_1, d.before a0 Z = true) : (Jvm.Cond.fieldLink "com/example/cartouche/cartouche/FaultEqualsPinLaw" 13 "com/example/cartouche/cartouche/Rule" "HEADER" "Lcom/example/cartouche/cartouche/Rule;").before a0 Z = true := hw _ (List.mem_of_getElem? (i := 48) rfl)
theorem own_w49 {a0 : Array Value} {Z : State} (hw : ∀ d ∈ tables_1, d.before a0 Z = true) : (Jvm.Cond.laysStatic "com/example/cartouche/cartouche/Rule" "HEADER" "Lcom/example/cartouche/cartouche/Rule;").before a0 Z = true := hw _ (List.mem_of_getElem? (i := 49) rfl)
theorem own_w50 {a0 : Array Value} {Z : State} (hw : ∀ d ∈ tables_1, d.before a0 Z = true) : (Jvm.Cond.fieldLink "com/example/cartouche/cartouche/FaultEqualsPinLaw" 16 "com/example/cartouche/cartouche/Rule" "FORMAT_BLOCKED" "Lcom/example/cartouche/cartouche/Rule;").before a0 Z = true := hw _ (List.mem_of_getElem? (i := 50) rfl)
theorem own_w51 {a0 : Array Value} {Z : State} (hw : ∀ d ∈ tables_1, d.before a0 Z = true) : (Jvm.Cond.laysStatic "com/example/cartouche/cartouche/Rule" "FORMAT_BLOCKED" "Lcom/example/cartouche/cartouche/Rule;").before a0 Z = true := hw _ (List.mem_of_getElem? (i := 51) rfl)
theorem own_w52 {a0 : Array Value} {Z : State} (hw : ∀ d ∈ tables_1, d.before a0 Z = true) : (Jvm.Cond.fieldLink "com/example/cartouche/cartouche/FaultEqualsPinLaw" 28 "com/example/cartouche/cartouche/Rule" "TRAILER" "Lcom/example/cartouche/cartouche/Rule;").before a0 Z = true := hw _ (List.mem_of_getElem? (i := 52) rfl)
theorem own_w53 {a0 : Array Value} {Z : State} (hw : ∀ d ∈ tables_1, d.before a0 Z = true) : (Jvm.Cond.laysStatic "com/example/cartouche/cartouche/Rule" "TRAILER" "Lcom/example/cartouche/cartouche/Rule;").before a0 Z = true := hw _ (List.mem_of_getElem? (i := 53) rfl)
theorem own_w54 {a0 : Array Value} {Z : State} (hw : ∀ d ∈ tables_1, d.before a0 Z = true) : (Jvm.Cond.fieldLink "com/example/cartouche/cartouche/FaultEqualsPinLaw" 25 "com/example/cartouche/cartouche/Rule" "JSON_TEXT" "Lcom/example/cartouche/cartouche/Rule;").before a0 Z = true := hw _ (List.mem_of_getElem? (i := 54) rfl)
theorem own_w55 {a0 : Array Value} {Z : State} (hw : ∀ d ∈ tables_1, d.before a0 Z = true) : (Jvm.Cond.laysStatic "com/example/cartouche/cartouche/Rule" "JSON_TEXT" "Lcom/example/cartouche/cartouche/Rule;").before a0 Z = true := hw _ (List.mem_of_getElem? (i := 55) rfl)
theorem own_w56 {a0 : Array Value} {Z : State} (hw : ∀ d ∈ tables_1, d.before a0 Z = true) : (Jvm.Cond.methodLink "com/example/cartouche/cartouche/FaultEqualsPinLaw" 50 (⟨"java/lang/Integer", "valueOf", "(I)Ljava/lang/Integer;"⟩ : MethodName)).before a0 Z = true := hw _ (List.mem_of_getElem? (i := 56) rfl)
theorem own_w57 {a0 : Array Value} {Z : State} (hw : ∀ d ∈ tables_1, d.before a0 Z = true) : (Jvm.Cond.static (⟨"java/lang/Integer", "valueOf", "(I)Ljava/lang/Integer;"⟩ : MethodName)).before a0 Z = true := hw _ (List.mem_of_getElem? (i := 57) rfl)
theorem own_w58 {a0 : Array Value} {Z : State} (hw : ∀ d ∈ tables_1, d.before a0 Z = true) : (Jvm.Cond.initialized "java/lang/Integer").before a0 Z = true := hw _ (List.mem_of_getElem? (i := 58) rfl)
theorem own_w59 {a0 : Array Value} {Z : State} (hw : ∀ d ∈ tables_1, d.before a0 Z = true) : (Jvm.Cond.code (⟨"java/lang/Integer", "valueOf", "(I)Ljava/lang/Integer;"⟩ : MethodName) jdk_33_method_22_code 1 (Option.some (FieldType.object "java/lang/Integer"))).before a0 Z = true := hw _ (List.mem_of_getElem? (i := 59) rfl)
theorem own_w60 {a0 : Array Value} {Z : State} (hw : ∀ d ∈ tables_1, d.before a0 Z = true) : (Jvm.Cond.fieldLink "java/lang/Integer" 191 "java/lang/Integer$IntegerCache" "high" "I").before a0 Z = true := hw _ (List.mem_of_getElem? (i := 60) rfl)
theorem own_w61 {a0 : Array Value} {Z : State} (hw : ∀ d ∈ tables_1, d.before a0 Z = true) : (Jvm.Cond.initialized "java/lang/Integer$IntegerCache").before a0 Z = true := hw _ (List.mem_of_getElem? (i := 61) rfl)
theorem own_w62 {a0 : Array Value} {Z : State} (hw : ∀ d ∈ tables_1, d.before a0 Z = true) : (Jvm.Cond.fieldLink "java/lang/Integer" 195 "java/lang/Integer$IntegerCache" "cache" "[Ljava/lang/Integer;").before a0 Z = true := hw _ (List.mem_of_getElem? (i := 62) rfl)
theorem own_w63 {a0 : Array Value} {Z : State} (hw : ∀ d ∈ tables_1, d.before a0 Z = true) : (Jvm.Cond.superclass "java/lang/Integer" "java/lang/Number").before a0 Z = true := hw _ (List.mem_of_getElem? (i := 63) rfl)
theorem own_w64 {a0 : Array Value} {Z : State} (hw : ∀ d ∈ tables_1, d.before a0 Z = true) : (Jvm.Cond.superclass "java/lang/Number" "java/lang/Object").before a0 Z = true := hw _ (List.mem_of_getElem? (i := 64) rfl)
theorem own_w65 {a0 : Array Value} {Z : State} (hw : ∀ d ∈ tables_1, d.before a0 Z = true) : (Jvm.Cond.noSuperclass "java/lang/Object").before a0 Z = true := hw _ (List.mem_of_getElem? (i := 65) rfl)
theorem own_w66 {a0 : Array Value} {Z : State} (hw : ∀ d ∈ tables_1, d.before a0 Z = true) : (Jvm.Cond.classLink "java/lang/Integer" 1 "java/lang/Integer").before a0 Z = true := hw _ (List.mem_of_getElem? (i := 66) rfl)
theorem own_w67 {a0 : Array Value} {Z : State} (hw : ∀ d ∈ tables_1, d.before a0 Z = true) : (Jvm.Cond.instantiable "java/lang/Integer" 1).before a0 Z = true := hw _ (List.mem_of_getElem? (i := 67) rfl)
theorem own_w68 {a0 : Array Value} {Z : State} (hw : ∀ d ∈ tables_1, d.before a0 Z = true) : (Jvm.Cond.methodLink "java/lang/Integer" 199 (⟨"java/lang/Integer", "<init>", "(I)V"⟩ : MethodName)).before a0 Z = true := hw _ (List.mem_of_getElem? (i := 68) rfl)
theorem own_w69 {a0 : Array Value} {Z : State} (hw : ∀ d ∈ tables_1, d.before a0 Z = true) : (Jvm.Cond.instanceMethod (⟨"java/lang/Integer", "<init>", "(I)V"⟩ : MethodName)).before a0 Z = true := hw _ (List.mem_of_getElem? (i := 69) rfl)
theorem own_w71 {a0 : Array Value} {Z : State} (hw : ∀ d ∈ tables_1, d.before a0 Z = true) : (Jvm.Cond.code (⟨"java/lang/Integer", "<init>", "(I)V"⟩ : MethodName) jdk_33_method_23_code 2 (Option.none : Option FieldType)).before a0 Z = true := hw _ (List.mem_of_getElem? (i := 71) rfl)
theorem own_w72 {a0 : Array Value} {Z : State} (hw : ∀ d ∈ tables_1, d.before a0 Z = true) : (Jvm.Cond.methodLink "java/lang/Integer" 202 (⟨"java/lang/Number", "<init>", "()V"⟩ : MethodName)).before a0 Z = true := hw _ (List.mem_of_getElem? (i := 72) rfl)
theorem own_w73 {a0 : Array Value} {Z : State} (hw : ∀ d ∈ tables_1, d.before a0 Z = true) : (Jvm.Cond.instanceMethod (⟨"java/lang/Number", "<init>", "()V"⟩ : MethodName)).before a0 Z = true := hw _ (List.mem_of_getElem? (i := 73) rfl)
theorem own_w76 {a0 : Array Value} {Z : State} (hw : ∀ d ∈ tables_1, d.before a0 Z = true) : (Jvm.Cond.initialized "java/lang/Number").before a0 Z = true := hw _ (List.mem_of_getElem? (i := 76) rfl)
theorem own_w77 {a0 : Array Value} {Z : State} (hw : ∀ d ∈ tables_1, d.before a0 Z = true) : (Jvm.Cond.code (⟨"java/lang/Number", "<init>", "()V"⟩ : MethodName) jdk_18_method_1_code 1 (Option.none : Option FieldType)).before a0 Z = true := hw _ (List.mem_of_getElem? (i := 77) rfl)
theorem own_w78 {a0 : Array Value} {Z : State} (hw : ∀ d ∈ tables_1, d.before a0 Z = true) : (Jvm.Cond.methodLink "java/lang/Number" 1 (⟨"java/lang/Object", "<init>", "()V"⟩ : MethodName)).before a0 Z = true := hw _ (List.mem_of_getElem? (i := 78) rfl)
theorem own_w79 {a0 : Array Value} {Z : State} (hw : ∀ d ∈ tables_1, d.before a0 Z = true) : (Jvm.Cond.fieldLink "java/lang/Integer" 205 "java/lang/Integer" "value" "I").before a0 Z = true := hw _ (List.mem_of_getElem? (i := 79) rfl)
theorem own_w80 {a0 : Array Value} {Z : State} (hw : ∀ d ∈ tables_1, d.before a0 Z = true) : (Jvm.Cond.laysFinal "java/lang/Integer" "java/lang/Integer" "value" "I").before a0 Z = true := hw _ (List.mem_of_getElem? (i := 80) rfl)
def own_Cache (Z : State) (h : Heap) (a : Addr) : Prop := ∃ g : Nat → Addr, own_ArrF Z h a (.object "java/lang/Integer") 256 (fun i => .ref (g i)) ∧ ∀ i, i < 256 → Exa Z h (g i) "java/lang/Integer"
theorem own_Cache.ext {Z : State} {h h' : Heap} {a : Addr} (E : Ext h h') (F : own_Cache Z h a) : own_Cache Z h' a := by
  obtain ⟨g, h1, h2⟩ := F
  exact ⟨g, h1.ext E, fun i hi => (h2 i hi).ext E⟩
theorem own_cache {args : Array Value} {s : State} {t : Term} {a : Addr} {D : Jvm.Cond} (ht : t.eval args s none [] s = some (.ref a)) (h1 : (Cond.arrayOf t (.object "java/lang/Integer")).value args s none s [] = some true) (h2 : (Cond.eq (.length t) (.int 256)).value args s none s [] = some true)
    (h3 : (Cond.all t (.and (.exactly (.elem t (.index 0)) "java/lang/Integer") D)).value args s none s [] = some true) (ht1 : ∀ i, t.eval args s none [i] s = some (.ref a)) : own_Cache s s.heap a := by
  obtain ⟨cell, Ac⟩ := Arr.start ht h1
  have hat := Ac.fin (Vm.Alike.refl _)
  obtain ⟨q1, q2⟩ := own_len (own_eqI h2) ht hat
  have q3 : cell.slots.size = 256 := by
    have q4 := congrArg Int32.toInt q2
    rw [len_toInt q1] at q4
    have z : (256 : Int32).toInt = 256 := by decide
    omega
  have key : ∀ i, i < 256 → ∃ x, cell.slots[i]? = some (.ref x) ∧ Exa s s.heap x "java/lang/Integer" := fun i hi => by
    obtain ⟨b1, -⟩ := and_e (Cond.all_elim ht hat h3 i (by omega))
    obtain ⟨x, ex⟩ := exa_v b1
    have hx : (Term.index 0).eval args s none [i] s = some (.int i.toInt32) := Term.index_eval _
    have hI : i.toInt32.toInt = i := len_toInt (by omega)
    have q6 := (elem_in ex (ht1 i) hx Ac.1).2
    rw [own_clamp hI] at q6
    exact ⟨x, q6, exa_at ex b1⟩
  refine ⟨fun i => if hi : i < 256 then Classical.choose (key i hi) else 0, ⟨cell, Ac, q3, by decide, fun i hi => ?_⟩, fun i hi => ?_⟩
  · show cell.slots[i]? = some (.ref (if hi : i < 256 then Classical.choose (key i hi) else 0))
    rw [dif_pos hi]; exact (Classical.choose_spec (key i hi)).1
  · show Exa s s.heap (if hi : i < 256 then Classical.choose (key i hi) else 0) _
    rw [dif_pos hi]; exact (Classical.choose_spec (key i hi)).2
def own_W (Z : State) (h : Heap) (A : Nat → Addr) : Prop :=
  Sta Z h "com/example/cartouche/cartouche/Rule" "CARRIER_CODE" "Lcom/example/cartouche/cartouche/Rule;" (.ref (A 0)) ∧
  Exa Z h (A 0) "com/example/cartouche/cartouche/Rule" ∧
  Sta Z h "com/example/cartouche/cartouche/Rule" "AI_VALUE" "Lcom/example/cartouche/cartouche/Rule;" (.ref (A 1)) ∧
  Exa Z h (A 1) "com/example/cartouche/cartouche/Rule" ∧
  Sta Z h "com/example/cartouche/cartouche/Rule" "FIELD_LENGTH" "Lcom/example/cartouche/cartouche/Rule;" (.ref (A 2)) ∧
  Exa Z h (A 2) "com/example/cartouche/cartouche/Rule" ∧
  Sta Z h "com/example/cartouche/cartouche/Rule" "AFTER_TRAILER" "Lcom/example/cartouche/cartouche/Rule;" (.ref (A 3)) ∧
  Exa Z h (A 3) "com/example/cartouche/cartouche/Rule" ∧
  Sta Z h "com/example/cartouche/cartouche/Rule" "HEADER" "Lcom/example/cartouche/cartouche/Rule;" (.ref (A 4)) ∧
  Exa Z h (A 4) "com/example/cartouche/cartouche/Rule" ∧
  Sta Z h "com/example/cartouche/cartouche/Rule" "FORMAT_BLOCKED" "Lcom/example/cartouche/cartouche/Rule;" (.ref (A 5)) ∧
  Exa Z h (A 5) "com/example/cartouche/cartouche/Rule" ∧
  Sta Z h "com/example/cartouche/cartouche/Rule" "TRAILER" "Lcom/example/cartouche/cartouche/Rule;" (.ref (A 6)) ∧
  Exa Z h (A 6) "com/example/cartouche/cartouche/Rule" ∧
  Sta Z h "com/example/cartouche/cartouche/Rule" "JSON_TEXT" "Lcom/example/cartouche/cartouche/Rule;" (.ref (A 7)) ∧
  Exa Z h (A 7) "com/example/cartouche/cartouche/Rule" ∧
  Sta Z h "java/lang/Integer$IntegerCache" "high" "I" (.int (127 : Int32)) ∧
  Sta Z h "java/lang/Integer$IntegerCache" "cache" "[Ljava/lang/Integer;" (.ref (A 8)) ∧
  own_Cache Z h (A 8)
theorem own_f0 {Z : State} {h : Heap} {A : Nat → Addr} (W : own_W Z h A) : Sta Z h "com/example/cartouche/cartouche/Rule" "CARRIER_CODE" "Lcom/example/cartouche/cartouche/Rule;" (.ref (A 0)) := W.1
theorem own_f1 {Z : State} {h : Heap} {A : Nat → Addr} (W : own_W Z h A) : Exa Z h (A 0) "com/example/cartouche/cartouche/Rule" := W.2.1
theorem own_f2 {Z : State} {h : Heap} {A : Nat → Addr} (W : own_W Z h A) : Sta Z h "com/example/cartouche/cartouche/Rule" "AI_VALUE" "Lcom/example/cartouche/cartouche/Rule;" (.ref (A 1)) := W.2.2.1
theorem own_f3 {Z : State} {h : Heap} {A : Nat → Addr} (W : own_W Z h A) : Exa Z h (A 1) "com/example/cartouche/cartouche/Rule" := W.2.2.2.1
theorem own_f4 {Z : State} {h : Heap} {A : Nat → Addr} (W : own_W Z h A) : Sta Z h "com/example/cartouche/cartouche/Rule" "FIELD_LENGTH" "Lcom/example/cartouche/cartouche/Rule;" (.ref (A 2)) := W.2.2.2.2.1
theorem own_f5 {Z : State} {h : Heap} {A : Nat → Addr} (W : own_W Z h A) : Exa Z h (A 2) "com/example/cartouche/cartouche/Rule" := W.2.2.2.2.2.1
theorem own_f6 {Z : State} {h : Heap} {A : Nat → Addr} (W : own_W Z h A) : Sta Z h "com/example/cartouche/cartouche/Rule" "AFTER_TRAILER" "Lcom/example/cartouche/cartouche/Rule;" (.ref (A 3)) := W.2.2.2.2.2.2.1
theorem own_f7 {Z : State} {h : Heap} {A : Nat → Addr} (W : own_W Z h A) : Exa Z h (A 3) "com/example/cartouche/cartouche/Rule" := W.2.2.2.2.2.2.2.1
theorem own_f8 {Z : State} {h : Heap} {A : Nat → Addr} (W : own_W Z h A) : Sta Z h "com/example/cartouche/cartouche/Rule" "HEADER" "Lcom/example/cartouche/cartouche/Rule;" (.ref (A 4)) := W.2.2.2.2.2.2.2.2.1
theorem own_f9 {Z : State} {h : Heap} {A : Nat → Addr} (W : own_W Z h A) : Exa Z h (A 4) "com/example/cartouche/cartouche/Rule" := W.2.2.2.2.2.2.2.2.2.1
theorem own_f10 {Z : State} {h : Heap} {A : Nat → Addr} (W : own_W Z h A) : Sta Z h "com/example/cartouche/cartouche/Rule" "FORMAT_BLOCKED" "Lcom/example/cartouche/cartouche/Rule;" (.ref (A 5)) := W.2.2.2.2.2.2.2.2.2.2.1
theorem own_f11 {Z : State} {h : Heap} {A : Nat → Addr} (W : own_W Z h A) : Exa Z h (A 5) "com/example/cartouche/cartouche/Rule" := W.2.2.2.2.2.2.2.2.2.2.2.1
theorem own_f12 {Z : State} {h : Heap} {A : Nat → Addr} (W : own_W Z h A) : Sta Z h "com/example/cartouche/cartouche/Rule" "TRAILER" "Lcom/example/cartouche/cartouche/Rule;" (.ref (A 6)) := W.2.2.2.2.2.2.2.2.2.2.2.2.1
theorem own_f13 {Z : State} {h : Heap} {A : Nat → Addr} (W : own_W Z h A) : Exa Z h (A 6) "com/example/cartouche/cartouche/Rule" := W.2.2.2.2.2.2.2.2.2.2.2.2.2.1
theorem own_f14 {Z : State} {h : Heap} {A : Nat → Addr} (W : own_W Z h A) : Sta Z h "com/example/cartouche/cartouche/Rule" "JSON_TEXT" "Lcom/example/cartouche/cartouche/Rule;" (.ref (A 7)) := W.2.2.2.2.2.2.2.2.2.2.2.2.2.2.1
theorem own_f15 {Z : State} {h : Heap} {A : Nat → Addr} (W : own_W Z h A) : Exa Z h (A 7) "com/example/cartouche/cartouche/Rule" := W.2.2.2.2.2.2.2.2.2.2.2.2.2.2.2.1
theorem own_f16 {Z : State} {h : Heap} {A : Nat → Addr} (W : own_W Z h A) : Sta Z h "java/lang/Integer$IntegerCache" "high" "I" (.int (127 : Int32)) := W.2.2.2.2.2.2.2.2.2.2.2.2.2.2.2.2.1
theorem own_f17 {Z : State} {h : Heap} {A : Nat → Addr} (W : own_W Z h A) : Sta Z h "java/lang/Integer$IntegerCache" "cache" "[Ljava/lang/Integer;" (.ref (A 8)) := W.2.2.2.2.2.2.2.2.2.2.2.2.2.2.2.2.2.1
theorem own_f18 {Z : State} {h : Heap} {A : Nat → Addr} (W : own_W Z h A) : own_Cache Z h (A 8) := W.2.2.2.2.2.2.2.2.2.2.2.2.2.2.2.2.2.2
theorem own_Wext {Z : State} {h h' : Heap} {A : Nat → Addr} (W : own_W Z h A) (E : Ext h h') : own_W Z h' A := ⟨(own_f0 W).ext E, (own_f1 W).ext E, (own_f2 W).ext E, (own_f3 W).ext E, (own_f4 W).ext E, (own_f5 W).ext E, (own_f6 W).ext E, (own_f7 W).ext E, (own_f8 W).ext E, (own_f9 W).ext E, (own_f10 W).ext E, (own_f11 W).ext E, (own_f12 W).ext E, (own_f13 W).ext E, (own_f14 W).ext E, (own_f15 W).ext E, (own_f16 W).ext E, (own_f17 W).ext E, (own_f18 W).ext E⟩
theorem own_world {s : State} {args : Array Value} (hw : ∀ d ∈ tables_1, d.before args s = true) (hn : narrow_1.value args s none s [] = some true) (hrest : rest_1_c.before args s = true) : ∃ A : Nat → Addr, own_W s s.heap A := by
  obtain ⟨n0, rr0⟩ := and_e hn
  obtain ⟨n1, rr1⟩ := and_e rr0
  obtain ⟨n2, rr2⟩ := and_e rr1
  obtain ⟨n3, rr3⟩ := and_e rr2
  obtain ⟨n4, rr4⟩ := and_e rr3
  obtain ⟨n5, rr5⟩ := and_e rr4
  obtain ⟨n6, rr6⟩ := and_e rr5
  obtain ⟨n7, rr7⟩ := and_e rr6
  obtain ⟨n8, rr8⟩ := and_e rr7
  obtain ⟨n9, rr9⟩ := and_e rr8
  obtain ⟨n10, rr10⟩ := and_e rr9
  obtain ⟨n11, rr11⟩ := and_e rr10
  obtain ⟨n12, rr12⟩ := and_e rr11
  obtain ⟨n13, rr13⟩ := and_e rr12
  obtain ⟨n14, rr14⟩ := and_e rr13
  obtain ⟨a0, v0⟩ := exa_v n0
  obtain ⟨a1, v1⟩ := exa_v n1
  obtain ⟨a2, v2⟩ := exa_v n4
  obtain ⟨a3, v3⟩ := exa_v n5
  obtain ⟨a4, v4⟩ := exa_v n6
  obtain ⟨a5, v5⟩ := exa_v n7
  obtain ⟨a6, v6⟩ := exa_v n8
  obtain ⟨a7, v7⟩ := exa_v n9
  obtain ⟨hs, -⟩ := atoms_of _ (rest_1_c_eq ▸ hrest)
  have r0 := hs _ (List.mem_of_getElem? (i := 0) rfl)
  have r2 := hs _ (List.mem_of_getElem? (i := 2) rfl)
  have r3 := Cond.before_iff.mp (hs _ (List.mem_of_getElem? (i := 3) rfl))
  have r4 := Cond.before_iff.mp (hs _ (List.mem_of_getElem? (i := 4) rfl))
  have r6 := Cond.before_iff.mp (hs _ (List.mem_of_getElem? (i := 6) rfl))
  have r7 := Cond.before_iff.mp (hs _ (List.mem_of_getElem? (i := 7) rfl))
  obtain ⟨a8, v8⟩ := arr_v r4
  exact ⟨fun n => [a0, a1, a2, a3, a4, a5, a6, a7, a8].getD n 0, Sta.start v0 (Or.inr ⟨(own_w5 hw), (own_w6 hw)⟩), Exa.start v0 n0, Sta.start v1 (Or.inr ⟨(own_w5 hw), (own_w8 hw)⟩), Exa.start v1 n1, Sta.start v2 (Or.inr ⟨(own_w5 hw), (own_w45 hw)⟩), Exa.start v2 n4, Sta.start v3 (Or.inr ⟨(own_w5 hw), (own_w47 hw)⟩), Exa.start v3 n5, Sta.start v4 (Or.inr ⟨(own_w5 hw), (own_w49 hw)⟩), Exa.start v4 n6, Sta.start v5 (Or.inr ⟨(own_w5 hw), (own_w51 hw)⟩), Exa.start v5 n7, Sta.start v6 (Or.inr ⟨(own_w5 hw), (own_w53 hw)⟩), Exa.start v6 n8, Sta.start v7 (Or.inr ⟨(own_w5 hw), (own_w55 hw)⟩), Exa.start v7 n9, Sta.start (own_eqI r3) (Or.inr ⟨(own_w61 hw), r0⟩), Sta.start v8 (Or.inr ⟨(own_w61 hw), r2⟩), own_cache v8 r4 r6 r7 (fun _ => v8)⟩
theorem own_d1_0 : decode method_2_code 0 = .ok (.iload_n 0, 1) := by decide +kernel
theorem own_d1_1 : decode method_2_code 1 = .ok (.bipush 7, 2) := by decide +kernel
theorem own_d1_3 : decode method_2_code 3 = .ok (.iand, 1) := by decide +kernel
theorem own_d1_4 : decode method_2_code 4 = .ok (.istore_n 1, 1) := by decide +kernel
theorem own_d1_5 : decode method_2_code 5 = .ok (.iload_n 1, 1) := by decide +kernel
theorem own_d1_6 : decode method_2_code 6 = .ok (.ifCond .ne 7, 3) := by decide +kernel
theorem own_d1_9 : decode method_2_code 9 = .ok (.getstatic 7, 3) := by decide +kernel
theorem own_d1_12 : decode method_2_code 12 = .ok (.areturn, 1) := by decide +kernel
theorem own_d1_13 : decode method_2_code 13 = .ok (.iload_n 1, 1) := by decide +kernel
theorem own_d1_14 : decode method_2_code 14 = .ok (.iconst 1, 1) := by decide +kernel
theorem own_d1_15 : decode method_2_code 15 = .ok (.if_icmp .ne 7, 3) := by decide +kernel
theorem own_d1_18 : decode method_2_code 18 = .ok (.getstatic 13, 3) := by decide +kernel
theorem own_d1_21 : decode method_2_code 21 = .ok (.areturn, 1) := by decide +kernel
theorem own_d1_22 : decode method_2_code 22 = .ok (.iload_n 1, 1) := by decide +kernel
theorem own_d1_23 : decode method_2_code 23 = .ok (.iconst 2, 1) := by decide +kernel
theorem own_d1_24 : decode method_2_code 24 = .ok (.if_icmp .ne 7, 3) := by decide +kernel
theorem own_d1_27 : decode method_2_code 27 = .ok (.getstatic 16, 3) := by decide +kernel
theorem own_d1_30 : decode method_2_code 30 = .ok (.areturn, 1) := by decide +kernel
theorem own_d1_31 : decode method_2_code 31 = .ok (.iload_n 1, 1) := by decide +kernel
theorem own_d1_32 : decode method_2_code 32 = .ok (.iconst 3, 1) := by decide +kernel
theorem own_d1_33 : decode method_2_code 33 = .ok (.if_icmp .ne 7, 3) := by decide +kernel
theorem own_d1_36 : decode method_2_code 36 = .ok (.getstatic 19, 3) := by decide +kernel
theorem own_d1_39 : decode method_2_code 39 = .ok (.areturn, 1) := by decide +kernel
theorem own_d1_40 : decode method_2_code 40 = .ok (.iload_n 1, 1) := by decide +kernel
theorem own_d1_41 : decode method_2_code 41 = .ok (.iconst 4, 1) := by decide +kernel
theorem own_d1_42 : decode method_2_code 42 = .ok (.if_icmp .ne 7, 3) := by decide +kernel
theorem own_d1_45 : decode method_2_code 45 = .ok (.getstatic 22, 3) := by decide +kernel
theorem own_d1_48 : decode method_2_code 48 = .ok (.areturn, 1) := by decide +kernel
theorem own_d1_49 : decode method_2_code 49 = .ok (.iload_n 1, 1) := by decide +kernel
theorem own_d1_50 : decode method_2_code 50 = .ok (.iconst 5, 1) := by decide +kernel
theorem own_d1_51 : decode method_2_code 51 = .ok (.if_icmp .ne 7, 3) := by decide +kernel
theorem own_d1_54 : decode method_2_code 54 = .ok (.getstatic 25, 3) := by decide +kernel
theorem own_d1_57 : decode method_2_code 57 = .ok (.areturn, 1) := by decide +kernel
theorem own_d1_58 : decode method_2_code 58 = .ok (.iload_n 1, 1) := by decide +kernel
theorem own_d1_59 : decode method_2_code 59 = .ok (.bipush 6, 2) := by decide +kernel
theorem own_d1_61 : decode method_2_code 61 = .ok (.if_icmp .ne 7, 3) := by decide +kernel
theorem own_d1_64 : decode method_2_code 64 = .ok (.getstatic 28, 3) := by decide +kernel
theorem own_d1_67 : decode method_2_code 67 = .ok (.areturn, 1) := by decide +kernel
theorem own_d1_68 : decode method_2_code 68 = .ok (.getstatic 31, 3) := by decide +kernel
theorem own_d1_71 : decode method_2_code 71 = .ok (.areturn, 1) := by decide +kernel
def own_r_pick (A : Nat → Addr) (k : Int32) : Addr := if (k &&& (7 : Int32)) = 0 then (A 0) else if (k &&& (7 : Int32)) = (1 : Int32) then (A 4) else if (k &&& (7 : Int32)) = (2 : Int32) then (A 5) else if (k &&& (7 : Int32)) = (3 : Int32) then (A 1) else if (k &&& (7 : Int32)) = (4 : Int32) then (A 2) else if (k &&& (7 : Int32)) = (5 : Int32) then (A 7) else if (k &&& (7 : Int32)) = (6 : Int32) then (A 6) else (A 3)
set_option maxRecDepth 65536 in
set_option maxHeartbeats 40000000 in
theorem rm_pick (l : Launch) {Z : State} {a0 : Array Value} (hw : ∀ d ∈ tables_1, d.before a0 Z = true) {A : Nat → Addr} {h0 : Heap} (W : own_W Z h0 A) (k : Int32)  :
    own_Does l Z (⟨"com/example/cartouche/cartouche/FaultEqualsPinLaw", "pick", "(I)Lcom/example/cartouche/cartouche/Rule;"⟩ : MethodName) method_2_code 2 (some (.object "com/example/cartouche/cartouche/Rule")) [] ({ frames := 0, cells := 0, slots := 0, locals := 0 } : Room) #[(.int k)] h0 (own_Is (.ref (own_r_pick A k)) h0) := by
  refine own_body own_pn0 ?_
  intro p e s m below meth c T0 hx hby hml hret hlk hnm hown hZ X0 e0
  refine own_tr (XT.entry (Ls := #[.val (.int k), .unset]) rfl) ?_
  show own_Goes p e below _ (T0.setTop (mkF m 0 #[.val (.int k), .unset] []))
  refine own_by (fun _ zz => XS.iloadN X0.here hx rfl (hb hby own_d1_0) rfl zz) ?_
  show own_Goes p e below _ (T0.setTop (mkF m 1 #[.val (.int k), .unset] [(.int k)]))
  refine own_by (fun _ zz => XS.bipush X0.here hx rfl (hb hby own_d1_1) zz) ?_
  show own_Goes p e below _ (T0.setTop (mkF m 3 #[.val (.int k), .unset] [(.int (7 : Int32)), (.int k)]))
  refine own_by (fun _ zz => XS.iand X0.here hx rfl (hb hby own_d1_3) rfl zz) ?_
  show own_Goes p e below _ (T0.setTop (mkF m 4 #[.val (.int k), .unset] [(.int (k &&& (7 : Int32)))]))
  refine own_by (fun _ zz => XS.istoreN X0.here hx rfl (hb hby own_d1_4) rfl (l' := #[.val (.int k), .val (.int (k &&& (7 : Int32)))]) rfl zz) ?_
  show own_Goes p e below _ (T0.setTop (mkF m 5 #[.val (.int k), .val (.int (k &&& (7 : Int32)))] []))
  refine own_by (fun _ zz => XS.iloadN X0.here hx rfl (hb hby own_d1_5) rfl zz) ?_
  show own_Goes p e below _ (T0.setTop (mkF m 6 #[.val (.int k), .val (.int (k &&& (7 : Int32)))] [(.int (k &&& (7 : Int32)))]))
  by_cases q1 : (k &&& (7 : Int32)) = 0
  · refine own_by (fun _ zz => XS.ifNo X0.here hx rfl (hb hby own_d1_6) rfl (XT.i0_ne_f q1) zz) ?_
    show own_Goes p e below _ (T0.setTop (mkF m 9 #[.val (.int k), .val (.int (k &&& (7 : Int32)))] []))
    refine own_getS X0 hx hZ hown (own_w4 hw) e0 (own_f0 W) (hb hby own_d1_9) fun T2 X2 e2 => ?_
    show own_Goes p e below _ (T2.setTop (mkF m 12 #[.val (.int k), .val (.int (k &&& (7 : Int32)))] [(.ref (A 0))]))
    refine own_retR X2 hx hlk hret rfl rfl rfl (hb hby own_d1_12) (by decide) (by decide) ?_
    exact ⟨by unfold own_r_pick; rw [if_pos q1] <;> rfl, rfl, e2⟩
  · refine own_by (fun _ zz => XS.ifYes X0.here hx rfl (pc0 := 6) (pc' := 13) rfl (hb hby own_d1_6) rfl (XT.i0_ne_t q1) (by decide) (by decide) zz) ?_
    show own_Goes p e below _ (T0.setTop (mkF m 13 #[.val (.int k), .val (.int (k &&& (7 : Int32)))] []))
    refine own_by (fun _ zz => XS.iloadN X0.here hx rfl (hb hby own_d1_13) rfl zz) ?_
    show own_Goes p e below _ (T0.setTop (mkF m 14 #[.val (.int k), .val (.int (k &&& (7 : Int32)))] [(.int (k &&& (7 : Int32)))]))
    refine own_by (fun _ zz => XS.iconst X0.here hx rfl (hb hby own_d1_14) zz) ?_
    show own_Goes p e below _ (T0.setTop (mkF m 15 #[.val (.int k), .val (.int (k &&& (7 : Int32)))] [(.int (1 : Int32)), (.int (k &&& (7 : Int32)))]))
    by_cases q3 : (k &&& (7 : Int32)) = (1 : Int32)
    · refine own_by (fun _ zz => XS.icmpNo X0.here hx rfl (hb hby own_d1_15) rfl (XT.ii_ne_f q3) zz) ?_
      show own_Goes p e below _ (T0.setTop (mkF m 18 #[.val (.int k), .val (.int (k &&& (7 : Int32)))] []))
      refine own_getS X0 hx hZ hown (own_w48 hw) e0 (own_f8 W) (hb hby own_d1_18) fun T4 X4 e4 => ?_
      show own_Goes p e below _ (T4.setTop (mkF m 21 #[.val (.int k), .val (.int (k &&& (7 : Int32)))] [(.ref (A 4))]))
      refine own_retR X4 hx hlk hret rfl rfl rfl (hb hby own_d1_21) (by decide) (by decide) ?_
      exact ⟨by unfold own_r_pick; rw [if_neg q1, if_pos q3] <;> rfl, rfl, e4⟩
    · refine own_by (fun _ zz => XS.icmpYes X0.here hx rfl (pc0 := 15) (pc' := 22) rfl (hb hby own_d1_15) rfl (XT.ii_ne_t q3) (by decide) (by decide) zz) ?_
      show own_Goes p e below _ (T0.setTop (mkF m 22 #[.val (.int k), .val (.int (k &&& (7 : Int32)))] []))
      refine own_by (fun _ zz => XS.iloadN X0.here hx rfl (hb hby own_d1_22) rfl zz) ?_
      show own_Goes p e below _ (T0.setTop (mkF m 23 #[.val (.int k), .val (.int (k &&& (7 : Int32)))] [(.int (k &&& (7 : Int32)))]))
      refine own_by (fun _ zz => XS.iconst X0.here hx rfl (hb hby own_d1_23) zz) ?_
      show own_Goes p e below _ (T0.setTop (mkF m 24 #[.val (.int k), .val (.int (k &&& (7 : Int32)))] [(.int (2 : Int32)), (.int (k &&& (7 : Int32)))]))
      by_cases q5 : (k &&& (7 : Int32)) = (2 : Int32)
      · refine own_by (fun _ zz => XS.icmpNo X0.here hx rfl (hb hby own_d1_24) rfl (XT.ii_ne_f q5) zz) ?_
        show own_Goes p e below _ (T0.setTop (mkF m 27 #[.val (.int k), .val (.int (k &&& (7 : Int32)))] []))
        refine own_getS X0 hx hZ hown (own_w50 hw) e0 (own_f10 W) (hb hby own_d1_27) fun T6 X6 e6 => ?_
        show own_Goes p e below _ (T6.setTop (mkF m 30 #[.val (.int k), .val (.int (k &&& (7 : Int32)))] [(.ref (A 5))]))
        refine own_retR X6 hx hlk hret rfl rfl rfl (hb hby own_d1_30) (by decide) (by decide) ?_
        exact ⟨by unfold own_r_pick; rw [if_neg q1, if_neg q3, if_pos q5] <;> rfl, rfl, e6⟩
      · refine own_by (fun _ zz => XS.icmpYes X0.here hx rfl (pc0 := 24) (pc' := 31) rfl (hb hby own_d1_24) rfl (XT.ii_ne_t q5) (by decide) (by decide) zz) ?_
        show own_Goes p e below _ (T0.setTop (mkF m 31 #[.val (.int k), .val (.int (k &&& (7 : Int32)))] []))
        refine own_by (fun _ zz => XS.iloadN X0.here hx rfl (hb hby own_d1_31) rfl zz) ?_
        show own_Goes p e below _ (T0.setTop (mkF m 32 #[.val (.int k), .val (.int (k &&& (7 : Int32)))] [(.int (k &&& (7 : Int32)))]))
        refine own_by (fun _ zz => XS.iconst X0.here hx rfl (hb hby own_d1_32) zz) ?_
        show own_Goes p e below _ (T0.setTop (mkF m 33 #[.val (.int k), .val (.int (k &&& (7 : Int32)))] [(.int (3 : Int32)), (.int (k &&& (7 : Int32)))]))
        by_cases q7 : (k &&& (7 : Int32)) = (3 : Int32)
        · refine own_by (fun _ zz => XS.icmpNo X0.here hx rfl (hb hby own_d1_33) rfl (XT.ii_ne_f q7) zz) ?_
          show own_Goes p e below _ (T0.setTop (mkF m 36 #[.val (.int k), .val (.int (k &&& (7 : Int32)))] []))
          refine own_getS X0 hx hZ hown (own_w7 hw) e0 (own_f2 W) (hb hby own_d1_36) fun T8 X8 e8 => ?_
          show own_Goes p e below _ (T8.setTop (mkF m 39 #[.val (.int k), .val (.int (k &&& (7 : Int32)))] [(.ref (A 1))]))
          refine own_retR X8 hx hlk hret rfl rfl rfl (hb hby own_d1_39) (by decide) (by decide) ?_
          exact ⟨by unfold own_r_pick; rw [if_neg q1, if_neg q3, if_neg q5, if_pos q7] <;> rfl, rfl, e8⟩
        · refine own_by (fun _ zz => XS.icmpYes X0.here hx rfl (pc0 := 33) (pc' := 40) rfl (hb hby own_d1_33) rfl (XT.ii_ne_t q7) (by decide) (by decide) zz) ?_
          show own_Goes p e below _ (T0.setTop (mkF m 40 #[.val (.int k), .val (.int (k &&& (7 : Int32)))] []))
          refine own_by (fun _ zz => XS.iloadN X0.here hx rfl (hb hby own_d1_40) rfl zz) ?_
          show own_Goes p e below _ (T0.setTop (mkF m 41 #[.val (.int k), .val (.int (k &&& (7 : Int32)))] [(.int (k &&& (7 : Int32)))]))
          refine own_by (fun _ zz => XS.iconst X0.here hx rfl (hb hby own_d1_41) zz) ?_
          show own_Goes p e below _ (T0.setTop (mkF m 42 #[.val (.int k), .val (.int (k &&& (7 : Int32)))] [(.int (4 : Int32)), (.int (k &&& (7 : Int32)))]))
          by_cases q9 : (k &&& (7 : Int32)) = (4 : Int32)
          · refine own_by (fun _ zz => XS.icmpNo X0.here hx rfl (hb hby own_d1_42) rfl (XT.ii_ne_f q9) zz) ?_
            show own_Goes p e below _ (T0.setTop (mkF m 45 #[.val (.int k), .val (.int (k &&& (7 : Int32)))] []))
            refine own_getS X0 hx hZ hown (own_w44 hw) e0 (own_f4 W) (hb hby own_d1_45) fun T10 X10 e10 => ?_
            show own_Goes p e below _ (T10.setTop (mkF m 48 #[.val (.int k), .val (.int (k &&& (7 : Int32)))] [(.ref (A 2))]))
            refine own_retR X10 hx hlk hret rfl rfl rfl (hb hby own_d1_48) (by decide) (by decide) ?_
            exact ⟨by unfold own_r_pick; rw [if_neg q1, if_neg q3, if_neg q5, if_neg q7, if_pos q9] <;> rfl, rfl, e10⟩
          · refine own_by (fun _ zz => XS.icmpYes X0.here hx rfl (pc0 := 42) (pc' := 49) rfl (hb hby own_d1_42) rfl (XT.ii_ne_t q9) (by decide) (by decide) zz) ?_
            show own_Goes p e below _ (T0.setTop (mkF m 49 #[.val (.int k), .val (.int (k &&& (7 : Int32)))] []))
            refine own_by (fun _ zz => XS.iloadN X0.here hx rfl (hb hby own_d1_49) rfl zz) ?_
            show own_Goes p e below _ (T0.setTop (mkF m 50 #[.val (.int k), .val (.int (k &&& (7 : Int32)))] [(.int (k &&& (7 : Int32)))]))
            refine own_by (fun _ zz => XS.iconst X0.here hx rfl (hb hby own_d1_50) zz) ?_
            show own_Goes p e below _ (T0.setTop (mkF m 51 #[.val (.int k), .val (.int (k &&& (7 : Int32)))] [(.int (5 : Int32)), (.int (k &&& (7 : Int32)))]))
            by_cases q11 : (k &&& (7 : Int32)) = (5 : Int32)
            · refine own_by (fun _ zz => XS.icmpNo X0.here hx rfl (hb hby own_d1_51) rfl (XT.ii_ne_f q11) zz) ?_
              show own_Goes p e below _ (T0.setTop (mkF m 54 #[.val (.int k), .val (.int (k &&& (7 : Int32)))] []))
              refine own_getS X0 hx hZ hown (own_w54 hw) e0 (own_f14 W) (hb hby own_d1_54) fun T12 X12 e12 => ?_
              show own_Goes p e below _ (T12.setTop (mkF m 57 #[.val (.int k), .val (.int (k &&& (7 : Int32)))] [(.ref (A 7))]))
              refine own_retR X12 hx hlk hret rfl rfl rfl (hb hby own_d1_57) (by decide) (by decide) ?_
              exact ⟨by unfold own_r_pick; rw [if_neg q1, if_neg q3, if_neg q5, if_neg q7, if_neg q9, if_pos q11] <;> rfl, rfl, e12⟩
            · refine own_by (fun _ zz => XS.icmpYes X0.here hx rfl (pc0 := 51) (pc' := 58) rfl (hb hby own_d1_51) rfl (XT.ii_ne_t q11) (by decide) (by decide) zz) ?_
              show own_Goes p e below _ (T0.setTop (mkF m 58 #[.val (.int k), .val (.int (k &&& (7 : Int32)))] []))
              refine own_by (fun _ zz => XS.iloadN X0.here hx rfl (hb hby own_d1_58) rfl zz) ?_
              show own_Goes p e below _ (T0.setTop (mkF m 59 #[.val (.int k), .val (.int (k &&& (7 : Int32)))] [(.int (k &&& (7 : Int32)))]))
              refine own_by (fun _ zz => XS.bipush X0.here hx rfl (hb hby own_d1_59) zz) ?_
              show own_Goes p e below _ (T0.setTop (mkF m 61 #[.val (.int k), .val (.int (k &&& (7 : Int32)))] [(.int (6 : Int32)), (.int (k &&& (7 : Int32)))]))
              by_cases q13 : (k &&& (7 : Int32)) = (6 : Int32)
              · refine own_by (fun _ zz => XS.icmpNo X0.here hx rfl (hb hby own_d1_61) rfl (XT.ii_ne_f q13) zz) ?_
                show own_Goes p e below _ (T0.setTop (mkF m 64 #[.val (.int k), .val (.int (k &&& (7 : Int32)))] []))
                refine own_getS X0 hx hZ hown (own_w52 hw) e0 (own_f12 W) (hb hby own_d1_64) fun T14 X14 e14 => ?_
                show own_Goes p e below _ (T14.setTop (mkF m 67 #[.val (.int k), .val (.int (k &&& (7 : Int32)))] [(.ref (A 6))]))
                refine own_retR X14 hx hlk hret rfl rfl rfl (hb hby own_d1_67) (by decide) (by decide) ?_
                exact ⟨by unfold own_r_pick; rw [if_neg q1, if_neg q3, if_neg q5, if_neg q7, if_neg q9, if_neg q11, if_pos q13] <;> rfl, rfl, e14⟩
              · refine own_by (fun _ zz => XS.icmpYes X0.here hx rfl (pc0 := 61) (pc' := 68) rfl (hb hby own_d1_61) rfl (XT.ii_ne_t q13) (by decide) (by decide) zz) ?_
                show own_Goes p e below _ (T0.setTop (mkF m 68 #[.val (.int k), .val (.int (k &&& (7 : Int32)))] []))
                refine own_getS X0 hx hZ hown (own_w46 hw) e0 (own_f6 W) (hb hby own_d1_68) fun T15 X15 e15 => ?_
                show own_Goes p e below _ (T15.setTop (mkF m 71 #[.val (.int k), .val (.int (k &&& (7 : Int32)))] [(.ref (A 3))]))
                refine own_retR X15 hx hlk hret rfl rfl rfl (hb hby own_d1_71) (by decide) (by decide) ?_
                exact ⟨by unfold own_r_pick; rw [if_neg q1, if_neg q3, if_neg q5, if_neg q7, if_neg q9, if_neg q11, if_neg q13] <;> rfl, rfl, e15⟩
theorem own_d4_0 : decode jdk_31_method_11_code 0 = .ok (.aload_n 0, 1) := by decide +kernel
theorem own_d4_1 : decode jdk_31_method_11_code 1 = .ok (.ifnonnull 12, 3) := by decide +kernel
theorem own_d4_4 : decode jdk_31_method_11_code 4 = .ok (.new 84, 3) := by decide +kernel
theorem own_d4_7 : decode jdk_31_method_11_code 7 = .ok (.dup, 1) := by decide +kernel
theorem own_d4_8 : decode jdk_31_method_11_code 8 = .ok (.aload_n 1, 1) := by decide +kernel
theorem own_d4_9 : decode jdk_31_method_11_code 9 = .ok (.invokespecial 87, 3) := by decide +kernel
theorem own_d4_12 : decode jdk_31_method_11_code 12 = .ok (.athrow, 1) := by decide +kernel
theorem own_d4_13 : decode jdk_31_method_11_code 13 = .ok (.aload_n 0, 1) := by decide +kernel
theorem own_d4_14 : decode jdk_31_method_11_code 14 = .ok (.areturn, 1) := by decide +kernel
def own_r_rnn (A : Nat → Addr) (r : Addr) (t : Addr) : Addr := r
set_option maxRecDepth 65536 in
set_option maxHeartbeats 40000000 in
theorem rm_rnn (l : Launch) {Z : State} {a0 : Array Value} (hw : ∀ d ∈ tables_1, d.before a0 Z = true) {A : Nat → Addr} {h0 : Heap} (W : own_W Z h0 A) (r : Addr) (t : Addr)  :
    own_Does l Z (⟨"java/util/Objects", "requireNonNull", "(Ljava/lang/Object;Ljava/lang/String;)Ljava/lang/Object;"⟩ : MethodName) jdk_31_method_11_code 2 (some (.object "java/lang/Object")) [] ({ frames := 0, cells := 0, slots := 0, locals := 0 } : Room) #[(.ref r), (.ref t)] h0 (own_Is (.ref (own_r_rnn A r t)) h0) := by
  refine own_body own_pn1 ?_
  intro p e s m below meth c T0 hx hby hml hret hlk hnm hown hZ X0 e0
  refine own_tr (XT.entry (Ls := #[.val (.ref r), .val (.ref t)]) rfl) ?_
  show own_Goes p e below _ (T0.setTop (mkF m 0 #[.val (.ref r), .val (.ref t)] []))
  refine own_by (fun _ zz => XS.aloadN X0.here hx rfl (hb hby own_d4_0) rfl rfl zz) ?_
  show own_Goes p e below _ (T0.setTop (mkF m 1 #[.val (.ref r), .val (.ref t)] [(.ref r)]))
  refine own_by (fun _ zz => XT.ifnonnullYes X0.here hx rfl (pc0 := 1) (pc' := 13) rfl (hb hby own_d4_1) rfl (by decide) (by decide) zz) ?_
  show own_Goes p e below _ (T0.setTop (mkF m 13 #[.val (.ref r), .val (.ref t)] []))
  refine own_by (fun _ zz => XS.aloadN X0.here hx rfl (hb hby own_d4_13) rfl rfl zz) ?_
  show own_Goes p e below _ (T0.setTop (mkF m 14 #[.val (.ref r), .val (.ref t)] [(.ref r)]))
  refine own_retR X0 hx hlk hret rfl rfl rfl (hb hby own_d4_14) (by decide) (by decide) ?_
  exact ⟨by unfold own_r_rnn; rfl, rfl, e0⟩
theorem own_d5_0 : decode prog_6_method_4_code 0 = .ok (.aload_n 1, 1) := by decide +kernel
theorem own_d5_1 : decode prog_6_method_4_code 1 = .ok (.instanceof 27, 3) := by decide +kernel
theorem own_d5_4 : decode prog_6_method_4_code 4 = .ok (.ifCond .eq 34, 3) := by decide +kernel
theorem own_d5_7 : decode prog_6_method_4_code 7 = .ok (.aload_n 1, 1) := by decide +kernel
theorem own_d5_8 : decode prog_6_method_4_code 8 = .ok (.checkcast 27, 3) := by decide +kernel
theorem own_d5_11 : decode prog_6_method_4_code 11 = .ok (.astore_n 2, 1) := by decide +kernel
theorem own_d5_12 : decode prog_6_method_4_code 12 = .ok (.aload_n 0, 1) := by decide +kernel
theorem own_d5_13 : decode prog_6_method_4_code 13 = .ok (.getfield 26, 3) := by decide +kernel
theorem own_d5_16 : decode prog_6_method_4_code 16 = .ok (.aload_n 2, 1) := by decide +kernel
theorem own_d5_17 : decode prog_6_method_4_code 17 = .ok (.getfield 26, 3) := by decide +kernel
theorem own_d5_20 : decode prog_6_method_4_code 20 = .ok (.if_acmp .ne 18, 3) := by decide +kernel
theorem own_d5_23 : decode prog_6_method_4_code 23 = .ok (.aload_n 0, 1) := by decide +kernel
theorem own_d5_24 : decode prog_6_method_4_code 24 = .ok (.getfield 31, 3) := by decide +kernel
theorem own_d5_27 : decode prog_6_method_4_code 27 = .ok (.aload_n 2, 1) := by decide +kernel
theorem own_d5_28 : decode prog_6_method_4_code 28 = .ok (.getfield 31, 3) := by decide +kernel
theorem own_d5_31 : decode prog_6_method_4_code 31 = .ok (.if_icmp .ne 7, 3) := by decide +kernel
theorem own_d5_34 : decode prog_6_method_4_code 34 = .ok (.iconst 1, 1) := by decide +kernel
theorem own_d5_35 : decode prog_6_method_4_code 35 = .ok (.goto 4, 3) := by decide +kernel
theorem own_d5_38 : decode prog_6_method_4_code 38 = .ok (.iconst 0, 1) := by decide +kernel
theorem own_d5_39 : decode prog_6_method_4_code 39 = .ok (.ireturn, 1) := by decide +kernel
def own_r_eqN (A : Nat → Addr) (b : Addr) : Int32 := (0 : Int32)
set_option maxRecDepth 65536 in
set_option maxHeartbeats 40000000 in
theorem rm_eqN (l : Launch) {Z : State} {a0 : Array Value} (hw : ∀ d ∈ tables_1, d.before a0 Z = true) {A : Nat → Addr} {h0 : Heap} (W : own_W Z h0 A) (b : Addr)  :
    own_Does l Z (⟨"com/example/cartouche/cartouche/Fault", "equals", "(Ljava/lang/Object;)Z"⟩ : MethodName) prog_6_method_4_code 3 (some .boolean) [] ({ frames := 0, cells := 0, slots := 0, locals := 0 } : Room) #[(.ref b), .null] h0 (own_Is (.int (own_r_eqN A b)) h0) := by
  refine own_body own_pn2 ?_
  intro p e s m below meth c T0 hx hby hml hret hlk hnm hown hZ X0 e0
  refine own_tr (XT.entry (Ls := #[.val (.ref b), .val .null, .unset]) rfl) ?_
  show own_Goes p e below _ (T0.setTop (mkF m 0 #[.val (.ref b), .val .null, .unset] []))
  refine own_by (fun _ zz => XS.aloadN X0.here hx rfl (hb hby own_d5_0) rfl rfl zz) ?_
  show own_Goes p e below _ (T0.setTop (mkF m 1 #[.val (.ref b), .val .null, .unset] [.null]))
  refine own_by (X0.instanceofNull hx (g := mkF m 1 #[.val (.ref b), .val .null, .unset] [.null]) rfl rfl (hb hby own_d5_1)) ?_
  show own_Goes p e below _ (T0.setTop (mkF m 4 #[.val (.ref b), .val .null, .unset] [(.int (0 : Int32))]))
  refine own_by (fun _ zz => XS.ifYes X0.here hx rfl (pc0 := 4) (pc' := 38) rfl (hb hby own_d5_4) rfl (by decide) (by decide) (by decide) zz) ?_
  show own_Goes p e below _ (T0.setTop (mkF m 38 #[.val (.ref b), .val .null, .unset] []))
  refine own_by (fun _ zz => XS.iconst X0.here hx rfl (hb hby own_d5_38) zz) ?_
  show own_Goes p e below _ (T0.setTop (mkF m 39 #[.val (.ref b), .val .null, .unset] [(.int (0 : Int32))]))
  refine own_retN X0 hx hlk (ty := .boolean) hret (by simp) (hb hby own_d5_39) (by decide) (by decide) ?_
  exact ⟨by unfold own_r_eqN; rfl, rfl, e0⟩
def own_r_eqF (A : Nat → Addr) (b : Addr) (d : Addr) (rb : Addr) (rd : Addr) (ob : Int32) (od : Int32) : Int32 := if rb = rd then if ob = od then (1 : Int32) else (0 : Int32) else (0 : Int32)
set_option maxRecDepth 65536 in
set_option maxHeartbeats 40000000 in
theorem rm_eqF (l : Launch) {Z : State} {a0 : Array Value} (hw : ∀ d ∈ tables_1, d.before a0 Z = true) {A : Nat → Addr} {h0 : Heap} (W : own_W Z h0 A) (b : Addr) (d : Addr) (rb : Addr) (rd : Addr) (ob : Int32) (od : Int32) (Ed : Exa Z h0 d "com/example/cartouche/cartouche/Fault") (Fr_b : Fld Z h0 b "com/example/cartouche/cartouche/Fault" "rule" "Lcom/example/cartouche/cartouche/Rule;" (.ref rb)) (Fo_b : Fld Z h0 b "com/example/cartouche/cartouche/Fault" "offset" "I" (.int ob)) (Fr_d : Fld Z h0 d "com/example/cartouche/cartouche/Fault" "rule" "Lcom/example/cartouche/cartouche/Rule;" (.ref rd)) (Fo_d : Fld Z h0 d "com/example/cartouche/cartouche/Fault" "offset" "I" (.int od)) :
    own_Does l Z (⟨"com/example/cartouche/cartouche/Fault", "equals", "(Ljava/lang/Object;)Z"⟩ : MethodName) prog_6_method_4_code 3 (some .boolean) [] ({ frames := 0, cells := 0, slots := 0, locals := 0 } : Room) #[(.ref b), (.ref d)] h0 (own_Is (.int (own_r_eqF A b d rb rd ob od)) h0) := by
  refine own_body own_pn2 ?_
  intro p e s m below meth c T0 hx hby hml hret hlk hnm hown hZ X0 e0
  refine own_tr (XT.entry (Ls := #[.val (.ref b), .val (.ref d), .unset]) rfl) ?_
  show own_Goes p e below _ (T0.setTop (mkF m 0 #[.val (.ref b), .val (.ref d), .unset] []))
  refine own_by (fun _ zz => XS.aloadN X0.here hx rfl (hb hby own_d5_0) rfl rfl zz) ?_
  show own_Goes p e below _ (T0.setTop (mkF m 1 #[.val (.ref b), .val (.ref d), .unset] [(.ref d)]))
  obtain ⟨T1, X1, e1, st1⟩ := instY X0 hx hZ hown (own_w42 hw) e0 (Ins.self Ed) (g := mkF m 1 #[.val (.ref b), .val (.ref d), .unset] [(.ref d)]) rfl rfl (hb hby own_d5_1)
  refine own_by st1 ?_
  show own_Goes p e below _ (T1.setTop (mkF m 4 #[.val (.ref b), .val (.ref d), .unset] [(.int (1 : Int32))]))
  refine own_by (fun _ zz => XS.ifNo X1.here hx rfl (hb hby own_d5_4) rfl (by decide) zz) ?_
  show own_Goes p e below _ (T1.setTop (mkF m 7 #[.val (.ref b), .val (.ref d), .unset] []))
  refine own_by (fun _ zz => XS.aloadN X1.here hx rfl (hb hby own_d5_7) rfl rfl zz) ?_
  show own_Goes p e below _ (T1.setTop (mkF m 8 #[.val (.ref b), .val (.ref d), .unset] [(.ref d)]))
  refine own_cast X1 hx hZ hown (own_w42 hw) e1 (Ins.self Ed) (hb hby own_d5_8) fun T2 X2 e2 => ?_
  show own_Goes p e below _ (T2.setTop (mkF m 11 #[.val (.ref b), .val (.ref d), .unset] [(.ref d)]))
  refine own_by (fun _ zz => XS.astoreN X2.here hx rfl (hb hby own_d5_11) rfl rfl (l' := #[.val (.ref b), .val (.ref d), .val (.ref d)]) rfl zz) ?_
  show own_Goes p e below _ (T2.setTop (mkF m 12 #[.val (.ref b), .val (.ref d), .val (.ref d)] []))
  refine own_by (fun _ zz => XS.aloadN X2.here hx rfl (hb hby own_d5_12) rfl rfl zz) ?_
  show own_Goes p e below _ (T2.setTop (mkF m 13 #[.val (.ref b), .val (.ref d), .val (.ref d)] [(.ref b)]))
  refine own_getF X2 hx hZ hown (own_w33 hw) e2 Fr_b (hb hby own_d5_13) fun T3 X3 e3 => ?_
  show own_Goes p e below _ (T3.setTop (mkF m 16 #[.val (.ref b), .val (.ref d), .val (.ref d)] [(.ref rb)]))
  refine own_by (fun _ zz => XS.aloadN X3.here hx rfl (hb hby own_d5_16) rfl rfl zz) ?_
  show own_Goes p e below _ (T3.setTop (mkF m 17 #[.val (.ref b), .val (.ref d), .val (.ref d)] [(.ref d), (.ref rb)]))
  refine own_getF X3 hx hZ hown (own_w33 hw) e3 Fr_d (hb hby own_d5_17) fun T4 X4 e4 => ?_
  show own_Goes p e below _ (T4.setTop (mkF m 20 #[.val (.ref b), .val (.ref d), .val (.ref d)] [(.ref rd), (.ref rb)]))
  by_cases q5 : rb = rd
  · refine own_by (fun _ zz => XT.acmpNo X4.here hx rfl (hb hby own_d5_20) rfl rfl rfl (XT.aa_ne_f (congrArg Value.ref q5)) zz) ?_
    show own_Goes p e below _ (T4.setTop (mkF m 23 #[.val (.ref b), .val (.ref d), .val (.ref d)] []))
    refine own_by (fun _ zz => XS.aloadN X4.here hx rfl (hb hby own_d5_23) rfl rfl zz) ?_
    show own_Goes p e below _ (T4.setTop (mkF m 24 #[.val (.ref b), .val (.ref d), .val (.ref d)] [(.ref b)]))
    refine own_getF X4 hx hZ hown (own_w35 hw) e4 Fo_b (hb hby own_d5_24) fun T6 X6 e6 => ?_
    show own_Goes p e below _ (T6.setTop (mkF m 27 #[.val (.ref b), .val (.ref d), .val (.ref d)] [(.int ob)]))
    refine own_by (fun _ zz => XS.aloadN X6.here hx rfl (hb hby own_d5_27) rfl rfl zz) ?_
    show own_Goes p e below _ (T6.setTop (mkF m 28 #[.val (.ref b), .val (.ref d), .val (.ref d)] [(.ref d), (.int ob)]))
    refine own_getF X6 hx hZ hown (own_w35 hw) e6 Fo_d (hb hby own_d5_28) fun T7 X7 e7 => ?_
    show own_Goes p e below _ (T7.setTop (mkF m 31 #[.val (.ref b), .val (.ref d), .val (.ref d)] [(.int od), (.int ob)]))
    by_cases q8 : ob = od
    · refine own_by (fun _ zz => XS.icmpNo X7.here hx rfl (hb hby own_d5_31) rfl (XT.ii_ne_f q8) zz) ?_
      show own_Goes p e below _ (T7.setTop (mkF m 34 #[.val (.ref b), .val (.ref d), .val (.ref d)] []))
      refine own_by (fun _ zz => XS.iconst X7.here hx rfl (hb hby own_d5_34) zz) ?_
      show own_Goes p e below _ (T7.setTop (mkF m 35 #[.val (.ref b), .val (.ref d), .val (.ref d)] [(.int (1 : Int32))]))
      refine own_by (fun _ zz => XS.goto X7.here hx rfl (pc0 := 35) (pc' := 39) rfl (hb hby own_d5_35) (by decide) (by decide) zz) ?_
      show own_Goes p e below _ (T7.setTop (mkF m 39 #[.val (.ref b), .val (.ref d), .val (.ref d)] [(.int (1 : Int32))]))
      refine own_retN X7 hx hlk (ty := .boolean) hret (by simp) (hb hby own_d5_39) (by decide) (by decide) ?_
      exact ⟨by unfold own_r_eqF; rw [if_pos q5, if_pos q8] <;> rfl, rfl, e7⟩
    · refine own_by (fun _ zz => XS.icmpYes X7.here hx rfl (pc0 := 31) (pc' := 38) rfl (hb hby own_d5_31) rfl (XT.ii_ne_t q8) (by decide) (by decide) zz) ?_
      show own_Goes p e below _ (T7.setTop (mkF m 38 #[.val (.ref b), .val (.ref d), .val (.ref d)] []))
      refine own_by (fun _ zz => XS.iconst X7.here hx rfl (hb hby own_d5_38) zz) ?_
      show own_Goes p e below _ (T7.setTop (mkF m 39 #[.val (.ref b), .val (.ref d), .val (.ref d)] [(.int (0 : Int32))]))
      refine own_retN X7 hx hlk (ty := .boolean) hret (by simp) (hb hby own_d5_39) (by decide) (by decide) ?_
      exact ⟨by unfold own_r_eqF; rw [if_pos q5, if_neg q8] <;> rfl, rfl, e7⟩
  · refine own_by (fun _ zz => XT.acmpYes X4.here hx rfl (pc0 := 20) (pc' := 38) rfl (hb hby own_d5_20) rfl rfl rfl (XT.aa_ne_t (fun q => q5 (Value.ref.inj q))) (by decide) (by decide) zz) ?_
    show own_Goes p e below _ (T4.setTop (mkF m 38 #[.val (.ref b), .val (.ref d), .val (.ref d)] []))
    refine own_by (fun _ zz => XS.iconst X4.here hx rfl (hb hby own_d5_38) zz) ?_
    show own_Goes p e below _ (T4.setTop (mkF m 39 #[.val (.ref b), .val (.ref d), .val (.ref d)] [(.int (0 : Int32))]))
    refine own_retN X4 hx hlk (ty := .boolean) hret (by simp) (hb hby own_d5_39) (by decide) (by decide) ?_
    exact ⟨by unfold own_r_eqF; rw [if_neg q5] <;> rfl, rfl, e4⟩
def own_r_eqI (A : Nat → Addr) (b : Addr) (d : Addr) : Int32 := (0 : Int32)
set_option maxRecDepth 65536 in
set_option maxHeartbeats 40000000 in
theorem rm_eqI (l : Launch) {Z : State} {a0 : Array Value} (hw : ∀ d ∈ tables_1, d.before a0 Z = true) {A : Nat → Addr} {h0 : Heap} (W : own_W Z h0 A) (b : Addr) (d : Addr) (Ed : Exa Z h0 d "java/lang/Integer") :
    own_Does l Z (⟨"com/example/cartouche/cartouche/Fault", "equals", "(Ljava/lang/Object;)Z"⟩ : MethodName) prog_6_method_4_code 3 (some .boolean) [] ({ frames := 0, cells := 0, slots := 0, locals := 0 } : Room) #[(.ref b), (.ref d)] h0 (own_Is (.int (own_r_eqI A b d)) h0) := by
  refine own_body own_pn2 ?_
  intro p e s m below meth c T0 hx hby hml hret hlk hnm hown hZ X0 e0
  refine own_tr (XT.entry (Ls := #[.val (.ref b), .val (.ref d), .unset]) rfl) ?_
  show own_Goes p e below _ (T0.setTop (mkF m 0 #[.val (.ref b), .val (.ref d), .unset] []))
  refine own_by (fun _ zz => XS.aloadN X0.here hx rfl (hb hby own_d5_0) rfl rfl zz) ?_
  show own_Goes p e below _ (T0.setTop (mkF m 1 #[.val (.ref b), .val (.ref d), .unset] [(.ref d)]))
  obtain ⟨T1, X1, e1, st1⟩ := instNo X0 hx hZ hown (own_w42 hw) e0 Ed (own_notIns (own_w63 hw) (own_w64 hw) (own_w65 hw) (own_w11 hw) (by decide) (by decide) (by decide)) (g := mkF m 1 #[.val (.ref b), .val (.ref d), .unset] [(.ref d)]) rfl rfl (hb hby own_d5_1)
  refine own_by st1 ?_
  show own_Goes p e below _ (T1.setTop (mkF m 4 #[.val (.ref b), .val (.ref d), .unset] [(.int (0 : Int32))]))
  refine own_by (fun _ zz => XS.ifYes X1.here hx rfl (pc0 := 4) (pc' := 38) rfl (hb hby own_d5_4) rfl (by decide) (by decide) (by decide) zz) ?_
  show own_Goes p e below _ (T1.setTop (mkF m 38 #[.val (.ref b), .val (.ref d), .unset] []))
  refine own_by (fun _ zz => XS.iconst X1.here hx rfl (hb hby own_d5_38) zz) ?_
  show own_Goes p e below _ (T1.setTop (mkF m 39 #[.val (.ref b), .val (.ref d), .unset] [(.int (0 : Int32))]))
  refine own_retN X1 hx hlk (ty := .boolean) hret (by simp) (hb hby own_d5_39) (by decide) (by decide) ?_
  exact ⟨by unfold own_r_eqI; rfl, rfl, e1⟩
def own_None (h : Heap) : Option Value → Heap → List Loc → Prop := fun v h' L => v = none ∧ L = [] ∧ h' = h
theorem own_d8_0 : decode jdk_18_method_1_code 0 = .ok (.aload_n 0, 1) := by decide +kernel
theorem own_d8_1 : decode jdk_18_method_1_code 1 = .ok (.invokespecial 1, 3) := by decide +kernel
theorem own_d8_4 : decode jdk_18_method_1_code 4 = .ok (.return_, 1) := by decide +kernel
set_option maxRecDepth 65536 in
set_option maxHeartbeats 40000000 in
theorem rm_ninit (l : Launch) {Z : State} {a0 : Array Value} (hw : ∀ d ∈ tables_1, d.before a0 Z = true) {A : Nat → Addr} {h0 : Heap} (W : own_W Z h0 A) (a : Addr)  :
    own_Does l Z (⟨"java/lang/Number", "<init>", "()V"⟩ : MethodName) jdk_18_method_1_code 1 none [] ({ frames := 1, cells := 0, slots := 0, locals := 12 } : Room) #[(.ref a)] h0 (own_None h0) := by
  refine own_body own_pn3 ?_
  intro p e s m below meth c T0 hx hby hml hret hlk hnm hown hZ X0 e0
  refine own_tr (XT.entry (Ls := #[.val (.ref a)]) rfl) ?_
  show own_Goes p e below _ (T0.setTop (mkF m 0 #[.val (.ref a)] []))
  refine own_by (fun _ zz => XS.aloadN X0.here hx rfl (hb hby own_d8_0) rfl rfl zz) ?_
  show own_Goes p e below _ (T0.setTop (mkF m 1 #[.val (.ref a)] [(.ref a)]))
  refine own_initO X0 hx hZ (W := 0) hown (own_w78 hw) (own_w17 hw) (own_w18 hw) e0 (by rw [hml]; rfl) (hb hby own_d8_1) (by decide) (Nat.le_of_ble_eq_true rfl) (by decide) fun T1 X1 e1 => ?_
  show own_Goes p e below _ (T1.setTop (mkF m 4 #[.val (.ref a)] []))
  refine own_retV X1 hx hlk hret (hb hby own_d8_4) (by decide) (by decide) ?_
  exact ⟨rfl, rfl, e1⟩
def own_IMade (Z : State) (h0 : Heap) (a : Addr) : Option Value → Heap → List Loc → Prop := fun v h L => v = none ∧ Fr a L ∧ Keep h0 h [a] ∧ Exa Z h a "java/lang/Integer"
theorem own_d7_0 : decode jdk_33_method_23_code 0 = .ok (.aload_n 0, 1) := by decide +kernel
theorem own_d7_1 : decode jdk_33_method_23_code 1 = .ok (.invokespecial 202, 3) := by decide +kernel
theorem own_d7_4 : decode jdk_33_method_23_code 4 = .ok (.aload_n 0, 1) := by decide +kernel
theorem own_d7_5 : decode jdk_33_method_23_code 5 = .ok (.iload_n 1, 1) := by decide +kernel
theorem own_d7_6 : decode jdk_33_method_23_code 6 = .ok (.putfield 205, 3) := by decide +kernel
theorem own_d7_9 : decode jdk_33_method_23_code 9 = .ok (.return_, 1) := by decide +kernel
set_option maxRecDepth 65536 in
set_option maxHeartbeats 40000000 in
theorem rm_iinit (l : Launch) {Z : State} {a0 : Array Value} (hw : ∀ d ∈ tables_1, d.before a0 Z = true) {A : Nat → Addr} {h0 : Heap} (W : own_W Z h0 A) (a : Addr) (n : Int32) (E : Exa Z h0 a "java/lang/Integer") (F : Fld Z h0 a "java/lang/Integer" "value" "I" (.int 0)) :
    own_Does l Z (⟨"java/lang/Integer", "<init>", "(I)V"⟩ : MethodName) jdk_33_method_23_code 2 none [] ({ frames := 2, cells := 0, slots := 0, locals := 24 } : Room) #[(.ref a), (.int n)] h0 (own_IMade Z h0 a) := by
  refine own_body own_pn4 ?_
  intro p e s m below meth c T0 hx hby hml hret hlk hnm hown hZ X0 e0
  refine own_tr (XT.entry (Ls := #[.val (.ref a), .val (.int n)]) rfl) ?_
  show own_Goes p e below _ (T0.setTop (mkF m 0 #[.val (.ref a), .val (.int n)] []))
  refine own_by (fun _ zz => XS.aloadN X0.here hx rfl (hb hby own_d7_0) rfl rfl zz) ?_
  show own_Goes p e below _ (T0.setTop (mkF m 1 #[.val (.ref a), .val (.int n)] [(.ref a)]))
  refine own_callI X0 hx hZ (W := 0) (argsL := []) (rest := []) rfl hown (own_w72 hw) (own_w73 hw) (own_w77 hw) (own_w76 hw) (by decide) e0 (rm_ninit l hw W a) (by decide) (by decide) (by decide) (by decide) (by rw [hml]; rfl) (lenOf own_pd0 rfl) rfl (Nat.le_of_ble_eq_true rfl) (hb hby own_d7_1) fun v1 T1 L1 X1 hQ1 => ?_
  obtain ⟨rfl, rfl, e1⟩ := hQ1
  rw [List.append_nil] at X1
  show own_Goes p e below _ (T1.setTop (mkF m 4 #[.val (.ref a), .val (.int n)] []))
  refine own_by (fun _ zz => XS.aloadN X1.here hx rfl (hb hby own_d7_4) rfl rfl zz) ?_
  show own_Goes p e below _ (T1.setTop (mkF m 5 #[.val (.ref a), .val (.int n)] [(.ref a)]))
  refine own_by (fun _ zz => XS.iloadN X1.here hx rfl (hb hby own_d7_5) rfl zz) ?_
  show own_Goes p e below _ (T1.setTop (mkF m 6 #[.val (.ref a), .val (.int n)] [(.int n), (.ref a)]))
  refine own_putF X1 hx hZ hown (own_w79 hw) e1 F E (Or.inr ⟨(own_w80 hw), rfl, hnm⟩) (own_w67 hw) (ty := .int) (by decide) rfl rfl (hb hby own_d7_6) fun T2 h2 X2 e2 Wr2 => ?_
  show own_Goes p e below _ (T2.setTop (mkF m 9 #[.val (.ref a), .val (.int n)] []))
  refine own_retV X2 hx hlk hret (hb hby own_d7_9) (by decide) (by decide) ?_
  exact ⟨rfl, Fr.snoc X2 (Fr.nil a) (Nat.le_refl _), by rw [e2]; exact Keep.of_wr Wr2, by rw [e2]; exact E.wr Wr2⟩
def own_Box (Z : State) (h0 : Heap) : Option Value → Heap → List Loc → Prop := fun v h L => ∃ x, v = some (.ref x) ∧ Fr h0.size L ∧ Ext h0 h ∧ Exa Z h x "java/lang/Integer"
theorem own_m128 {n : Int32} (hn : 0 ≤ n.toInt) : ¬ n < (-128 : Int32) := by
  rw [Int32.lt_iff_toInt_lt]
  have z : (-128 : Int32).toInt = -128 := by decide
  omega
theorem own_d6_0 : decode jdk_33_method_22_code 0 = .ok (.iload_n 0, 1) := by decide +kernel
theorem own_d6_1 : decode jdk_33_method_22_code 1 = .ok (.bipush (-128), 2) := by decide +kernel
theorem own_d6_3 : decode jdk_33_method_22_code 3 = .ok (.if_icmp .lt 20, 3) := by decide +kernel
theorem own_d6_6 : decode jdk_33_method_22_code 6 = .ok (.iload_n 0, 1) := by decide +kernel
theorem own_d6_7 : decode jdk_33_method_22_code 7 = .ok (.getstatic 191, 3) := by decide +kernel
theorem own_d6_10 : decode jdk_33_method_22_code 10 = .ok (.if_icmp .gt 13, 3) := by decide +kernel
theorem own_d6_13 : decode jdk_33_method_22_code 13 = .ok (.getstatic 195, 3) := by decide +kernel
theorem own_d6_16 : decode jdk_33_method_22_code 16 = .ok (.iload_n 0, 1) := by decide +kernel
theorem own_d6_17 : decode jdk_33_method_22_code 17 = .ok (.sipush 128, 3) := by decide +kernel
theorem own_d6_20 : decode jdk_33_method_22_code 20 = .ok (.iadd, 1) := by decide +kernel
theorem own_d6_21 : decode jdk_33_method_22_code 21 = .ok (.aaload, 1) := by decide +kernel
theorem own_d6_22 : decode jdk_33_method_22_code 22 = .ok (.areturn, 1) := by decide +kernel
theorem own_d6_23 : decode jdk_33_method_22_code 23 = .ok (.new 1, 3) := by decide +kernel
theorem own_d6_26 : decode jdk_33_method_22_code 26 = .ok (.dup, 1) := by decide +kernel
theorem own_d6_27 : decode jdk_33_method_22_code 27 = .ok (.iload_n 0, 1) := by decide +kernel
theorem own_d6_28 : decode jdk_33_method_22_code 28 = .ok (.invokespecial 199, 3) := by decide +kernel
theorem own_d6_31 : decode jdk_33_method_22_code 31 = .ok (.areturn, 1) := by decide +kernel
set_option maxRecDepth 65536 in
set_option maxHeartbeats 40000000 in
theorem rm_valueOf (l : Launch) {Z : State} {a0 : Array Value} (hw : ∀ d ∈ tables_1, d.before a0 Z = true) {A : Nat → Addr} {h0 : Heap} (W : own_W Z h0 A) (n : Int32) (hn : 0 ≤ n.toInt) :
    own_Does l Z (⟨"java/lang/Integer", "valueOf", "(I)Ljava/lang/Integer;"⟩ : MethodName) jdk_33_method_22_code 1 (some (.object "java/lang/Integer")) [] ({ frames := 3, cells := 1, slots := 1, locals := 38 } : Room) #[(.int n)] h0 (own_Box Z h0) := by
  refine own_body own_pn4 ?_
  intro p e s m below meth c T0 hx hby hml hret hlk hnm hown hZ X0 e0
  refine own_tr (XT.entry (Ls := #[.val (.int n)]) rfl) ?_
  show own_Goes p e below _ (T0.setTop (mkF m 0 #[.val (.int n)] []))
  refine own_by (fun _ zz => XS.iloadN X0.here hx rfl (hb hby own_d6_0) rfl zz) ?_
  show own_Goes p e below _ (T0.setTop (mkF m 1 #[.val (.int n)] [(.int n)]))
  refine own_by (fun _ zz => XS.bipush X0.here hx rfl (hb hby own_d6_1) zz) ?_
  show own_Goes p e below _ (T0.setTop (mkF m 3 #[.val (.int n)] [(.int (-128 : Int32)), (.int n)]))
  refine own_by (fun _ zz => XS.icmpNo X0.here hx rfl (hb hby own_d6_3) rfl (XT.ii_lt_f (own_m128 hn)) zz) ?_
  show own_Goes p e below _ (T0.setTop (mkF m 6 #[.val (.int n)] []))
  refine own_by (fun _ zz => XS.iloadN X0.here hx rfl (hb hby own_d6_6) rfl zz) ?_
  show own_Goes p e below _ (T0.setTop (mkF m 7 #[.val (.int n)] [(.int n)]))
  refine own_getS X0 hx hZ hown (own_w60 hw) e0 (own_f16 W) (hb hby own_d6_7) fun T1 X1 e1 => ?_
  show own_Goes p e below _ (T1.setTop (mkF m 10 #[.val (.int n)] [(.int (127 : Int32)), (.int n)]))
  by_cases q2 : (127 : Int32) < n
  · refine own_by (fun _ zz => XS.icmpYes X1.here hx rfl (pc0 := 10) (pc' := 23) rfl (hb hby own_d6_10) rfl (XT.ii_gt_t q2) (by decide) (by decide) zz) ?_
    show own_Goes p e below _ (T1.setTop (mkF m 23 #[.val (.int n)] []))
    refine own_newO X1 hx hZ hown (own_w66 hw) (own_w67 hw) (own_w58 hw) e1 (hb hby own_d6_23) (by decide) (by decide) fun T3 h3 X3 e3 E3 A3 D3 => ?_
    have EE3 := own_Ext.trans (own_Ext.refl h0) E3
    have W3 := own_Wext W EE3
    show own_Goes p e below _ (T3.setTop (mkF m 26 #[.val (.int n)] [(.ref h0.size)]))
    refine own_by (fun _ zz => XS.dup X3.here hx rfl (hb hby own_d6_26) rfl rfl zz) ?_
    show own_Goes p e below _ (T3.setTop (mkF m 27 #[.val (.int n)] [(.ref h0.size), (.ref h0.size)]))
    refine own_by (fun _ zz => XS.iloadN X3.here hx rfl (hb hby own_d6_27) rfl zz) ?_
    show own_Goes p e below _ (T3.setTop (mkF m 28 #[.val (.int n)] [(.int n), (.ref h0.size), (.ref h0.size)]))
    refine own_callI X3 hx hZ (W := 1) (argsL := [(.int n)]) (rest := [(.ref h0.size)]) rfl hown (own_w68 hw) (own_w69 hw) (own_w71 hw) (own_w58 hw) (by decide) e3 (rm_iinit l hw W3 h0.size n A3 (D3 _ _ _ .int (Or.inr (own_w80 hw)) (by decide))) (by decide) (by decide) (by decide) (by decide) (by rw [hml]; rfl) (lenOf own_pd1 rfl) rfl (Nat.le_of_ble_eq_true rfl) (hb hby own_d6_28) fun v4 T4 L4 X4 hQ4 => ?_
    obtain ⟨rfl, Nn4, K4, A4⟩ := hQ4
    have EE4 := own_Ext.keep EE3 K4 (allS (Nat.le_refl _) all0)
    have e4 : T4.heap = T4.heap := rfl
    have N4 := Fr.app (Fr.nil h0.size) Nn4
    show own_Goes p e below _ (T4.setTop (mkF m 31 #[.val (.int n)] [(.ref h0.size)]))
    refine own_retR X4 hx hlk hret rfl rfl rfl (hb hby own_d6_31) (by decide) (by decide) ?_
    exact ⟨_, rfl, N4, EE4, A4⟩
  · refine own_by (fun _ zz => XS.icmpNo X1.here hx rfl (hb hby own_d6_10) rfl (XT.ii_gt_f q2) zz) ?_
    show own_Goes p e below _ (T1.setTop (mkF m 13 #[.val (.int n)] []))
    refine own_getS X1 hx hZ hown (own_w62 hw) e1 (own_f17 W) (hb hby own_d6_13) fun T5 X5 e5 => ?_
    show own_Goes p e below _ (T5.setTop (mkF m 16 #[.val (.int n)] [(.ref (A 8))]))
    obtain ⟨g, Fc, Ec⟩ := own_f18 W
    obtain ⟨i, hi, hj⟩ : ∃ i : Nat, i < 256 ∧ (n + (128 : Int32)).toInt = i := by
      have z1 : (128 : Int32).toInt = 128 := by decide
      have z2 : (127 : Int32).toInt = 127 := by decide
      have z3 : (n + (128 : Int32)).toInt = n.toInt + 128 := by rw [Jvm.Kit.i32_add (by rw [Int32.lt_iff_toInt_lt] at q2; omega) (by rw [Int32.lt_iff_toInt_lt] at q2; omega), z1]
      rw [Int32.lt_iff_toInt_lt] at q2
      exact ⟨(n.toInt + 128).toNat, by omega, by omega⟩
    show own_Goes p e below _ (T5.setTop (mkF m 16 #[.val (.int n)] [(.ref (A 8))]))
    refine own_by (fun _ zz => XS.iloadN X5.here hx rfl (hb hby own_d6_16) rfl zz) ?_
    show own_Goes p e below _ (T5.setTop (mkF m 17 #[.val (.int n)] [(.int n), (.ref (A 8))]))
    refine own_by (fun _ zz => XS.sipush X5.here hx rfl (hb hby own_d6_17) zz) ?_
    show own_Goes p e below _ (T5.setTop (mkF m 20 #[.val (.int n)] [(.int (128 : Int32)), (.int n), (.ref (A 8))]))
    refine own_by (fun _ zz => XS.iadd X5.here hx rfl (hb hby own_d6_20) rfl zz) ?_
    show own_Goes p e below _ (T5.setTop (mkF m 21 #[.val (.int n)] [(.int (n + (128 : Int32))), (.ref (A 8))]))
    refine own_aaload X5 hx hZ e5 Fc rfl i hj hi (v := (.ref (g i))) rfl (hb hby own_d6_21) ?_
    show own_Goes p e below _ (T5.setTop (mkF m 22 #[.val (.int n)] [(.ref (g i))]))
    refine own_retR X5 hx hlk hret rfl rfl rfl (hb hby own_d6_22) (by decide) (by decide) ?_
    exact ⟨_, rfl, (Fr.nil h0.size), by rw [e5]; exact (own_Ext.refl h0), by rw [e5]; exact Ec i hi⟩
def own_FMade (Z : State) (h0 : Heap) (a r : Addr) (n : Int32) : Option Value → Heap → List Loc → Prop := fun v h L => v = none ∧ Fr a L ∧ Keep h0 h [a] ∧ Exa Z h a "com/example/cartouche/cartouche/Fault" ∧ Fld Z h a "com/example/cartouche/cartouche/Fault" "rule" "Lcom/example/cartouche/cartouche/Rule;" (.ref r) ∧ Fld Z h a "com/example/cartouche/cartouche/Fault" "offset" "I" (.int n)
theorem own_strs {a0 : Array Value} {Z : State} (hw : ∀ d ∈ tables_1, d.before a0 Z = true) : ∀ a ∈ Bundle.stringAtoms, a.before a0 Z = true := fun d hd => by
  simp only [Bundle.stringAtoms, List.mem_cons, List.not_mem_nil, or_false] at hd
  rcases hd with rfl | rfl | rfl | rfl | rfl | rfl | rfl
  · first | exact (own_w20 hw) | exact (own_w21 hw) | exact (own_w22 hw) | exact (own_w23 hw) | exact (own_w24 hw) | exact (own_w25 hw) | exact (own_w26 hw)
  · first | exact (own_w20 hw) | exact (own_w21 hw) | exact (own_w22 hw) | exact (own_w23 hw) | exact (own_w24 hw) | exact (own_w25 hw) | exact (own_w26 hw)
  · first | exact (own_w20 hw) | exact (own_w21 hw) | exact (own_w22 hw) | exact (own_w23 hw) | exact (own_w24 hw) | exact (own_w25 hw) | exact (own_w26 hw)
  · first | exact (own_w20 hw) | exact (own_w21 hw) | exact (own_w22 hw) | exact (own_w23 hw) | exact (own_w24 hw) | exact (own_w25 hw) | exact (own_w26 hw)
  · first | exact (own_w20 hw) | exact (own_w21 hw) | exact (own_w22 hw) | exact (own_w23 hw) | exact (own_w24 hw) | exact (own_w25 hw) | exact (own_w26 hw)
  · first | exact (own_w20 hw) | exact (own_w21 hw) | exact (own_w22 hw) | exact (own_w23 hw) | exact (own_w24 hw) | exact (own_w25 hw) | exact (own_w26 hw)
  · first | exact (own_w20 hw) | exact (own_w21 hw) | exact (own_w22 hw) | exact (own_w23 hw) | exact (own_w24 hw) | exact (own_w25 hw) | exact (own_w26 hw)
theorem own_d2_0 : decode prog_6_method_1_code 0 = .ok (.aload_n 0, 1) := by decide +kernel
theorem own_d2_1 : decode prog_6_method_1_code 1 = .ok (.invokespecial 1, 3) := by decide +kernel
theorem own_d2_4 : decode prog_6_method_1_code 4 = .ok (.iload_n 2, 1) := by decide +kernel
theorem own_d2_5 : decode prog_6_method_1_code 5 = .ok (.ifCond .ge 17, 3) := by decide +kernel
theorem own_d2_8 : decode prog_6_method_1_code 8 = .ok (.new 7, 3) := by decide +kernel
theorem own_d2_11 : decode prog_6_method_1_code 11 = .ok (.dup, 1) := by decide +kernel
theorem own_d2_12 : decode prog_6_method_1_code 12 = .ok (.iload_n 2, 1) := by decide +kernel
theorem own_d2_13 : decode prog_6_method_1_code 13 = .ok (.invokedynamic 9, 5) := by decide +kernel
theorem own_d2_18 : decode prog_6_method_1_code 18 = .ok (.invokespecial 13, 3) := by decide +kernel
theorem own_d2_21 : decode prog_6_method_1_code 21 = .ok (.athrow, 1) := by decide +kernel
theorem own_d2_22 : decode prog_6_method_1_code 22 = .ok (.aload_n 0, 1) := by decide +kernel
theorem own_d2_23 : decode prog_6_method_1_code 23 = .ok (.aload_n 1, 1) := by decide +kernel
theorem own_d2_24 : decode prog_6_method_1_code 24 = .ok (.ldc 16, 2) := by decide +kernel
theorem own_d2_26 : decode prog_6_method_1_code 26 = .ok (.invokestatic 18, 3) := by decide +kernel
theorem own_d2_29 : decode prog_6_method_1_code 29 = .ok (.checkcast 24, 3) := by decide +kernel
theorem own_d2_32 : decode prog_6_method_1_code 32 = .ok (.putfield 26, 3) := by decide +kernel
theorem own_d2_35 : decode prog_6_method_1_code 35 = .ok (.aload_n 0, 1) := by decide +kernel
theorem own_d2_36 : decode prog_6_method_1_code 36 = .ok (.iload_n 2, 1) := by decide +kernel
theorem own_d2_37 : decode prog_6_method_1_code 37 = .ok (.putfield 31, 3) := by decide +kernel
theorem own_d2_40 : decode prog_6_method_1_code 40 = .ok (.return_, 1) := by decide +kernel
set_option maxRecDepth 65536 in
set_option maxHeartbeats 40000000 in
theorem rm_finit (l : Launch) {Z : State} {a0 : Array Value} (hw : ∀ d ∈ tables_1, d.before a0 Z = true) {A : Nat → Addr} {h0 : Heap} (W : own_W Z h0 A) (a r : Addr) (n : Int32) (hn : 0 ≤ n.toInt) (Ea : Exa Z h0 a "com/example/cartouche/cartouche/Fault") (Er : Exa Z h0 r "com/example/cartouche/cartouche/Rule") (F1 : Fld Z h0 a "com/example/cartouche/cartouche/Fault" "rule" "Lcom/example/cartouche/cartouche/Rule;" .null) (F2 : Fld Z h0 a "com/example/cartouche/cartouche/Fault" "offset" "I" (.int 0)) :
    own_DoesW l Z (⟨"com/example/cartouche/cartouche/Fault", "<init>", "(Lcom/example/cartouche/cartouche/Rule;I)V"⟩ : MethodName) prog_6_method_1_code 3 none [] ({ frames := 1, cells := 2, slots := 20, locals := 14 } : Room) #[(.ref a), (.ref r), (.int n)] h0 (own_FMade Z h0 a r n) := by
  refine own_bodyW own_pn2 ?_
  intro p e s m below meth c T0 hx hby hml hret hlk hnm hown hZ hS X0 e0
  refine own_tr (XT.entry (Ls := #[.val (.ref a), .val (.ref r), .val (.int n)]) rfl) ?_
  show own_Goes p e below _ (T0.setTop (mkF m 0 #[.val (.ref a), .val (.ref r), .val (.int n)] []))
  refine own_by (fun _ zz => XS.aloadN X0.here hx rfl (hb hby own_d2_0) rfl rfl zz) ?_
  show own_Goes p e below _ (T0.setTop (mkF m 1 #[.val (.ref a), .val (.ref r), .val (.int n)] [(.ref a)]))
  refine own_initO X0 hx hZ (W := 0) hown (own_w16 hw) (own_w17 hw) (own_w18 hw) e0 (by rw [hml]; rfl) (hb hby own_d2_1) (by decide) (Nat.le_of_ble_eq_true rfl) (by decide) fun T1 X1 e1 => ?_
  show own_Goes p e below _ (T1.setTop (mkF m 4 #[.val (.ref a), .val (.ref r), .val (.int n)] []))
  refine own_by (fun _ zz => XS.iloadN X1.here hx rfl (hb hby own_d2_4) rfl zz) ?_
  show own_Goes p e below _ (T1.setTop (mkF m 5 #[.val (.ref a), .val (.ref r), .val (.int n)] [(.int n)]))
  refine own_by (fun _ zz => XS.ifYes X1.here hx rfl (pc0 := 5) (pc' := 22) rfl (hb hby own_d2_5) rfl (XT.i0_ge_t (by rw [Int32.lt_iff_toInt_lt]; have z : (0 : Int32).toInt = 0 := rfl; omega)) (by decide) (by decide) zz) ?_
  show own_Goes p e below _ (T1.setTop (mkF m 22 #[.val (.ref a), .val (.ref r), .val (.int n)] []))
  refine own_by (fun _ zz => XS.aloadN X1.here hx rfl (hb hby own_d2_22) rfl rfl zz) ?_
  show own_Goes p e below _ (T1.setTop (mkF m 23 #[.val (.ref a), .val (.ref r), .val (.int n)] [(.ref a)]))
  refine own_by (fun _ zz => XS.aloadN X1.here hx rfl (hb hby own_d2_23) rfl rfl zz) ?_
  show own_Goes p e below _ (T1.setTop (mkF m 24 #[.val (.ref a), .val (.ref r), .val (.int n)] [(.ref r), (.ref a)]))
  refine own_ldcS X1 hx hZ hown (hw _ (List.mem_of_getElem? (i := 19) rfl)) (own_strs hw) e1 hS (Nat.zero_le _) (hb hby own_d2_24) (n := 16) (by decide +kernel) (by decide) (by decide) (by decide) fun a2 T2 h2 k2 X2 e2 E2 hS2 hk2 hZ2 hown2 => ?_
  have W2 := own_Wext W E2
  have Ea2 := Ea.ext E2
  have Er2 := Er.ext E2
  have F12 := F1.ext E2
  have F22 := F2.ext E2
  have K2 := (Keep.refl h0 [a]).ext E2
  show own_Goes p e below _ (T2.setTop (mkF m 26 #[.val (.ref a), .val (.ref r), .val (.int n)] [(.ref a2), (.ref r), (.ref a)]))
  refine own_callS0 X2 hx hZ2 (W := 1) (argsL := [(.ref r), (.ref a2)]) (rest := [(.ref a)]) hown2 (own_w27 hw) (own_w28 hw) (own_w29 hw) (own_w30 hw) (by decide) e2 (rm_rnn l hw W2 r a2) (by decide) (by decide) (by decide) (by decide) (by rw [hml]; rfl) (lenOf own_pd2 rfl) rfl (Nat.le_of_ble_eq_true rfl) (hb hby own_d2_26) fun T3 X3 e3 => ?_
  show own_Goes p e below _ (T3.setTop (mkF m 29 #[.val (.ref a), .val (.ref r), .val (.int n)] [(.ref r), (.ref a)]))
  refine own_cast X3 hx hZ2 hown2 (own_w31 hw) e3 (Ins.self Er2) (hb hby own_d2_29) fun T4 X4 e4 => ?_
  show own_Goes p e below _ (T4.setTop (mkF m 32 #[.val (.ref a), .val (.ref r), .val (.int n)] [(.ref r), (.ref a)]))
  refine own_putF X4 hx hZ2 hown2 (own_w33 hw) e4 F12 Ea2 (Or.inr ⟨(own_w34 hw), rfl, hnm⟩) (own_w11 hw) (ty := (.object "com/example/cartouche/cartouche/Rule")) (by decide) rfl rfl (hb hby own_d2_32) fun T5 h5 X5 e5 Wr5 => ?_
  have Ea5 := Ea2.wr Wr5
  have K5 := K2.wr Wr5 (Or.inl (List.mem_singleton.mpr rfl))
  have N5 := Fr.snoc X5 (Fr.nil a) (Nat.le_refl _)
  have hk5 := (Wr5.size).symm ▸ hk2
  have F15 := F12.same Wr5
  have F25 := F22.other Wr5 (Or.inr (slot_ne (Or.inr (own_w36 hw)) (Or.inr (own_w34 hw)) (by decide) (t := .int) (t' := (.object "com/example/cartouche/cartouche/Rule")) (by decide) (by decide)))
  show own_Goes p e below _ (T5.setTop (mkF m 35 #[.val (.ref a), .val (.ref r), .val (.int n)] []))
  refine own_by (fun _ zz => XS.aloadN X5.here hx rfl (hb hby own_d2_35) rfl rfl zz) ?_
  show own_Goes p e below _ (T5.setTop (mkF m 36 #[.val (.ref a), .val (.ref r), .val (.int n)] [(.ref a)]))
  refine own_by (fun _ zz => XS.iloadN X5.here hx rfl (hb hby own_d2_36) rfl zz) ?_
  show own_Goes p e below _ (T5.setTop (mkF m 37 #[.val (.ref a), .val (.ref r), .val (.int n)] [(.int n), (.ref a)]))
  refine own_putF X5 hx hZ2 hown2 (own_w35 hw) e5 F25 Ea5 (Or.inr ⟨(own_w36 hw), rfl, hnm⟩) (own_w11 hw) (ty := .int) (by decide) rfl rfl (hb hby own_d2_37) fun T6 h6 X6 e6 Wr6 => ?_
  have Ea6 := Ea5.wr Wr6
  have K6 := K5.wr Wr6 (Or.inl (List.mem_singleton.mpr rfl))
  have N6 := Fr.snoc X6 N5 (Nat.le_refl _)
  have hk6 := (Wr6.size).symm ▸ hk5
  have F26 := F25.same Wr6
  have F16 := F15.other Wr6 (Or.inr (slot_ne (Or.inr (own_w34 hw)) (Or.inr (own_w36 hw)) (by decide) (t := (.object "com/example/cartouche/cartouche/Rule")) (t' := .int) (by decide) (by decide)))
  show own_Goes p e below _ (T6.setTop (mkF m 40 #[.val (.ref a), .val (.ref r), .val (.int n)] []))
  refine own_retVW X6 hS2 (by rw [e6]; exact hk6) hx hlk hret (hb hby own_d2_40) (by decide) (by decide) ?_
  exact ⟨rfl, N6, by rw [e6]; exact K6, by rw [e6]; exact Ea6, by rw [e6]; exact F16, by rw [e6]; exact F26⟩
theorem own_pk {Z : State} {h : Heap} {A : Nat → Addr} (W : own_W Z h A) (k : Int32) : Exa Z h (own_r_pick A k) "com/example/cartouche/cartouche/Rule" := by
  unfold own_r_pick
  split
  · exact (own_f1 W)
  split
  · exact (own_f9 W)
  split
  · exact (own_f11 W)
  split
  · exact (own_f3 W)
  split
  · exact (own_f5 W)
  split
  · exact (own_f15 W)
  split
  · exact (own_f13 W)
  exact (own_f7 W)
theorem own_nn (x : Int32) : 0 ≤ (x &&& (2147483647 : Int32)).toInt := by have h := own_mask x; omega
def own_Q (h0 : Heap) (v : Option Value) (h : Heap) (L : List Loc) : Prop := v = some (.int 1) ∧ Fr h0.size L
set_option maxRecDepth 65536 in
set_option maxHeartbeats 40000000 in
theorem rm_law (l : Launch) {Z : State} {a0 : Array Value} (hw : ∀ d ∈ tables_1, d.before a0 Z = true) (ws : List Jvm.Cond) {A : Nat → Addr} {h0 : Heap} (W : own_W Z h0 A) (p0 : Int32) (p1 : Int32) (p2 : Int32) (p3 : Int32) (p4 : Int32) :
    own_DoesW l Z x code maxLocals ret ws room_1 #[(.int p0), (.int p1), (.int p2), (.int p3), (.int p4)] h0 (own_Q h0) := by
  refine own_bodyW own_pn0 ?_
  intro p e s m below meth c T0 hx hby hml hret hlk hnm hown hZ hS X0 e0
  have ER := own_pk W p0
  have H1 := own_nn p2
  refine own_tr (XT.entry (Ls := #[.val (.int p0), .val (.int p1), .val (.int p2), .val (.int p3), .val (.int p4), .unset, .unset, .unset, .unset, .unset, .unset, .unset, .unset]) rfl) ?_
  show own_Goes p e below _ (T0.setTop (mkF m 0 #[.val (.int p0), .val (.int p1), .val (.int p2), .val (.int p3), .val (.int p4), .unset, .unset, .unset, .unset, .unset, .unset, .unset, .unset] []))
  refine own_by (fun _ zz => XS.iloadN X0.here hx rfl (hb hby at_0) rfl zz) ?_
  show own_Goes p e below _ (T0.setTop (mkF m 1 #[.val (.int p0), .val (.int p1), .val (.int p2), .val (.int p3), .val (.int p4), .unset, .unset, .unset, .unset, .unset, .unset, .unset, .unset] [(.int p0)]))
  refine own_callS0 X0 hx hZ (W := 0) (argsL := [(.int p0)]) (rest := []) hown (own_w0 hw) (own_w1 hw) (own_w2 hw) (own_w3 hw) (by decide) e0 (rm_pick l hw W p0) (by decide) (by decide) (by decide) (by decide) (by rw [hml]; rfl) (lenOf own_pd3 rfl) rfl (Nat.le_of_ble_eq_true rfl) (hb hby at_1) fun T1 X1 e1 => ?_
  show own_Goes p e below _ (T1.setTop (mkF m 4 #[.val (.int p0), .val (.int p1), .val (.int p2), .val (.int p3), .val (.int p4), .unset, .unset, .unset, .unset, .unset, .unset, .unset, .unset] [(.ref (own_r_pick A p0))]))
  refine own_by (fun _ zz => XS.astore X1.here hx rfl (hb hby at_4) rfl rfl (l' := #[.val (.int p0), .val (.int p1), .val (.int p2), .val (.int p3), .val (.int p4), .val (.ref (own_r_pick A p0)), .unset, .unset, .unset, .unset, .unset, .unset, .unset]) rfl zz) ?_
  show own_Goes p e below _ (T1.setTop (mkF m 6 #[.val (.int p0), .val (.int p1), .val (.int p2), .val (.int p3), .val (.int p4), .val (.ref (own_r_pick A p0)), .unset, .unset, .unset, .unset, .unset, .unset, .unset] []))
  have key49 : ∀ (bb : Addr) (oo : Int32) (T9 : State), Exa Z h0 bb "com/example/cartouche/cartouche/Rule" → 0 ≤ oo.toInt → Stand p l e room_1 (s.setVm s.vm) m #[(.int p0), (.int p1), (.int p2), (.int p3), (.int p4)] below meth c T9 [] 0 0 → T9.heap = h0 → own_Goes p e below (own_PW s (own_Q h0) room_1.cells room_1.slots) (T9.setTop (mkF m 49 #[.val (.int p0), .val (.int p1), .val (.int p2), .val (.int p3), .val (.int p4), .val (.ref (own_r_pick A p0)), .val (.ref bb), .val (.int (p2 &&& (2147483647 : Int32))), .val (.int oo), .unset, .unset, .unset, .unset] [])) := by
    intro bb oo T9 EB H2 X9 e9
    show own_Goes p e below _ (T9.setTop (mkF m 49 #[.val (.int p0), .val (.int p1), .val (.int p2), .val (.int p3), .val (.int p4), .val (.ref (own_r_pick A p0)), .val (.ref bb), .val (.int (p2 &&& (2147483647 : Int32))), .val (.int oo), .unset, .unset, .unset, .unset] []))
    refine own_newO X9 hx hZ hown (own_w10 hw) (own_w11 hw) (own_w12 hw) e9 (hb hby at_49) (by decide) (by decide) fun T2 h2 X2 e2 E2 A2 D2 => ?_
    have EE2 := own_Ext.trans (own_Ext.refl h0) E2
    have W2 := own_Wext W EE2
    show own_Goes p e below _ (T2.setTop (mkF m 52 #[.val (.int p0), .val (.int p1), .val (.int p2), .val (.int p3), .val (.int p4), .val (.ref (own_r_pick A p0)), .val (.ref bb), .val (.int (p2 &&& (2147483647 : Int32))), .val (.int oo), .unset, .unset, .unset, .unset] [(.ref h0.size)]))
    refine own_by (fun _ zz => XS.dup X2.here hx rfl (hb hby at_52) rfl rfl zz) ?_
    show own_Goes p e below _ (T2.setTop (mkF m 53 #[.val (.int p0), .val (.int p1), .val (.int p2), .val (.int p3), .val (.int p4), .val (.ref (own_r_pick A p0)), .val (.ref bb), .val (.int (p2 &&& (2147483647 : Int32))), .val (.int oo), .unset, .unset, .unset, .unset] [(.ref h0.size), (.ref h0.size)]))
    refine own_by (fun _ zz => XS.aload X2.here hx rfl (hb hby at_53) rfl rfl zz) ?_
    show own_Goes p e below _ (T2.setTop (mkF m 55 #[.val (.int p0), .val (.int p1), .val (.int p2), .val (.int p3), .val (.int p4), .val (.ref (own_r_pick A p0)), .val (.ref bb), .val (.int (p2 &&& (2147483647 : Int32))), .val (.int oo), .unset, .unset, .unset, .unset] [(.ref (own_r_pick A p0)), (.ref h0.size), (.ref h0.size)]))
    refine own_by (fun _ zz => XS.iload X2.here hx rfl (hb hby at_55) rfl zz) ?_
    show own_Goes p e below _ (T2.setTop (mkF m 57 #[.val (.int p0), .val (.int p1), .val (.int p2), .val (.int p3), .val (.int p4), .val (.ref (own_r_pick A p0)), .val (.ref bb), .val (.int (p2 &&& (2147483647 : Int32))), .val (.int oo), .unset, .unset, .unset, .unset] [(.int (p2 &&& (2147483647 : Int32))), (.ref (own_r_pick A p0)), (.ref h0.size), (.ref h0.size)]))
    refine own_callIS X2 hx hZ hS (by rw [e2]; exact (Nat.zero_le _)) (W := 1) (argsL := [(.ref (own_r_pick A p0)), (.int (p2 &&& (2147483647 : Int32)))]) (rest := [(.ref h0.size)]) rfl hown (own_w13 hw) (own_w14 hw) (own_w15 hw) (own_w12 hw) (by decide) e2 (rm_finit l hw W2 h0.size (own_r_pick A p0) (p2 &&& (2147483647 : Int32)) H1 A2 (ER.ext EE2) (D2 _ _ _ (.object "com/example/cartouche/cartouche/Rule") (Or.inr (own_w34 hw)) (by decide)) (D2 _ _ _ .int (Or.inr (own_w36 hw)) (by decide))) (by decide) (by decide) (by decide) (by decide) (by rw [hml]; rfl) (lenOf own_pd4 rfl) rfl (Nat.le_of_ble_eq_true rfl) (hb hby at_57) fun v3 T3 L3 X3 hS3 hZ3 hown3 hQ3 => ?_
    obtain ⟨rfl, Nn3, K3, A3, F13, F23⟩ := hQ3
    have EE3 := own_Ext.keep EE2 K3 (allS ((own_Ext.refl h0).1) all0)
    have W3 := own_Wext W EE3
    have e3 : T3.heap = T3.heap := rfl
    have N3 := Fr.app (Fr.nil h0.size) (fun y hy => Nat.le_trans ((own_Ext.refl h0).1) (Nn3 y hy))
    have hk3 : T3.heap.size ≤ T3.heap.size := Nat.le_refl _
    show own_Goes p e below _ (T3.setTop (mkF m 60 #[.val (.int p0), .val (.int p1), .val (.int p2), .val (.int p3), .val (.int p4), .val (.ref (own_r_pick A p0)), .val (.ref bb), .val (.int (p2 &&& (2147483647 : Int32))), .val (.int oo), .unset, .unset, .unset, .unset] [(.ref h0.size)]))
    refine own_by (fun _ zz => XS.astore X3.here hx rfl (hb hby at_60) rfl rfl (l' := #[.val (.int p0), .val (.int p1), .val (.int p2), .val (.int p3), .val (.int p4), .val (.ref (own_r_pick A p0)), .val (.ref bb), .val (.int (p2 &&& (2147483647 : Int32))), .val (.int oo), .val (.ref h0.size), .unset, .unset, .unset]) rfl zz) ?_
    show own_Goes p e below _ (T3.setTop (mkF m 62 #[.val (.int p0), .val (.int p1), .val (.int p2), .val (.int p3), .val (.int p4), .val (.ref (own_r_pick A p0)), .val (.ref bb), .val (.int (p2 &&& (2147483647 : Int32))), .val (.int oo), .val (.ref h0.size), .unset, .unset, .unset] []))
    refine own_by (fun _ zz => XS.iload X3.here hx rfl (hb hby at_62) rfl zz) ?_
    show own_Goes p e below _ (T3.setTop (mkF m 64 #[.val (.int p0), .val (.int p1), .val (.int p2), .val (.int p3), .val (.int p4), .val (.ref (own_r_pick A p0)), .val (.ref bb), .val (.int (p2 &&& (2147483647 : Int32))), .val (.int oo), .val (.ref h0.size), .unset, .unset, .unset] [(.int p4)]))
    refine own_by (fun _ zz => XS.iconst X3.here hx rfl (hb hby at_64) zz) ?_
    show own_Goes p e below _ (T3.setTop (mkF m 65 #[.val (.int p0), .val (.int p1), .val (.int p2), .val (.int p3), .val (.int p4), .val (.ref (own_r_pick A p0)), .val (.ref bb), .val (.int (p2 &&& (2147483647 : Int32))), .val (.int oo), .val (.ref h0.size), .unset, .unset, .unset] [(.int (3 : Int32)), (.int p4)]))
    refine own_by (fun _ zz => XS.iand X3.here hx rfl (hb hby at_65) rfl zz) ?_
    show own_Goes p e below _ (T3.setTop (mkF m 66 #[.val (.int p0), .val (.int p1), .val (.int p2), .val (.int p3), .val (.int p4), .val (.ref (own_r_pick A p0)), .val (.ref bb), .val (.int (p2 &&& (2147483647 : Int32))), .val (.int oo), .val (.ref h0.size), .unset, .unset, .unset] [(.int (p4 &&& (3 : Int32)))]))
    refine own_by (fun _ zz => XS.istore X3.here hx rfl (hb hby at_66) rfl (l' := #[.val (.int p0), .val (.int p1), .val (.int p2), .val (.int p3), .val (.int p4), .val (.ref (own_r_pick A p0)), .val (.ref bb), .val (.int (p2 &&& (2147483647 : Int32))), .val (.int oo), .val (.ref h0.size), .val (.int (p4 &&& (3 : Int32))), .unset, .unset]) rfl zz) ?_
    show own_Goes p e below _ (T3.setTop (mkF m 68 #[.val (.int p0), .val (.int p1), .val (.int p2), .val (.int p3), .val (.int p4), .val (.ref (own_r_pick A p0)), .val (.ref bb), .val (.int (p2 &&& (2147483647 : Int32))), .val (.int oo), .val (.ref h0.size), .val (.int (p4 &&& (3 : Int32))), .unset, .unset] []))
    refine own_by (fun _ zz => XS.iload X3.here hx rfl (hb hby at_68) rfl zz) ?_
    show own_Goes p e below _ (T3.setTop (mkF m 70 #[.val (.int p0), .val (.int p1), .val (.int p2), .val (.int p3), .val (.int p4), .val (.ref (own_r_pick A p0)), .val (.ref bb), .val (.int (p2 &&& (2147483647 : Int32))), .val (.int oo), .val (.ref h0.size), .val (.int (p4 &&& (3 : Int32))), .unset, .unset] [(.int (p4 &&& (3 : Int32)))]))
    by_cases q4 : (p4 &&& (3 : Int32)) = 0
    · refine own_by (fun _ zz => XS.ifNo X3.here hx rfl (hb hby at_70) rfl (XT.i0_ne_f q4) zz) ?_
      show own_Goes p e below _ (T3.setTop (mkF m 73 #[.val (.int p0), .val (.int p1), .val (.int p2), .val (.int p3), .val (.int p4), .val (.ref (own_r_pick A p0)), .val (.ref bb), .val (.int (p2 &&& (2147483647 : Int32))), .val (.int oo), .val (.ref h0.size), .val (.int (p4 &&& (3 : Int32))), .unset, .unset] []))
      refine own_newO X3 hx hZ3 hown3 (own_w10 hw) (own_w11 hw) (own_w12 hw) e3 (hb hby at_73) (by decide) (by decide) fun T5 h5 X5 e5 E5 A5 D5 => ?_
      have EE5 := own_Ext.trans EE3 E5
      have W5 := own_Wext W EE5
      have F6 := A3.ext E5
      have F7 := F13.ext E5
      have F8 := F23.ext E5
      have hk5 := Nat.le_trans hk3 E5.1
      show own_Goes p e below _ (T5.setTop (mkF m 76 #[.val (.int p0), .val (.int p1), .val (.int p2), .val (.int p3), .val (.int p4), .val (.ref (own_r_pick A p0)), .val (.ref bb), .val (.int (p2 &&& (2147483647 : Int32))), .val (.int oo), .val (.ref h0.size), .val (.int (p4 &&& (3 : Int32))), .unset, .unset] [(.ref T3.heap.size)]))
      refine own_by (fun _ zz => XS.dup X5.here hx rfl (hb hby at_76) rfl rfl zz) ?_
      show own_Goes p e below _ (T5.setTop (mkF m 77 #[.val (.int p0), .val (.int p1), .val (.int p2), .val (.int p3), .val (.int p4), .val (.ref (own_r_pick A p0)), .val (.ref bb), .val (.int (p2 &&& (2147483647 : Int32))), .val (.int oo), .val (.ref h0.size), .val (.int (p4 &&& (3 : Int32))), .unset, .unset] [(.ref T3.heap.size), (.ref T3.heap.size)]))
      refine own_by (fun _ zz => XS.aload X5.here hx rfl (hb hby at_77) rfl rfl zz) ?_
      show own_Goes p e below _ (T5.setTop (mkF m 79 #[.val (.int p0), .val (.int p1), .val (.int p2), .val (.int p3), .val (.int p4), .val (.ref (own_r_pick A p0)), .val (.ref bb), .val (.int (p2 &&& (2147483647 : Int32))), .val (.int oo), .val (.ref h0.size), .val (.int (p4 &&& (3 : Int32))), .unset, .unset] [(.ref bb), (.ref T3.heap.size), (.ref T3.heap.size)]))
      refine own_by (fun _ zz => XS.iload X5.here hx rfl (hb hby at_79) rfl zz) ?_
      show own_Goes p e below _ (T5.setTop (mkF m 81 #[.val (.int p0), .val (.int p1), .val (.int p2), .val (.int p3), .val (.int p4), .val (.ref (own_r_pick A p0)), .val (.ref bb), .val (.int (p2 &&& (2147483647 : Int32))), .val (.int oo), .val (.ref h0.size), .val (.int (p4 &&& (3 : Int32))), .unset, .unset] [(.int oo), (.ref bb), (.ref T3.heap.size), (.ref T3.heap.size)]))
      refine own_callIS X5 hx hZ3 hS3 (by rw [e5]; exact hk5) (W := 1) (argsL := [(.ref bb), (.int oo)]) (rest := [(.ref T3.heap.size)]) rfl hown3 (own_w13 hw) (own_w14 hw) (own_w15 hw) (own_w12 hw) (by decide) e5 (rm_finit l hw W5 T3.heap.size bb oo H2 A5 (EB.ext EE5) (D5 _ _ _ (.object "com/example/cartouche/cartouche/Rule") (Or.inr (own_w34 hw)) (by decide)) (D5 _ _ _ .int (Or.inr (own_w36 hw)) (by decide))) (by decide) (by decide) (by decide) (by decide) (by rw [hml]; rfl) (lenOf own_pd4 rfl) rfl (Nat.le_of_ble_eq_true rfl) (hb hby at_81) fun v9 T9 L9 X9 hS9 hZ9 hown9 hQ9 => ?_
      obtain ⟨rfl, Nn9, K9, A9, F19, F29⟩ := hQ9
      have EE9 := own_Ext.keep EE5 K9 (allS (EE3.1) all0)
      have W9 := own_Wext W EE9
      have e9 : T9.heap = T9.heap := rfl
      have N9 := Fr.app N3 (fun y hy => Nat.le_trans (EE3.1) (Nn9 y hy))
      have hk9 : T9.heap.size ≤ T9.heap.size := Nat.le_refl _
      have G10 := F6.keep K9
      have G11 := F7.keep K9 (ninS (Nat.ne_of_lt F23.lt) nin0)
      have G12 := F8.keep K9 (ninS (Nat.ne_of_lt F23.lt) nin0)
      show own_Goes p e below _ (T9.setTop (mkF m 84 #[.val (.int p0), .val (.int p1), .val (.int p2), .val (.int p3), .val (.int p4), .val (.ref (own_r_pick A p0)), .val (.ref bb), .val (.int (p2 &&& (2147483647 : Int32))), .val (.int oo), .val (.ref h0.size), .val (.int (p4 &&& (3 : Int32))), .unset, .unset] [(.ref T3.heap.size)]))
      refine own_by (fun _ zz => XS.astore X9.here hx rfl (hb hby at_84) rfl rfl (l' := #[.val (.int p0), .val (.int p1), .val (.int p2), .val (.int p3), .val (.int p4), .val (.ref (own_r_pick A p0)), .val (.ref bb), .val (.int (p2 &&& (2147483647 : Int32))), .val (.int oo), .val (.ref h0.size), .val (.int (p4 &&& (3 : Int32))), .val (.ref T3.heap.size), .unset]) rfl zz) ?_
      show own_Goes p e below _ (T9.setTop (mkF m 86 #[.val (.int p0), .val (.int p1), .val (.int p2), .val (.int p3), .val (.int p4), .val (.ref (own_r_pick A p0)), .val (.ref bb), .val (.int (p2 &&& (2147483647 : Int32))), .val (.int oo), .val (.ref h0.size), .val (.int (p4 &&& (3 : Int32))), .val (.ref T3.heap.size), .unset] []))
      refine own_by (fun _ zz => XS.aload X9.here hx rfl (hb hby at_86) rfl rfl zz) ?_
      show own_Goes p e below _ (T9.setTop (mkF m 88 #[.val (.int p0), .val (.int p1), .val (.int p2), .val (.int p3), .val (.int p4), .val (.ref (own_r_pick A p0)), .val (.ref bb), .val (.int (p2 &&& (2147483647 : Int32))), .val (.int oo), .val (.ref h0.size), .val (.int (p4 &&& (3 : Int32))), .val (.ref T3.heap.size), .unset] [(.ref (own_r_pick A p0))]))
      refine own_by (fun _ zz => XS.aload X9.here hx rfl (hb hby at_88) rfl rfl zz) ?_
      show own_Goes p e below _ (T9.setTop (mkF m 90 #[.val (.int p0), .val (.int p1), .val (.int p2), .val (.int p3), .val (.int p4), .val (.ref (own_r_pick A p0)), .val (.ref bb), .val (.int (p2 &&& (2147483647 : Int32))), .val (.int oo), .val (.ref h0.size), .val (.int (p4 &&& (3 : Int32))), .val (.ref T3.heap.size), .unset] [(.ref bb), (.ref (own_r_pick A p0))]))
      by_cases q13 : (own_r_pick A p0) = bb
      · refine own_by (fun _ zz => XT.acmpNo X9.here hx rfl (hb hby at_90) rfl rfl rfl (XT.aa_ne_f (congrArg Value.ref q13)) zz) ?_
        show own_Goes p e below _ (T9.setTop (mkF m 93 #[.val (.int p0), .val (.int p1), .val (.int p2), .val (.int p3), .val (.int p4), .val (.ref (own_r_pick A p0)), .val (.ref bb), .val (.int (p2 &&& (2147483647 : Int32))), .val (.int oo), .val (.ref h0.size), .val (.int (p4 &&& (3 : Int32))), .val (.ref T3.heap.size), .unset] []))
        refine own_by (fun _ zz => XS.iload X9.here hx rfl (hb hby at_93) rfl zz) ?_
        show own_Goes p e below _ (T9.setTop (mkF m 95 #[.val (.int p0), .val (.int p1), .val (.int p2), .val (.int p3), .val (.int p4), .val (.ref (own_r_pick A p0)), .val (.ref bb), .val (.int (p2 &&& (2147483647 : Int32))), .val (.int oo), .val (.ref h0.size), .val (.int (p4 &&& (3 : Int32))), .val (.ref T3.heap.size), .unset] [(.int (p2 &&& (2147483647 : Int32)))]))
        refine own_by (fun _ zz => XS.iload X9.here hx rfl (hb hby at_95) rfl zz) ?_
        show own_Goes p e below _ (T9.setTop (mkF m 97 #[.val (.int p0), .val (.int p1), .val (.int p2), .val (.int p3), .val (.int p4), .val (.ref (own_r_pick A p0)), .val (.ref bb), .val (.int (p2 &&& (2147483647 : Int32))), .val (.int oo), .val (.ref h0.size), .val (.int (p4 &&& (3 : Int32))), .val (.ref T3.heap.size), .unset] [(.int oo), (.int (p2 &&& (2147483647 : Int32)))]))
        by_cases q14 : (p2 &&& (2147483647 : Int32)) = oo
        · refine own_by (fun _ zz => XS.icmpNo X9.here hx rfl (hb hby at_97) rfl (XT.ii_ne_f q14) zz) ?_
          show own_Goes p e below _ (T9.setTop (mkF m 100 #[.val (.int p0), .val (.int p1), .val (.int p2), .val (.int p3), .val (.int p4), .val (.ref (own_r_pick A p0)), .val (.ref bb), .val (.int (p2 &&& (2147483647 : Int32))), .val (.int oo), .val (.ref h0.size), .val (.int (p4 &&& (3 : Int32))), .val (.ref T3.heap.size), .unset] []))
          refine own_by (fun _ zz => XS.iconst X9.here hx rfl (hb hby at_100) zz) ?_
          show own_Goes p e below _ (T9.setTop (mkF m 101 #[.val (.int p0), .val (.int p1), .val (.int p2), .val (.int p3), .val (.int p4), .val (.ref (own_r_pick A p0)), .val (.ref bb), .val (.int (p2 &&& (2147483647 : Int32))), .val (.int oo), .val (.ref h0.size), .val (.int (p4 &&& (3 : Int32))), .val (.ref T3.heap.size), .unset] [(.int (1 : Int32))]))
          refine own_by (fun _ zz => XS.goto X9.here hx rfl (pc0 := 101) (pc' := 105) rfl (hb hby at_101) (by decide) (by decide) zz) ?_
          show own_Goes p e below _ (T9.setTop (mkF m 105 #[.val (.int p0), .val (.int p1), .val (.int p2), .val (.int p3), .val (.int p4), .val (.ref (own_r_pick A p0)), .val (.ref bb), .val (.int (p2 &&& (2147483647 : Int32))), .val (.int oo), .val (.ref h0.size), .val (.int (p4 &&& (3 : Int32))), .val (.ref T3.heap.size), .unset] [(.int (1 : Int32))]))
          refine own_by (fun _ zz => XS.istore X9.here hx rfl (hb hby at_105) rfl (l' := #[.val (.int p0), .val (.int p1), .val (.int p2), .val (.int p3), .val (.int p4), .val (.ref (own_r_pick A p0)), .val (.ref bb), .val (.int (p2 &&& (2147483647 : Int32))), .val (.int oo), .val (.ref h0.size), .val (.int (p4 &&& (3 : Int32))), .val (.ref T3.heap.size), .val (.int (1 : Int32))]) rfl zz) ?_
          show own_Goes p e below _ (T9.setTop (mkF m 107 #[.val (.int p0), .val (.int p1), .val (.int p2), .val (.int p3), .val (.int p4), .val (.ref (own_r_pick A p0)), .val (.ref bb), .val (.int (p2 &&& (2147483647 : Int32))), .val (.int oo), .val (.ref h0.size), .val (.int (p4 &&& (3 : Int32))), .val (.ref T3.heap.size), .val (.int (1 : Int32))] []))
          refine own_by (fun _ zz => XS.aload X9.here hx rfl (hb hby at_107) rfl rfl zz) ?_
          show own_Goes p e below _ (T9.setTop (mkF m 109 #[.val (.int p0), .val (.int p1), .val (.int p2), .val (.int p3), .val (.int p4), .val (.ref (own_r_pick A p0)), .val (.ref bb), .val (.int (p2 &&& (2147483647 : Int32))), .val (.int oo), .val (.ref h0.size), .val (.int (p4 &&& (3 : Int32))), .val (.ref T3.heap.size), .val (.int (1 : Int32))] [(.ref h0.size)]))
          refine own_by (fun _ zz => XS.aload X9.here hx rfl (hb hby at_109) rfl rfl zz) ?_
          show own_Goes p e below _ (T9.setTop (mkF m 111 #[.val (.int p0), .val (.int p1), .val (.int p2), .val (.int p3), .val (.int p4), .val (.ref (own_r_pick A p0)), .val (.ref bb), .val (.int (p2 &&& (2147483647 : Int32))), .val (.int oo), .val (.ref h0.size), .val (.int (p4 &&& (3 : Int32))), .val (.ref T3.heap.size), .val (.int (1 : Int32))] [(.ref T3.heap.size), (.ref h0.size)]))
          refine own_callV0 X9 hx hZ9 (W := 0) (K := "com/example/cartouche/cartouche/Fault") (argsL := [(.ref T3.heap.size)]) (rest := []) hown9 (own_w37 hw) (own_w38 hw) (own_w40 hw) (own_w39 hw) (own_w41 hw) (own_w12 hw) (by decide) e9 G10 (rm_eqF l hw W9 h0.size T3.heap.size (own_r_pick A p0) bb (p2 &&& (2147483647 : Int32)) oo A9 G11 G12 F19 F29) (by decide) (by decide) (by decide) (by decide) (by rw [hml]; rfl) (lenOf own_pd5 rfl) rfl (Nat.le_of_ble_eq_true rfl) (hb hby at_111) fun T15 X15 e15 => ?_
          show own_Goes p e below _ (T15.setTop (mkF m 114 #[.val (.int p0), .val (.int p1), .val (.int p2), .val (.int p3), .val (.int p4), .val (.ref (own_r_pick A p0)), .val (.ref bb), .val (.int (p2 &&& (2147483647 : Int32))), .val (.int oo), .val (.ref h0.size), .val (.int (p4 &&& (3 : Int32))), .val (.ref T3.heap.size), .val (.int (1 : Int32))] [(.int (own_r_eqF A h0.size T3.heap.size (own_r_pick A p0) bb (p2 &&& (2147483647 : Int32)) oo))]))
          refine own_by (fun _ zz => XS.iload X15.here hx rfl (hb hby at_114) rfl zz) ?_
          show own_Goes p e below _ (T15.setTop (mkF m 116 #[.val (.int p0), .val (.int p1), .val (.int p2), .val (.int p3), .val (.int p4), .val (.ref (own_r_pick A p0)), .val (.ref bb), .val (.int (p2 &&& (2147483647 : Int32))), .val (.int oo), .val (.ref h0.size), .val (.int (p4 &&& (3 : Int32))), .val (.ref T3.heap.size), .val (.int (1 : Int32))] [(.int (1 : Int32)), (.int (own_r_eqF A h0.size T3.heap.size (own_r_pick A p0) bb (p2 &&& (2147483647 : Int32)) oo))]))
          refine own_by (fun _ zz => XS.icmpNo X15.here hx rfl (hb hby at_116) rfl (XT.ii_ne_f (by unfold own_r_eqF; rw [if_pos q13, if_pos q14])) zz) ?_
          show own_Goes p e below _ (T15.setTop (mkF m 119 #[.val (.int p0), .val (.int p1), .val (.int p2), .val (.int p3), .val (.int p4), .val (.ref (own_r_pick A p0)), .val (.ref bb), .val (.int (p2 &&& (2147483647 : Int32))), .val (.int oo), .val (.ref h0.size), .val (.int (p4 &&& (3 : Int32))), .val (.ref T3.heap.size), .val (.int (1 : Int32))] []))
          refine own_by (fun _ zz => XS.aload X15.here hx rfl (hb hby at_119) rfl rfl zz) ?_
          show own_Goes p e below _ (T15.setTop (mkF m 121 #[.val (.int p0), .val (.int p1), .val (.int p2), .val (.int p3), .val (.int p4), .val (.ref (own_r_pick A p0)), .val (.ref bb), .val (.int (p2 &&& (2147483647 : Int32))), .val (.int oo), .val (.ref h0.size), .val (.int (p4 &&& (3 : Int32))), .val (.ref T3.heap.size), .val (.int (1 : Int32))] [(.ref T3.heap.size)]))
          refine own_by (fun _ zz => XS.aload X15.here hx rfl (hb hby at_121) rfl rfl zz) ?_
          show own_Goes p e below _ (T15.setTop (mkF m 123 #[.val (.int p0), .val (.int p1), .val (.int p2), .val (.int p3), .val (.int p4), .val (.ref (own_r_pick A p0)), .val (.ref bb), .val (.int (p2 &&& (2147483647 : Int32))), .val (.int oo), .val (.ref h0.size), .val (.int (p4 &&& (3 : Int32))), .val (.ref T3.heap.size), .val (.int (1 : Int32))] [(.ref h0.size), (.ref T3.heap.size)]))
          refine own_callV0 X15 hx hZ9 (W := 0) (K := "com/example/cartouche/cartouche/Fault") (argsL := [(.ref h0.size)]) (rest := []) hown9 (own_w37 hw) (own_w38 hw) (own_w40 hw) (own_w39 hw) (own_w41 hw) (own_w12 hw) (by decide) e15 A9 (rm_eqF l hw W9 T3.heap.size h0.size bb (own_r_pick A p0) oo (p2 &&& (2147483647 : Int32)) G10 F19 F29 G11 G12) (by decide) (by decide) (by decide) (by decide) (by rw [hml]; rfl) (lenOf own_pd5 rfl) rfl (Nat.le_of_ble_eq_true rfl) (hb hby at_123) fun T16 X16 e16 => ?_
          show own_Goes p e below _ (T16.setTop (mkF m 126 #[.val (.int p0), .val (.int p1), .val (.int p2), .val (.int p3), .val (.int p4), .val (.ref (own_r_pick A p0)), .val (.ref bb), .val (.int (p2 &&& (2147483647 : Int32))), .val (.int oo), .val (.ref h0.size), .val (.int (p4 &&& (3 : Int32))), .val (.ref T3.heap.size), .val (.int (1 : Int32))] [(.int (own_r_eqF A T3.heap.size h0.size bb (own_r_pick A p0) oo (p2 &&& (2147483647 : Int32))))]))
          refine own_by (fun _ zz => XS.iload X16.here hx rfl (hb hby at_126) rfl zz) ?_
          show own_Goes p e below _ (T16.setTop (mkF m 128 #[.val (.int p0), .val (.int p1), .val (.int p2), .val (.int p3), .val (.int p4), .val (.ref (own_r_pick A p0)), .val (.ref bb), .val (.int (p2 &&& (2147483647 : Int32))), .val (.int oo), .val (.ref h0.size), .val (.int (p4 &&& (3 : Int32))), .val (.ref T3.heap.size), .val (.int (1 : Int32))] [(.int (1 : Int32)), (.int (own_r_eqF A T3.heap.size h0.size bb (own_r_pick A p0) oo (p2 &&& (2147483647 : Int32))))]))
          refine own_by (fun _ zz => XS.icmpNo X16.here hx rfl (hb hby at_128) rfl (XT.ii_ne_f (by unfold own_r_eqF; rw [if_pos q13.symm, if_pos q14.symm])) zz) ?_
          show own_Goes p e below _ (T16.setTop (mkF m 131 #[.val (.int p0), .val (.int p1), .val (.int p2), .val (.int p3), .val (.int p4), .val (.ref (own_r_pick A p0)), .val (.ref bb), .val (.int (p2 &&& (2147483647 : Int32))), .val (.int oo), .val (.ref h0.size), .val (.int (p4 &&& (3 : Int32))), .val (.ref T3.heap.size), .val (.int (1 : Int32))] []))
          refine own_by (fun _ zz => XS.iconst X16.here hx rfl (hb hby at_131) zz) ?_
          show own_Goes p e below _ (T16.setTop (mkF m 132 #[.val (.int p0), .val (.int p1), .val (.int p2), .val (.int p3), .val (.int p4), .val (.ref (own_r_pick A p0)), .val (.ref bb), .val (.int (p2 &&& (2147483647 : Int32))), .val (.int oo), .val (.ref h0.size), .val (.int (p4 &&& (3 : Int32))), .val (.ref T3.heap.size), .val (.int (1 : Int32))] [(.int (1 : Int32))]))
          refine own_by (fun _ zz => XS.goto X16.here hx rfl (pc0 := 132) (pc' := 136) rfl (hb hby at_132) (by decide) (by decide) zz) ?_
          show own_Goes p e below _ (T16.setTop (mkF m 136 #[.val (.int p0), .val (.int p1), .val (.int p2), .val (.int p3), .val (.int p4), .val (.ref (own_r_pick A p0)), .val (.ref bb), .val (.int (p2 &&& (2147483647 : Int32))), .val (.int oo), .val (.ref h0.size), .val (.int (p4 &&& (3 : Int32))), .val (.ref T3.heap.size), .val (.int (1 : Int32))] [(.int (1 : Int32))]))
          refine own_retNW X16 hS9 (by rw [e16]; exact hk9) hx hlk (ty := .boolean) hret (by simp) (hb hby at_136) (by decide) (by decide) ?_
          exact ⟨rfl, N9⟩
        · refine own_by (fun _ zz => XS.icmpYes X9.here hx rfl (pc0 := 97) (pc' := 104) rfl (hb hby at_97) rfl (XT.ii_ne_t q14) (by decide) (by decide) zz) ?_
          show own_Goes p e below _ (T9.setTop (mkF m 104 #[.val (.int p0), .val (.int p1), .val (.int p2), .val (.int p3), .val (.int p4), .val (.ref (own_r_pick A p0)), .val (.ref bb), .val (.int (p2 &&& (2147483647 : Int32))), .val (.int oo), .val (.ref h0.size), .val (.int (p4 &&& (3 : Int32))), .val (.ref T3.heap.size), .unset] []))
          refine own_by (fun _ zz => XS.iconst X9.here hx rfl (hb hby at_104) zz) ?_
          show own_Goes p e below _ (T9.setTop (mkF m 105 #[.val (.int p0), .val (.int p1), .val (.int p2), .val (.int p3), .val (.int p4), .val (.ref (own_r_pick A p0)), .val (.ref bb), .val (.int (p2 &&& (2147483647 : Int32))), .val (.int oo), .val (.ref h0.size), .val (.int (p4 &&& (3 : Int32))), .val (.ref T3.heap.size), .unset] [(.int (0 : Int32))]))
          refine own_by (fun _ zz => XS.istore X9.here hx rfl (hb hby at_105) rfl (l' := #[.val (.int p0), .val (.int p1), .val (.int p2), .val (.int p3), .val (.int p4), .val (.ref (own_r_pick A p0)), .val (.ref bb), .val (.int (p2 &&& (2147483647 : Int32))), .val (.int oo), .val (.ref h0.size), .val (.int (p4 &&& (3 : Int32))), .val (.ref T3.heap.size), .val (.int (0 : Int32))]) rfl zz) ?_
          show own_Goes p e below _ (T9.setTop (mkF m 107 #[.val (.int p0), .val (.int p1), .val (.int p2), .val (.int p3), .val (.int p4), .val (.ref (own_r_pick A p0)), .val (.ref bb), .val (.int (p2 &&& (2147483647 : Int32))), .val (.int oo), .val (.ref h0.size), .val (.int (p4 &&& (3 : Int32))), .val (.ref T3.heap.size), .val (.int (0 : Int32))] []))
          refine own_by (fun _ zz => XS.aload X9.here hx rfl (hb hby at_107) rfl rfl zz) ?_
          show own_Goes p e below _ (T9.setTop (mkF m 109 #[.val (.int p0), .val (.int p1), .val (.int p2), .val (.int p3), .val (.int p4), .val (.ref (own_r_pick A p0)), .val (.ref bb), .val (.int (p2 &&& (2147483647 : Int32))), .val (.int oo), .val (.ref h0.size), .val (.int (p4 &&& (3 : Int32))), .val (.ref T3.heap.size), .val (.int (0 : Int32))] [(.ref h0.size)]))
          refine own_by (fun _ zz => XS.aload X9.here hx rfl (hb hby at_109) rfl rfl zz) ?_
          show own_Goes p e below _ (T9.setTop (mkF m 111 #[.val (.int p0), .val (.int p1), .val (.int p2), .val (.int p3), .val (.int p4), .val (.ref (own_r_pick A p0)), .val (.ref bb), .val (.int (p2 &&& (2147483647 : Int32))), .val (.int oo), .val (.ref h0.size), .val (.int (p4 &&& (3 : Int32))), .val (.ref T3.heap.size), .val (.int (0 : Int32))] [(.ref T3.heap.size), (.ref h0.size)]))
          refine own_callV0 X9 hx hZ9 (W := 0) (K := "com/example/cartouche/cartouche/Fault") (argsL := [(.ref T3.heap.size)]) (rest := []) hown9 (own_w37 hw) (own_w38 hw) (own_w40 hw) (own_w39 hw) (own_w41 hw) (own_w12 hw) (by decide) e9 G10 (rm_eqF l hw W9 h0.size T3.heap.size (own_r_pick A p0) bb (p2 &&& (2147483647 : Int32)) oo A9 G11 G12 F19 F29) (by decide) (by decide) (by decide) (by decide) (by rw [hml]; rfl) (lenOf own_pd5 rfl) rfl (Nat.le_of_ble_eq_true rfl) (hb hby at_111) fun T17 X17 e17 => ?_
          show own_Goes p e below _ (T17.setTop (mkF m 114 #[.val (.int p0), .val (.int p1), .val (.int p2), .val (.int p3), .val (.int p4), .val (.ref (own_r_pick A p0)), .val (.ref bb), .val (.int (p2 &&& (2147483647 : Int32))), .val (.int oo), .val (.ref h0.size), .val (.int (p4 &&& (3 : Int32))), .val (.ref T3.heap.size), .val (.int (0 : Int32))] [(.int (own_r_eqF A h0.size T3.heap.size (own_r_pick A p0) bb (p2 &&& (2147483647 : Int32)) oo))]))
          refine own_by (fun _ zz => XS.iload X17.here hx rfl (hb hby at_114) rfl zz) ?_
          show own_Goes p e below _ (T17.setTop (mkF m 116 #[.val (.int p0), .val (.int p1), .val (.int p2), .val (.int p3), .val (.int p4), .val (.ref (own_r_pick A p0)), .val (.ref bb), .val (.int (p2 &&& (2147483647 : Int32))), .val (.int oo), .val (.ref h0.size), .val (.int (p4 &&& (3 : Int32))), .val (.ref T3.heap.size), .val (.int (0 : Int32))] [(.int (0 : Int32)), (.int (own_r_eqF A h0.size T3.heap.size (own_r_pick A p0) bb (p2 &&& (2147483647 : Int32)) oo))]))
          refine own_by (fun _ zz => XS.icmpNo X17.here hx rfl (hb hby at_116) rfl (XT.ii_ne_f (by unfold own_r_eqF; rw [if_pos q13, if_neg q14])) zz) ?_
          show own_Goes p e below _ (T17.setTop (mkF m 119 #[.val (.int p0), .val (.int p1), .val (.int p2), .val (.int p3), .val (.int p4), .val (.ref (own_r_pick A p0)), .val (.ref bb), .val (.int (p2 &&& (2147483647 : Int32))), .val (.int oo), .val (.ref h0.size), .val (.int (p4 &&& (3 : Int32))), .val (.ref T3.heap.size), .val (.int (0 : Int32))] []))
          refine own_by (fun _ zz => XS.aload X17.here hx rfl (hb hby at_119) rfl rfl zz) ?_
          show own_Goes p e below _ (T17.setTop (mkF m 121 #[.val (.int p0), .val (.int p1), .val (.int p2), .val (.int p3), .val (.int p4), .val (.ref (own_r_pick A p0)), .val (.ref bb), .val (.int (p2 &&& (2147483647 : Int32))), .val (.int oo), .val (.ref h0.size), .val (.int (p4 &&& (3 : Int32))), .val (.ref T3.heap.size), .val (.int (0 : Int32))] [(.ref T3.heap.size)]))
          refine own_by (fun _ zz => XS.aload X17.here hx rfl (hb hby at_121) rfl rfl zz) ?_
          show own_Goes p e below _ (T17.setTop (mkF m 123 #[.val (.int p0), .val (.int p1), .val (.int p2), .val (.int p3), .val (.int p4), .val (.ref (own_r_pick A p0)), .val (.ref bb), .val (.int (p2 &&& (2147483647 : Int32))), .val (.int oo), .val (.ref h0.size), .val (.int (p4 &&& (3 : Int32))), .val (.ref T3.heap.size), .val (.int (0 : Int32))] [(.ref h0.size), (.ref T3.heap.size)]))
          refine own_callV0 X17 hx hZ9 (W := 0) (K := "com/example/cartouche/cartouche/Fault") (argsL := [(.ref h0.size)]) (rest := []) hown9 (own_w37 hw) (own_w38 hw) (own_w40 hw) (own_w39 hw) (own_w41 hw) (own_w12 hw) (by decide) e17 A9 (rm_eqF l hw W9 T3.heap.size h0.size bb (own_r_pick A p0) oo (p2 &&& (2147483647 : Int32)) G10 F19 F29 G11 G12) (by decide) (by decide) (by decide) (by decide) (by rw [hml]; rfl) (lenOf own_pd5 rfl) rfl (Nat.le_of_ble_eq_true rfl) (hb hby at_123) fun T18 X18 e18 => ?_
          show own_Goes p e below _ (T18.setTop (mkF m 126 #[.val (.int p0), .val (.int p1), .val (.int p2), .val (.int p3), .val (.int p4), .val (.ref (own_r_pick A p0)), .val (.ref bb), .val (.int (p2 &&& (2147483647 : Int32))), .val (.int oo), .val (.ref h0.size), .val (.int (p4 &&& (3 : Int32))), .val (.ref T3.heap.size), .val (.int (0 : Int32))] [(.int (own_r_eqF A T3.heap.size h0.size bb (own_r_pick A p0) oo (p2 &&& (2147483647 : Int32))))]))
          refine own_by (fun _ zz => XS.iload X18.here hx rfl (hb hby at_126) rfl zz) ?_
          show own_Goes p e below _ (T18.setTop (mkF m 128 #[.val (.int p0), .val (.int p1), .val (.int p2), .val (.int p3), .val (.int p4), .val (.ref (own_r_pick A p0)), .val (.ref bb), .val (.int (p2 &&& (2147483647 : Int32))), .val (.int oo), .val (.ref h0.size), .val (.int (p4 &&& (3 : Int32))), .val (.ref T3.heap.size), .val (.int (0 : Int32))] [(.int (0 : Int32)), (.int (own_r_eqF A T3.heap.size h0.size bb (own_r_pick A p0) oo (p2 &&& (2147483647 : Int32))))]))
          refine own_by (fun _ zz => XS.icmpNo X18.here hx rfl (hb hby at_128) rfl (XT.ii_ne_f (by unfold own_r_eqF; rw [if_pos q13.symm, if_neg (fun z => q14 z.symm)])) zz) ?_
          show own_Goes p e below _ (T18.setTop (mkF m 131 #[.val (.int p0), .val (.int p1), .val (.int p2), .val (.int p3), .val (.int p4), .val (.ref (own_r_pick A p0)), .val (.ref bb), .val (.int (p2 &&& (2147483647 : Int32))), .val (.int oo), .val (.ref h0.size), .val (.int (p4 &&& (3 : Int32))), .val (.ref T3.heap.size), .val (.int (0 : Int32))] []))
          refine own_by (fun _ zz => XS.iconst X18.here hx rfl (hb hby at_131) zz) ?_
          show own_Goes p e below _ (T18.setTop (mkF m 132 #[.val (.int p0), .val (.int p1), .val (.int p2), .val (.int p3), .val (.int p4), .val (.ref (own_r_pick A p0)), .val (.ref bb), .val (.int (p2 &&& (2147483647 : Int32))), .val (.int oo), .val (.ref h0.size), .val (.int (p4 &&& (3 : Int32))), .val (.ref T3.heap.size), .val (.int (0 : Int32))] [(.int (1 : Int32))]))
          refine own_by (fun _ zz => XS.goto X18.here hx rfl (pc0 := 132) (pc' := 136) rfl (hb hby at_132) (by decide) (by decide) zz) ?_
          show own_Goes p e below _ (T18.setTop (mkF m 136 #[.val (.int p0), .val (.int p1), .val (.int p2), .val (.int p3), .val (.int p4), .val (.ref (own_r_pick A p0)), .val (.ref bb), .val (.int (p2 &&& (2147483647 : Int32))), .val (.int oo), .val (.ref h0.size), .val (.int (p4 &&& (3 : Int32))), .val (.ref T3.heap.size), .val (.int (0 : Int32))] [(.int (1 : Int32))]))
          refine own_retNW X18 hS9 (by rw [e18]; exact hk9) hx hlk (ty := .boolean) hret (by simp) (hb hby at_136) (by decide) (by decide) ?_
          exact ⟨rfl, N9⟩
      · refine own_by (fun _ zz => XT.acmpYes X9.here hx rfl (pc0 := 90) (pc' := 104) rfl (hb hby at_90) rfl rfl rfl (XT.aa_ne_t (fun q => q13 (Value.ref.inj q))) (by decide) (by decide) zz) ?_
        show own_Goes p e below _ (T9.setTop (mkF m 104 #[.val (.int p0), .val (.int p1), .val (.int p2), .val (.int p3), .val (.int p4), .val (.ref (own_r_pick A p0)), .val (.ref bb), .val (.int (p2 &&& (2147483647 : Int32))), .val (.int oo), .val (.ref h0.size), .val (.int (p4 &&& (3 : Int32))), .val (.ref T3.heap.size), .unset] []))
        refine own_by (fun _ zz => XS.iconst X9.here hx rfl (hb hby at_104) zz) ?_
        show own_Goes p e below _ (T9.setTop (mkF m 105 #[.val (.int p0), .val (.int p1), .val (.int p2), .val (.int p3), .val (.int p4), .val (.ref (own_r_pick A p0)), .val (.ref bb), .val (.int (p2 &&& (2147483647 : Int32))), .val (.int oo), .val (.ref h0.size), .val (.int (p4 &&& (3 : Int32))), .val (.ref T3.heap.size), .unset] [(.int (0 : Int32))]))
        refine own_by (fun _ zz => XS.istore X9.here hx rfl (hb hby at_105) rfl (l' := #[.val (.int p0), .val (.int p1), .val (.int p2), .val (.int p3), .val (.int p4), .val (.ref (own_r_pick A p0)), .val (.ref bb), .val (.int (p2 &&& (2147483647 : Int32))), .val (.int oo), .val (.ref h0.size), .val (.int (p4 &&& (3 : Int32))), .val (.ref T3.heap.size), .val (.int (0 : Int32))]) rfl zz) ?_
        show own_Goes p e below _ (T9.setTop (mkF m 107 #[.val (.int p0), .val (.int p1), .val (.int p2), .val (.int p3), .val (.int p4), .val (.ref (own_r_pick A p0)), .val (.ref bb), .val (.int (p2 &&& (2147483647 : Int32))), .val (.int oo), .val (.ref h0.size), .val (.int (p4 &&& (3 : Int32))), .val (.ref T3.heap.size), .val (.int (0 : Int32))] []))
        refine own_by (fun _ zz => XS.aload X9.here hx rfl (hb hby at_107) rfl rfl zz) ?_
        show own_Goes p e below _ (T9.setTop (mkF m 109 #[.val (.int p0), .val (.int p1), .val (.int p2), .val (.int p3), .val (.int p4), .val (.ref (own_r_pick A p0)), .val (.ref bb), .val (.int (p2 &&& (2147483647 : Int32))), .val (.int oo), .val (.ref h0.size), .val (.int (p4 &&& (3 : Int32))), .val (.ref T3.heap.size), .val (.int (0 : Int32))] [(.ref h0.size)]))
        refine own_by (fun _ zz => XS.aload X9.here hx rfl (hb hby at_109) rfl rfl zz) ?_
        show own_Goes p e below _ (T9.setTop (mkF m 111 #[.val (.int p0), .val (.int p1), .val (.int p2), .val (.int p3), .val (.int p4), .val (.ref (own_r_pick A p0)), .val (.ref bb), .val (.int (p2 &&& (2147483647 : Int32))), .val (.int oo), .val (.ref h0.size), .val (.int (p4 &&& (3 : Int32))), .val (.ref T3.heap.size), .val (.int (0 : Int32))] [(.ref T3.heap.size), (.ref h0.size)]))
        refine own_callV0 X9 hx hZ9 (W := 0) (K := "com/example/cartouche/cartouche/Fault") (argsL := [(.ref T3.heap.size)]) (rest := []) hown9 (own_w37 hw) (own_w38 hw) (own_w40 hw) (own_w39 hw) (own_w41 hw) (own_w12 hw) (by decide) e9 G10 (rm_eqF l hw W9 h0.size T3.heap.size (own_r_pick A p0) bb (p2 &&& (2147483647 : Int32)) oo A9 G11 G12 F19 F29) (by decide) (by decide) (by decide) (by decide) (by rw [hml]; rfl) (lenOf own_pd5 rfl) rfl (Nat.le_of_ble_eq_true rfl) (hb hby at_111) fun T19 X19 e19 => ?_
        show own_Goes p e below _ (T19.setTop (mkF m 114 #[.val (.int p0), .val (.int p1), .val (.int p2), .val (.int p3), .val (.int p4), .val (.ref (own_r_pick A p0)), .val (.ref bb), .val (.int (p2 &&& (2147483647 : Int32))), .val (.int oo), .val (.ref h0.size), .val (.int (p4 &&& (3 : Int32))), .val (.ref T3.heap.size), .val (.int (0 : Int32))] [(.int (own_r_eqF A h0.size T3.heap.size (own_r_pick A p0) bb (p2 &&& (2147483647 : Int32)) oo))]))
        refine own_by (fun _ zz => XS.iload X19.here hx rfl (hb hby at_114) rfl zz) ?_
        show own_Goes p e below _ (T19.setTop (mkF m 116 #[.val (.int p0), .val (.int p1), .val (.int p2), .val (.int p3), .val (.int p4), .val (.ref (own_r_pick A p0)), .val (.ref bb), .val (.int (p2 &&& (2147483647 : Int32))), .val (.int oo), .val (.ref h0.size), .val (.int (p4 &&& (3 : Int32))), .val (.ref T3.heap.size), .val (.int (0 : Int32))] [(.int (0 : Int32)), (.int (own_r_eqF A h0.size T3.heap.size (own_r_pick A p0) bb (p2 &&& (2147483647 : Int32)) oo))]))
        refine own_by (fun _ zz => XS.icmpNo X19.here hx rfl (hb hby at_116) rfl (XT.ii_ne_f (by unfold own_r_eqF; rw [if_neg q13])) zz) ?_
        show own_Goes p e below _ (T19.setTop (mkF m 119 #[.val (.int p0), .val (.int p1), .val (.int p2), .val (.int p3), .val (.int p4), .val (.ref (own_r_pick A p0)), .val (.ref bb), .val (.int (p2 &&& (2147483647 : Int32))), .val (.int oo), .val (.ref h0.size), .val (.int (p4 &&& (3 : Int32))), .val (.ref T3.heap.size), .val (.int (0 : Int32))] []))
        refine own_by (fun _ zz => XS.aload X19.here hx rfl (hb hby at_119) rfl rfl zz) ?_
        show own_Goes p e below _ (T19.setTop (mkF m 121 #[.val (.int p0), .val (.int p1), .val (.int p2), .val (.int p3), .val (.int p4), .val (.ref (own_r_pick A p0)), .val (.ref bb), .val (.int (p2 &&& (2147483647 : Int32))), .val (.int oo), .val (.ref h0.size), .val (.int (p4 &&& (3 : Int32))), .val (.ref T3.heap.size), .val (.int (0 : Int32))] [(.ref T3.heap.size)]))
        refine own_by (fun _ zz => XS.aload X19.here hx rfl (hb hby at_121) rfl rfl zz) ?_
        show own_Goes p e below _ (T19.setTop (mkF m 123 #[.val (.int p0), .val (.int p1), .val (.int p2), .val (.int p3), .val (.int p4), .val (.ref (own_r_pick A p0)), .val (.ref bb), .val (.int (p2 &&& (2147483647 : Int32))), .val (.int oo), .val (.ref h0.size), .val (.int (p4 &&& (3 : Int32))), .val (.ref T3.heap.size), .val (.int (0 : Int32))] [(.ref h0.size), (.ref T3.heap.size)]))
        refine own_callV0 X19 hx hZ9 (W := 0) (K := "com/example/cartouche/cartouche/Fault") (argsL := [(.ref h0.size)]) (rest := []) hown9 (own_w37 hw) (own_w38 hw) (own_w40 hw) (own_w39 hw) (own_w41 hw) (own_w12 hw) (by decide) e19 A9 (rm_eqF l hw W9 T3.heap.size h0.size bb (own_r_pick A p0) oo (p2 &&& (2147483647 : Int32)) G10 F19 F29 G11 G12) (by decide) (by decide) (by decide) (by decide) (by rw [hml]; rfl) (lenOf own_pd5 rfl) rfl (Nat.le_of_ble_eq_true rfl) (hb hby at_123) fun T20 X20 e20 => ?_
        show own_Goes p e below _ (T20.setTop (mkF m 126 #[.val (.int p0), .val (.int p1), .val (.int p2), .val (.int p3), .val (.int p4), .val (.ref (own_r_pick A p0)), .val (.ref bb), .val (.int (p2 &&& (2147483647 : Int32))), .val (.int oo), .val (.ref h0.size), .val (.int (p4 &&& (3 : Int32))), .val (.ref T3.heap.size), .val (.int (0 : Int32))] [(.int (own_r_eqF A T3.heap.size h0.size bb (own_r_pick A p0) oo (p2 &&& (2147483647 : Int32))))]))
        refine own_by (fun _ zz => XS.iload X20.here hx rfl (hb hby at_126) rfl zz) ?_
        show own_Goes p e below _ (T20.setTop (mkF m 128 #[.val (.int p0), .val (.int p1), .val (.int p2), .val (.int p3), .val (.int p4), .val (.ref (own_r_pick A p0)), .val (.ref bb), .val (.int (p2 &&& (2147483647 : Int32))), .val (.int oo), .val (.ref h0.size), .val (.int (p4 &&& (3 : Int32))), .val (.ref T3.heap.size), .val (.int (0 : Int32))] [(.int (0 : Int32)), (.int (own_r_eqF A T3.heap.size h0.size bb (own_r_pick A p0) oo (p2 &&& (2147483647 : Int32))))]))
        refine own_by (fun _ zz => XS.icmpNo X20.here hx rfl (hb hby at_128) rfl (XT.ii_ne_f (by unfold own_r_eqF; rw [if_neg (fun z => q13 z.symm)])) zz) ?_
        show own_Goes p e below _ (T20.setTop (mkF m 131 #[.val (.int p0), .val (.int p1), .val (.int p2), .val (.int p3), .val (.int p4), .val (.ref (own_r_pick A p0)), .val (.ref bb), .val (.int (p2 &&& (2147483647 : Int32))), .val (.int oo), .val (.ref h0.size), .val (.int (p4 &&& (3 : Int32))), .val (.ref T3.heap.size), .val (.int (0 : Int32))] []))
        refine own_by (fun _ zz => XS.iconst X20.here hx rfl (hb hby at_131) zz) ?_
        show own_Goes p e below _ (T20.setTop (mkF m 132 #[.val (.int p0), .val (.int p1), .val (.int p2), .val (.int p3), .val (.int p4), .val (.ref (own_r_pick A p0)), .val (.ref bb), .val (.int (p2 &&& (2147483647 : Int32))), .val (.int oo), .val (.ref h0.size), .val (.int (p4 &&& (3 : Int32))), .val (.ref T3.heap.size), .val (.int (0 : Int32))] [(.int (1 : Int32))]))
        refine own_by (fun _ zz => XS.goto X20.here hx rfl (pc0 := 132) (pc' := 136) rfl (hb hby at_132) (by decide) (by decide) zz) ?_
        show own_Goes p e below _ (T20.setTop (mkF m 136 #[.val (.int p0), .val (.int p1), .val (.int p2), .val (.int p3), .val (.int p4), .val (.ref (own_r_pick A p0)), .val (.ref bb), .val (.int (p2 &&& (2147483647 : Int32))), .val (.int oo), .val (.ref h0.size), .val (.int (p4 &&& (3 : Int32))), .val (.ref T3.heap.size), .val (.int (0 : Int32))] [(.int (1 : Int32))]))
        refine own_retNW X20 hS9 (by rw [e20]; exact hk9) hx hlk (ty := .boolean) hret (by simp) (hb hby at_136) (by decide) (by decide) ?_
        exact ⟨rfl, N9⟩
    · refine own_by (fun _ zz => XS.ifYes X3.here hx rfl (pc0 := 70) (pc' := 137) rfl (hb hby at_70) rfl (XT.i0_ne_t q4) (by decide) (by decide) zz) ?_
      show own_Goes p e below _ (T3.setTop (mkF m 137 #[.val (.int p0), .val (.int p1), .val (.int p2), .val (.int p3), .val (.int p4), .val (.ref (own_r_pick A p0)), .val (.ref bb), .val (.int (p2 &&& (2147483647 : Int32))), .val (.int oo), .val (.ref h0.size), .val (.int (p4 &&& (3 : Int32))), .unset, .unset] []))
      refine own_by (fun _ zz => XS.iload X3.here hx rfl (hb hby at_137) rfl zz) ?_
      show own_Goes p e below _ (T3.setTop (mkF m 139 #[.val (.int p0), .val (.int p1), .val (.int p2), .val (.int p3), .val (.int p4), .val (.ref (own_r_pick A p0)), .val (.ref bb), .val (.int (p2 &&& (2147483647 : Int32))), .val (.int oo), .val (.ref h0.size), .val (.int (p4 &&& (3 : Int32))), .unset, .unset] [(.int (p4 &&& (3 : Int32)))]))
      refine own_by (fun _ zz => XS.iconst X3.here hx rfl (hb hby at_139) zz) ?_
      show own_Goes p e below _ (T3.setTop (mkF m 140 #[.val (.int p0), .val (.int p1), .val (.int p2), .val (.int p3), .val (.int p4), .val (.ref (own_r_pick A p0)), .val (.ref bb), .val (.int (p2 &&& (2147483647 : Int32))), .val (.int oo), .val (.ref h0.size), .val (.int (p4 &&& (3 : Int32))), .unset, .unset] [(.int (1 : Int32)), (.int (p4 &&& (3 : Int32)))]))
      by_cases q21 : (p4 &&& (3 : Int32)) = (1 : Int32)
      · refine own_by (fun _ zz => XS.icmpNo X3.here hx rfl (hb hby at_140) rfl (XT.ii_ne_f q21) zz) ?_
        show own_Goes p e below _ (T3.setTop (mkF m 143 #[.val (.int p0), .val (.int p1), .val (.int p2), .val (.int p3), .val (.int p4), .val (.ref (own_r_pick A p0)), .val (.ref bb), .val (.int (p2 &&& (2147483647 : Int32))), .val (.int oo), .val (.ref h0.size), .val (.int (p4 &&& (3 : Int32))), .unset, .unset] []))
        refine own_by (fun _ zz => XS.aload X3.here hx rfl (hb hby at_143) rfl rfl zz) ?_
        show own_Goes p e below _ (T3.setTop (mkF m 145 #[.val (.int p0), .val (.int p1), .val (.int p2), .val (.int p3), .val (.int p4), .val (.ref (own_r_pick A p0)), .val (.ref bb), .val (.int (p2 &&& (2147483647 : Int32))), .val (.int oo), .val (.ref h0.size), .val (.int (p4 &&& (3 : Int32))), .unset, .unset] [(.ref h0.size)]))
        refine own_by (fun _ zz => XS.aconstNull X3.here hx rfl (hb hby at_145) zz) ?_
        show own_Goes p e below _ (T3.setTop (mkF m 146 #[.val (.int p0), .val (.int p1), .val (.int p2), .val (.int p3), .val (.int p4), .val (.ref (own_r_pick A p0)), .val (.ref bb), .val (.int (p2 &&& (2147483647 : Int32))), .val (.int oo), .val (.ref h0.size), .val (.int (p4 &&& (3 : Int32))), .unset, .unset] [.null, (.ref h0.size)]))
        refine own_callV0 X3 hx hZ3 (W := 0) (K := "com/example/cartouche/cartouche/Fault") (argsL := [.null]) (rest := []) hown3 (own_w37 hw) (own_w38 hw) (own_w40 hw) (own_w39 hw) (own_w41 hw) (own_w12 hw) (by decide) e3 A3 (rm_eqN l hw W3 h0.size) (by decide) (by decide) (by decide) (by decide) (by rw [hml]; rfl) (lenOf own_pd5 rfl) rfl (Nat.le_of_ble_eq_true rfl) (hb hby at_146) fun T22 X22 e22 => ?_
        show own_Goes p e below _ (T22.setTop (mkF m 149 #[.val (.int p0), .val (.int p1), .val (.int p2), .val (.int p3), .val (.int p4), .val (.ref (own_r_pick A p0)), .val (.ref bb), .val (.int (p2 &&& (2147483647 : Int32))), .val (.int oo), .val (.ref h0.size), .val (.int (p4 &&& (3 : Int32))), .unset, .unset] [(.int (own_r_eqN A h0.size))]))
        refine own_by (fun _ zz => XS.ifNo X22.here hx rfl (hb hby at_149) rfl (XT.i0_ne_f (by unfold own_r_eqN; rfl)) zz) ?_
        show own_Goes p e below _ (T22.setTop (mkF m 152 #[.val (.int p0), .val (.int p1), .val (.int p2), .val (.int p3), .val (.int p4), .val (.ref (own_r_pick A p0)), .val (.ref bb), .val (.int (p2 &&& (2147483647 : Int32))), .val (.int oo), .val (.ref h0.size), .val (.int (p4 &&& (3 : Int32))), .unset, .unset] []))
        refine own_by (fun _ zz => XS.iconst X22.here hx rfl (hb hby at_152) zz) ?_
        show own_Goes p e below _ (T22.setTop (mkF m 153 #[.val (.int p0), .val (.int p1), .val (.int p2), .val (.int p3), .val (.int p4), .val (.ref (own_r_pick A p0)), .val (.ref bb), .val (.int (p2 &&& (2147483647 : Int32))), .val (.int oo), .val (.ref h0.size), .val (.int (p4 &&& (3 : Int32))), .unset, .unset] [(.int (1 : Int32))]))
        refine own_by (fun _ zz => XS.goto X22.here hx rfl (pc0 := 153) (pc' := 157) rfl (hb hby at_153) (by decide) (by decide) zz) ?_
        show own_Goes p e below _ (T22.setTop (mkF m 157 #[.val (.int p0), .val (.int p1), .val (.int p2), .val (.int p3), .val (.int p4), .val (.ref (own_r_pick A p0)), .val (.ref bb), .val (.int (p2 &&& (2147483647 : Int32))), .val (.int oo), .val (.ref h0.size), .val (.int (p4 &&& (3 : Int32))), .unset, .unset] [(.int (1 : Int32))]))
        refine own_retNW X22 hS3 (by rw [e22]; exact hk3) hx hlk (ty := .boolean) hret (by simp) (hb hby at_157) (by decide) (by decide) ?_
        exact ⟨rfl, N3⟩
      · refine own_by (fun _ zz => XS.icmpYes X3.here hx rfl (pc0 := 140) (pc' := 158) rfl (hb hby at_140) rfl (XT.ii_ne_t q21) (by decide) (by decide) zz) ?_
        show own_Goes p e below _ (T3.setTop (mkF m 158 #[.val (.int p0), .val (.int p1), .val (.int p2), .val (.int p3), .val (.int p4), .val (.ref (own_r_pick A p0)), .val (.ref bb), .val (.int (p2 &&& (2147483647 : Int32))), .val (.int oo), .val (.ref h0.size), .val (.int (p4 &&& (3 : Int32))), .unset, .unset] []))
        refine own_by (fun _ zz => XS.iload X3.here hx rfl (hb hby at_158) rfl zz) ?_
        show own_Goes p e below _ (T3.setTop (mkF m 160 #[.val (.int p0), .val (.int p1), .val (.int p2), .val (.int p3), .val (.int p4), .val (.ref (own_r_pick A p0)), .val (.ref bb), .val (.int (p2 &&& (2147483647 : Int32))), .val (.int oo), .val (.ref h0.size), .val (.int (p4 &&& (3 : Int32))), .unset, .unset] [(.int (p4 &&& (3 : Int32)))]))
        refine own_by (fun _ zz => XS.iconst X3.here hx rfl (hb hby at_160) zz) ?_
        show own_Goes p e below _ (T3.setTop (mkF m 161 #[.val (.int p0), .val (.int p1), .val (.int p2), .val (.int p3), .val (.int p4), .val (.ref (own_r_pick A p0)), .val (.ref bb), .val (.int (p2 &&& (2147483647 : Int32))), .val (.int oo), .val (.ref h0.size), .val (.int (p4 &&& (3 : Int32))), .unset, .unset] [(.int (2 : Int32)), (.int (p4 &&& (3 : Int32)))]))
        by_cases q23 : (p4 &&& (3 : Int32)) = (2 : Int32)
        · refine own_by (fun _ zz => XS.icmpNo X3.here hx rfl (hb hby at_161) rfl (XT.ii_ne_f q23) zz) ?_
          show own_Goes p e below _ (T3.setTop (mkF m 164 #[.val (.int p0), .val (.int p1), .val (.int p2), .val (.int p3), .val (.int p4), .val (.ref (own_r_pick A p0)), .val (.ref bb), .val (.int (p2 &&& (2147483647 : Int32))), .val (.int oo), .val (.ref h0.size), .val (.int (p4 &&& (3 : Int32))), .unset, .unset] []))
          refine own_by (fun _ zz => XS.aload X3.here hx rfl (hb hby at_164) rfl rfl zz) ?_
          show own_Goes p e below _ (T3.setTop (mkF m 166 #[.val (.int p0), .val (.int p1), .val (.int p2), .val (.int p3), .val (.int p4), .val (.ref (own_r_pick A p0)), .val (.ref bb), .val (.int (p2 &&& (2147483647 : Int32))), .val (.int oo), .val (.ref h0.size), .val (.int (p4 &&& (3 : Int32))), .unset, .unset] [(.ref h0.size)]))
          refine own_by (fun _ zz => XS.iload X3.here hx rfl (hb hby at_166) rfl zz) ?_
          show own_Goes p e below _ (T3.setTop (mkF m 168 #[.val (.int p0), .val (.int p1), .val (.int p2), .val (.int p3), .val (.int p4), .val (.ref (own_r_pick A p0)), .val (.ref bb), .val (.int (p2 &&& (2147483647 : Int32))), .val (.int oo), .val (.ref h0.size), .val (.int (p4 &&& (3 : Int32))), .unset, .unset] [(.int (p2 &&& (2147483647 : Int32))), (.ref h0.size)]))
          refine own_callS X3 hx hZ3 (W := 1) (argsL := [(.int (p2 &&& (2147483647 : Int32)))]) (rest := [(.ref h0.size)]) hown3 (own_w56 hw) (own_w57 hw) (own_w58 hw) (own_w59 hw) (by decide) e3 (rm_valueOf l hw W3 (p2 &&& (2147483647 : Int32)) H1) (by decide) (by decide) (by decide) (by decide) (by rw [hml]; rfl) (lenOf own_pd6 rfl) rfl (Nat.le_of_ble_eq_true rfl) (hb hby at_168) fun v24 T24 L24 X24 hQ24 => ?_
          obtain ⟨x24, rfl, Nn24, E24, A24⟩ := hQ24
          have EE24 := own_Ext.trans EE3 E24
          have W24 := own_Wext W EE24
          have e24 : T24.heap = T24.heap := rfl
          have N24 := Fr.app N3 (fun y hy => Nat.le_trans EE3.1 (Nn24 y hy))
          have hk24 := Nat.le_trans hk3 E24.1
          have G25 := A3.ext E24
          have G26 := F13.ext E24
          have G27 := F23.ext E24
          show own_Goes p e below _ (T24.setTop (mkF m 171 #[.val (.int p0), .val (.int p1), .val (.int p2), .val (.int p3), .val (.int p4), .val (.ref (own_r_pick A p0)), .val (.ref bb), .val (.int (p2 &&& (2147483647 : Int32))), .val (.int oo), .val (.ref h0.size), .val (.int (p4 &&& (3 : Int32))), .unset, .unset] [(.ref x24), (.ref h0.size)]))
          refine own_callV0 X24 hx hZ3 (W := 0) (K := "com/example/cartouche/cartouche/Fault") (argsL := [(.ref x24)]) (rest := []) hown3 (own_w37 hw) (own_w38 hw) (own_w40 hw) (own_w39 hw) (own_w41 hw) (own_w12 hw) (by decide) e24 G25 (rm_eqI l hw W24 h0.size x24 A24) (by decide) (by decide) (by decide) (by decide) (by rw [hml]; rfl) (lenOf own_pd5 rfl) rfl (Nat.le_of_ble_eq_true rfl) (hb hby at_171) fun T28 X28 e28 => ?_
          show own_Goes p e below _ (T28.setTop (mkF m 174 #[.val (.int p0), .val (.int p1), .val (.int p2), .val (.int p3), .val (.int p4), .val (.ref (own_r_pick A p0)), .val (.ref bb), .val (.int (p2 &&& (2147483647 : Int32))), .val (.int oo), .val (.ref h0.size), .val (.int (p4 &&& (3 : Int32))), .unset, .unset] [(.int (own_r_eqI A h0.size x24))]))
          refine own_by (fun _ zz => XS.ifNo X28.here hx rfl (hb hby at_174) rfl (XT.i0_ne_f (by unfold own_r_eqI; rfl)) zz) ?_
          show own_Goes p e below _ (T28.setTop (mkF m 177 #[.val (.int p0), .val (.int p1), .val (.int p2), .val (.int p3), .val (.int p4), .val (.ref (own_r_pick A p0)), .val (.ref bb), .val (.int (p2 &&& (2147483647 : Int32))), .val (.int oo), .val (.ref h0.size), .val (.int (p4 &&& (3 : Int32))), .unset, .unset] []))
          refine own_by (fun _ zz => XS.iconst X28.here hx rfl (hb hby at_177) zz) ?_
          show own_Goes p e below _ (T28.setTop (mkF m 178 #[.val (.int p0), .val (.int p1), .val (.int p2), .val (.int p3), .val (.int p4), .val (.ref (own_r_pick A p0)), .val (.ref bb), .val (.int (p2 &&& (2147483647 : Int32))), .val (.int oo), .val (.ref h0.size), .val (.int (p4 &&& (3 : Int32))), .unset, .unset] [(.int (1 : Int32))]))
          refine own_by (fun _ zz => XS.goto X28.here hx rfl (pc0 := 178) (pc' := 182) rfl (hb hby at_178) (by decide) (by decide) zz) ?_
          show own_Goes p e below _ (T28.setTop (mkF m 182 #[.val (.int p0), .val (.int p1), .val (.int p2), .val (.int p3), .val (.int p4), .val (.ref (own_r_pick A p0)), .val (.ref bb), .val (.int (p2 &&& (2147483647 : Int32))), .val (.int oo), .val (.ref h0.size), .val (.int (p4 &&& (3 : Int32))), .unset, .unset] [(.int (1 : Int32))]))
          refine own_retNW X28 hS3 (by rw [e28]; exact hk24) hx hlk (ty := .boolean) hret (by simp) (hb hby at_182) (by decide) (by decide) ?_
          exact ⟨rfl, N24⟩
        · refine own_by (fun _ zz => XS.icmpYes X3.here hx rfl (pc0 := 161) (pc' := 183) rfl (hb hby at_161) rfl (XT.ii_ne_t q23) (by decide) (by decide) zz) ?_
          show own_Goes p e below _ (T3.setTop (mkF m 183 #[.val (.int p0), .val (.int p1), .val (.int p2), .val (.int p3), .val (.int p4), .val (.ref (own_r_pick A p0)), .val (.ref bb), .val (.int (p2 &&& (2147483647 : Int32))), .val (.int oo), .val (.ref h0.size), .val (.int (p4 &&& (3 : Int32))), .unset, .unset] []))
          refine own_by (fun _ zz => XS.aload X3.here hx rfl (hb hby at_183) rfl rfl zz) ?_
          show own_Goes p e below _ (T3.setTop (mkF m 185 #[.val (.int p0), .val (.int p1), .val (.int p2), .val (.int p3), .val (.int p4), .val (.ref (own_r_pick A p0)), .val (.ref bb), .val (.int (p2 &&& (2147483647 : Int32))), .val (.int oo), .val (.ref h0.size), .val (.int (p4 &&& (3 : Int32))), .unset, .unset] [(.ref h0.size)]))
          refine own_by (fun _ zz => XS.aload X3.here hx rfl (hb hby at_185) rfl rfl zz) ?_
          show own_Goes p e below _ (T3.setTop (mkF m 187 #[.val (.int p0), .val (.int p1), .val (.int p2), .val (.int p3), .val (.int p4), .val (.ref (own_r_pick A p0)), .val (.ref bb), .val (.int (p2 &&& (2147483647 : Int32))), .val (.int oo), .val (.ref h0.size), .val (.int (p4 &&& (3 : Int32))), .unset, .unset] [(.ref h0.size), (.ref h0.size)]))
          refine own_callV0 X3 hx hZ3 (W := 0) (K := "com/example/cartouche/cartouche/Fault") (argsL := [(.ref h0.size)]) (rest := []) hown3 (own_w37 hw) (own_w38 hw) (own_w40 hw) (own_w39 hw) (own_w41 hw) (own_w12 hw) (by decide) e3 A3 (rm_eqF l hw W3 h0.size h0.size (own_r_pick A p0) (own_r_pick A p0) (p2 &&& (2147483647 : Int32)) (p2 &&& (2147483647 : Int32)) A3 F13 F23 F13 F23) (by decide) (by decide) (by decide) (by decide) (by rw [hml]; rfl) (lenOf own_pd5 rfl) rfl (Nat.le_of_ble_eq_true rfl) (hb hby at_187) fun T29 X29 e29 => ?_
          show own_Goes p e below _ (T29.setTop (mkF m 190 #[.val (.int p0), .val (.int p1), .val (.int p2), .val (.int p3), .val (.int p4), .val (.ref (own_r_pick A p0)), .val (.ref bb), .val (.int (p2 &&& (2147483647 : Int32))), .val (.int oo), .val (.ref h0.size), .val (.int (p4 &&& (3 : Int32))), .unset, .unset] [(.int (own_r_eqF A h0.size h0.size (own_r_pick A p0) (own_r_pick A p0) (p2 &&& (2147483647 : Int32)) (p2 &&& (2147483647 : Int32))))]))
          refine own_retNW X29 hS3 (by rw [e29]; exact hk3) hx hlk (ty := .boolean) hret (by simp) (hb hby at_190) (by decide) (by decide) ?_
          exact ⟨by unfold own_r_eqF; rw [if_pos rfl, if_pos rfl]; rfl, N3⟩
  show own_Goes p e below _ (T1.setTop (mkF m 6 #[.val (.int p0), .val (.int p1), .val (.int p2), .val (.int p3), .val (.int p4), .val (.ref (own_r_pick A p0)), .unset, .unset, .unset, .unset, .unset, .unset, .unset] []))
  refine own_by (fun _ zz => XS.iload X1.here hx rfl (hb hby at_6) rfl zz) ?_
  show own_Goes p e below _ (T1.setTop (mkF m 8 #[.val (.int p0), .val (.int p1), .val (.int p2), .val (.int p3), .val (.int p4), .val (.ref (own_r_pick A p0)), .unset, .unset, .unset, .unset, .unset, .unset, .unset] [(.int p4)]))
  refine own_by (fun _ zz => XS.bipush X1.here hx rfl (hb hby at_8) zz) ?_
  show own_Goes p e below _ (T1.setTop (mkF m 10 #[.val (.int p0), .val (.int p1), .val (.int p2), .val (.int p3), .val (.int p4), .val (.ref (own_r_pick A p0)), .unset, .unset, .unset, .unset, .unset, .unset, .unset] [(.int (8 : Int32)), (.int p4)]))
  refine own_by (fun _ zz => XS.iand X1.here hx rfl (hb hby at_10) rfl zz) ?_
  show own_Goes p e below _ (T1.setTop (mkF m 11 #[.val (.int p0), .val (.int p1), .val (.int p2), .val (.int p3), .val (.int p4), .val (.ref (own_r_pick A p0)), .unset, .unset, .unset, .unset, .unset, .unset, .unset] [(.int (p4 &&& (8 : Int32)))]))
  by_cases q30 : (p4 &&& (8 : Int32)) = 0
  · refine own_by (fun _ zz => XS.ifYes X1.here hx rfl (pc0 := 11) (pc' := 19) rfl (hb hby at_11) rfl (XT.i0_eq_t q30) (by decide) (by decide) zz) ?_
    show own_Goes p e below _ (T1.setTop (mkF m 19 #[.val (.int p0), .val (.int p1), .val (.int p2), .val (.int p3), .val (.int p4), .val (.ref (own_r_pick A p0)), .unset, .unset, .unset, .unset, .unset, .unset, .unset] []))
    refine own_by (fun _ zz => XS.iloadN X1.here hx rfl (hb hby at_19) rfl zz) ?_
    show own_Goes p e below _ (T1.setTop (mkF m 20 #[.val (.int p0), .val (.int p1), .val (.int p2), .val (.int p3), .val (.int p4), .val (.ref (own_r_pick A p0)), .unset, .unset, .unset, .unset, .unset, .unset, .unset] [(.int p1)]))
    refine own_callS0 X1 hx hZ (W := 0) (argsL := [(.int p1)]) (rest := []) hown (own_w0 hw) (own_w1 hw) (own_w2 hw) (own_w3 hw) (by decide) e1 (rm_pick l hw W p1) (by decide) (by decide) (by decide) (by decide) (by rw [hml]; rfl) (lenOf own_pd3 rfl) rfl (Nat.le_of_ble_eq_true rfl) (hb hby at_20) fun T31 X31 e31 => ?_
    show own_Goes p e below _ (T31.setTop (mkF m 23 #[.val (.int p0), .val (.int p1), .val (.int p2), .val (.int p3), .val (.int p4), .val (.ref (own_r_pick A p0)), .unset, .unset, .unset, .unset, .unset, .unset, .unset] [(.ref (own_r_pick A p1))]))
    refine own_by (fun _ zz => XS.astore X31.here hx rfl (hb hby at_23) rfl rfl (l' := #[.val (.int p0), .val (.int p1), .val (.int p2), .val (.int p3), .val (.int p4), .val (.ref (own_r_pick A p0)), .val (.ref (own_r_pick A p1)), .unset, .unset, .unset, .unset, .unset, .unset]) rfl zz) ?_
    show own_Goes p e below _ (T31.setTop (mkF m 25 #[.val (.int p0), .val (.int p1), .val (.int p2), .val (.int p3), .val (.int p4), .val (.ref (own_r_pick A p0)), .val (.ref (own_r_pick A p1)), .unset, .unset, .unset, .unset, .unset, .unset] []))
    refine own_by (fun _ zz => XS.iloadN X31.here hx rfl (hb hby at_25) rfl zz) ?_
    show own_Goes p e below _ (T31.setTop (mkF m 26 #[.val (.int p0), .val (.int p1), .val (.int p2), .val (.int p3), .val (.int p4), .val (.ref (own_r_pick A p0)), .val (.ref (own_r_pick A p1)), .unset, .unset, .unset, .unset, .unset, .unset] [(.int p2)]))
    refine own_by (fun _ zz => X31.ldcI hx hown (mvT hZ (own_w9 hw)) rfl (hb hby at_26) zz) ?_
    show own_Goes p e below _ (T31.setTop (mkF m 28 #[.val (.int p0), .val (.int p1), .val (.int p2), .val (.int p3), .val (.int p4), .val (.ref (own_r_pick A p0)), .val (.ref (own_r_pick A p1)), .unset, .unset, .unset, .unset, .unset, .unset] [(.int (2147483647 : Int32)), (.int p2)]))
    refine own_by (fun _ zz => XS.iand X31.here hx rfl (hb hby at_28) rfl zz) ?_
    show own_Goes p e below _ (T31.setTop (mkF m 29 #[.val (.int p0), .val (.int p1), .val (.int p2), .val (.int p3), .val (.int p4), .val (.ref (own_r_pick A p0)), .val (.ref (own_r_pick A p1)), .unset, .unset, .unset, .unset, .unset, .unset] [(.int (p2 &&& (2147483647 : Int32)))]))
    refine own_by (fun _ zz => XS.istore X31.here hx rfl (hb hby at_29) rfl (l' := #[.val (.int p0), .val (.int p1), .val (.int p2), .val (.int p3), .val (.int p4), .val (.ref (own_r_pick A p0)), .val (.ref (own_r_pick A p1)), .val (.int (p2 &&& (2147483647 : Int32))), .unset, .unset, .unset, .unset, .unset]) rfl zz) ?_
    show own_Goes p e below _ (T31.setTop (mkF m 31 #[.val (.int p0), .val (.int p1), .val (.int p2), .val (.int p3), .val (.int p4), .val (.ref (own_r_pick A p0)), .val (.ref (own_r_pick A p1)), .val (.int (p2 &&& (2147483647 : Int32))), .unset, .unset, .unset, .unset, .unset] []))
    refine own_by (fun _ zz => XS.iload X31.here hx rfl (hb hby at_31) rfl zz) ?_
    show own_Goes p e below _ (T31.setTop (mkF m 33 #[.val (.int p0), .val (.int p1), .val (.int p2), .val (.int p3), .val (.int p4), .val (.ref (own_r_pick A p0)), .val (.ref (own_r_pick A p1)), .val (.int (p2 &&& (2147483647 : Int32))), .unset, .unset, .unset, .unset, .unset] [(.int p4)]))
    refine own_by (fun _ zz => XS.iconst X31.here hx rfl (hb hby at_33) zz) ?_
    show own_Goes p e below _ (T31.setTop (mkF m 34 #[.val (.int p0), .val (.int p1), .val (.int p2), .val (.int p3), .val (.int p4), .val (.ref (own_r_pick A p0)), .val (.ref (own_r_pick A p1)), .val (.int (p2 &&& (2147483647 : Int32))), .unset, .unset, .unset, .unset, .unset] [(.int (4 : Int32)), (.int p4)]))
    refine own_by (fun _ zz => XS.iand X31.here hx rfl (hb hby at_34) rfl zz) ?_
    show own_Goes p e below _ (T31.setTop (mkF m 35 #[.val (.int p0), .val (.int p1), .val (.int p2), .val (.int p3), .val (.int p4), .val (.ref (own_r_pick A p0)), .val (.ref (own_r_pick A p1)), .val (.int (p2 &&& (2147483647 : Int32))), .unset, .unset, .unset, .unset, .unset] [(.int (p4 &&& (4 : Int32)))]))
    by_cases q32 : (p4 &&& (4 : Int32)) = 0
    · refine own_by (fun _ zz => XS.ifYes X31.here hx rfl (pc0 := 35) (pc' := 43) rfl (hb hby at_35) rfl (XT.i0_eq_t q32) (by decide) (by decide) zz) ?_
      show own_Goes p e below _ (T31.setTop (mkF m 43 #[.val (.int p0), .val (.int p1), .val (.int p2), .val (.int p3), .val (.int p4), .val (.ref (own_r_pick A p0)), .val (.ref (own_r_pick A p1)), .val (.int (p2 &&& (2147483647 : Int32))), .unset, .unset, .unset, .unset, .unset] []))
      refine own_by (fun _ zz => XS.iloadN X31.here hx rfl (hb hby at_43) rfl zz) ?_
      show own_Goes p e below _ (T31.setTop (mkF m 44 #[.val (.int p0), .val (.int p1), .val (.int p2), .val (.int p3), .val (.int p4), .val (.ref (own_r_pick A p0)), .val (.ref (own_r_pick A p1)), .val (.int (p2 &&& (2147483647 : Int32))), .unset, .unset, .unset, .unset, .unset] [(.int p3)]))
      refine own_by (fun _ zz => X31.ldcI hx hown (mvT hZ (own_w9 hw)) rfl (hb hby at_44) zz) ?_
      show own_Goes p e below _ (T31.setTop (mkF m 46 #[.val (.int p0), .val (.int p1), .val (.int p2), .val (.int p3), .val (.int p4), .val (.ref (own_r_pick A p0)), .val (.ref (own_r_pick A p1)), .val (.int (p2 &&& (2147483647 : Int32))), .unset, .unset, .unset, .unset, .unset] [(.int (2147483647 : Int32)), (.int p3)]))
      refine own_by (fun _ zz => XS.iand X31.here hx rfl (hb hby at_46) rfl zz) ?_
      show own_Goes p e below _ (T31.setTop (mkF m 47 #[.val (.int p0), .val (.int p1), .val (.int p2), .val (.int p3), .val (.int p4), .val (.ref (own_r_pick A p0)), .val (.ref (own_r_pick A p1)), .val (.int (p2 &&& (2147483647 : Int32))), .unset, .unset, .unset, .unset, .unset] [(.int (p3 &&& (2147483647 : Int32)))]))
      refine own_by (fun _ zz => XS.istore X31.here hx rfl (hb hby at_47) rfl (l' := #[.val (.int p0), .val (.int p1), .val (.int p2), .val (.int p3), .val (.int p4), .val (.ref (own_r_pick A p0)), .val (.ref (own_r_pick A p1)), .val (.int (p2 &&& (2147483647 : Int32))), .val (.int (p3 &&& (2147483647 : Int32))), .unset, .unset, .unset, .unset]) rfl zz) ?_
      show own_Goes p e below _ (T31.setTop (mkF m 49 #[.val (.int p0), .val (.int p1), .val (.int p2), .val (.int p3), .val (.int p4), .val (.ref (own_r_pick A p0)), .val (.ref (own_r_pick A p1)), .val (.int (p2 &&& (2147483647 : Int32))), .val (.int (p3 &&& (2147483647 : Int32))), .unset, .unset, .unset, .unset] []))
      exact key49 (own_r_pick A p1) (p3 &&& (2147483647 : Int32)) _ (own_pk W p1) (own_nn p3) X31 e31
    · refine own_by (fun _ zz => XS.ifNo X31.here hx rfl (hb hby at_35) rfl (XT.i0_eq_f q32) zz) ?_
      show own_Goes p e below _ (T31.setTop (mkF m 38 #[.val (.int p0), .val (.int p1), .val (.int p2), .val (.int p3), .val (.int p4), .val (.ref (own_r_pick A p0)), .val (.ref (own_r_pick A p1)), .val (.int (p2 &&& (2147483647 : Int32))), .unset, .unset, .unset, .unset, .unset] []))
      refine own_by (fun _ zz => XS.iload X31.here hx rfl (hb hby at_38) rfl zz) ?_
      show own_Goes p e below _ (T31.setTop (mkF m 40 #[.val (.int p0), .val (.int p1), .val (.int p2), .val (.int p3), .val (.int p4), .val (.ref (own_r_pick A p0)), .val (.ref (own_r_pick A p1)), .val (.int (p2 &&& (2147483647 : Int32))), .unset, .unset, .unset, .unset, .unset] [(.int (p2 &&& (2147483647 : Int32)))]))
      refine own_by (fun _ zz => XS.goto X31.here hx rfl (pc0 := 40) (pc' := 47) rfl (hb hby at_40) (by decide) (by decide) zz) ?_
      show own_Goes p e below _ (T31.setTop (mkF m 47 #[.val (.int p0), .val (.int p1), .val (.int p2), .val (.int p3), .val (.int p4), .val (.ref (own_r_pick A p0)), .val (.ref (own_r_pick A p1)), .val (.int (p2 &&& (2147483647 : Int32))), .unset, .unset, .unset, .unset, .unset] [(.int (p2 &&& (2147483647 : Int32)))]))
      refine own_by (fun _ zz => XS.istore X31.here hx rfl (hb hby at_47) rfl (l' := #[.val (.int p0), .val (.int p1), .val (.int p2), .val (.int p3), .val (.int p4), .val (.ref (own_r_pick A p0)), .val (.ref (own_r_pick A p1)), .val (.int (p2 &&& (2147483647 : Int32))), .val (.int (p2 &&& (2147483647 : Int32))), .unset, .unset, .unset, .unset]) rfl zz) ?_
      show own_Goes p e below _ (T31.setTop (mkF m 49 #[.val (.int p0), .val (.int p1), .val (.int p2), .val (.int p3), .val (.int p4), .val (.ref (own_r_pick A p0)), .val (.ref (own_r_pick A p1)), .val (.int (p2 &&& (2147483647 : Int32))), .val (.int (p2 &&& (2147483647 : Int32))), .unset, .unset, .unset, .unset] []))
      exact key49 (own_r_pick A p1) (p2 &&& (2147483647 : Int32)) _ (own_pk W p1) H1 X31 e31
  · refine own_by (fun _ zz => XS.ifNo X1.here hx rfl (hb hby at_11) rfl (XT.i0_eq_f q30) zz) ?_
    show own_Goes p e below _ (T1.setTop (mkF m 14 #[.val (.int p0), .val (.int p1), .val (.int p2), .val (.int p3), .val (.int p4), .val (.ref (own_r_pick A p0)), .unset, .unset, .unset, .unset, .unset, .unset, .unset] []))
    refine own_by (fun _ zz => XS.aload X1.here hx rfl (hb hby at_14) rfl rfl zz) ?_
    show own_Goes p e below _ (T1.setTop (mkF m 16 #[.val (.int p0), .val (.int p1), .val (.int p2), .val (.int p3), .val (.int p4), .val (.ref (own_r_pick A p0)), .unset, .unset, .unset, .unset, .unset, .unset, .unset] [(.ref (own_r_pick A p0))]))
    refine own_by (fun _ zz => XS.goto X1.here hx rfl (pc0 := 16) (pc' := 23) rfl (hb hby at_16) (by decide) (by decide) zz) ?_
    show own_Goes p e below _ (T1.setTop (mkF m 23 #[.val (.int p0), .val (.int p1), .val (.int p2), .val (.int p3), .val (.int p4), .val (.ref (own_r_pick A p0)), .unset, .unset, .unset, .unset, .unset, .unset, .unset] [(.ref (own_r_pick A p0))]))
    refine own_by (fun _ zz => XS.astore X1.here hx rfl (hb hby at_23) rfl rfl (l' := #[.val (.int p0), .val (.int p1), .val (.int p2), .val (.int p3), .val (.int p4), .val (.ref (own_r_pick A p0)), .val (.ref (own_r_pick A p0)), .unset, .unset, .unset, .unset, .unset, .unset]) rfl zz) ?_
    show own_Goes p e below _ (T1.setTop (mkF m 25 #[.val (.int p0), .val (.int p1), .val (.int p2), .val (.int p3), .val (.int p4), .val (.ref (own_r_pick A p0)), .val (.ref (own_r_pick A p0)), .unset, .unset, .unset, .unset, .unset, .unset] []))
    refine own_by (fun _ zz => XS.iloadN X1.here hx rfl (hb hby at_25) rfl zz) ?_
    show own_Goes p e below _ (T1.setTop (mkF m 26 #[.val (.int p0), .val (.int p1), .val (.int p2), .val (.int p3), .val (.int p4), .val (.ref (own_r_pick A p0)), .val (.ref (own_r_pick A p0)), .unset, .unset, .unset, .unset, .unset, .unset] [(.int p2)]))
    refine own_by (fun _ zz => X1.ldcI hx hown (mvT hZ (own_w9 hw)) rfl (hb hby at_26) zz) ?_
    show own_Goes p e below _ (T1.setTop (mkF m 28 #[.val (.int p0), .val (.int p1), .val (.int p2), .val (.int p3), .val (.int p4), .val (.ref (own_r_pick A p0)), .val (.ref (own_r_pick A p0)), .unset, .unset, .unset, .unset, .unset, .unset] [(.int (2147483647 : Int32)), (.int p2)]))
    refine own_by (fun _ zz => XS.iand X1.here hx rfl (hb hby at_28) rfl zz) ?_
    show own_Goes p e below _ (T1.setTop (mkF m 29 #[.val (.int p0), .val (.int p1), .val (.int p2), .val (.int p3), .val (.int p4), .val (.ref (own_r_pick A p0)), .val (.ref (own_r_pick A p0)), .unset, .unset, .unset, .unset, .unset, .unset] [(.int (p2 &&& (2147483647 : Int32)))]))
    refine own_by (fun _ zz => XS.istore X1.here hx rfl (hb hby at_29) rfl (l' := #[.val (.int p0), .val (.int p1), .val (.int p2), .val (.int p3), .val (.int p4), .val (.ref (own_r_pick A p0)), .val (.ref (own_r_pick A p0)), .val (.int (p2 &&& (2147483647 : Int32))), .unset, .unset, .unset, .unset, .unset]) rfl zz) ?_
    show own_Goes p e below _ (T1.setTop (mkF m 31 #[.val (.int p0), .val (.int p1), .val (.int p2), .val (.int p3), .val (.int p4), .val (.ref (own_r_pick A p0)), .val (.ref (own_r_pick A p0)), .val (.int (p2 &&& (2147483647 : Int32))), .unset, .unset, .unset, .unset, .unset] []))
    refine own_by (fun _ zz => XS.iload X1.here hx rfl (hb hby at_31) rfl zz) ?_
    show own_Goes p e below _ (T1.setTop (mkF m 33 #[.val (.int p0), .val (.int p1), .val (.int p2), .val (.int p3), .val (.int p4), .val (.ref (own_r_pick A p0)), .val (.ref (own_r_pick A p0)), .val (.int (p2 &&& (2147483647 : Int32))), .unset, .unset, .unset, .unset, .unset] [(.int p4)]))
    refine own_by (fun _ zz => XS.iconst X1.here hx rfl (hb hby at_33) zz) ?_
    show own_Goes p e below _ (T1.setTop (mkF m 34 #[.val (.int p0), .val (.int p1), .val (.int p2), .val (.int p3), .val (.int p4), .val (.ref (own_r_pick A p0)), .val (.ref (own_r_pick A p0)), .val (.int (p2 &&& (2147483647 : Int32))), .unset, .unset, .unset, .unset, .unset] [(.int (4 : Int32)), (.int p4)]))
    refine own_by (fun _ zz => XS.iand X1.here hx rfl (hb hby at_34) rfl zz) ?_
    show own_Goes p e below _ (T1.setTop (mkF m 35 #[.val (.int p0), .val (.int p1), .val (.int p2), .val (.int p3), .val (.int p4), .val (.ref (own_r_pick A p0)), .val (.ref (own_r_pick A p0)), .val (.int (p2 &&& (2147483647 : Int32))), .unset, .unset, .unset, .unset, .unset] [(.int (p4 &&& (4 : Int32)))]))
    by_cases q33 : (p4 &&& (4 : Int32)) = 0
    · refine own_by (fun _ zz => XS.ifYes X1.here hx rfl (pc0 := 35) (pc' := 43) rfl (hb hby at_35) rfl (XT.i0_eq_t q33) (by decide) (by decide) zz) ?_
      show own_Goes p e below _ (T1.setTop (mkF m 43 #[.val (.int p0), .val (.int p1), .val (.int p2), .val (.int p3), .val (.int p4), .val (.ref (own_r_pick A p0)), .val (.ref (own_r_pick A p0)), .val (.int (p2 &&& (2147483647 : Int32))), .unset, .unset, .unset, .unset, .unset] []))
      refine own_by (fun _ zz => XS.iloadN X1.here hx rfl (hb hby at_43) rfl zz) ?_
      show own_Goes p e below _ (T1.setTop (mkF m 44 #[.val (.int p0), .val (.int p1), .val (.int p2), .val (.int p3), .val (.int p4), .val (.ref (own_r_pick A p0)), .val (.ref (own_r_pick A p0)), .val (.int (p2 &&& (2147483647 : Int32))), .unset, .unset, .unset, .unset, .unset] [(.int p3)]))
      refine own_by (fun _ zz => X1.ldcI hx hown (mvT hZ (own_w9 hw)) rfl (hb hby at_44) zz) ?_
      show own_Goes p e below _ (T1.setTop (mkF m 46 #[.val (.int p0), .val (.int p1), .val (.int p2), .val (.int p3), .val (.int p4), .val (.ref (own_r_pick A p0)), .val (.ref (own_r_pick A p0)), .val (.int (p2 &&& (2147483647 : Int32))), .unset, .unset, .unset, .unset, .unset] [(.int (2147483647 : Int32)), (.int p3)]))
      refine own_by (fun _ zz => XS.iand X1.here hx rfl (hb hby at_46) rfl zz) ?_
      show own_Goes p e below _ (T1.setTop (mkF m 47 #[.val (.int p0), .val (.int p1), .val (.int p2), .val (.int p3), .val (.int p4), .val (.ref (own_r_pick A p0)), .val (.ref (own_r_pick A p0)), .val (.int (p2 &&& (2147483647 : Int32))), .unset, .unset, .unset, .unset, .unset] [(.int (p3 &&& (2147483647 : Int32)))]))
      refine own_by (fun _ zz => XS.istore X1.here hx rfl (hb hby at_47) rfl (l' := #[.val (.int p0), .val (.int p1), .val (.int p2), .val (.int p3), .val (.int p4), .val (.ref (own_r_pick A p0)), .val (.ref (own_r_pick A p0)), .val (.int (p2 &&& (2147483647 : Int32))), .val (.int (p3 &&& (2147483647 : Int32))), .unset, .unset, .unset, .unset]) rfl zz) ?_
      show own_Goes p e below _ (T1.setTop (mkF m 49 #[.val (.int p0), .val (.int p1), .val (.int p2), .val (.int p3), .val (.int p4), .val (.ref (own_r_pick A p0)), .val (.ref (own_r_pick A p0)), .val (.int (p2 &&& (2147483647 : Int32))), .val (.int (p3 &&& (2147483647 : Int32))), .unset, .unset, .unset, .unset] []))
      exact key49 (own_r_pick A p0) (p3 &&& (2147483647 : Int32)) _ ER (own_nn p3) X1 e1
    · refine own_by (fun _ zz => XS.ifNo X1.here hx rfl (hb hby at_35) rfl (XT.i0_eq_f q33) zz) ?_
      show own_Goes p e below _ (T1.setTop (mkF m 38 #[.val (.int p0), .val (.int p1), .val (.int p2), .val (.int p3), .val (.int p4), .val (.ref (own_r_pick A p0)), .val (.ref (own_r_pick A p0)), .val (.int (p2 &&& (2147483647 : Int32))), .unset, .unset, .unset, .unset, .unset] []))
      refine own_by (fun _ zz => XS.iload X1.here hx rfl (hb hby at_38) rfl zz) ?_
      show own_Goes p e below _ (T1.setTop (mkF m 40 #[.val (.int p0), .val (.int p1), .val (.int p2), .val (.int p3), .val (.int p4), .val (.ref (own_r_pick A p0)), .val (.ref (own_r_pick A p0)), .val (.int (p2 &&& (2147483647 : Int32))), .unset, .unset, .unset, .unset, .unset] [(.int (p2 &&& (2147483647 : Int32)))]))
      refine own_by (fun _ zz => XS.goto X1.here hx rfl (pc0 := 40) (pc' := 47) rfl (hb hby at_40) (by decide) (by decide) zz) ?_
      show own_Goes p e below _ (T1.setTop (mkF m 47 #[.val (.int p0), .val (.int p1), .val (.int p2), .val (.int p3), .val (.int p4), .val (.ref (own_r_pick A p0)), .val (.ref (own_r_pick A p0)), .val (.int (p2 &&& (2147483647 : Int32))), .unset, .unset, .unset, .unset, .unset] [(.int (p2 &&& (2147483647 : Int32)))]))
      refine own_by (fun _ zz => XS.istore X1.here hx rfl (hb hby at_47) rfl (l' := #[.val (.int p0), .val (.int p1), .val (.int p2), .val (.int p3), .val (.int p4), .val (.ref (own_r_pick A p0)), .val (.ref (own_r_pick A p0)), .val (.int (p2 &&& (2147483647 : Int32))), .val (.int (p2 &&& (2147483647 : Int32))), .unset, .unset, .unset, .unset]) rfl zz) ?_
      show own_Goes p e below _ (T1.setTop (mkF m 49 #[.val (.int p0), .val (.int p1), .val (.int p2), .val (.int p3), .val (.int p4), .val (.ref (own_r_pick A p0)), .val (.ref (own_r_pick A p0)), .val (.int (p2 &&& (2147483647 : Int32))), .val (.int (p2 &&& (2147483647 : Int32))), .unset, .unset, .unset, .unset] []))
      exact key49 (own_r_pick A p0) (p2 &&& (2147483647 : Int32)) _ ER H1 X1 e1
set_option maxRecDepth 65536 in
set_option maxHeartbeats 40000000 in
theorem comes_1 {Post : Tables → Env → Array Value → State → Outcome → State → Prop} (hpost : ∀ tb e args s v u, (limb_1_1.after args s (.returned v) u = true ∧ limb_1_2.after args s (.returned v) u = true ∧ True) → ReturnedEndW s (.returned v) u (Jvm.fieldLocs frame_1_writes args s ++ Jvm.arrayLocs frame_1_arrays args s ++ Jvm.staticLocs frame_1_statics s) 16 1152 → Post tb e args s (.returned v) u) :
    ArmFor flags0 classFile x code maxLocals ret World_1 tables_1 room_1 Calls_1 rest_1 Pre_1 Post := by
  intro l hfl _ _ p e ha hc hk s m args below hf hA hF happ hP
  obtain ⟨hcalls, hrest, hpre⟩ := hP
  obtain ⟨-, -, -, hnamed, -, -, -, hat⟩ := (Spec.applies_iff hf).mp happ
  obtain ⟨hg, hn⟩ := and_e (Cond.before_iff.mp (show (Jvm.Cond.and given_1 narrow_1).before args s = true from hpre))
  obtain ⟨g0, hg0⟩ := and_e hg
  obtain ⟨i0, hg1⟩ := and_e hg0
  obtain ⟨i1, hg2⟩ := and_e hg1
  obtain ⟨i2, hg3⟩ := and_e hg2
  obtain ⟨i3, hg4⟩ := and_e hg3
  obtain ⟨w0, w1, w2, w3, w4, rfl⟩ : ∃ w0 w1 w2 w3 w4 : Value, args = #[w0, w1, w2, w3, w4] := by
    have hs : args.size = 5 := by simpa [Cond.value, given_1] using g0
    obtain ⟨L⟩ := args
    match L, hs with
    | [w0, w1, w2, w3, w4], _ => exact ⟨w0, w1, w2, w3, w4, rfl⟩
  have hw := fun d (hd : d ∈ tables_1) => atoms_spec (ws := Jvm.Cond.code x code maxLocals ret :: tables_1) hat d (List.mem_cons_of_mem _ hd)
  obtain ⟨j0, y0⟩ := is_v i0
  obtain rfl : w0 = (.int j0) := Option.some.inj y0
  obtain ⟨j1, y1⟩ := is_v i1
  obtain rfl : w1 = (.int j1) := Option.some.inj y1
  obtain ⟨j2, y2⟩ := is_v i2
  obtain rfl : w2 = (.int j2) := Option.some.inj y2
  obtain ⟨j3, y3⟩ := is_v i3
  obtain rfl : w3 = (.int j3) := Option.some.inj y3
  obtain ⟨j4, y4⟩ := is_v hg4
  obtain rfl : w4 = (.int j4) := Option.some.inj y4
  obtain ⟨A, W⟩ := own_world hw hn hrest
  obtain ⟨n, o, h1, h2, h3, _, L, rfl, ⟨rfl, NN⟩, hq⟩ := rm_law l hw tables_1 W j0 j1 j2 j3 j4 p e ha hc hk s m _ below hf ((Spec.applies_iff_loose hf).mp happ).1 ⟨rfl, State.Warmed39.refl s, rfl⟩ trivial
  refine ⟨n, _, h1, h2, h3, hpost _ _ _ _ _ _ ⟨Cond.after_iff.mpr rfl, Cond.after_iff.mpr (eq_i res_at (Term.int_eval (1)) rfl), trivial⟩ ⟨hq.1, hq.2.1, hq.2.2.1, (hq.2.2.2.sift fun y hy => Or.inr (NN y hy)).mono (by decide) (by decide)⟩⟩
theorem main_1_1 : Claimed_1_1 := comes_1 fun _ _ _ _ _ _ h hF => ⟨h.1, hF⟩
theorem main_1_2 : Claimed_1_2 := comes_1 fun _ _ _ _ _ _ h hF => ⟨h.2.1, hF⟩
end Jvm.Pilot.@@N@@
namespace Jvm.Pilot.@@N@@
open Jvm Jvm.ClassFile Sem Op Lib Jvm.Free Jvm.Stand Jvm.Pilot.@@N@@.Jvm.D
/-! MADE BY PROGRAM (witnessworld.py) out of the Statement's table words and the real class files: 22 classes; the members and pool entries that the words name. The judged class is class 1, her method 2. -/
namespace start1
open Jvm.ClassFile
def u (s : String) : CpInfo := .utf8 (stringToUtf16 s)
/-- a pool by its gaps: so many unusable entries, then the entry; so many at the end -/
def gap : Nat → List CpInfo → List CpInfo
  | 0, r => r
  | n + 1, r => .unusable :: gap n r
def poolList (es : List (Nat × CpInfo)) (last : Nat) : List CpInfo := es.foldr (fun e r => gap e.1 (e.2 :: r)) (gap last [])
def pool (es : List (Nat × CpInfo)) (last : Nat) : Array CpInfo := ⟨poolList es last⟩
def fileOf (pool : Array CpInfo) (this : Nat) (attrs : Array Attribute := #[]) (ms : Array MethodInfo := #[]) (fl : Nat := 33) (sup : Nat := 0) (ifs : Array Nat := #[]) (fds : Array FieldInfo := #[]) : ClassFile where
  minorVersion := 0
  majorVersion := 65
  constantPool := pool
  accessFlags := fl
  thisClass := this
  superClass := sup
  interfaces := ifs
  fields := fds
  methods := ms
  attributes := attrs
def plain (name : String) (sup : Option ClassId) : Class where
  name := name
  kind := .ordinary
  loader := none
  accessFlags := 33
  super := sup
  interfaces := #[]
  cf := none
  fields := #[]
  methods := #[]
  instanceTypes := #[]
  staticTypes := #[]
  resolved := #[]
  callSites := []
  init := .initialized
  statics := none
  mirror := none

def pool0 : Array CpInfo := pool [(5, u "<init>"), (0, u "()V"), (1, .class_ 10), (1, u "java/lang/Object")] 113

def k0c0 : Code := { maxStack := 0, maxLocals := 1, code := object_method_1_code, exceptionTable := #[], attributes := #[] }
def k0m0 : Method := { name := "<init>", desc := "()V", sig := { parameters := [], returnType := none }, accessFlags := 1, code := some k0c0 }
/-- java/lang/Object -/
def k0 : Class := { plain "java/lang/Object" none with
  accessFlags := 33
  interfaces := #[]
  cf := some (fileOf pool0 8 #[] #[{ accessFlags := 1, nameIndex := 5, descriptorIndex := 6, attributes := #[] }] 33 0 #[] #[])
  fields := #[]
  methods := #[k0m0]
  instanceTypes := #[]
  staticTypes := #[]
  resolved := Array.replicate 124 none
  statics := none }

def pool1 : Array CpInfo := pool [(2, .class_ 4), (1, u "java/lang/Object"), (0, u "<init>"), (0, u "()V"), (0, .fieldref 8 9), (0, .class_ 10), (0, .nameAndType 11 12), (0, u "com/example/cartouche/cartouche/Rule"), (0, u "CARRIER_CODE"), (0, u "Lcom/example/cartouche/cartouche/Rule;"), (0, .fieldref 8 14), (0, .nameAndType 15 12), (0, u "HEADER"), (0, .fieldref 8 17), (0, .nameAndType 18 12), (0, u "FORMAT_BLOCKED"), (0, .fieldref 8 20), (0, .nameAndType 21 12), (0, u "AI_VALUE"), (0, .fieldref 8 23), (0, .nameAndType 24 12), (0, u "FIELD_LENGTH"), (0, .fieldref 8 26), (0, .nameAndType 27 12), (0, u "JSON_TEXT"), (0, .fieldref 8 29), (0, .nameAndType 30 12), (0, u "TRAILER"), (0, .fieldref 8 32), (0, .nameAndType 33 12), (0, u "AFTER_TRAILER"), (0, .methodref 35 36), (0, .class_ 37), (0, .nameAndType 38 39), (0, u "com/example/cartouche/cartouche/FaultEqualsPinLaw"), (0, u "pick"), (0, u "(I)Lcom/example/cartouche/cartouche/Rule;"), (0, .integer 2147483647), (0, .class_ 42), (0, u "com/example/cartouche/cartouche/Fault"), (0, .methodref 41 44), (0, .nameAndType 5 45), (0, u "(Lcom/example/cartouche/cartouche/Rule;I)V"), (0, .methodref 41 47), (0, .nameAndType 48 49), (0, u "equals"), (0, u "(Ljava/lang/Object;)Z"), (0, .methodref 51 52), (0, .class_ 53), (0, .nameAndType 54 55), (0, u "java/lang/Integer"), (0, u "valueOf"), (0, u "(I)Ljava/lang/Integer;"), (3, u "law"), (0, u "(IIIII)Z")] 2

def k1m0 : Method := { name := "<init>", desc := "()V", sig := { parameters := [], returnType := none }, accessFlags := 1, code := none }
def k1c1 : Code := { maxStack := 2, maxLocals := 2, code := method_2_code, exceptionTable := #[], attributes := #[] }
def k1m1 : Method := { name := "pick", desc := "(I)Lcom/example/cartouche/cartouche/Rule;", sig := { parameters := [.int], returnType := some (.object "com/example/cartouche/cartouche/Rule") }, accessFlags := 10, code := some k1c1 }
def k1c2 : Code := { maxStack := 4, maxLocals := 13, code := code, exceptionTable := #[], attributes := #[] }
def k1m2 : Method := { name := "law", desc := "(IIIII)Z", sig := { parameters := [.int, .int, .int, .int, .int], returnType := some .boolean }, accessFlags := 9, code := some k1c2 }
/-- com/example/cartouche/cartouche/FaultEqualsPinLaw -/
def k1 : Class := { plain "com/example/cartouche/cartouche/FaultEqualsPinLaw" (some 0) with
  accessFlags := 49
  interfaces := #[]
  cf := some (fileOf pool1 35 #[] #[{ accessFlags := 1, nameIndex := 5, descriptorIndex := 6, attributes := #[] }, { accessFlags := 10, nameIndex := 38, descriptorIndex := 39, attributes := #[] }, { accessFlags := 9, nameIndex := 59, descriptorIndex := 60, attributes := #[] }] 49 2 #[] #[])
  fields := #[]
  methods := #[k1m0, k1m1, k1m2]
  instanceTypes := #[]
  staticTypes := #[]
  resolved := Array.replicate 63 none
  statics := none }

def pool2 : Array CpInfo := pool [(1, .class_ 2), (0, u "java/lang/constant/Constable"), (0, .class_ 4), (0, u "java/lang/Object")] 6

/-- java/lang/constant/Constable -/
def k2 : Class := { plain "java/lang/constant/Constable" (some 0) with
  accessFlags := 1537
  interfaces := #[]
  cf := some (fileOf pool2 1 #[] #[] 1537 3 #[] #[])
  fields := #[]
  methods := #[]
  instanceTypes := #[]
  staticTypes := #[]
  resolved := Array.replicate 11 none
  statics := none }

def pool3 : Array CpInfo := pool [(1, .class_ 2), (0, u "java/lang/Comparable"), (0, .class_ 4), (0, u "java/lang/Object")] 7

/-- java/lang/Comparable -/
def k3 : Class := { plain "java/lang/Comparable" (some 0) with
  accessFlags := 1537
  interfaces := #[]
  cf := some (fileOf pool3 1 #[] #[] 1537 3 #[] #[])
  fields := #[]
  methods := #[]
  instanceTypes := #[]
  staticTypes := #[]
  resolved := Array.replicate 12 none
  statics := none }

def pool4 : Array CpInfo := pool [(1, .class_ 2), (0, u "java/io/Serializable"), (0, .class_ 4), (0, u "java/lang/Object")] 2

/-- java/io/Serializable -/
def k4 : Class := { plain "java/io/Serializable" (some 0) with
  accessFlags := 1537
  interfaces := #[]
  cf := some (fileOf pool4 1 #[] #[] 1537 3 #[] #[])
  fields := #[]
  methods := #[]
  instanceTypes := #[]
  staticTypes := #[]
  resolved := Array.replicate 7 none
  statics := none }

def pool5 : Array CpInfo := pool [(2, .class_ 4), (1, u "java/lang/Enum"), (0, u "name"), (0, u "Ljava/lang/String;"), (2, u "ordinal"), (0, u "I"), (1, .class_ 14), (1, u "java/lang/Object"), (4, u "hash"), (86, .class_ 108), (1, u "java/lang/Enum$EnumDesc"), (2, .class_ 112), (0, u "java/lang/constant/Constable"), (0, .class_ 114), (0, u "java/lang/Comparable"), (0, .class_ 116), (0, u "java/io/Serializable")] 87

/-- java/lang/Enum -/
def k5 : Class := { plain "java/lang/Enum" (some 0) with
  accessFlags := 1057
  interfaces := #[2, 3, 4]
  cf := some (fileOf pool5 2 #[.nestMembers #[106]] #[] 1057 12 #[111, 113, 115] #[{ accessFlags := 18, nameIndex := 5, descriptorIndex := 6, attributes := #[] }, { accessFlags := 18, nameIndex := 9, descriptorIndex := 10, attributes := #[] }, { accessFlags := 2, nameIndex := 19, descriptorIndex := 10, attributes := #[] }])
  fields := #[{ name := "name", type := (.object "java/lang/String"), accessFlags := 18, slot := 0, constantValue := 0 }, { name := "ordinal", type := .int, accessFlags := 18, slot := 1, constantValue := 0 }, { name := "hash", type := .int, accessFlags := 2, slot := 2, constantValue := 0 }]
  methods := #[]
  instanceTypes := #[(.object "java/lang/String"), .int, .int]
  staticTypes := #[]
  resolved := Array.replicate 204 none
  statics := none }

def pool6 : Array CpInfo := pool [(1, .class_ 2), (0, u "com/example/cartouche/cartouche/Rule"), (2, u "CARRIER_CODE"), (0, u "Lcom/example/cartouche/cartouche/Rule;"), (2, u "CARRIER_MODIFIER"), (2, u "HEADER"), (2, u "FORMAT_INDICATOR"), (2, u "FORMAT_RESERVED"), (2, u "FORMAT_BLOCKED"), (2, u "FORMAT_ORDER"), (2, u "FORMAT_ALONE"), (2, u "FORMAT_HEADER"), (2, u "TRANSPORT_VERSION"), (2, u "BINARY_HEADER"), (2, u "BINARY_LENGTH"), (2, u "SEGMENT_TAG"), (2, u "SEGMENT_TERMINATOR"), (2, u "EDI_INTERCHANGE"), (2, u "DATA_IDENTIFIER"), (2, u "AI_UNKNOWN"), (2, u "AI_VALUE"), (2, u "AI_PAIRING"), (2, u "FIELD_LENGTH"), (2, u "FIELD_CHARACTERS"), (2, u "FIELD_COUNT"), (2, u "FIELD_ID"), (2, u "JSON_TEXT"), (2, u "EMPTY_ELEMENT"), (2, u "TRAILING_SEPARATOR"), (2, u "CONTROL_CHARACTER"), (2, u "CHARACTER_SET"), (2, u "FORMAT_TRAILER"), (2, u "TRAILER"), (2, u "AFTER_TRAILER"), (2, u "$VALUES"), (0, u "[Lcom/example/cartouche/cartouche/Rule;"), (6, .class_ 109), (1, u "java/lang/Enum"), (8, u "id"), (0, u "Ljava/lang/String;"), (2, u "description")] 175

/-- com/example/cartouche/cartouche/Rule -/
def k6 : Class := { plain "com/example/cartouche/cartouche/Rule" (some 5) with
  accessFlags := 16433
  interfaces := #[]
  cf := some (fileOf pool6 1 #[] #[] 16433 107 #[] #[{ accessFlags := 16409, nameIndex := 5, descriptorIndex := 6, attributes := #[] }, { accessFlags := 16409, nameIndex := 9, descriptorIndex := 6, attributes := #[] }, { accessFlags := 16409, nameIndex := 12, descriptorIndex := 6, attributes := #[] }, { accessFlags := 16409, nameIndex := 15, descriptorIndex := 6, attributes := #[] }, { accessFlags := 16409, nameIndex := 18, descriptorIndex := 6, attributes := #[] }, { accessFlags := 16409, nameIndex := 21, descriptorIndex := 6, attributes := #[] }, { accessFlags := 16409, nameIndex := 24, descriptorIndex := 6, attributes := #[] }, { accessFlags := 16409, nameIndex := 27, descriptorIndex := 6, attributes := #[] }, { accessFlags := 16409, nameIndex := 30, descriptorIndex := 6, attributes := #[] }, { accessFlags := 16409, nameIndex := 33, descriptorIndex := 6, attributes := #[] }, { accessFlags := 16409, nameIndex := 36, descriptorIndex := 6, attributes := #[] }, { accessFlags := 16409, nameIndex := 39, descriptorIndex := 6, attributes := #[] }, { accessFlags := 16409, nameIndex := 42, descriptorIndex := 6, attributes := #[] }, { accessFlags := 16409, nameIndex := 45, descriptorIndex := 6, attributes := #[] }, { accessFlags := 16409, nameIndex := 48, descriptorIndex := 6, attributes := #[] }, { accessFlags := 16409, nameIndex := 51, descriptorIndex := 6, attributes := #[] }, { accessFlags := 16409, nameIndex := 54, descriptorIndex := 6, attributes := #[] }, { accessFlags := 16409, nameIndex := 57, descriptorIndex := 6, attributes := #[] }, { accessFlags := 16409, nameIndex := 60, descriptorIndex := 6, attributes := #[] }, { accessFlags := 16409, nameIndex := 63, descriptorIndex := 6, attributes := #[] }, { accessFlags := 16409, nameIndex := 66, descriptorIndex := 6, attributes := #[] }, { accessFlags := 16409, nameIndex := 69, descriptorIndex := 6, attributes := #[] }, { accessFlags := 16409, nameIndex := 72, descriptorIndex := 6, attributes := #[] }, { accessFlags := 16409, nameIndex := 75, descriptorIndex := 6, attributes := #[] }, { accessFlags := 16409, nameIndex := 78, descriptorIndex := 6, attributes := #[] }, { accessFlags := 16409, nameIndex := 81, descriptorIndex := 6, attributes := #[] }, { accessFlags := 16409, nameIndex := 84, descriptorIndex := 6, attributes := #[] }, { accessFlags := 16409, nameIndex := 87, descriptorIndex := 6, attributes := #[] }, { accessFlags := 16409, nameIndex := 90, descriptorIndex := 6, attributes := #[] }, { accessFlags := 16409, nameIndex := 93, descriptorIndex := 6, attributes := #[] }, { accessFlags := 16409, nameIndex := 96, descriptorIndex := 6, attributes := #[] }, { accessFlags := 18, nameIndex := 118, descriptorIndex := 119, attributes := #[] }, { accessFlags := 18, nameIndex := 122, descriptorIndex := 119, attributes := #[] }, { accessFlags := 4122, nameIndex := 99, descriptorIndex := 100, attributes := #[] }])
  fields := #[{ name := "CARRIER_CODE", type := (.object "com/example/cartouche/cartouche/Rule"), accessFlags := 16409, slot := 0, constantValue := 0 }, { name := "CARRIER_MODIFIER", type := (.object "com/example/cartouche/cartouche/Rule"), accessFlags := 16409, slot := 1, constantValue := 0 }, { name := "HEADER", type := (.object "com/example/cartouche/cartouche/Rule"), accessFlags := 16409, slot := 2, constantValue := 0 }, { name := "FORMAT_INDICATOR", type := (.object "com/example/cartouche/cartouche/Rule"), accessFlags := 16409, slot := 3, constantValue := 0 }, { name := "FORMAT_RESERVED", type := (.object "com/example/cartouche/cartouche/Rule"), accessFlags := 16409, slot := 4, constantValue := 0 }, { name := "FORMAT_BLOCKED", type := (.object "com/example/cartouche/cartouche/Rule"), accessFlags := 16409, slot := 5, constantValue := 0 }, { name := "FORMAT_ORDER", type := (.object "com/example/cartouche/cartouche/Rule"), accessFlags := 16409, slot := 6, constantValue := 0 }, { name := "FORMAT_ALONE", type := (.object "com/example/cartouche/cartouche/Rule"), accessFlags := 16409, slot := 7, constantValue := 0 }, { name := "FORMAT_HEADER", type := (.object "com/example/cartouche/cartouche/Rule"), accessFlags := 16409, slot := 8, constantValue := 0 }, { name := "TRANSPORT_VERSION", type := (.object "com/example/cartouche/cartouche/Rule"), accessFlags := 16409, slot := 9, constantValue := 0 }, { name := "BINARY_HEADER", type := (.object "com/example/cartouche/cartouche/Rule"), accessFlags := 16409, slot := 10, constantValue := 0 }, { name := "BINARY_LENGTH", type := (.object "com/example/cartouche/cartouche/Rule"), accessFlags := 16409, slot := 11, constantValue := 0 }, { name := "SEGMENT_TAG", type := (.object "com/example/cartouche/cartouche/Rule"), accessFlags := 16409, slot := 12, constantValue := 0 }, { name := "SEGMENT_TERMINATOR", type := (.object "com/example/cartouche/cartouche/Rule"), accessFlags := 16409, slot := 13, constantValue := 0 }, { name := "EDI_INTERCHANGE", type := (.object "com/example/cartouche/cartouche/Rule"), accessFlags := 16409, slot := 14, constantValue := 0 }, { name := "DATA_IDENTIFIER", type := (.object "com/example/cartouche/cartouche/Rule"), accessFlags := 16409, slot := 15, constantValue := 0 }, { name := "AI_UNKNOWN", type := (.object "com/example/cartouche/cartouche/Rule"), accessFlags := 16409, slot := 16, constantValue := 0 }, { name := "AI_VALUE", type := (.object "com/example/cartouche/cartouche/Rule"), accessFlags := 16409, slot := 17, constantValue := 0 }, { name := "AI_PAIRING", type := (.object "com/example/cartouche/cartouche/Rule"), accessFlags := 16409, slot := 18, constantValue := 0 }, { name := "FIELD_LENGTH", type := (.object "com/example/cartouche/cartouche/Rule"), accessFlags := 16409, slot := 19, constantValue := 0 }, { name := "FIELD_CHARACTERS", type := (.object "com/example/cartouche/cartouche/Rule"), accessFlags := 16409, slot := 20, constantValue := 0 }, { name := "FIELD_COUNT", type := (.object "com/example/cartouche/cartouche/Rule"), accessFlags := 16409, slot := 21, constantValue := 0 }, { name := "FIELD_ID", type := (.object "com/example/cartouche/cartouche/Rule"), accessFlags := 16409, slot := 22, constantValue := 0 }, { name := "JSON_TEXT", type := (.object "com/example/cartouche/cartouche/Rule"), accessFlags := 16409, slot := 23, constantValue := 0 }, { name := "EMPTY_ELEMENT", type := (.object "com/example/cartouche/cartouche/Rule"), accessFlags := 16409, slot := 24, constantValue := 0 }, { name := "TRAILING_SEPARATOR", type := (.object "com/example/cartouche/cartouche/Rule"), accessFlags := 16409, slot := 25, constantValue := 0 }, { name := "CONTROL_CHARACTER", type := (.object "com/example/cartouche/cartouche/Rule"), accessFlags := 16409, slot := 26, constantValue := 0 }, { name := "CHARACTER_SET", type := (.object "com/example/cartouche/cartouche/Rule"), accessFlags := 16409, slot := 27, constantValue := 0 }, { name := "FORMAT_TRAILER", type := (.object "com/example/cartouche/cartouche/Rule"), accessFlags := 16409, slot := 28, constantValue := 0 }, { name := "TRAILER", type := (.object "com/example/cartouche/cartouche/Rule"), accessFlags := 16409, slot := 29, constantValue := 0 }, { name := "AFTER_TRAILER", type := (.object "com/example/cartouche/cartouche/Rule"), accessFlags := 16409, slot := 30, constantValue := 0 }, { name := "id", type := (.object "java/lang/String"), accessFlags := 18, slot := 3, constantValue := 0 }, { name := "description", type := (.object "java/lang/String"), accessFlags := 18, slot := 4, constantValue := 0 }, { name := "$VALUES", type := (.array (.object "com/example/cartouche/cartouche/Rule")), accessFlags := 4122, slot := 31, constantValue := 0 }]
  methods := #[]
  instanceTypes := #[(.object "java/lang/String"), .int, .int, (.object "java/lang/String"), (.object "java/lang/String")]
  staticTypes := #[(.object "com/example/cartouche/cartouche/Rule"), (.object "com/example/cartouche/cartouche/Rule"), (.object "com/example/cartouche/cartouche/Rule"), (.object "com/example/cartouche/cartouche/Rule"), (.object "com/example/cartouche/cartouche/Rule"), (.object "com/example/cartouche/cartouche/Rule"), (.object "com/example/cartouche/cartouche/Rule"), (.object "com/example/cartouche/cartouche/Rule"), (.object "com/example/cartouche/cartouche/Rule"), (.object "com/example/cartouche/cartouche/Rule"), (.object "com/example/cartouche/cartouche/Rule"), (.object "com/example/cartouche/cartouche/Rule"), (.object "com/example/cartouche/cartouche/Rule"), (.object "com/example/cartouche/cartouche/Rule"), (.object "com/example/cartouche/cartouche/Rule"), (.object "com/example/cartouche/cartouche/Rule"), (.object "com/example/cartouche/cartouche/Rule"), (.object "com/example/cartouche/cartouche/Rule"), (.object "com/example/cartouche/cartouche/Rule"), (.object "com/example/cartouche/cartouche/Rule"), (.object "com/example/cartouche/cartouche/Rule"), (.object "com/example/cartouche/cartouche/Rule"), (.object "com/example/cartouche/cartouche/Rule"), (.object "com/example/cartouche/cartouche/Rule"), (.object "com/example/cartouche/cartouche/Rule"), (.object "com/example/cartouche/cartouche/Rule"), (.object "com/example/cartouche/cartouche/Rule"), (.object "com/example/cartouche/cartouche/Rule"), (.object "com/example/cartouche/cartouche/Rule"), (.object "com/example/cartouche/cartouche/Rule"), (.object "com/example/cartouche/cartouche/Rule"), (.array (.object "com/example/cartouche/cartouche/Rule"))]
  resolved := Array.replicate 298 none
  statics := some 0 }

def pool7 : Array CpInfo := pool [(1, .class_ 2), (0, u "com/example/cartouche/cartouche/ParseResult"), (0, .class_ 4), (0, u "java/lang/Object")] 7

/-- com/example/cartouche/cartouche/ParseResult -/
def k7 : Class := { plain "com/example/cartouche/cartouche/ParseResult" (some 0) with
  accessFlags := 1537
  interfaces := #[]
  cf := some (fileOf pool7 1 #[] #[] 1537 3 #[] #[])
  fields := #[]
  methods := #[]
  instanceTypes := #[]
  staticTypes := #[]
  resolved := Array.replicate 12 none
  statics := none }

def pool8 : Array CpInfo := pool [(1, .methodref 2 3), (0, .class_ 4), (0, .nameAndType 5 6), (0, u "java/lang/Object"), (0, u "<init>"), (0, u "()V"), (9, .string 17), (0, u "rule"), (0, .methodref 19 20), (0, .class_ 21), (0, .nameAndType 22 23), (0, u "java/util/Objects"), (0, u "requireNonNull"), (0, u "(Ljava/lang/Object;Ljava/lang/String;)Ljava/lang/Object;"), (0, .class_ 25), (0, u "com/example/cartouche/cartouche/Rule"), (0, .fieldref 27 28), (0, .class_ 29), (0, .nameAndType 17 30), (0, u "com/example/cartouche/cartouche/Fault"), (0, u "Lcom/example/cartouche/cartouche/Rule;"), (0, .fieldref 27 32), (0, .nameAndType 33 34), (0, u "offset"), (0, u "I"), (17, .class_ 53), (0, u "com/example/cartouche/cartouche/ParseResult"), (0, u "(Lcom/example/cartouche/cartouche/Rule;I)V"), (5, u "equals"), (0, u "(Ljava/lang/Object;)Z")] 21

def k8c0 : Code := { maxStack := 3, maxLocals := 3, code := prog_6_method_1_code, exceptionTable := #[], attributes := #[] }
def k8m0 : Method := { name := "<init>", desc := "(Lcom/example/cartouche/cartouche/Rule;I)V", sig := { parameters := [(.object "com/example/cartouche/cartouche/Rule"), .int], returnType := none }, accessFlags := 1, code := some k8c0 }
def k8c1 : Code := { maxStack := 2, maxLocals := 3, code := prog_6_method_4_code, exceptionTable := #[], attributes := #[] }
def k8m1 : Method := { name := "equals", desc := "(Ljava/lang/Object;)Z", sig := { parameters := [(.object "java/lang/Object")], returnType := some .boolean }, accessFlags := 1, code := some k8c1 }
/-- com/example/cartouche/cartouche/Fault -/
def k8 : Class := { plain "com/example/cartouche/cartouche/Fault" (some 0) with
  accessFlags := 49
  interfaces := #[7]
  cf := some (fileOf pool8 27 #[] #[{ accessFlags := 1, nameIndex := 5, descriptorIndex := 54, attributes := #[] }, { accessFlags := 1, nameIndex := 60, descriptorIndex := 61, attributes := #[] }] 49 2 #[52] #[{ accessFlags := 18, nameIndex := 17, descriptorIndex := 30, attributes := #[] }, { accessFlags := 18, nameIndex := 33, descriptorIndex := 34, attributes := #[] }])
  fields := #[{ name := "rule", type := (.object "com/example/cartouche/cartouche/Rule"), accessFlags := 18, slot := 0, constantValue := 0 }, { name := "offset", type := .int, accessFlags := 18, slot := 1, constantValue := 0 }]
  methods := #[k8m0, k8m1]
  instanceTypes := #[(.object "com/example/cartouche/cartouche/Rule"), .int]
  staticTypes := #[]
  resolved := Array.replicate 83 none
  statics := none }

def pool9 : Array CpInfo := pool [(2, .class_ 4), (1, u "java/lang/CharSequence"), (42, .class_ 48), (0, u "java/lang/CharSequence$1CodePointIterator"), (10, .class_ 60), (0, u "java/lang/CharSequence$1CharIterator"), (5, .class_ 67), (0, u "java/lang/Object")] 63

/-- java/lang/CharSequence -/
def k9 : Class := { plain "java/lang/CharSequence" (some 0) with
  accessFlags := 1537
  interfaces := #[]
  cf := some (fileOf pool9 2 #[.nestMembers #[47, 59]] #[] 1537 66 #[] #[])
  fields := #[]
  methods := #[]
  instanceTypes := #[]
  staticTypes := #[]
  resolved := Array.replicate 131 none
  statics := none }

def pool10 : Array CpInfo := pool [(1, .class_ 2), (0, u "java/lang/constant/ConstantDesc"), (0, .class_ 4), (0, u "java/lang/Object")] 32

/-- java/lang/constant/ConstantDesc -/
def k10 : Class := { plain "java/lang/constant/ConstantDesc" (some 0) with
  accessFlags := 1537
  interfaces := #[]
  cf := some (fileOf pool10 1 #[] #[] 1537 3 #[] #[])
  fields := #[]
  methods := #[]
  instanceTypes := #[]
  staticTypes := #[]
  resolved := Array.replicate 37 none
  statics := none }

def pool11 : Array CpInfo := pool [(2, .class_ 4), (1, u "java/lang/Object"), (0, u "<init>"), (0, u "()V"), (3, .class_ 12), (1, u "java/lang/String"), (0, u "value"), (0, u "[B"), (2, u "coder"), (0, u "B"), (2, u "hash"), (0, u "I"), (2, u "hashIsZero"), (0, u "Z"), (13, u "COMPACT_STRINGS"), (534, .class_ 576), (0, u "java/lang/CharSequence"), (22, u "CASE_INSENSITIVE_ORDER"), (0, u "Ljava/util/Comparator;"), (500, u "serialPersistentFields"), (0, u "[Ljava/io/ObjectStreamField;"), (0, .class_ 1104), (0, u "java/lang/String$CaseInsensitiveComparator"), (1, .class_ 1107), (0, u "java/io/Serializable"), (0, .class_ 1109), (0, u "java/lang/Comparable"), (0, .class_ 1111), (0, u "java/lang/constant/Constable"), (0, .class_ 1113), (0, u "java/lang/constant/ConstantDesc"), (2, u "serialVersionUID"), (0, u "J"), (3, u "REPL"), (0, u "C"), (2, u "LATIN1"), (1, u "UTF16")] 323

def k11m0 : Method := { name := "<init>", desc := "()V", sig := { parameters := [], returnType := none }, accessFlags := 1, code := none }
/-- java/lang/String -/
def k11 : Class := { plain "java/lang/String" (some 0) with
  accessFlags := 49
  interfaces := #[4, 3, 9, 2, 10]
  cf := some (fileOf pool11 10 #[.nestMembers #[1103]] #[{ accessFlags := 1, nameIndex := 5, descriptorIndex := 6, attributes := #[] }] 49 2 #[1106, 1108, 575, 1110, 1112] #[{ accessFlags := 18, nameIndex := 13, descriptorIndex := 14, attributes := #[] }, { accessFlags := 18, nameIndex := 17, descriptorIndex := 18, attributes := #[] }, { accessFlags := 2, nameIndex := 21, descriptorIndex := 22, attributes := #[] }, { accessFlags := 2, nameIndex := 25, descriptorIndex := 26, attributes := #[] }, { accessFlags := 26, nameIndex := 1116, descriptorIndex := 1117, attributes := #[] }, { accessFlags := 24, nameIndex := 40, descriptorIndex := 26, attributes := #[] }, { accessFlags := 26, nameIndex := 1101, descriptorIndex := 1102, attributes := #[] }, { accessFlags := 26, nameIndex := 1121, descriptorIndex := 1122, attributes := #[] }, { accessFlags := 25, nameIndex := 599, descriptorIndex := 600, attributes := #[] }, { accessFlags := 24, nameIndex := 1125, descriptorIndex := 18, attributes := #[] }, { accessFlags := 24, nameIndex := 1127, descriptorIndex := 18, attributes := #[] }])
  fields := #[{ name := "value", type := (.array .byte), accessFlags := 18, slot := 0, constantValue := 0 }, { name := "coder", type := .byte, accessFlags := 18, slot := 1, constantValue := 0 }, { name := "hash", type := .int, accessFlags := 2, slot := 2, constantValue := 0 }, { name := "hashIsZero", type := .boolean, accessFlags := 2, slot := 3, constantValue := 0 }, { name := "serialVersionUID", type := .long, accessFlags := 26, slot := 0, constantValue := 0 }, { name := "COMPACT_STRINGS", type := .boolean, accessFlags := 24, slot := 1, constantValue := 0 }, { name := "serialPersistentFields", type := (.array (.object "java/io/ObjectStreamField")), accessFlags := 26, slot := 2, constantValue := 0 }, { name := "REPL", type := .char, accessFlags := 26, slot := 3, constantValue := 0 }, { name := "CASE_INSENSITIVE_ORDER", type := (.object "java/util/Comparator"), accessFlags := 25, slot := 4, constantValue := 0 }, { name := "LATIN1", type := .byte, accessFlags := 24, slot := 5, constantValue := 0 }, { name := "UTF16", type := .byte, accessFlags := 24, slot := 6, constantValue := 0 }]
  methods := #[k11m0]
  instanceTypes := #[(.array .byte), .byte, .int, .boolean]
  staticTypes := #[.long, .boolean, (.array (.object "java/io/ObjectStreamField")), .char, (.object "java/util/Comparator"), .byte, .byte]
  resolved := Array.replicate 1451 none
  statics := none }

def pool12 : Array CpInfo := pool [(2, .class_ 4), (1, u "java/lang/Object"), (0, u "<init>"), (0, u "()V"), (35, .class_ 44), (1, u "java/util/Objects"), (0, u "requireNonNull"), (48, u "(Ljava/lang/Object;Ljava/lang/String;)Ljava/lang/Object;")] 89

def k12m0 : Method := { name := "<init>", desc := "()V", sig := { parameters := [], returnType := none }, accessFlags := 2, code := none }
def k12c1 : Code := { maxStack := 3, maxLocals := 2, code := jdk_31_method_11_code, exceptionTable := #[], attributes := #[] }
def k12m1 : Method := { name := "requireNonNull", desc := "(Ljava/lang/Object;Ljava/lang/String;)Ljava/lang/Object;", sig := { parameters := [(.object "java/lang/Object"), (.object "java/lang/String")], returnType := some (.object "java/lang/Object") }, accessFlags := 9, code := some k12c1 }
/-- java/util/Objects -/
def k12 : Class := { plain "java/util/Objects" (some 0) with
  accessFlags := 49
  interfaces := #[]
  cf := some (fileOf pool12 42 #[] #[{ accessFlags := 2, nameIndex := 5, descriptorIndex := 6, attributes := #[] }, { accessFlags := 9, nameIndex := 45, descriptorIndex := 94, attributes := #[] }] 49 2 #[] #[])
  fields := #[]
  methods := #[k12m0, k12m1]
  instanceTypes := #[]
  staticTypes := #[]
  resolved := Array.replicate 184 none
  statics := none }

def pool13 : Array CpInfo := pool [(1, .methodref 2 3), (0, .class_ 4), (0, .nameAndType 5 6), (0, u "java/lang/Object"), (0, u "<init>"), (0, u "()V"), (1, .class_ 10), (1, u "java/lang/Number"), (2, .class_ 14), (0, u "java/io/Serializable"), (0, u "serialVersionUID"), (0, u "J")] 20

def k13c0 : Code := { maxStack := 1, maxLocals := 1, code := jdk_18_method_1_code, exceptionTable := #[], attributes := #[] }
def k13m0 : Method := { name := "<init>", desc := "()V", sig := { parameters := [], returnType := none }, accessFlags := 1, code := some k13c0 }
/-- java/lang/Number -/
def k13 : Class := { plain "java/lang/Number" (some 0) with
  accessFlags := 1057
  interfaces := #[4]
  cf := some (fileOf pool13 8 #[] #[{ accessFlags := 1, nameIndex := 5, descriptorIndex := 6, attributes := #[] }] 1057 2 #[13] #[{ accessFlags := 26, nameIndex := 15, descriptorIndex := 16, attributes := #[] }])
  fields := #[{ name := "serialVersionUID", type := .long, accessFlags := 26, slot := 0, constantValue := 0 }]
  methods := #[k13m0]
  instanceTypes := #[]
  staticTypes := #[.long]
  resolved := Array.replicate 37 none
  statics := none }

def pool14 : Array CpInfo := pool [(1, .class_ 2), (0, u "java/lang/Integer"), (16, u "digits"), (0, u "[C"), (46, u "<init>"), (17, u "DigitOnes"), (0, u "[B"), (2, u "DigitTens"), (10, .nameAndType 67 101), (0, u "()V"), (85, u "valueOf"), (0, u "(I)Ljava/lang/Integer;"), (0, .class_ 190), (0, u "java/lang/Integer$IntegerCache"), (0, .fieldref 189 192), (0, .nameAndType 193 194), (0, u "high"), (0, u "I"), (0, .fieldref 189 196), (0, .nameAndType 197 198), (0, u "cache"), (0, u "[Ljava/lang/Integer;"), (0, .methodref 1 200), (0, .nameAndType 67 201), (0, u "(I)V"), (0, .methodref 203 100), (0, .class_ 204), (0, u "java/lang/Number"), (0, .fieldref 1 206), (0, .nameAndType 207 194), (0, u "value"), (94, u "TYPE"), (0, u "Ljava/lang/Class;"), (0, .class_ 305), (0, u "java/lang/Comparable"), (0, .class_ 307), (0, u "java/lang/constant/Constable"), (0, .class_ 309), (0, u "java/lang/constant/ConstantDesc"), (0, u "MIN_VALUE"), (1, u "MAX_VALUE"), (3, u "SIZE"), (1, u "BYTES"), (1, u "serialVersionUID"), (0, u "J")] 131

def k14c0 : Code := { maxStack := 3, maxLocals := 1, code := jdk_33_method_22_code, exceptionTable := #[], attributes := #[] }
def k14m0 : Method := { name := "valueOf", desc := "(I)Ljava/lang/Integer;", sig := { parameters := [.int], returnType := some (.object "java/lang/Integer") }, accessFlags := 9, code := some k14c0 }
def k14c1 : Code := { maxStack := 2, maxLocals := 2, code := jdk_33_method_23_code, exceptionTable := #[], attributes := #[] }
def k14m1 : Method := { name := "<init>", desc := "(I)V", sig := { parameters := [.int], returnType := none }, accessFlags := 1, code := some k14c1 }
/-- java/lang/Integer -/
def k14 : Class := { plain "java/lang/Integer" (some 13) with
  accessFlags := 49
  interfaces := #[3, 2, 10]
  cf := some (fileOf pool14 1 #[.nestMembers #[189]] #[{ accessFlags := 9, nameIndex := 187, descriptorIndex := 188, attributes := #[] }, { accessFlags := 1, nameIndex := 67, descriptorIndex := 201, attributes := #[] }] 49 203 #[304, 306, 308] #[{ accessFlags := 25, nameIndex := 310, descriptorIndex := 194, attributes := #[] }, { accessFlags := 25, nameIndex := 312, descriptorIndex := 194, attributes := #[] }, { accessFlags := 25, nameIndex := 302, descriptorIndex := 303, attributes := #[] }, { accessFlags := 24, nameIndex := 19, descriptorIndex := 20, attributes := #[] }, { accessFlags := 24, nameIndex := 89, descriptorIndex := 86, attributes := #[] }, { accessFlags := 24, nameIndex := 85, descriptorIndex := 86, attributes := #[] }, { accessFlags := 18, nameIndex := 207, descriptorIndex := 194, attributes := #[] }, { accessFlags := 25, nameIndex := 316, descriptorIndex := 194, attributes := #[] }, { accessFlags := 25, nameIndex := 318, descriptorIndex := 194, attributes := #[] }, { accessFlags := 26, nameIndex := 320, descriptorIndex := 321, attributes := #[] }])
  fields := #[{ name := "MIN_VALUE", type := .int, accessFlags := 25, slot := 0, constantValue := 0 }, { name := "MAX_VALUE", type := .int, accessFlags := 25, slot := 1, constantValue := 0 }, { name := "TYPE", type := (.object "java/lang/Class"), accessFlags := 25, slot := 2, constantValue := 0 }, { name := "digits", type := (.array .char), accessFlags := 24, slot := 3, constantValue := 0 }, { name := "DigitTens", type := (.array .byte), accessFlags := 24, slot := 4, constantValue := 0 }, { name := "DigitOnes", type := (.array .byte), accessFlags := 24, slot := 5, constantValue := 0 }, { name := "value", type := .int, accessFlags := 18, slot := 0, constantValue := 0 }, { name := "SIZE", type := .int, accessFlags := 25, slot := 6, constantValue := 0 }, { name := "BYTES", type := .int, accessFlags := 25, slot := 7, constantValue := 0 }, { name := "serialVersionUID", type := .long, accessFlags := 26, slot := 8, constantValue := 0 }]
  methods := #[k14m0, k14m1]
  instanceTypes := #[.int]
  staticTypes := #[.int, .int, (.object "java/lang/Class"), (.array .char), (.array .byte), (.array .byte), .int, .int, .long]
  resolved := Array.replicate 453 none
  statics := none }

def pool15 : Array CpInfo := pool [(2, .class_ 4), (1, u "java/lang/Object"), (0, u "<init>"), (0, u "()V"), (0, .class_ 8), (0, u "java/lang/Integer"), (7, .class_ 18), (1, u "java/lang/Integer$IntegerCache"), (0, u "$assertionsDisabled"), (0, u "Z"), (26, u "high"), (0, u "I"), (8, u "archivedCache"), (0, u "[Ljava/lang/Integer;"), (12, u "cache"), (0, u "low")] 27

def k15m0 : Method := { name := "<init>", desc := "()V", sig := { parameters := [], returnType := none }, accessFlags := 2, code := none }
/-- java/lang/Integer$IntegerCache -/
def k15 : Class := { plain "java/lang/Integer$IntegerCache" (some 0) with
  accessFlags := 48
  interfaces := #[]
  cf := some (fileOf pool15 16 #[.nestHost 7] #[{ accessFlags := 2, nameIndex := 5, descriptorIndex := 6, attributes := #[] }] 48 2 #[] #[{ accessFlags := 24, nameIndex := 72, descriptorIndex := 48, attributes := #[] }, { accessFlags := 24, nameIndex := 47, descriptorIndex := 48, attributes := #[] }, { accessFlags := 24, nameIndex := 71, descriptorIndex := 58, attributes := #[] }, { accessFlags := 8, nameIndex := 57, descriptorIndex := 58, attributes := #[] }, { accessFlags := 4120, nameIndex := 19, descriptorIndex := 20, attributes := #[] }])
  fields := #[{ name := "low", type := .int, accessFlags := 24, slot := 0, constantValue := 0 }, { name := "high", type := .int, accessFlags := 24, slot := 1, constantValue := 0 }, { name := "cache", type := (.array (.object "java/lang/Integer")), accessFlags := 24, slot := 2, constantValue := 0 }, { name := "archivedCache", type := (.array (.object "java/lang/Integer")), accessFlags := 8, slot := 3, constantValue := 0 }, { name := "$assertionsDisabled", type := .boolean, accessFlags := 4120, slot := 4, constantValue := 0 }]
  methods := #[k15m0]
  instanceTypes := #[]
  staticTypes := #[.int, .int, (.array (.object "java/lang/Integer")), (.array (.object "java/lang/Integer")), .boolean]
  resolved := Array.replicate 100 none
  statics := some 1 }

def pool16 : Array CpInfo := pool [(1, u "java/lang/Cloneable"), (0, .class_ 1), (0, u "java/lang/Object"), (0, .class_ 3)] 3

/-- java/lang/Cloneable -/
def k16 : Class := { plain "java/lang/Cloneable" (some 0) with
  accessFlags := 1537
  interfaces := #[]
  cf := some (fileOf pool16 2 #[] #[] 1537 4 #[] #[])
  fields := #[]
  methods := #[]
  instanceTypes := #[]
  staticTypes := #[]
  resolved := Array.replicate 8 none
  statics := none }

/-- the primitive byte -/
def k17 : Class := { plain "byte" none with kind := .primitive 'B', accessFlags := 0x411 }
/-- [B -/
def k18 : Class := { plain "[B" (some 0) with kind := .array 17 .byte, interfaces := #[16, 4], accessFlags := 1041 }

/-- the primitive int -/
def k19 : Class := { plain "int" none with kind := .primitive 'I', accessFlags := 0x411 }
/-- [I -/
def k20 : Class := { plain "[I" (some 0) with kind := .array 19 .int, interfaces := #[16, 4], accessFlags := 1041 }

/-- [Ljava/lang/Integer; -/
def k21 : Class := { plain "[Ljava/lang/Integer;" (some 0) with kind := .array 14 (.object "java/lang/Integer"), interfaces := #[16, 4], accessFlags := 1041 }

def heap : Heap := #[{ cls := 6, slots := #[.ref 3, .null, .ref 7, .null, .null, .ref 8, .null, .null, .null, .null, .null, .null, .null, .null, .null, .null, .null, .ref 4, .null, .ref 5, .null, .null, .null, .ref 10, .null, .null, .null, .null, .null, .ref 9, .ref 6, .null], vm := .statics 6 },
  { cls := 15, slots := #[.int 0, .int 127, .ref 2, .null, .int 0], vm := .statics 15 },
  { cls := 21, slots := #[.ref 11, .ref 12, .ref 13, .ref 14, .ref 15, .ref 16, .ref 17, .ref 18, .ref 19, .ref 20, .ref 21, .ref 22, .ref 23, .ref 24, .ref 25, .ref 26, .ref 27, .ref 28, .ref 29, .ref 30, .ref 31, .ref 32, .ref 33, .ref 34, .ref 35, .ref 36, .ref 37, .ref 38, .ref 39, .ref 40, .ref 41, .ref 42, .ref 43, .ref 44, .ref 45, .ref 46, .ref 47, .ref 48, .ref 49, .ref 50, .ref 51, .ref 52, .ref 53, .ref 54, .ref 55, .ref 56, .ref 57, .ref 58, .ref 59, .ref 60, .ref 61, .ref 62, .ref 63, .ref 64, .ref 65, .ref 66, .ref 67, .ref 68, .ref 69, .ref 70, .ref 71, .ref 72, .ref 73, .ref 74, .ref 75, .ref 76, .ref 77, .ref 78, .ref 79, .ref 80, .ref 81, .ref 82, .ref 83, .ref 84, .ref 85, .ref 86, .ref 87, .ref 88, .ref 89, .ref 90, .ref 91, .ref 92, .ref 93, .ref 94, .ref 95, .ref 96, .ref 97, .ref 98, .ref 99, .ref 100, .ref 101, .ref 102, .ref 103, .ref 104, .ref 105, .ref 106, .ref 107, .ref 108, .ref 109, .ref 110, .ref 111, .ref 112, .ref 113, .ref 114, .ref 115, .ref 116, .ref 117, .ref 118, .ref 119, .ref 120, .ref 121, .ref 122, .ref 123, .ref 124, .ref 125, .ref 126, .ref 127, .ref 128, .ref 129, .ref 130, .ref 131, .ref 132, .ref 133, .ref 134, .ref 135, .ref 136, .ref 137, .ref 138, .ref 139, .ref 140, .ref 141, .ref 142, .ref 143, .ref 144, .ref 145, .ref 146, .ref 147, .ref 148, .ref 149, .ref 150, .ref 151, .ref 152, .ref 153, .ref 154, .ref 155, .ref 156, .ref 157, .ref 158, .ref 159, .ref 160, .ref 161, .ref 162, .ref 163, .ref 164, .ref 165, .ref 166, .ref 167, .ref 168, .ref 169, .ref 170, .ref 171, .ref 172, .ref 173, .ref 174, .ref 175, .ref 176, .ref 177, .ref 178, .ref 179, .ref 180, .ref 181, .ref 182, .ref 183, .ref 184, .ref 185, .ref 186, .ref 187, .ref 188, .ref 189, .ref 190, .ref 191, .ref 192, .ref 193, .ref 194, .ref 195, .ref 196, .ref 197, .ref 198, .ref 199, .ref 200, .ref 201, .ref 202, .ref 203, .ref 204, .ref 205, .ref 206, .ref 207, .ref 208, .ref 209, .ref 210, .ref 211, .ref 212, .ref 213, .ref 214, .ref 215, .ref 216, .ref 217, .ref 218, .ref 219, .ref 220, .ref 221, .ref 222, .ref 223, .ref 224, .ref 225, .ref 226, .ref 227, .ref 228, .ref 229, .ref 230, .ref 231, .ref 232, .ref 233, .ref 234, .ref 235, .ref 236, .ref 237, .ref 238, .ref 239, .ref 240, .ref 241, .ref 242, .ref 243, .ref 244, .ref 245, .ref 246, .ref 247, .ref 248, .ref 249, .ref 250, .ref 251, .ref 252, .ref 253, .ref 254, .ref 255, .ref 256, .ref 257, .ref 258, .ref 259, .ref 260, .ref 261, .ref 262, .ref 263, .ref 264, .ref 265, .ref 266], vm := .none },
  { cls := 6, slots := #[.null, .int 0, .int 0, .null, .null], vm := .none },
  { cls := 6, slots := #[.null, .int 17, .int 0, .null, .null], vm := .none },
  { cls := 6, slots := #[.null, .int 19, .int 0, .null, .null], vm := .none },
  { cls := 6, slots := #[.null, .int 30, .int 0, .null, .null], vm := .none },
  { cls := 6, slots := #[.null, .int 2, .int 0, .null, .null], vm := .none },
  { cls := 6, slots := #[.null, .int 5, .int 0, .null, .null], vm := .none },
  { cls := 6, slots := #[.null, .int 29, .int 0, .null, .null], vm := .none },
  { cls := 6, slots := #[.null, .int 23, .int 0, .null, .null], vm := .none },
  { cls := 14, slots := #[.int (-128)], vm := .none },
  { cls := 14, slots := #[.int (-127)], vm := .none },
  { cls := 14, slots := #[.int (-126)], vm := .none },
  { cls := 14, slots := #[.int (-125)], vm := .none },
  { cls := 14, slots := #[.int (-124)], vm := .none },
  { cls := 14, slots := #[.int (-123)], vm := .none },
  { cls := 14, slots := #[.int (-122)], vm := .none },
  { cls := 14, slots := #[.int (-121)], vm := .none },
  { cls := 14, slots := #[.int (-120)], vm := .none },
  { cls := 14, slots := #[.int (-119)], vm := .none },
  { cls := 14, slots := #[.int (-118)], vm := .none },
  { cls := 14, slots := #[.int (-117)], vm := .none },
  { cls := 14, slots := #[.int (-116)], vm := .none },
  { cls := 14, slots := #[.int (-115)], vm := .none },
  { cls := 14, slots := #[.int (-114)], vm := .none },
  { cls := 14, slots := #[.int (-113)], vm := .none },
  { cls := 14, slots := #[.int (-112)], vm := .none },
  { cls := 14, slots := #[.int (-111)], vm := .none },
  { cls := 14, slots := #[.int (-110)], vm := .none },
  { cls := 14, slots := #[.int (-109)], vm := .none },
  { cls := 14, slots := #[.int (-108)], vm := .none },
  { cls := 14, slots := #[.int (-107)], vm := .none },
  { cls := 14, slots := #[.int (-106)], vm := .none },
  { cls := 14, slots := #[.int (-105)], vm := .none },
  { cls := 14, slots := #[.int (-104)], vm := .none },
  { cls := 14, slots := #[.int (-103)], vm := .none },
  { cls := 14, slots := #[.int (-102)], vm := .none },
  { cls := 14, slots := #[.int (-101)], vm := .none },
  { cls := 14, slots := #[.int (-100)], vm := .none },
  { cls := 14, slots := #[.int (-99)], vm := .none },
  { cls := 14, slots := #[.int (-98)], vm := .none },
  { cls := 14, slots := #[.int (-97)], vm := .none },
  { cls := 14, slots := #[.int (-96)], vm := .none },
  { cls := 14, slots := #[.int (-95)], vm := .none },
  { cls := 14, slots := #[.int (-94)], vm := .none },
  { cls := 14, slots := #[.int (-93)], vm := .none },
  { cls := 14, slots := #[.int (-92)], vm := .none },
  { cls := 14, slots := #[.int (-91)], vm := .none },
  { cls := 14, slots := #[.int (-90)], vm := .none },
  { cls := 14, slots := #[.int (-89)], vm := .none },
  { cls := 14, slots := #[.int (-88)], vm := .none },
  { cls := 14, slots := #[.int (-87)], vm := .none },
  { cls := 14, slots := #[.int (-86)], vm := .none },
  { cls := 14, slots := #[.int (-85)], vm := .none },
  { cls := 14, slots := #[.int (-84)], vm := .none },
  { cls := 14, slots := #[.int (-83)], vm := .none },
  { cls := 14, slots := #[.int (-82)], vm := .none },
  { cls := 14, slots := #[.int (-81)], vm := .none },
  { cls := 14, slots := #[.int (-80)], vm := .none },
  { cls := 14, slots := #[.int (-79)], vm := .none },
  { cls := 14, slots := #[.int (-78)], vm := .none },
  { cls := 14, slots := #[.int (-77)], vm := .none },
  { cls := 14, slots := #[.int (-76)], vm := .none },
  { cls := 14, slots := #[.int (-75)], vm := .none },
  { cls := 14, slots := #[.int (-74)], vm := .none },
  { cls := 14, slots := #[.int (-73)], vm := .none },
  { cls := 14, slots := #[.int (-72)], vm := .none },
  { cls := 14, slots := #[.int (-71)], vm := .none },
  { cls := 14, slots := #[.int (-70)], vm := .none },
  { cls := 14, slots := #[.int (-69)], vm := .none },
  { cls := 14, slots := #[.int (-68)], vm := .none },
  { cls := 14, slots := #[.int (-67)], vm := .none },
  { cls := 14, slots := #[.int (-66)], vm := .none },
  { cls := 14, slots := #[.int (-65)], vm := .none },
  { cls := 14, slots := #[.int (-64)], vm := .none },
  { cls := 14, slots := #[.int (-63)], vm := .none },
  { cls := 14, slots := #[.int (-62)], vm := .none },
  { cls := 14, slots := #[.int (-61)], vm := .none },
  { cls := 14, slots := #[.int (-60)], vm := .none },
  { cls := 14, slots := #[.int (-59)], vm := .none },
  { cls := 14, slots := #[.int (-58)], vm := .none },
  { cls := 14, slots := #[.int (-57)], vm := .none },
  { cls := 14, slots := #[.int (-56)], vm := .none },
  { cls := 14, slots := #[.int (-55)], vm := .none },
  { cls := 14, slots := #[.int (-54)], vm := .none },
  { cls := 14, slots := #[.int (-53)], vm := .none },
  { cls := 14, slots := #[.int (-52)], vm := .none },
  { cls := 14, slots := #[.int (-51)], vm := .none },
  { cls := 14, slots := #[.int (-50)], vm := .none },
  { cls := 14, slots := #[.int (-49)], vm := .none },
  { cls := 14, slots := #[.int (-48)], vm := .none },
  { cls := 14, slots := #[.int (-47)], vm := .none },
  { cls := 14, slots := #[.int (-46)], vm := .none },
  { cls := 14, slots := #[.int (-45)], vm := .none },
  { cls := 14, slots := #[.int (-44)], vm := .none },
  { cls := 14, slots := #[.int (-43)], vm := .none },
  { cls := 14, slots := #[.int (-42)], vm := .none },
  { cls := 14, slots := #[.int (-41)], vm := .none },
  { cls := 14, slots := #[.int (-40)], vm := .none },
  { cls := 14, slots := #[.int (-39)], vm := .none },
  { cls := 14, slots := #[.int (-38)], vm := .none },
  { cls := 14, slots := #[.int (-37)], vm := .none },
  { cls := 14, slots := #[.int (-36)], vm := .none },
  { cls := 14, slots := #[.int (-35)], vm := .none },
  { cls := 14, slots := #[.int (-34)], vm := .none },
  { cls := 14, slots := #[.int (-33)], vm := .none },
  { cls := 14, slots := #[.int (-32)], vm := .none },
  { cls := 14, slots := #[.int (-31)], vm := .none },
  { cls := 14, slots := #[.int (-30)], vm := .none },
  { cls := 14, slots := #[.int (-29)], vm := .none },
  { cls := 14, slots := #[.int (-28)], vm := .none },
  { cls := 14, slots := #[.int (-27)], vm := .none },
  { cls := 14, slots := #[.int (-26)], vm := .none },
  { cls := 14, slots := #[.int (-25)], vm := .none },
  { cls := 14, slots := #[.int (-24)], vm := .none },
  { cls := 14, slots := #[.int (-23)], vm := .none },
  { cls := 14, slots := #[.int (-22)], vm := .none },
  { cls := 14, slots := #[.int (-21)], vm := .none },
  { cls := 14, slots := #[.int (-20)], vm := .none },
  { cls := 14, slots := #[.int (-19)], vm := .none },
  { cls := 14, slots := #[.int (-18)], vm := .none },
  { cls := 14, slots := #[.int (-17)], vm := .none },
  { cls := 14, slots := #[.int (-16)], vm := .none },
  { cls := 14, slots := #[.int (-15)], vm := .none },
  { cls := 14, slots := #[.int (-14)], vm := .none },
  { cls := 14, slots := #[.int (-13)], vm := .none },
  { cls := 14, slots := #[.int (-12)], vm := .none },
  { cls := 14, slots := #[.int (-11)], vm := .none },
  { cls := 14, slots := #[.int (-10)], vm := .none },
  { cls := 14, slots := #[.int (-9)], vm := .none },
  { cls := 14, slots := #[.int (-8)], vm := .none },
  { cls := 14, slots := #[.int (-7)], vm := .none },
  { cls := 14, slots := #[.int (-6)], vm := .none },
  { cls := 14, slots := #[.int (-5)], vm := .none },
  { cls := 14, slots := #[.int (-4)], vm := .none },
  { cls := 14, slots := #[.int (-3)], vm := .none },
  { cls := 14, slots := #[.int (-2)], vm := .none },
  { cls := 14, slots := #[.int (-1)], vm := .none },
  { cls := 14, slots := #[.int 0], vm := .none },
  { cls := 14, slots := #[.int 1], vm := .none },
  { cls := 14, slots := #[.int 2], vm := .none },
  { cls := 14, slots := #[.int 3], vm := .none },
  { cls := 14, slots := #[.int 4], vm := .none },
  { cls := 14, slots := #[.int 5], vm := .none },
  { cls := 14, slots := #[.int 6], vm := .none },
  { cls := 14, slots := #[.int 7], vm := .none },
  { cls := 14, slots := #[.int 8], vm := .none },
  { cls := 14, slots := #[.int 9], vm := .none },
  { cls := 14, slots := #[.int 10], vm := .none },
  { cls := 14, slots := #[.int 11], vm := .none },
  { cls := 14, slots := #[.int 12], vm := .none },
  { cls := 14, slots := #[.int 13], vm := .none },
  { cls := 14, slots := #[.int 14], vm := .none },
  { cls := 14, slots := #[.int 15], vm := .none },
  { cls := 14, slots := #[.int 16], vm := .none },
  { cls := 14, slots := #[.int 17], vm := .none },
  { cls := 14, slots := #[.int 18], vm := .none },
  { cls := 14, slots := #[.int 19], vm := .none },
  { cls := 14, slots := #[.int 20], vm := .none },
  { cls := 14, slots := #[.int 21], vm := .none },
  { cls := 14, slots := #[.int 22], vm := .none },
  { cls := 14, slots := #[.int 23], vm := .none },
  { cls := 14, slots := #[.int 24], vm := .none },
  { cls := 14, slots := #[.int 25], vm := .none },
  { cls := 14, slots := #[.int 26], vm := .none },
  { cls := 14, slots := #[.int 27], vm := .none },
  { cls := 14, slots := #[.int 28], vm := .none },
  { cls := 14, slots := #[.int 29], vm := .none },
  { cls := 14, slots := #[.int 30], vm := .none },
  { cls := 14, slots := #[.int 31], vm := .none },
  { cls := 14, slots := #[.int 32], vm := .none },
  { cls := 14, slots := #[.int 33], vm := .none },
  { cls := 14, slots := #[.int 34], vm := .none },
  { cls := 14, slots := #[.int 35], vm := .none },
  { cls := 14, slots := #[.int 36], vm := .none },
  { cls := 14, slots := #[.int 37], vm := .none },
  { cls := 14, slots := #[.int 38], vm := .none },
  { cls := 14, slots := #[.int 39], vm := .none },
  { cls := 14, slots := #[.int 40], vm := .none },
  { cls := 14, slots := #[.int 41], vm := .none },
  { cls := 14, slots := #[.int 42], vm := .none },
  { cls := 14, slots := #[.int 43], vm := .none },
  { cls := 14, slots := #[.int 44], vm := .none },
  { cls := 14, slots := #[.int 45], vm := .none },
  { cls := 14, slots := #[.int 46], vm := .none },
  { cls := 14, slots := #[.int 47], vm := .none },
  { cls := 14, slots := #[.int 48], vm := .none },
  { cls := 14, slots := #[.int 49], vm := .none },
  { cls := 14, slots := #[.int 50], vm := .none },
  { cls := 14, slots := #[.int 51], vm := .none },
  { cls := 14, slots := #[.int 52], vm := .none },
  { cls := 14, slots := #[.int 53], vm := .none },
  { cls := 14, slots := #[.int 54], vm := .none },
  { cls := 14, slots := #[.int 55], vm := .none },
  { cls := 14, slots := #[.int 56], vm := .none },
  { cls := 14, slots := #[.int 57], vm := .none },
  { cls := 14, slots := #[.int 58], vm := .none },
  { cls := 14, slots := #[.int 59], vm := .none },
  { cls := 14, slots := #[.int 60], vm := .none },
  { cls := 14, slots := #[.int 61], vm := .none },
  { cls := 14, slots := #[.int 62], vm := .none },
  { cls := 14, slots := #[.int 63], vm := .none },
  { cls := 14, slots := #[.int 64], vm := .none },
  { cls := 14, slots := #[.int 65], vm := .none },
  { cls := 14, slots := #[.int 66], vm := .none },
  { cls := 14, slots := #[.int 67], vm := .none },
  { cls := 14, slots := #[.int 68], vm := .none },
  { cls := 14, slots := #[.int 69], vm := .none },
  { cls := 14, slots := #[.int 70], vm := .none },
  { cls := 14, slots := #[.int 71], vm := .none },
  { cls := 14, slots := #[.int 72], vm := .none },
  { cls := 14, slots := #[.int 73], vm := .none },
  { cls := 14, slots := #[.int 74], vm := .none },
  { cls := 14, slots := #[.int 75], vm := .none },
  { cls := 14, slots := #[.int 76], vm := .none },
  { cls := 14, slots := #[.int 77], vm := .none },
  { cls := 14, slots := #[.int 78], vm := .none },
  { cls := 14, slots := #[.int 79], vm := .none },
  { cls := 14, slots := #[.int 80], vm := .none },
  { cls := 14, slots := #[.int 81], vm := .none },
  { cls := 14, slots := #[.int 82], vm := .none },
  { cls := 14, slots := #[.int 83], vm := .none },
  { cls := 14, slots := #[.int 84], vm := .none },
  { cls := 14, slots := #[.int 85], vm := .none },
  { cls := 14, slots := #[.int 86], vm := .none },
  { cls := 14, slots := #[.int 87], vm := .none },
  { cls := 14, slots := #[.int 88], vm := .none },
  { cls := 14, slots := #[.int 89], vm := .none },
  { cls := 14, slots := #[.int 90], vm := .none },
  { cls := 14, slots := #[.int 91], vm := .none },
  { cls := 14, slots := #[.int 92], vm := .none },
  { cls := 14, slots := #[.int 93], vm := .none },
  { cls := 14, slots := #[.int 94], vm := .none },
  { cls := 14, slots := #[.int 95], vm := .none },
  { cls := 14, slots := #[.int 96], vm := .none },
  { cls := 14, slots := #[.int 97], vm := .none },
  { cls := 14, slots := #[.int 98], vm := .none },
  { cls := 14, slots := #[.int 99], vm := .none },
  { cls := 14, slots := #[.int 100], vm := .none },
  { cls := 14, slots := #[.int 101], vm := .none },
  { cls := 14, slots := #[.int 102], vm := .none },
  { cls := 14, slots := #[.int 103], vm := .none },
  { cls := 14, slots := #[.int 104], vm := .none },
  { cls := 14, slots := #[.int 105], vm := .none },
  { cls := 14, slots := #[.int 106], vm := .none },
  { cls := 14, slots := #[.int 107], vm := .none },
  { cls := 14, slots := #[.int 108], vm := .none },
  { cls := 14, slots := #[.int 109], vm := .none },
  { cls := 14, slots := #[.int 110], vm := .none },
  { cls := 14, slots := #[.int 111], vm := .none },
  { cls := 14, slots := #[.int 112], vm := .none },
  { cls := 14, slots := #[.int 113], vm := .none },
  { cls := 14, slots := #[.int 114], vm := .none },
  { cls := 14, slots := #[.int 115], vm := .none },
  { cls := 14, slots := #[.int 116], vm := .none },
  { cls := 14, slots := #[.int 117], vm := .none },
  { cls := 14, slots := #[.int 118], vm := .none },
  { cls := 14, slots := #[.int 119], vm := .none },
  { cls := 14, slots := #[.int 120], vm := .none },
  { cls := 14, slots := #[.int 121], vm := .none },
  { cls := 14, slots := #[.int 122], vm := .none },
  { cls := 14, slots := #[.int 123], vm := .none },
  { cls := 14, slots := #[.int 124], vm := .none },
  { cls := 14, slots := #[.int 125], vm := .none },
  { cls := 14, slots := #[.int 126], vm := .none },
  { cls := 14, slots := #[.int 127], vm := .none }]
def classes : Array Class := #[k0, k1, k2, k3, k4, k5, k6, k7, k8, k9, k10, k11, k12, k13, k14, k15, k16, k17, k18, k19, k20, k21]
def interned : List (Array UInt16 × Addr) := []
def slotsUsed : Nat := 589
def theMethod : MethodId := ⟨1, 2⟩
def args0 : Array Value := #[.int 5, .int 6, .int 7, .int 8, .int 9]
def aboutOver (below : List Frame) : State where
  vm := { classes := classes, interned := interned.toArray }
  heap := heap
  slotsUsed := slotsUsed
  threads := #[{ frames := .invoking theMethod args0 :: below }]
def below0 : List Frame := [.native { method := ⟨0, 0⟩, args := #[] }]
def about1 : State := aboutOver below0
def p0 : Program := .bare "" "" ""
def e0 : Env := launch0.env 0 0 0
theorem w_frames : about1.frames = Frame.invoking theMethod args0 :: below0 := rfl
set_option maxRecDepth 65536 in
theorem w_args : argsFit about1.vm theMethod args0 = true := by decide +kernel
set_option maxRecDepth 65536 in
theorem w_heap : heapFits about1 = true := by decide +kernel
set_option maxRecDepth 65536 in
theorem w_runnable : about1.curStatus? = some .runnable := by decide +kernel
set_option maxRecDepth 65536 in
theorem w_alone : about1.alone = true := by decide +kernel
set_option maxRecDepth 65536 in
theorem w_named : about1.methodNamed? x = some theMethod := by decide +kernel
set_option maxRecDepth 65536 in
theorem w_hears : about1.hears theMethod below0 = true := by decide +kernel
set_option maxRecDepth 65536 in
theorem w_ripe : about1.ripe theMethod args0 below0 = true := by decide +kernel
theorem w_running : about1.status = .running := rfl
set_option maxRecDepth 65536 in
theorem w_room : about1.hasRoom e0.platform room_1 = true :=
  launch0.hasRoom_least _ room_1 (by decide +kernel) (by decide +kernel) (by decide +kernel) (by decide +kernel) (by decide +kernel) (by decide +kernel)
theorem allAtoms_all (ts : List Jvm.Cond) (a : Array Jvm.Value) (st : Jvm.State) : (allAtoms ts).before a st = ts.all (fun c => c.before a st) := by
  induction ts with
  | nil => rfl
  | cons c t ih =>
    show (Jvm.Cond.and c (allAtoms t)).before a st = _
    rw [Jvm.Cond.before_and, ih, List.all_cons]
def words1 : List Jvm.Cond := Jvm.Cond.code x code maxLocals ret :: tables_1
/-- a 'code' word, met by the world's own term for the bytes: nothing is compared byte by byte -/
theorem code_word {y : MethodName} {bytes : ByteArray} {mx : Nat} {rt : Option FieldType} {a : Array Value} {s : State} {m : MethodId} {meth : Method} {c : Code} (h1 : s.methodNamed? y = some m) (h2 : s.vm.method? m = some meth) (h3 : meth.code = some c) (h4 : c.code = bytes)
    (h5 : (c.maxLocals == mx && c.exceptionTable.isEmpty && decide (c.maxStack ≤ mostOperands) && decide (meth.sig.returnType = rt) && !meth.locks && decide (parseMethodDescriptor y.desc = some meth.sig)) = true) : (Jvm.Cond.code y bytes mx rt).before a s = true := by
  simp only [Bool.and_eq_true, beq_iff_eq, Bool.not_eq_true', decide_eq_true_eq] at h5
  obtain ⟨⟨⟨⟨⟨g1, g2⟩, g3⟩, g4⟩, g5⟩, g6⟩ := h5
  simp [Cond.before, Cond.holds, Cond.value, h1, h2, h3, h4, g1, g2, g3, g4, g5, g6]
def isCode : Jvm.Cond → Bool
  | .code _ _ _ _ => true
  | _ => false
theorem all_split {L : List Jvm.Cond} {P : Jvm.Cond → Bool} (h1 : L.all (fun c => isCode c || P c) = true) (h2 : ∀ c ∈ L.filter isCode, P c = true) : L.all P = true := by
  refine List.all_eq_true.mpr fun c hc => ?_
  have h := List.all_eq_true.mp h1 c hc
  rcases Bool.eq_false_or_eq_true (isCode c) with hi | hi
  · exact h2 c (List.mem_filter.mpr ⟨hc, hi⟩)
  · simpa [hi] using h
set_option maxRecDepth 65536 in
theorem w_c0 : (Jvm.Cond.code x code maxLocals ret).before args0 about1 = true := code_word (m := ⟨1, 2⟩) (meth := k1m2) (c := k1c2) (by decide +kernel) rfl rfl rfl (by decide +kernel)
set_option maxRecDepth 65536 in
theorem w_c1 : (Jvm.Cond.code ({ cls := "com/example/cartouche/cartouche/FaultEqualsPinLaw", name := "pick", desc := "(I)Lcom/example/cartouche/cartouche/Rule;" } : Jvm.MethodName) method_2_code (2 : Nat) (Option.some (Jvm.ClassFile.FieldType.object "com/example/cartouche/cartouche/Rule"))).before args0 about1 = true := code_word (m := ⟨1, 1⟩) (meth := k1m1) (c := k1c1) (by decide +kernel) rfl rfl rfl (by decide +kernel)
set_option maxRecDepth 65536 in
theorem w_c2 : (Jvm.Cond.code ({ cls := "com/example/cartouche/cartouche/Fault", name := "<init>", desc := "(Lcom/example/cartouche/cartouche/Rule;I)V" } : Jvm.MethodName) prog_6_method_1_code (3 : Nat) (Option.none : Option Jvm.ClassFile.FieldType)).before args0 about1 = true := code_word (m := ⟨8, 0⟩) (meth := k8m0) (c := k8c0) (by decide +kernel) rfl rfl rfl (by decide +kernel)
set_option maxRecDepth 65536 in
theorem w_c3 : (Jvm.Cond.code ({ cls := "java/lang/Object", name := "<init>", desc := "()V" } : Jvm.MethodName) object_method_1_code (1 : Nat) (Option.none : Option Jvm.ClassFile.FieldType)).before args0 about1 = true := code_word (m := ⟨0, 0⟩) (meth := k0m0) (c := k0c0) (by decide +kernel) rfl rfl rfl (by decide +kernel)
set_option maxRecDepth 65536 in
theorem w_c4 : (Jvm.Cond.code ({ cls := "java/util/Objects", name := "requireNonNull", desc := "(Ljava/lang/Object;Ljava/lang/String;)Ljava/lang/Object;" } : Jvm.MethodName) jdk_31_method_11_code (2 : Nat) (Option.some (Jvm.ClassFile.FieldType.object "java/lang/Object"))).before args0 about1 = true := code_word (m := ⟨12, 1⟩) (meth := k12m1) (c := k12c1) (by decide +kernel) rfl rfl rfl (by decide +kernel)
set_option maxRecDepth 65536 in
theorem w_c5 : (Jvm.Cond.code ({ cls := "com/example/cartouche/cartouche/Fault", name := "equals", desc := "(Ljava/lang/Object;)Z" } : Jvm.MethodName) prog_6_method_4_code (3 : Nat) (Option.some Jvm.ClassFile.FieldType.boolean)).before args0 about1 = true := code_word (m := ⟨8, 1⟩) (meth := k8m1) (c := k8c1) (by decide +kernel) rfl rfl rfl (by decide +kernel)
set_option maxRecDepth 65536 in
theorem w_c6 : (Jvm.Cond.code ({ cls := "java/lang/Integer", name := "valueOf", desc := "(I)Ljava/lang/Integer;" } : Jvm.MethodName) jdk_33_method_22_code (1 : Nat) (Option.some (Jvm.ClassFile.FieldType.object "java/lang/Integer"))).before args0 about1 = true := code_word (m := ⟨14, 0⟩) (meth := k14m0) (c := k14c0) (by decide +kernel) rfl rfl rfl (by decide +kernel)
set_option maxRecDepth 65536 in
theorem w_c7 : (Jvm.Cond.code ({ cls := "java/lang/Integer", name := "<init>", desc := "(I)V" } : Jvm.MethodName) jdk_33_method_23_code (2 : Nat) (Option.none : Option Jvm.ClassFile.FieldType)).before args0 about1 = true := code_word (m := ⟨14, 1⟩) (meth := k14m1) (c := k14c1) (by decide +kernel) rfl rfl rfl (by decide +kernel)
set_option maxRecDepth 65536 in
theorem w_c8 : (Jvm.Cond.code ({ cls := "java/lang/Number", name := "<init>", desc := "()V" } : Jvm.MethodName) jdk_18_method_1_code (1 : Nat) (Option.none : Option Jvm.ClassFile.FieldType)).before args0 about1 = true := code_word (m := ⟨13, 0⟩) (meth := k13m0) (c := k13c0) (by decide +kernel) rfl rfl rfl (by decide +kernel)
def codes1 : List Jvm.Cond := [Jvm.Cond.code x code maxLocals ret, Jvm.Cond.code ({ cls := "com/example/cartouche/cartouche/FaultEqualsPinLaw", name := "pick", desc := "(I)Lcom/example/cartouche/cartouche/Rule;" } : Jvm.MethodName) method_2_code (2 : Nat) (Option.some (Jvm.ClassFile.FieldType.object "com/example/cartouche/cartouche/Rule")), Jvm.Cond.code ({ cls := "com/example/cartouche/cartouche/Fault", name := "<init>", desc := "(Lcom/example/cartouche/cartouche/Rule;I)V" } : Jvm.MethodName) prog_6_method_1_code (3 : Nat) (Option.none : Option Jvm.ClassFile.FieldType), Jvm.Cond.code ({ cls := "java/lang/Object", name := "<init>", desc := "()V" } : Jvm.MethodName) object_method_1_code (1 : Nat) (Option.none : Option Jvm.ClassFile.FieldType), Jvm.Cond.code ({ cls := "java/util/Objects", name := "requireNonNull", desc := "(Ljava/lang/Object;Ljava/lang/String;)Ljava/lang/Object;" } : Jvm.MethodName) jdk_31_method_11_code (2 : Nat) (Option.some (Jvm.ClassFile.FieldType.object "java/lang/Object")), Jvm.Cond.code ({ cls := "com/example/cartouche/cartouche/Fault", name := "equals", desc := "(Ljava/lang/Object;)Z" } : Jvm.MethodName) prog_6_method_4_code (3 : Nat) (Option.some Jvm.ClassFile.FieldType.boolean), Jvm.Cond.code ({ cls := "java/lang/Integer", name := "valueOf", desc := "(I)Ljava/lang/Integer;" } : Jvm.MethodName) jdk_33_method_22_code (1 : Nat) (Option.some (Jvm.ClassFile.FieldType.object "java/lang/Integer")), Jvm.Cond.code ({ cls := "java/lang/Integer", name := "<init>", desc := "(I)V" } : Jvm.MethodName) jdk_33_method_23_code (2 : Nat) (Option.none : Option Jvm.ClassFile.FieldType), Jvm.Cond.code ({ cls := "java/lang/Number", name := "<init>", desc := "()V" } : Jvm.MethodName) jdk_18_method_1_code (1 : Nat) (Option.none : Option Jvm.ClassFile.FieldType)]
set_option maxRecDepth 65536 in
theorem codes_eq : words1.filter isCode = codes1 := rfl
theorem w_codes : ∀ c ∈ words1.filter isCode, c.before args0 about1 = true := by
  rw [codes_eq]
  intro c hc
  simp only [codes1, List.mem_cons, List.not_mem_nil, or_false] at hc
  rcases hc with rfl | rfl | rfl | rfl | rfl | rfl | rfl | rfl | rfl
  · exact w_c0
  · exact w_c1
  · exact w_c2
  · exact w_c3
  · exact w_c4
  · exact w_c5
  · exact w_c6
  · exact w_c7
  · exact w_c8
set_option maxRecDepth 65536 in
theorem w_t1 : (words1.take 24).all (fun c => isCode c || c.before args0 about1) = true := by decide +kernel
set_option maxRecDepth 65536 in
theorem w_t2 : ((words1.drop 24).take 24).all (fun c => isCode c || c.before args0 about1) = true := by decide +kernel
set_option maxRecDepth 65536 in
theorem w_t3 : (((words1.drop 24).drop 24).take 24).all (fun c => isCode c || c.before args0 about1) = true := by decide +kernel
set_option maxRecDepth 65536 in
theorem w_t4 : (((words1.drop 24).drop 24).drop 24).all (fun c => isCode c || c.before args0 about1) = true := by decide +kernel
theorem w_tables : (allAtoms (Jvm.Cond.code x code maxLocals ret :: tables_1)).before args0 about1 = true := by
  rw [allAtoms_all]
  show words1.all (fun c => c.before args0 about1) = true
  refine all_split ?_ w_codes
  rw [← List.take_append_drop 24 words1, List.all_append, w_t1, ← List.take_append_drop 24 (words1.drop 24), List.all_append, w_t2, ← List.take_append_drop 24 ((words1.drop 24).drop 24), List.all_append, w_t3, w_t4]
  rfl
set_option maxRecDepth 65536 in
theorem w_rest : rest_1_c.before args0 about1 = true := by decide +kernel
set_option maxRecDepth 65536 in
theorem w_case : (Jvm.Cond.and given_1 narrow_1).before args0 about1 = true := by decide +kernel
theorem w_applies : (headSpec (Jvm.Cond.code x code maxLocals ret :: tables_1) room_1).applies x e0.platform about1 = true :=
  (Spec.applies_iff w_frames).mpr ⟨w_running, w_runnable, w_alone, w_named, w_hears, w_ripe, w_room, w_tables⟩
theorem atStart : AtStart classFile x code maxLocals ret World_1 tables_1 room_1 Calls_1 rest_1 Pre_1 launch0 p0 e0 about1 theMethod args0 below0 :=
  ⟨lists_1, trivial, launch0.admits_env _ _ _, launch0.least_env, fairChoices_fair.cas, fairChoices_fair.clock, w_frames, w_args, w_heap, w_applies, trivial, w_rest, w_case⟩
end start1
theorem witness_1 : WitnessClaimed_1 := ⟨start1.p0, start1.e0, start1.about1, start1.theMethod, start1.args0, start1.below0, start1.atStart⟩
end Jvm.Pilot.@@N@@
