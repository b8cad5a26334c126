import JvmDerived
import JvmDerived.Pilot.@@N@@Statement
import JvmDerived.Pilot.@@N@@Code
set_option linter.unusedVariables false
set_option linter.unusedSimpArgs false
@@BLOCK:NumsL.lean.txt@@
namespace Jvm.RoadKit
open Sem ClassFile Op Lib Jvm.Stand Jvm.Free Jvm.LawKit
section New
variable {p : Program} {l : Launch} {e : Env} {R : Room} {s : State} {m : MethodId} {args : Array Value} {below : List Frame} {meth : Method} {c : Code} {T : State} {locs : List Loc} {cells slots : Nat}
theorem retI (X : Stand p l e R s m args below meth c T locs cells slots) (hx : p.tables.exec = Jvm.exec) {pc : Nat} {Ls : Array Slot} {z : Int32} {rest : List Value} (hret : meth.sig.returnType = some .int) (hd : decode c.code pc = .ok (.ireturn, 1)) {fs : List Frame}
    (hl : ∀ (f : JFrame) (acts : List Action), f.method = m → f.locked = none → f.entered = [] → (doReturn e (T.setTop f) acts (some (.int z))).1 = T.setFrames fs) : Steps p.tables e below (T.setTop (mkF m pc Ls (.int z :: rest))) (T.setFrames fs) := by
  have hm' : T.vm.method? m = some meth := X.method'
  have hn : narrow .int (.int z) = .int z := rfl
  show Steps p.tables e below (T.setTop { method := m, pc := pc, locals := Ls, stack := _ :: rest, locked := none }) _
  jvm_step X.here [X.here.top, hx, hd, hm', hret, hn]
  first | (intro acts; rw [hl _ acts rfl rfl rfl]) | rw [hl _ _ rfl rfl rfl]
  exact Steps.refl _
end New
end Jvm.RoadKit
namespace Jvm.Pilot.@@N@@
open Jvm Jvm.ClassFile Sem Op Lib Jvm.Free Jvm.Stand Jvm.LawKit Jvm.RoadKit Bundle Jvm.Pilot.@@N@@.Jvm.D
section OwnKit
variable {p : Program} {l : Launch} {e : Env} {R : Room} {s : State} {m : MethodId} {args : Array Value} {below : List Frame} {meth : Method} {c : Code} {T : State} {locs : List Loc} {cells slots : Nat} {Z : State} {a0 : Array Value} {h : Heap} {Q : Option Value → Heap → List Loc → Prop} {C N : Nat} {t t' : State} {P : Outcome → State → Prop}
/-- from the state t the run comes to a return that meets Q -/
def own_Goes (p : Program) (e : Env) (below : List Frame) (P : Outcome → State → Prop) (t : State) : Prop :=
  ∃ s₂ o, Steps p.tables e below t s₂ ∧ s₂.status = .running ∧ Ended s₂ below o ∧ P o s₂
def own_P (s : State) (Q : Option Value → Heap → List Loc → Prop) (C N : Nat) : Outcome → State → Prop := fun o s₂ => ∃ v L, o = .returned v ∧ Q v s₂.heap L ∧ FrameEnd s o s₂ L C N
theorem own_by (st : ∀ target, Steps p.tables e below t' target → Steps p.tables e below t target) (k : own_Goes p e below P t') : own_Goes p e below P t := by
  obtain ⟨s₂, o, h1, h2⟩ := k
  exact ⟨s₂, o, st _ h1, h2⟩
theorem own_tr (st : Steps p.tables e below t t') (k : own_Goes p e below P t') : own_Goes p e below P t := by
  obtain ⟨s₂, o, h1, h2⟩ := k
  exact ⟨s₂, o, st.trans h1, h2⟩
theorem own_retI (X : Stand p l e R s m args below meth c T locs cells slots) (hx : p.tables.exec = Jvm.exec) (hlk : meth.locks = false) {pc : Nat} {Ls : Array Slot} {z : Int32} {rest : List Value} (hret : meth.sig.returnType = some .int) (hd : decode c.code pc = .ok (.ireturn, 1)) (hC : cells ≤ C) (hN : slots ≤ N) (hq : Q (some (.int z)) T.heap locs) : own_Goes p e below (own_P s Q C N) (T.setTop (mkF m pc Ls (.int z :: rest))) := by
  obtain ⟨fs, hr, hrun, hended, hW, hsame⟩ := X.leave (v := some (.int z)) (fun h => by rw [hret] at h; cases h) hlk
  exact ⟨_, _, retI X hx hret hd hr, hrun, hended, _, _, rfl, hq, ⟨_, rfl⟩, hW, hsame.mono hC hN⟩
theorem own_retN (X : Stand p l e R s m args below meth c T locs cells slots) (hx : p.tables.exec = Jvm.exec) (hlk : meth.locks = false) {pc : Nat} {Ls : Array Slot} {z : Int32} {ty : FieldType} {rest : List Value} (hret : meth.sig.returnType = some ty) (ht : ty = .boolean ∨ ty = .byte ∨ ty = .char ∨ ty = .short) (hd : decode c.code pc = .ok (.ireturn, 1)) (hC : cells ≤ C) (hN : slots ≤ N) (hq : Q (some (.int (nar ty z))) T.heap locs) : own_Goes p e below (own_P s Q C N) (T.setTop (mkF m pc Ls (.int z :: rest))) := by
  obtain ⟨fs, hr, hrun, hended, hW, hsame⟩ := X.leave (v := some (.int (nar ty z))) (fun h => by rw [hret] at h; cases h) hlk
  exact ⟨_, _, retN X hx hret ht hd hr, hrun, hended, _, _, rfl, hq, ⟨_, rfl⟩, hW, hsame.mono hC hN⟩
theorem own_retR (X : Stand p l e R s m args below meth c T locs cells slots) (hx : p.tables.exec = Jvm.exec) (hlk : meth.locks = false) {pc : Nat} {Ls : Array Slot} {w : Value} {ty : FieldType} {rest : List Value} (hret : meth.sig.returnType = some ty) (ht : ty.isReference = true) (hw : w.isRef = true) (hn : narrow ty w = w) (hd : decode c.code pc = .ok (.areturn, 1)) (hC : cells ≤ C) (hN : slots ≤ N) (hq : Q (some w) T.heap locs) : own_Goes p e below (own_P s Q C N) (T.setTop (mkF m pc Ls (w :: rest))) := by
  obtain ⟨fs, hr, hrun, hended, hW, hsame⟩ := X.leave (v := some w) (fun h => by rw [hret] at h; cases h) hlk
  exact ⟨_, _, retOut X hx hret hn (Or.inr (Or.inr (Or.inr (Or.inr ⟨rfl, ht, hw⟩)))) hd hr, hrun, hended, _, _, rfl, hq, ⟨_, rfl⟩, hW, hsame.mono hC hN⟩
theorem own_retV (X : Stand p l e R s m args below meth c T locs cells slots) (hx : p.tables.exec = Jvm.exec) (hlk : meth.locks = false) {pc : Nat} {Ls : Array Slot} (hret : meth.sig.returnType = none) (hd : decode c.code pc = .ok (.return_, 1)) (hC : cells ≤ C) (hN : slots ≤ N) (hq : Q none T.heap locs) : own_Goes p e below (own_P s Q C N) (T.setTop (mkF m pc Ls [])) := by
  obtain ⟨fs, hr, hrun, hended, hW, hsame⟩ := X.leave (v := none) (fun _ => rfl) hlk
  exact ⟨_, _, X.returnOut hx hret hd hr, hrun, hended, _, _, rfl, hq, ⟨_, rfl⟩, hW, hsame.mono hC hN⟩
/-- the method y, called with as' on the heap h, returns so that Qc holds -/
def own_Does (l : Launch) (Z : State) (y : MethodName) (bytes : ByteArray) (maxL : Nat) (ret : Option FieldType) (ws : List Jvm.Cond) (rm : Room) (as' : Array Value) (h : Heap) (Qc : Option Value → Heap → List Loc → Prop) : Prop :=
  MetFree l y (head1 (Jvm.Cond.code y bytes maxL ret :: ws) rm) (fun a U => a = as' ∧ Z.Warmed39 U.vm ∧ U.heap = h) (fun _ _ _ _ _ => True) (fun _ U o U' => ∃ v L, o = .returned v ∧ Qc v U'.heap L ∧ FrameEnd U o U' L rm.cells rm.slots)
theorem own_body {y : MethodName} {bytes : ByteArray} {maxL : Nat} {ret : Option FieldType} {ws : List Jvm.Cond} {rm : Room} {as' : Array Value} (hpn : plainName y.cls = true)
    (body : ∀ (p : Program) (e : Env) (s : State) (m : MethodId) (below : List Frame) (meth : Method) (c : Code) (T : State), p.tables.exec = Jvm.exec → c.code = bytes → c.maxLocals = maxL → meth.sig.returnType = ret → meth.locks = false → meth.name = y.name → s.vm.findClass y.cls = some m.cls → Z.Warmed39 s.vm → Stand p l e rm s m as' below meth c T [] 0 0 → T.heap = h → own_Goes p e below (own_P s Q rm.cells rm.slots) (T.setTop (entryFrame m as' maxL))) :
    own_Does l Z y bytes maxL ret ws rm as' h Q := by
  refine MetFree.of_bodySF (plainFor_of_name hpn) hisR ?_
  intro p e s m args below meth c s₁ Bd hml0 hP hK
  obtain ⟨rfl, hZ, hh⟩ := hP
  exact body p e s m below meth c s₁ Bd.exec Bd.bytes hml0 Bd.returns Bd.notSynchronized (name_of_methodNamed Bd.named Bd.method).1 (findClass_of_methodNamed Bd.named) hZ (Stand.of_body Bd) (by rw [← hh, Bd.state]; rfl)
theorem own_bodyP {y : MethodName} {bytes : ByteArray} {maxL : Nat} {ret : Option FieldType} {ws : List Jvm.Cond} {rm : Room} {as' : Array Value} (hpn : plainFor y = true)
    (body : ∀ (p : Program) (e : Env) (s : State) (m : MethodId) (below : List Frame) (meth : Method) (c : Code) (T : State), p.tables.exec = Jvm.exec → c.code = bytes → c.maxLocals = maxL → meth.sig.returnType = ret → meth.locks = false → meth.name = y.name → s.vm.findClass y.cls = some m.cls → Z.Warmed39 s.vm → Stand p l e rm s m as' below meth c T [] 0 0 → T.heap = h → own_Goes p e below (own_P s Q rm.cells rm.slots) (T.setTop (entryFrame m as' maxL))) :
    own_Does l Z y bytes maxL ret ws rm as' h Q := by
  refine MetFree.of_bodySF hpn hisR ?_
  intro p e s m args below meth c s₁ Bd hml0 hP hK
  obtain ⟨rfl, hZ, hh⟩ := hP
  exact body p e s m below meth c s₁ Bd.exec Bd.bytes hml0 Bd.returns Bd.notSynchronized (name_of_methodNamed Bd.named Bd.method).1 (findClass_of_methodNamed Bd.named) hZ (Stand.of_body Bd) (by rw [← hh, Bd.state]; rfl)
/-- it returns w, and nothing has been written -/
def own_Is (w : Value) (h : Heap) : Option Value → Heap → List Loc → Prop := fun v h' L => v = some w ∧ L = [] ∧ h' = h
theorem own_callS (X : Stand p l e R s m args below meth c T locs cells slots) (hx : p.tables.exec = Jvm.exec) (hZ : Z.Warmed39 s.vm) {own : String} {index : Nat} {y : MethodName} {bytes : ByteArray} {maxL : Nat} {ret : Option FieldType} {rm : Room} {argsL rest : List Value} {Qc : Option Value → Heap → List Loc → Prop} {W : Nat}
    (hown : s.vm.findClass own = some m.cls) (w1 : (Cond.methodLink own index y).before a0 Z = true) (w2 : (Cond.static y).before a0 Z = true) (w3 : (Cond.initialized y.cls).before a0 Z = true) (w4 : (Cond.code y bytes maxL ret).before a0 Z = true)
    (hy : y.cls ≠ "java/lang/invoke/MethodHandle" ∧ y.cls ≠ "java/lang/invoke/VarHandle") (eT : T.heap = h) (D : own_Does l Z y bytes maxL ret [] rm argsL.toArray h Qc)
    (hf : rm.frames + 1 ≤ R.frames) (hl : W + (maxL + 11) + rm.locals ≤ R.locals) (hc : cells + rm.cells ≤ R.cells) (hn : slots + rm.slots ≤ R.slots)
    {pc : Nat} {Ls : Array Slot} {S : List Value} (hsize : Ls.size = c.maxLocals) (hlen : ∀ sig, parseMethodDescriptor y.desc = some sig → argsL.length = sig.parameters.length) (hstack : S = argsL.reverse ++ rest) (hW : 2 * 0 + (rest.map fun v => v.category).sum ≤ W) (hd : decode c.code pc = .ok (.invokestatic index, 3))
    (k : ∀ v T' L', Stand p l e R s m args below meth c T' (locs ++ L') (cells + rm.cells) (slots + rm.slots) → Qc v T'.heap L' → own_Goes p e below P (T'.setTop (mkF m (pc + 3) Ls (v.toList ++ rest)))) :
    own_Goes p e below P (T.setTop (mkF m pc Ls S)) := by
  obtain ⟨v, _, ⟨T', L', k', n'⟩, -, X', ⟨Lc, hQ, l', y', z'⟩, st⟩ := Jvm.LawKit.callS X hx hown (mvT hZ w1) (mvT hZ w2) (mvT hZ w3) (mvT hZ w4) hy (backOf (W := W) D hZ w4 w3 hf hl) (g := mkF m pc Ls S) rfl hsize (argsL := argsL) (rest := rest) hlen hstack hW hd (fun _ _ => ⟨rfl, eT, hc, hn⟩)
  dsimp only [Pt.U, Pt.locs, Pt.cells, Pt.slots] at X' l' y' z' st hQ
  subst l' y' z'
  exact own_by st (k v T' Lc X' hQ)
theorem own_callS0 (X : Stand p l e R s m args below meth c T locs cells slots) (hx : p.tables.exec = Jvm.exec) (hZ : Z.Warmed39 s.vm) {own : String} {index : Nat} {y : MethodName} {bytes : ByteArray} {maxL : Nat} {ret : Option FieldType} {fr lo : Nat} {argsL rest : List Value} {w : Value} {W : Nat}
    (hown : s.vm.findClass own = some m.cls) (w1 : (Cond.methodLink own index y).before a0 Z = true) (w2 : (Cond.static y).before a0 Z = true) (w3 : (Cond.initialized y.cls).before a0 Z = true) (w4 : (Cond.code y bytes maxL ret).before a0 Z = true)
    (hy : y.cls ≠ "java/lang/invoke/MethodHandle" ∧ y.cls ≠ "java/lang/invoke/VarHandle") (eT : T.heap = h) (D : own_Does l Z y bytes maxL ret [] { frames := fr, cells := 0, slots := 0, locals := lo } argsL.toArray h (own_Is w h))
    (hf : fr + 1 ≤ R.frames) (hl : W + (maxL + 11) + lo ≤ R.locals) (hc : cells ≤ R.cells) (hn : slots ≤ R.slots)
    {pc : Nat} {Ls : Array Slot} {S : List Value} (hsize : Ls.size = c.maxLocals) (hlen : ∀ sig, parseMethodDescriptor y.desc = some sig → argsL.length = sig.parameters.length) (hstack : S = argsL.reverse ++ rest) (hW : 2 * 0 + (rest.map fun v => v.category).sum ≤ W) (hd : decode c.code pc = .ok (.invokestatic index, 3))
    (k : ∀ T', Stand p l e R s m args below meth c T' locs cells slots → T'.heap = h → own_Goes p e below P (T'.setTop (mkF m (pc + 3) Ls (w :: rest)))) :
    own_Goes p e below P (T.setTop (mkF m pc Ls S)) := by
  refine own_callS X hx hZ hown w1 w2 w3 w4 hy eT D hf hl hc hn hsize hlen hstack hW hd fun v T' L' X' hQ => ?_
  obtain ⟨rfl, rfl, e'⟩ := hQ
  rw [List.append_nil] at X'
  exact k T' X' e'
theorem own_callV (X : Stand p l e R s m args below meth c T locs cells slots) (hx : p.tables.exec = Jvm.exec) (hZ : Z.Warmed39 s.vm) {own K : String} {index : Nat} {y : MethodName} {bytes : ByteArray} {maxL : Nat} {ret : Option FieldType} {rm : Room} {b : Addr} {argsL rest : List Value} {Qc : Option Value → Heap → List Loc → Prop} {W : Nat}
    (hown : s.vm.findClass own = some m.cls) (w1 : (Cond.methodLink own index y).before a0 Z = true) (w2 : (Cond.declares y).before a0 Z = true) (w3 : (Cond.selects K y y).before a0 Z = true) (w4 : (Cond.instanceMethod y).before a0 Z = true) (w5 : (Cond.code y bytes maxL ret).before a0 Z = true) (w6 : (Cond.initialized y.cls).before a0 Z = true)
    (hy : y.cls ≠ "java/lang/invoke/MethodHandle" ∧ y.cls ≠ "java/lang/invoke/VarHandle") (eT : T.heap = h) (E : Exa Z h b K) (D : own_Does l Z y bytes maxL ret [] rm (.ref b :: argsL).toArray h Qc)
    (hf : rm.frames + 1 ≤ R.frames) (hl : W + (maxL + 11) + rm.locals ≤ R.locals) (hc : cells + rm.cells ≤ R.cells) (hn : slots + rm.slots ≤ R.slots)
    {pc : Nat} {Ls : Array Slot} {S : List Value} (hsize : Ls.size = c.maxLocals) (hlen : ∀ sig, parseMethodDescriptor y.desc = some sig → argsL.length = sig.parameters.length) (hstack : S = argsL.reverse ++ .ref b :: rest) (hW : 2 * 0 + (rest.map fun v => v.category).sum ≤ W) (hd : decode c.code pc = .ok (.invokevirtual index, 3))
    (k : ∀ v T' L', Stand p l e R s m args below meth c T' (locs ++ L') (cells + rm.cells) (slots + rm.slots) → Qc v T'.heap L' → own_Goes p e below P (T'.setTop (mkF m (pc + 3) Ls (v.toList ++ rest)))) :
    own_Goes p e below P (T.setTop (mkF m pc Ls S)) := by
  obtain ⟨cq, kq, qa, -, qc⟩ := isOf (T := T) hZ eT E
  obtain ⟨v, _, ⟨T', L', k', n'⟩, -, X', ⟨Lc, hQ, l', y', z'⟩, st⟩ := X.virtualBack hx (y := y) (z := y) hown (mvT hZ w1) (mvT hZ w2) (notFace_of_selects (args := #[]) (mvT hZ w3)) (mvT hZ w3) (mvT hZ w4) hy (backOf (W := W) D hZ w5 w6 hf hl) qa qc (g := mkF m pc Ls S) rfl hsize (Steps.refl _) (argsL := argsL) (rest := rest) hlen hstack hW hd (fun _ _ => ⟨rfl, eT, hc, hn⟩)
  dsimp only [Pt.U, Pt.locs, Pt.cells, Pt.slots] at X' l' y' z' st hQ
  subst l' y' z'
  exact own_tr st (k v T' Lc X' hQ)
theorem own_callV0 (X : Stand p l e R s m args below meth c T locs cells slots) (hx : p.tables.exec = Jvm.exec) (hZ : Z.Warmed39 s.vm) {own K : String} {index : Nat} {y : MethodName} {bytes : ByteArray} {maxL : Nat} {ret : Option FieldType} {fr lo : Nat} {b : Addr} {argsL rest : List Value} {w : Value} {W : Nat}
    (hown : s.vm.findClass own = some m.cls) (w1 : (Cond.methodLink own index y).before a0 Z = true) (w2 : (Cond.declares y).before a0 Z = true) (w3 : (Cond.selects K y y).before a0 Z = true) (w4 : (Cond.instanceMethod y).before a0 Z = true) (w5 : (Cond.code y bytes maxL ret).before a0 Z = true) (w6 : (Cond.initialized y.cls).before a0 Z = true)
    (hy : y.cls ≠ "java/lang/invoke/MethodHandle" ∧ y.cls ≠ "java/lang/invoke/VarHandle") (eT : T.heap = h) (E : Exa Z h b K) (D : own_Does l Z y bytes maxL ret [] { frames := fr, cells := 0, slots := 0, locals := lo } (.ref b :: argsL).toArray h (own_Is w h))
    (hf : fr + 1 ≤ R.frames) (hl : W + (maxL + 11) + lo ≤ R.locals) (hc : cells ≤ R.cells) (hn : slots ≤ R.slots)
    {pc : Nat} {Ls : Array Slot} {S : List Value} (hsize : Ls.size = c.maxLocals) (hlen : ∀ sig, parseMethodDescriptor y.desc = some sig → argsL.length = sig.parameters.length) (hstack : S = argsL.reverse ++ .ref b :: rest) (hW : 2 * 0 + (rest.map fun v => v.category).sum ≤ W) (hd : decode c.code pc = .ok (.invokevirtual index, 3))
    (k : ∀ T', Stand p l e R s m args below meth c T' locs cells slots → T'.heap = h → own_Goes p e below P (T'.setTop (mkF m (pc + 3) Ls (w :: rest)))) :
    own_Goes p e below P (T.setTop (mkF m pc Ls S)) := by
  refine own_callV X hx hZ hown w1 w2 w3 w4 w5 w6 hy eT E D hf hl hc hn hsize hlen hstack hW hd fun v T' L' X' hQ => ?_
  obtain ⟨rfl, rfl, e'⟩ := hQ
  rw [List.append_nil] at X'
  exact k T' X' e'
theorem own_getS (X : Stand p l e R s m args below meth c T locs cells slots) (hx : p.tables.exec = Jvm.exec) (hZ : Z.Warmed39 s.vm) {own O n d : String} {index : Nat} (hown : s.vm.findClass own = some m.cls) (w : (Cond.fieldLink own index O n d).before a0 Z = true) (eT : T.heap = h) {v : Value} (F : Sta Z h O n d v)
    {pc : Nat} {Ls : Array Slot} {S : List Value} (hd : decode c.code pc = .ok (.getstatic index, 3))
    (k : ∀ T', Stand p l e R s m args below meth c T' locs cells slots → T'.heap = h → own_Goes p e below P (T'.setTop (mkF m (pc + 3) Ls (v :: S)))) :
    own_Goes p e below P (T.setTop (mkF m pc Ls S)) := by
  obtain ⟨T', X', e', st⟩ := getS X hx hZ (host := "") hown w Via.refl eT F (g := mkF m pc Ls S) rfl hd
  exact own_by st (k T' X' e')
theorem own_getF (X : Stand p l e R s m args below meth c T locs cells slots) (hx : p.tables.exec = Jvm.exec) (hZ : Z.Warmed39 s.vm) {own O n d : String} {index : Nat} (hown : s.vm.findClass own = some m.cls) (w : (Cond.fieldLink own index O n d).before a0 Z = true) (eT : T.heap = h) {a : Addr} {v : Value} (F : Fld Z h a O n d v)
    {pc : Nat} {Ls : Array Slot} {S : List Value} (hd : decode c.code pc = .ok (.getfield index, 3))
    (k : ∀ T', Stand p l e R s m args below meth c T' locs cells slots → T'.heap = h → own_Goes p e below P (T'.setTop (mkF m (pc + 3) Ls (v :: S)))) :
    own_Goes p e below P (T.setTop (mkF m pc Ls (.ref a :: S))) := by
  obtain ⟨T', X', e', st⟩ := getF X hx hZ (host := "") hown (Or.inl w) Via.refl eT F (g := mkF m pc Ls (.ref a :: S)) rfl rfl hd
  exact own_by st (k T' X' e')
/-! a callee or a road that may load a String constant -/
def own_PW (s : State) (Q : Option Value → Heap → List Loc → Prop) (C N : Nat) : Outcome → State → Prop := fun o s₂ => ∃ v L, o = .returned v ∧ Q v s₂.heap L ∧ ReturnedEndW s o s₂ L C N
theorem own_endW {vm0 : Vm} {k0 : Nat} (X : Stand p l e R (s.setVm vm0) m args below meth c T locs cells slots) (hS : s.Since vm0 k0) (hk : k0 ≤ T.heap.size) (hlk : meth.locks = false) (v : Option Value) (hv : meth.sig.returnType = none → v = none) (hC : cells ≤ C) (hN : slots ≤ N) (hq : Q v T.heap locs) :
    ∃ fs, (∀ (f : JFrame) (acts : List Action), f.method = m → f.locked = none → f.entered = [] → (doReturn e (T.setTop f) acts v).1 = T.setFrames fs) ∧ ∀ t0, Steps p.tables e below t0 (T.setFrames fs) → own_Goes p e below (own_PW s Q C N) t0 := by
  obtain ⟨fs, hr, hrun, hended, -, h1, h2, h3⟩ := X.leaveW hS hk hv hlk
  exact ⟨fs, hr, fun t0 st => ⟨_, _, st, hrun, hended, _, _, rfl, hq, ⟨_, rfl⟩, h1, h2, h3.mono hC hN⟩⟩
theorem own_retNW {vm0 : Vm} {k0 : Nat} (X : Stand p l e R (s.setVm vm0) m args below meth c T locs cells slots) (hS : s.Since vm0 k0) (hk : k0 ≤ T.heap.size) (hx : p.tables.exec = Jvm.exec) (hlk : meth.locks = false) {pc : Nat} {Ls : Array Slot} {z : Int32} {ty : FieldType} {rest : List Value} (hret : meth.sig.returnType = some ty) (ht : ty = .boolean ∨ ty = .byte ∨ ty = .char ∨ ty = .short) (hd : decode c.code pc = .ok (.ireturn, 1)) (hC : cells ≤ C) (hN : slots ≤ N) (hq : Q (some (.int (nar ty z))) T.heap locs) : own_Goes p e below (own_PW s Q C N) (T.setTop (mkF m pc Ls (.int z :: rest))) := by
  obtain ⟨fs, hr, k⟩ := own_endW X hS hk hlk (some (.int (nar ty z))) (fun h => by rw [hret] at h; cases h) hC hN hq
  exact k _ (retN X hx hret ht hd hr)
theorem own_retRW {vm0 : Vm} {k0 : Nat} (X : Stand p l e R (s.setVm vm0) m args below meth c T locs cells slots) (hS : s.Since vm0 k0) (hk : k0 ≤ T.heap.size) (hx : p.tables.exec = Jvm.exec) (hlk : meth.locks = false) {pc : Nat} {Ls : Array Slot} {w : Value} {ty : FieldType} {rest : List Value} (hret : meth.sig.returnType = some ty) (ht : ty.isReference = true) (hw : w.isRef = true) (hn : narrow ty w = w) (hd : decode c.code pc = .ok (.areturn, 1)) (hC : cells ≤ C) (hN : slots ≤ N) (hq : Q (some w) T.heap locs) : own_Goes p e below (own_PW s Q C N) (T.setTop (mkF m pc Ls (w :: rest))) := by
  obtain ⟨fs, hr, k⟩ := own_endW X hS hk hlk (some w) (fun h => by rw [hret] at h; cases h) hC hN hq
  exact k _ (retOut X hx hret hn (Or.inr (Or.inr (Or.inr (Or.inr ⟨rfl, ht, hw⟩)))) hd hr)
theorem own_retVW {vm0 : Vm} {k0 : Nat} (X : Stand p l e R (s.setVm vm0) m args below meth c T locs cells slots) (hS : s.Since vm0 k0) (hk : k0 ≤ T.heap.size) (hx : p.tables.exec = Jvm.exec) (hlk : meth.locks = false) {pc : Nat} {Ls : Array Slot} (hret : meth.sig.returnType = none) (hd : decode c.code pc = .ok (.return_, 1)) (hC : cells ≤ C) (hN : slots ≤ N) (hq : Q none T.heap locs) : own_Goes p e below (own_PW s Q C N) (T.setTop (mkF m pc Ls [])) := by
  obtain ⟨fs, hr, k⟩ := own_endW X hS hk hlk none (fun _ => rfl) hC hN hq
  exact k _ (X.returnOut hx hret hd hr)
def own_DoesW (l : Launch) (Z : State) (y : MethodName) (bytes : ByteArray) (maxL : Nat) (ret : Option FieldType) (ws : List Jvm.Cond) (rm : Room) (as' : Array Value) (h : Heap) (Qc : Option Value → Heap → List Loc → Prop) : Prop :=
  MetFree l y (head1 (Jvm.Cond.code y bytes maxL ret :: ws) rm) (fun a U => a = as' ∧ Z.Warmed39 U.vm ∧ U.heap = h) (fun _ _ _ _ _ => True) (fun _ U o U' => ∃ v L, o = .returned v ∧ Qc v U'.heap L ∧ ReturnedEndW U o U' L rm.cells rm.slots)
theorem own_bodyW {y : MethodName} {bytes : ByteArray} {maxL : Nat} {ret : Option FieldType} {ws : List Jvm.Cond} {rm : Room} {as' : Array Value} (hpn : plainName y.cls = true)
    (body : ∀ (p : Program) (e : Env) (s : State) (m : MethodId) (below : List Frame) (meth : Method) (c : Code) (T : State), p.tables.exec = Jvm.exec → c.code = bytes → c.maxLocals = maxL → meth.sig.returnType = ret → meth.locks = false → meth.name = y.name → (s.setVm s.vm).vm.findClass y.cls = some m.cls → Z.Warmed39 (s.setVm s.vm).vm → s.Since s.vm 0 → Stand p l e rm (s.setVm s.vm) m as' below meth c T [] 0 0 → T.heap = h → own_Goes p e below (own_PW s Q rm.cells rm.slots) (T.setTop (entryFrame m as' maxL))) :
    own_DoesW l Z y bytes maxL ret ws rm as' h Q := by
  refine MetFree.of_bodySF (plainFor_of_name hpn) hisR ?_
  intro p e s m args below meth c s₁ Bd hml0 hP hK
  obtain ⟨rfl, hZ, hh⟩ := hP
  exact body p e s m below meth c s₁ Bd.exec Bd.bytes hml0 Bd.returns Bd.notSynchronized (name_of_methodNamed Bd.named Bd.method).1 (findClass_of_methodNamed Bd.named) hZ ((State.WarmedH.refl s).since 0) (Stand.of_body Bd) (by rw [← hh, Bd.state]; rfl)
theorem own_ldcS {vm0 : Vm} {k0 : Nat} (X : Stand p l e R (s.setVm vm0) m args below meth c T locs cells slots) (hx : p.tables.exec = Jvm.exec) (hZ : Z.Warmed39 (s.setVm vm0).vm) {own text : String} {index : Nat} (hown : (s.setVm vm0).vm.findClass own = some m.cls) (w : (Cond.stringLink own index text).before a0 Z = true) (wS : ∀ a ∈ Bundle.stringAtoms, a.before a0 Z = true)
    (eT : T.heap = h) (hS : s.Since vm0 k0) (hk : k0 ≤ h.size) {pc : Nat} {Ls : Array Slot} {S : List Value} (hd : decode c.code pc = .ok (.ldc index, 2)) {n : Nat} (hn : 4 * text.toList.length ≤ n) (hbig : n ≤ 536870912) (hc : cells + 2 ≤ R.cells) (hl : slots + (n + 4) ≤ R.slots)
    (k : ∀ (a : Addr) (T' : State) (h' : Heap) (k1 : Nat), Stand p l e R (s.setVm T'.vm) m args below meth c T' locs (cells + 2) (slots + (n + 4)) → T'.heap = h' → Ext h h' → s.Since T'.vm k1 → k1 ≤ h'.size → Z.Warmed39 (s.setVm T'.vm).vm → (s.setVm T'.vm).vm.findClass own = some m.cls → own_Goes p e below P (T'.setTop (mkF m (pc + 2) Ls (.ref a :: S)))) :
    own_Goes p e below P (T.setTop (mkF m pc Ls S)) := by
  obtain ⟨a, T', h', k1, X', e', E', hS', hk', hZ', hown', st⟩ := ldcS X hx hZ hown w wS eT hS hk (g := mkF m pc Ls S) rfl hd hn hbig hc hl
  exact own_by st (k a T' h' k1 X' e' E' hS' hk' hZ' hown')
theorem own_callSS {vm0 : Vm} {k0 : Nat} (X : Stand p l e R (s.setVm vm0) m args below meth c T locs cells slots) (hx : p.tables.exec = Jvm.exec) (hZ : Z.Warmed39 (s.setVm vm0).vm) (hS : s.Since vm0 k0) (hk : k0 ≤ T.heap.size) {own : String} {index : Nat} {y : MethodName} {bytes : ByteArray} {maxL : Nat} {ret : Option FieldType} {rm : Room} {argsL rest : List Value} {Qc : Option Value → Heap → List Loc → Prop} {W : Nat}
    (hown : (s.setVm vm0).vm.findClass own = some m.cls) (w1 : (Cond.methodLink own index y).before a0 Z = true) (w2 : (Cond.static y).before a0 Z = true) (w3 : (Cond.initialized y.cls).before a0 Z = true) (w4 : (Cond.code y bytes maxL ret).before a0 Z = true)
    (hy : y.cls ≠ "java/lang/invoke/MethodHandle" ∧ y.cls ≠ "java/lang/invoke/VarHandle") (eT : T.heap = h) (D : own_DoesW l Z y bytes maxL ret [] rm argsL.toArray h Qc)
    (hf : rm.frames + 1 ≤ R.frames) (hl : W + (maxL + 11) + rm.locals ≤ R.locals) (hc : cells + rm.cells ≤ R.cells) (hn : slots + rm.slots ≤ R.slots)
    {pc : Nat} {Ls : Array Slot} {S : List Value} (hsize : Ls.size = c.maxLocals) (hlen : ∀ sig, parseMethodDescriptor y.desc = some sig → argsL.length = sig.parameters.length) (hstack : S = argsL.reverse ++ rest) (hW : 2 * 0 + (rest.map fun v => v.category).sum ≤ W) (hd : decode c.code pc = .ok (.invokestatic index, 3))
    (k : ∀ v T' L', Stand p l e R (s.setVm T'.vm) m args below meth c T' (locs ++ L') (cells + rm.cells) (slots + rm.slots) → s.Since T'.vm T'.heap.size → Z.Warmed39 (s.setVm T'.vm).vm → (s.setVm T'.vm).vm.findClass own = some m.cls → Qc v T'.heap L' → own_Goes p e below P (T'.setTop (mkF m (pc + 3) Ls (v.toList ++ rest)))) :
    own_Goes p e below P (T.setTop (mkF m pc Ls S)) := by
  obtain ⟨v, _, ⟨T', L', k', n'⟩, -, X', hS2, hg2, ⟨Lc, hQ, l', y', z'⟩, st⟩ := callSS X hx hown (mvT hZ w1) (mvT hZ w2) (mvT hZ w3) (mvT hZ w4) hy (backOfS (W := W) D hZ w4 w3 hf hl) (g := mkF m pc Ls S) rfl hsize (argsL := argsL) (rest := rest) hlen hstack hW hd (fun _ _ => ⟨rfl, eT, hc, hn⟩)
  dsimp only [Pt.U, Pt.locs, Pt.cells, Pt.slots] at X' l' y' z' st hQ hS2 hg2
  subst l' y' z'
  obtain ⟨X2, hS3, hZ3, hown3⟩ := rebS hS hk X' hS2 hg2 hZ hown
  exact own_tr st (k v T' Lc X2 hS3 hZ3 hown3 hQ)
theorem own_callIS {vm0 : Vm} {k0 : Nat} (X : Stand p l e R (s.setVm vm0) m args below meth c T locs cells slots) (hx : p.tables.exec = Jvm.exec) (hZ : Z.Warmed39 (s.setVm vm0).vm) (hS : s.Since vm0 k0) (hk : k0 ≤ T.heap.size) {own : String} {index : Nat} {y : MethodName} {bytes : ByteArray} {maxL : Nat} {rm : Room} {a : Addr} {argsL rest : List Value} {Qc : Option Value → Heap → List Loc → Prop} {W : Nat} (hy1 : y.name = "<init>")
    (hown : (s.setVm vm0).vm.findClass own = some m.cls) (w1 : (Cond.methodLink own index y).before a0 Z = true) (w2 : (Cond.instanceMethod y).before a0 Z = true) (w3 : (Cond.code y bytes maxL none).before a0 Z = true) (w4 : (Cond.initialized y.cls).before a0 Z = true)
    (hy : y.cls ≠ "java/lang/invoke/MethodHandle" ∧ y.cls ≠ "java/lang/invoke/VarHandle") (eT : T.heap = h) (D : own_DoesW l Z y bytes maxL none [] rm (.ref a :: argsL).toArray h Qc)
    (hf : rm.frames + 1 ≤ R.frames) (hl : W + (maxL + 11) + rm.locals ≤ R.locals) (hc : cells + rm.cells ≤ R.cells) (hn : slots + rm.slots ≤ R.slots)
    {pc : Nat} {Ls : Array Slot} {S : List Value} (hsize : Ls.size = c.maxLocals) (hlen : ∀ sig, parseMethodDescriptor y.desc = some sig → argsL.length = sig.parameters.length) (hstack : S = argsL.reverse ++ .ref a :: rest) (hW : 2 * 0 + (rest.map fun v => v.category).sum ≤ W) (hd : decode c.code pc = .ok (.invokespecial index, 3))
    (k : ∀ v T' L', Stand p l e R (s.setVm T'.vm) m args below meth c T' (locs ++ L') (cells + rm.cells) (slots + rm.slots) → s.Since T'.vm T'.heap.size → Z.Warmed39 (s.setVm T'.vm).vm → (s.setVm T'.vm).vm.findClass own = some m.cls → Qc v T'.heap L' → own_Goes p e below P (T'.setTop (mkF m (pc + 3) Ls (v.toList ++ rest)))) :
    own_Goes p e below P (T.setTop (mkF m pc Ls S)) := by
  obtain ⟨v, _, ⟨T', L', k', n'⟩, -, X', hS2, hg2, ⟨Lc, hQ, l', y', z'⟩, st⟩ := X.specialBackS hx (y := y) hy1 hown (mvT hZ w1) (mvT hZ w2) (mvT hZ w3) hy (backOfS (W := W) D hZ w3 w4 hf hl) (g := mkF m pc Ls S) rfl hsize (Steps.refl _) (a := a) (argsL := argsL) (rest := rest) hlen hstack hW hd (fun _ _ => ⟨rfl, eT, hc, hn⟩)
  dsimp only [Pt.U, Pt.locs, Pt.cells, Pt.slots] at X' l' y' z' st hQ hS2 hg2
  subst l' y' z'
  obtain ⟨X2, hS3, hZ3, hown3⟩ := rebS hS hk X' hS2 hg2 hZ hown
  exact own_tr st (k v T' Lc X2 hS3 hZ3 hown3 hQ)
theorem own_notIns {O N1 C1 K : String} {n : Nat} (w1 : (Cond.superclass C1 N1).before a0 Z = true) (w2 : (Cond.superclass N1 O).before a0 Z = true) (w3 : (Cond.noSuperclass O).before a0 Z = true) (wi : (Cond.instantiable K n).before a0 Z = true) (h1 : O ≠ K) (h2 : N1 ≠ K) (h3 : C1 ≠ K) : ∃ c t, Z.vm.findClass C1 = some c ∧ Z.vm.findClass K = some t ∧ Z.vm.assignable c t = false := by
  obtain ⟨t, kt, g1, g2, g3, g4, -⟩ := Cond.instantiable_spec wi
  have root : NS Z O K := by
    obtain ⟨c, k, q1, q2, q3, -, -⟩ := Cond.noSuperclass_spec w3
    have ne := ids_ne q1 g1 h1
    refine ⟨c, t, q1, g1, fun fuel => ?_⟩
    cases fuel with
    | zero => rfl
    | succ f => simp [Vm.isSubclassAux, ne, q2, q3]
  obtain ⟨c, t', q0, q1, n3⟩ := NS.step w1 (NS.step w2 root h2) h3
  cases g1.symm.trans q1
  obtain ⟨p, k, kp, r1, r2, r3, r4, r5, -, r7⟩ := Cond.superclass_spec q0 w1
  have ne := ids_ne q0 g1 h3
  have g5 : kt.isInterface = false := by
    cases hq : kt.isInterface
    · rfl
    · rw [hq] at g4; cases g4
  refine ⟨c, t, q0, g1, ?_⟩
  show Z.vm.assignableAux (255 + 1) c t = false
  simp [Vm.assignableAux, ne, r2, g2, r5, g3, g5, Vm.isSubclass, n3]
/-! from the case's words -/
theorem own_eqR {args : Array Value} {s : State} {a b : Term} {y : Addr} (h1 : (Cond.eq a b).value args s none s [] = some true) (h2 : b.eval args s none [] s = some (.ref y)) : a.eval args s none [] s = some (.ref y) := by
  simp only [Cond.value, h2] at h1
  cases ha : a.eval args s none [] s with
  | none => simp [ha] at h1
  | some x => cases x <;> simp [ha] at h1 ⊢ <;> exact h1
theorem own_eqI {args : Array Value} {s : State} {a : Term} {n : Int32} (h1 : (Cond.eq a (.int n)).value args s none s [] = some true) : a.eval args s none [] s = some (.int n) := by
  have h2 : (Term.int n).eval args s none [] s = some (.int n) := rfl
  simp only [Cond.value, h2] at h1
  cases ha : a.eval args s none [] s with
  | none => simp [ha] at h1
  | some x => cases x <;> simp [ha] at h1 ⊢ <;> exact h1
theorem own_fld {args : Array Value} {s : State} {t : Term} {a : Addr} {C n d : String} {v : Value} (ht : t.eval args s none [] s = some (.ref a)) (h : (Term.field t C n d).eval args s none [] s = some v) : Fld s s.heap a C n d v := Fld.start (by rw [← fld_at ht]; exact h)
/-- two objects whose field differs are two -/
theorem own_ne {a b : Addr} {C n d : String} {v w : Value} (F : Fld Z h a C n d v) (G : Fld Z h b C n d w) (hn : v ≠ w) : a ≠ b := fun q => by
  subst q
  obtain ⟨c1, f1, k1, i1, g1, h1, h2, -, -, -, -, h7⟩ := F
  obtain ⟨c2, f2, k2, i2, g2, e1, e2, -, -, -, -, e7⟩ := G
  cases h1.symm.trans e1
  cases h2.symm.trans e2
  exact hn (Option.some.inj (h7.symm.trans e7))
/-! arrays: the array at a has n components, the i-th is f i -/
def own_ArrF (Z : State) (h : Heap) (a : Addr) (ty : FieldType) (n : Nat) (f : Nat → Value) : Prop := ∃ cell, Arr Z h a cell ty ∧ cell.slots.size = n ∧ n < 2 ^ 31 ∧ ∀ i, i < n → cell.slots[i]? = some (f i)
theorem own_len {args : Array Value} {s : State} {t : Term} {a : Addr} {cell : Cell} {n : Int32} (h : (Term.length t).eval args s none [] s = some (.int n)) (ht : t.eval args s none [] s = some (.ref a)) (hc : s.arrayAt? a = some cell) : cell.slots.size < 2 ^ 31 ∧ cell.slots.size.toInt32 = n := by
  simp only [Term.eval, ht, hc, Option.bind_eq_bind, Option.bind_some] at h
  split at h
  · rename_i q
    exact ⟨q, by simpa using h⟩
  · cases h
theorem own_clamp {j : Int32} {i : Nat} (h : j.toInt = i) : j.toNatClampNeg = i := by
  show j.toInt.toNat = i
  omega
theorem own_in {j : Int32} {i n : Nat} (h : j.toInt = i) (hi : i < n) : ¬ (j < 0 ∨ n ≤ j.toNatClampNeg) := by
  rw [own_clamp h, Int32.lt_iff_toInt_lt]
  have q : (0 : Int32).toInt = 0 := rfl
  omega
theorem own_arrF {args : Array Value} {s : State} {t : Term} {a : Addr} {ty : FieldType} {f : Nat → Value} {n : Nat} {n32 : Int32} (ht : t.eval args s none [] s = some (.ref a)) (h1 : (Cond.arrayOf t ty).value args s none s [] = some true) (h2 : (Cond.eq (.length t) (.int n32)).value args s none s [] = some true) (hn : n32.toInt = n)
    (hel : ∀ cell, s.arrayAt? a = some cell → s.heap[a]? = some cell → cell.slots.size = n → ∀ i, i < n → cell.slots[i]? = some (f i)) : own_ArrF s s.heap a ty n f := by
  obtain ⟨cell, Ac⟩ := Arr.start ht h1
  have hat := Ac.fin (Vm.Alike.refl _)
  obtain ⟨q1, q2⟩ := own_len (own_eqI h2) ht hat
  have q3 : cell.slots.size = n := by
    have q4 := congrArg Int32.toInt q2
    rw [len_toInt q1, hn] at q4
    omega
  exact ⟨cell, Ac, q3, by omega, hel cell hat Ac.1 q3⟩
theorem own_el {args : Array Value} {s : State} {t : Term} {a : Addr} {cell : Cell} {j : Int32} {v : Value} {i : Nat} (ht : t.eval args s none [] s = some (.ref a)) (hc : s.heap[a]? = some cell) (h : (Term.elem t (.int j)).eval args s none [] s = some v) (hj : j.toInt = i) : cell.slots[i]? = some v := by
  have q := (elem_in h ht rfl hc).2
  rw [own_clamp hj] at q
  exact q
theorem own_ArrF.ext {h' : Heap} {a : Addr} {ty : FieldType} {n : Nat} {f : Nat → Value} (E : Ext h h') (F : own_ArrF Z h a ty n f) : own_ArrF Z h' a ty n f := by
  obtain ⟨cell, h1, h2⟩ := F
  exact ⟨cell, h1.ext E, h2⟩
theorem own_ArrF.keep {h' : Heap} {a : Addr} {ty : FieldType} {n : Nat} {f : Nat → Value} {b : Addr} {sl : Nat} {v : Value} (W : Wr h h' b sl v) (F : own_ArrF Z h a ty n f) (hne : a ≠ b) : own_ArrF Z h' a ty n f := by
  obtain ⟨cell, h1, h2⟩ := F
  exact ⟨cell, h1.other W hne, h2⟩
theorem own_ArrF.set {h' : Heap} {a : Addr} {ty : FieldType} {n : Nat} {f : Nat → Value} {j : Nat} {v : Value} (F : own_ArrF Z h a ty n f) (hj : j < n) (W : Wr h h' a j v) : own_ArrF Z h' a ty n (fun i => if i = j then v else f i) := by
  obtain ⟨cell, h1, h2, h3, h4⟩ := F
  refine ⟨cell.setSlot j v, h1.same W, by simp [Cell.setSlot, h2], h3, fun i hi => ?_⟩
  show _ = some (if i = j then v else f i)
  by_cases q : i = j
  · subst q
    rw [if_pos rfl]
    simp [Cell.setSlot, h2, hi]
  · rw [if_neg q, ← h4 i hi]
    exact Array.getElem?_setIfInBounds_ne (Ne.symm q)
theorem own_ArrF.mono {a : Addr} {ty : FieldType} {n : Nat} {f g : Nat → Value} (F : own_ArrF Z h a ty n f) (hg : ∀ i, i < n → f i = g i) : own_ArrF Z h a ty n g := by
  obtain ⟨cell, h1, h2, h3, h4⟩ := F
  exact ⟨cell, h1, h2, h3, fun i hi => by rw [h4 i hi, hg i hi]⟩
theorem own_alen (X : Stand p l e R s m args below meth c T locs cells slots) (hx : p.tables.exec = Jvm.exec) (hZ : Z.Warmed39 s.vm) (eT : T.heap = h) {a : Addr} {ty : FieldType} {n : Nat} {f : Nat → Value} (F : own_ArrF Z h a ty n f)
    {pc : Nat} {Ls : Array Slot} {S : List Value} (hd : decode c.code pc = .ok (.arraylength, 1)) (k : own_Goes p e below P (T.setTop (mkF m (pc + 1) Ls (.int n.toInt32 :: S)))) : own_Goes p e below P (T.setTop (mkF m pc Ls (.ref a :: S))) := by
  obtain ⟨cell, h1, h2, h3, h4⟩ := F
  subst h2
  exact own_by (fun _ q => X.arraylength hx (by rw [eT]; exact h1.1) (State.isArrayOf_alike hZ.alike h1.2.1) (g := mkF m pc Ls (.ref a :: S)) rfl rfl hd _ q) k
theorem own_aaload (X : Stand p l e R s m args below meth c T locs cells slots) (hx : p.tables.exec = Jvm.exec) (hZ : Z.Warmed39 s.vm) (eT : T.heap = h) {a : Addr} {ty : FieldType} {n : Nat} {f : Nat → Value} (F : own_ArrF Z h a ty n f) (hty : ty.isReference = true) {j : Int32} (i : Nat) (hj : j.toInt = i) (hi : i < n) {v : Value} (hv : f i = v)
    {pc : Nat} {Ls : Array Slot} {S : List Value} (hd : decode c.code pc = .ok (.aaload, 1)) (k : own_Goes p e below P (T.setTop (mkF m (pc + 1) Ls (v :: S)))) : own_Goes p e below P (T.setTop (mkF m pc Ls (.int j :: .ref a :: S))) := by
  obtain ⟨cell, h1, h2, h3, h4⟩ := F
  exact own_by (fun _ q => X.aaload hx (j := j) (v := v) (by rw [eT]; exact h1.1) (State.isArrayOf_alike hZ.alike h1.2.1) hty h1.2.2 (by rw [h2]; exact own_in hj hi) (by rw [own_clamp hj, h4 i hi, hv]) (g := mkF m pc Ls (.int j :: .ref a :: S)) rfl rfl hd _ q) k
theorem own_iaload (X : Stand p l e R s m args below meth c T locs cells slots) (hx : p.tables.exec = Jvm.exec) (hZ : Z.Warmed39 s.vm) (eT : T.heap = h) {a : Addr} {n : Nat} {f : Nat → Value} (F : own_ArrF Z h a .int n f) {j : Int32} (i : Nat) (hj : j.toInt = i) (hi : i < n) {v : Value} (hv : f i = v)
    {pc : Nat} {Ls : Array Slot} {S : List Value} (hd : decode c.code pc = .ok (.iaload, 1)) (k : own_Goes p e below P (T.setTop (mkF m (pc + 1) Ls (v :: S)))) : own_Goes p e below P (T.setTop (mkF m pc Ls (.int j :: .ref a :: S))) := by
  obtain ⟨cell, h1, h2, h3, h4⟩ := F
  exact own_by (fun _ q => X.iaload hx (j := j) (v := v) (by rw [eT]; exact h1.1) (State.isArrayOf_alike hZ.alike h1.2.1) h1.2.2 (by rw [h2]; exact own_in hj hi) (by rw [own_clamp hj, h4 i hi, hv]) (g := mkF m pc Ls (.int j :: .ref a :: S)) rfl rfl hd _ q) k
theorem own_baload (X : Stand p l e R s m args below meth c T locs cells slots) (hx : p.tables.exec = Jvm.exec) (hZ : Z.Warmed39 s.vm) (eT : T.heap = h) {a : Addr} {n : Nat} {f : Nat → Value} (F : own_ArrF Z h a .byte n f) {j : Int32} (i : Nat) (hj : j.toInt = i) (hi : i < n) {v : Value} (hv : f i = v)
    {pc : Nat} {Ls : Array Slot} {S : List Value} (hd : decode c.code pc = .ok (.baload, 1)) (k : own_Goes p e below P (T.setTop (mkF m (pc + 1) Ls (v :: S)))) : own_Goes p e below P (T.setTop (mkF m pc Ls (.int j :: .ref a :: S))) := by
  obtain ⟨cell, h1, h2, h3, h4⟩ := F
  exact own_by (fun _ q => X.baloadBytes hx (j := j) (v := v) (by rw [eT]; exact h1.1) (State.isArrayOf_alike hZ.alike h1.2.1) h1.2.2 (by rw [h2]; exact own_in hj hi) (by rw [own_clamp hj, h4 i hi, hv]) (g := mkF m pc Ls (.int j :: .ref a :: S)) rfl rfl hd _ q) k
theorem own_callVU0 (X : Stand p l e R s m args below meth c T locs cells slots) (hx : p.tables.exec = Jvm.exec) (hZ : Z.Warmed39 s.vm) {own K owner : String} {index : Nat} {y z : MethodName} {bytes : ByteArray} {maxL : Nat} {ret : Option FieldType} {fr lo : Nat} {b : Addr} {argsL rest : List Value} {w : Value} {W : Nat}
    (hown : s.vm.findClass own = some m.cls) (w1 : (Cond.methodLink own index y).before a0 Z = true) (w2 : (Cond.sameMethod y.cls owner y.name y.desc).before a0 Z = true) (w2' : (Cond.declares ⟨owner, y.name, y.desc⟩).before a0 Z = true) (w3 : (Cond.selects K y z).before a0 Z = true) (w4 : (Cond.instanceMethod z).before a0 Z = true) (w5 : (Cond.code z bytes maxL ret).before a0 Z = true) (w6 : (Cond.initialized z.cls).before a0 Z = true)
    (hy : owner ≠ "java/lang/invoke/MethodHandle" ∧ owner ≠ "java/lang/invoke/VarHandle") (eT : T.heap = h) (E : Exa Z h b K) (D : own_Does l Z z bytes maxL ret [] { frames := fr, cells := 0, slots := 0, locals := lo } (.ref b :: argsL).toArray h (own_Is w h))
    (hf : fr + 1 ≤ R.frames) (hl : W + (maxL + 11) + lo ≤ R.locals) (hc : cells ≤ R.cells) (hn : slots ≤ R.slots)
    {pc : Nat} {Ls : Array Slot} {S : List Value} (hsize : Ls.size = c.maxLocals) (hlen : ∀ sig, parseMethodDescriptor y.desc = some sig → argsL.length = sig.parameters.length) (hstack : S = argsL.reverse ++ .ref b :: rest) (hW : 2 * 0 + (rest.map fun v => v.category).sum ≤ W) (hd : decode c.code pc = .ok (.invokevirtual index, 3))
    (k : ∀ T', Stand p l e R s m args below meth c T' locs cells slots → T'.heap = h → own_Goes p e below P (T'.setTop (mkF m (pc + 3) Ls (w :: rest)))) :
    own_Goes p e below P (T.setTop (mkF m pc Ls S)) := by
  obtain ⟨cq, kq, qa, -, qc⟩ := isOf (T := T) hZ eT E
  obtain ⟨v, _, ⟨T', L', k', n'⟩, -, X', ⟨Lc, hQ, l', y', z'⟩, st⟩ := X.virtualBackUp hx (x := y) (y := z) hown (mvT hZ w1) (mvT hZ w2) (mvT hZ w2') hy (mvT hZ w3) (mvT hZ w4) (backOf (W := W) D hZ w5 w6 hf hl) qa qc (g := mkF m pc Ls S) rfl hsize (Steps.refl _) (argsL := argsL) (rest := rest) hlen hstack hW hd (fun _ _ => ⟨rfl, eT, hc, hn⟩)
  dsimp only [Pt.U, Pt.locs, Pt.cells, Pt.slots] at X' l' y' z' st hQ
  subst l' y' z'
  obtain ⟨rfl, rfl, e'⟩ := hQ
  rw [List.append_nil] at X'
  exact own_tr st (k T' X' e')
theorem own_getClass (X : Stand p l e R s m args below meth c T locs cells slots) (hx : p.tables.exec = Jvm.exec) (hZ : Z.Warmed39 s.vm) {own K : String} {index : Nat} {b mir : Addr} {cM : ClassId} {kM : Class} (hown : s.vm.findClass own = some m.cls) (w1 : (Cond.methodLink own index Jvm.Stand.gcN).before a0 Z = true) (w2 : (Cond.declares Jvm.Stand.gcN).before a0 Z = true) (w3 : (Cond.selects K Jvm.Stand.gcN Jvm.Stand.gcN).before a0 Z = true) (w4 : (Cond.instanceMethod Jvm.Stand.gcN).before a0 Z = true) (w5 : (Cond.native Jvm.Stand.gcN).before a0 Z = true)
    (eT : T.heap = h) (E : Exa Z h b K) (m1 : Z.vm.findClass K = some cM) (m2 : Z.vm.classes[cM]? = some kM) (m3 : kM.mirror = some mir)
    {pc : Nat} {Ls : Array Slot} {rest : List Value} (hsize : Ls.size = c.maxLocals) (hd : decode c.code pc = .ok (.invokevirtual index, 3)) (hf : 1 ≤ R.frames) (hl : 2 * 0 + (rest.map fun v => v.category).sum + (nativeFrameWords "java/lang/Object" "getClass" 1 + 11) ≤ R.locals)
    (k : ∀ T', Stand p l e R s m args below meth c T' locs cells slots → T'.heap = h → own_Goes p e below P (T'.setTop (mkF m (pc + 3) Ls (.ref mir :: rest)))) :
    own_Goes p e below P (T.setTop (mkF m pc Ls (.ref b :: rest))) := by
  obtain ⟨cq, kq, qa, qb, qc⟩ := isOf (T := T) hZ eT E
  have e1 : cq = cM := by
    rw [hZ.alike.findClass] at qa
    exact Option.some.inj (qa.symm.trans m1)
  subst e1
  obtain ⟨k', r1, r2⟩ := hZ.alike.2.2 _ _ m2
  cases qb.symm.trans r1
  obtain ⟨vm1, X', st⟩ := X.getClassOf hx hown (mvT hZ w1) (mvT hZ w2) (notFace_of_selects (args := #[]) (mvT hZ w3)) (mvT hZ w3) (mvT hZ w4) (mvT hZ w5) qa qc qb (by rw [r2]; exact m3) (g := mkF m pc Ls (.ref b :: rest)) rfl hsize rfl hd hf hl
  exact own_by st (k _ X' eT)
theorem own_callF0 (X : Stand p l e R s m args below meth c T locs cells slots) (hx : p.tables.exec = Jvm.exec) (hZ : Z.Warmed39 s.vm) {own K : String} {index count : Nat} {y z : MethodName} {bytes : ByteArray} {maxL : Nat} {ret : Option FieldType} {fr lo : Nat} {b : Addr} {argsL rest : List Value} {w : Value} {W : Nat}
    (hown : s.vm.findClass own = some m.cls) (w1 : (Cond.methodLink own index y).before a0 Z = true) (w2 : (Cond.declares y).before a0 Z = true) (w2' : (Cond.interfaceMethod y.cls y.cls y.name y.desc).before args s = true) (w3 : (Cond.selects K y z).before a0 Z = true) (w4 : (Cond.instanceMethod z).before a0 Z = true) (wp : (Cond.publicMethod z).before a0 Z = true) (wu : (Cond.unhidden K y.name y.desc).before a0 Z = true) (wc : (Cond.castable K y.cls).before a0 Z = true) (w5 : (Cond.code z bytes maxL ret).before a0 Z = true) (w6 : (Cond.initialized z.cls).before a0 Z = true)
    (hy : y.cls ≠ "java/lang/invoke/MethodHandle" ∧ y.cls ≠ "java/lang/invoke/VarHandle") (eT : T.heap = h) (E : Exa Z h b K) (D : own_Does l Z z bytes maxL ret [] { frames := fr, cells := 0, slots := 0, locals := lo } (.ref b :: argsL).toArray h (own_Is w h))
    (hf : fr + 1 ≤ R.frames) (hl : W + (maxL + 11) + lo ≤ R.locals) (hc : cells ≤ R.cells) (hn : slots ≤ R.slots)
    {pc : Nat} {Ls : Array Slot} {S : List Value} (hsize : Ls.size = c.maxLocals) (hlen : ∀ sig, parseMethodDescriptor y.desc = some sig → argsL.length = sig.parameters.length) (hstack : S = argsL.reverse ++ .ref b :: rest) (hW : 2 * 0 + (rest.map fun v => v.category).sum ≤ W) (hd : decode c.code pc = .ok (.invokeinterface index count, 5))
    (k : ∀ T', Stand p l e R s m args below meth c T' locs cells slots → T'.heap = h → own_Goes p e below P (T'.setTop (mkF m (pc + 5) Ls (w :: rest)))) :
    own_Goes p e below P (T.setTop (mkF m pc Ls S)) := by
  obtain ⟨cq, kq, qa, qb, qc⟩ := isOf (T := T) hZ eT E
  obtain ⟨v, _, ⟨T', L', k', n'⟩, -, X', ⟨Lc, hQ, l', y', z'⟩, st⟩ := X.interfaceBack hx (xi := y) (y := z) hown (mvT hZ w1) (mvT hZ w2) w2' (mvT hZ w3) (mvT hZ w4) (mvT hZ wp) (mvT hZ wu) (mvT hZ wc) hy (backOf (W := W) D hZ w5 w6 hf hl) qa qb qc (g := mkF m pc Ls S) rfl hsize (Steps.refl _) (argsL := argsL) (rest := rest) hlen hstack hW hd (fun _ _ => ⟨rfl, eT, hc, hn⟩)
  dsimp only [Pt.U, Pt.locs, Pt.cells, Pt.slots] at X' l' y' z' st hQ
  subst l' y' z'
  obtain ⟨rfl, rfl, e'⟩ := hQ
  rw [List.append_nil] at X'
  exact own_tr st (k T' X' e')
theorem own_cast (X : Stand p l e R s m args below meth c T locs cells slots) (hx : p.tables.exec = Jvm.exec) (hZ : Z.Warmed39 s.vm) {own K : String} {index : Nat} (hown : s.vm.findClass own = some m.cls) (w : (Cond.classLink own index K).before a0 Z = true) (eT : T.heap = h) {a : Addr} (F : Ins Z h a K true)
    {pc : Nat} {Ls : Array Slot} {S : List Value} (hd : decode c.code pc = .ok (.checkcast index, 3))
    (k : ∀ T', Stand p l e R s m args below meth c T' locs cells slots → T'.heap = h → own_Goes p e below P (T'.setTop (mkF m (pc + 3) Ls (.ref a :: S)))) :
    own_Goes p e below P (T.setTop (mkF m pc Ls (.ref a :: S))) := by
  obtain ⟨T', X', e', st⟩ := castY X hx hZ hown w eT F (g := mkF m pc Ls (.ref a :: S)) rfl rfl hd
  exact own_by st (k T' X' e')
def own_ArrC (Z : State) (h : Heap) (a : Addr) (ty : FieldType) (n : Nat) (f : Nat → Value) : Prop := ∃ cell, Arr Z h a cell ty ∧ FitC Z cell ∧ cell.slots.size = n ∧ n < 2 ^ 31 ∧ ∀ i, i < n → cell.slots[i]? = some (f i)
theorem own_ArrC.ext {h' : Heap} {a : Addr} {ty : FieldType} {n : Nat} {f : Nat → Value} (E : Ext h h') (F : own_ArrC Z h a ty n f) : own_ArrC Z h' a ty n f := by
  obtain ⟨cell, h1, h2⟩ := F
  exact ⟨cell, h1.ext E, h2⟩
theorem own_ArrF.fit {s : State} {a : Addr} {ty : FieldType} {n : Nat} {f : Nat → Value} (hf : Fit s) (F : own_ArrF s s.heap a ty n f) : own_ArrC s s.heap a ty n f := by
  obtain ⟨cell, h1, h2⟩ := F
  exact ⟨cell, h1, FitC.start hf h1, h2⟩
theorem own_clone (X : Stand p l e R s m args below meth c T locs cells slots) (hx : p.tables.exec = Jvm.exec) (hZ : Z.Warmed39 s.vm) {own ad : String} {index : Nat} {W : Nat} (hown : s.vm.findClass own = some m.cls)
    (w1 : (Cond.methodLink own index ⟨ad, "clone", "()Ljava/lang/Object;"⟩).before a0 Z = true) (w2 : (Cond.sameMethod ad "java/lang/Object" "clone" "()Ljava/lang/Object;").before a0 Z = true) (w3 : (Cond.native ⟨"java/lang/Object", "clone", "()Ljava/lang/Object;"⟩).before a0 Z = true)
    (w4 : (Cond.instanceMethod ⟨"java/lang/Object", "clone", "()Ljava/lang/Object;"⟩).before a0 Z = true) (w5 : (Cond.selects ad ⟨ad, "clone", "()Ljava/lang/Object;"⟩ ⟨"java/lang/Object", "clone", "()Ljava/lang/Object;"⟩).before a0 Z = true) (w6 : (Cond.castable ad "java/lang/Cloneable").before a0 Z = true)
    (eT : T.heap = h) {a : Addr} {ty : FieldType} {n : Nat} {f : Nat → Value} (A : own_ArrC Z h a ty n f) (E : Exa Z h a ad) {pc : Nat} {Ls : Array Slot} {rest : List Value} (hsize : Ls.size = c.maxLocals) (hd : decode c.code pc = .ok (.invokevirtual index, 3))
    (hf : 1 ≤ R.frames) (hW : 2 * 0 + (rest.map fun v => v.category).sum ≤ W) (hl : W + 14 ≤ R.locals) (hc : cells + 1 ≤ R.cells) (hsl : slots + n ≤ R.slots)
    (k : ∀ T' h', Stand p l e R s m args below meth c T' locs (cells + 1) (slots + n) → T'.heap = h' → Ext h h' → own_ArrF Z h' h.size ty n f → Exa Z h' h.size ad → own_Goes p e below P (T'.setTop (mkF m (pc + 3) Ls (.ref h.size :: rest)))) :
    own_Goes p e below P (T.setTop (mkF m pc Ls (.ref a :: rest))) := by
  obtain ⟨cell, h1, h2, h3, h4, h5⟩ := A
  obtain ⟨T', h', X', e', E', A', Ex', st⟩ := cloneA X hx hZ hown w1 w2 w3 w4 w5 w6 eT h1 E h2 (g := mkF m pc Ls (.ref a :: rest)) rfl hsize rfl hd hf (W := W) (cap := n) hW hl (by omega) hc hsl
  exact own_by st (k T' h' X' e' E' ⟨_, A', h3, h4, h5⟩ Ex')
/-! what is made and written -/
theorem own_Ext.refl (h : Heap) : Ext h h := ⟨Nat.le_refl _, fun _ _ q => q⟩
theorem own_Ext.trans {h h' h'' : Heap} (E : Ext h h') (E' : Ext h' h'') : Ext h h'' := ⟨Nat.le_trans E.1 E'.1, fun a c q => E'.2 a c (E.2 a c q)⟩
theorem own_Ext.keep {h h' h'' : Heap} {ws : List Addr} (E : Ext h h') (K : Keep h' h'' ws) (q : ∀ x ∈ ws, h.size ≤ x) : Ext h h'' :=
  ⟨Nat.le_trans E.1 K.1, fun a c r => K.2.1 a c (E.2 a c r) fun z => absurd (Array.getElem?_eq_some_iff.mp r).1 (Nat.not_lt.mpr (q a z))⟩
theorem own_Ext.wr {h h' h'' : Heap} {a : Addr} {sl : Nat} {v : Value} (E : Ext h h') (W : Wr h' h'' a sl v) (q : h.size ≤ a) : Ext h h'' := own_Ext.keep E (Keep.of_wr W) fun x hx => by cases List.mem_singleton.mp hx; exact q
theorem own_newO (X : Stand p l e R s m args below meth c T locs cells slots) (hx : p.tables.exec = Jvm.exec) (hZ : Z.Warmed39 s.vm) {own K : String} {index n : Nat} (hown : s.vm.findClass own = some m.cls) (w : (Cond.classLink own index K).before a0 Z = true) (wi : (Cond.instantiable K n).before a0 Z = true) (wz : (Cond.initialized K).before a0 Z = true) (eT : T.heap = h)
    {pc : Nat} {Ls : Array Slot} {S : List Value} (hd : decode c.code pc = .ok (.new index, 3)) (hc : cells + 1 ≤ R.cells) (hl : slots + n ≤ R.slots)
    (k : ∀ T' h', Stand p l e R s m args below meth c T' locs (cells + 1) (slots + n) → T'.heap = h' → Ext h h' → Exa Z h' h.size K → (∀ (O nm d : String) (ty : FieldType), Laid Z a0 K O nm d → parseFieldDescriptor d = some ty → Fld Z h' h.size O nm d (defaultValue ty)) → own_Goes p e below P (T'.setTop (mkF m (pc + 3) Ls (.ref h.size :: S)))) :
    own_Goes p e below P (T.setTop (mkF m pc Ls S)) := by
  obtain ⟨T', h', X', e', E', A', D', -, st⟩ := newO X hx hZ hown w wi wz eT (g := mkF m pc Ls S) rfl hd hc hl
  exact own_by st (k T' h' X' e' E' A' (fun O nm d ty q r => D' q r))
theorem own_callI (X : Stand p l e R s m args below meth c T locs cells slots) (hx : p.tables.exec = Jvm.exec) (hZ : Z.Warmed39 s.vm) {own : String} {index : Nat} {y : MethodName} {bytes : ByteArray} {maxL : Nat} {rm : Room} {a : Addr} {argsL rest : List Value} {Qc : Option Value → Heap → List Loc → Prop} {W : Nat} (hy1 : y.name = "<init>")
    (hown : s.vm.findClass own = some m.cls) (w1 : (Cond.methodLink own index y).before a0 Z = true) (w2 : (Cond.instanceMethod y).before a0 Z = true) (w3 : (Cond.code y bytes maxL none).before a0 Z = true) (w4 : (Cond.initialized y.cls).before a0 Z = true)
    (hy : y.cls ≠ "java/lang/invoke/MethodHandle" ∧ y.cls ≠ "java/lang/invoke/VarHandle") (eT : T.heap = h) (D : own_Does l Z y bytes maxL none [] rm (.ref a :: argsL).toArray h Qc)
    (hf : rm.frames + 1 ≤ R.frames) (hl : W + (maxL + 11) + rm.locals ≤ R.locals) (hc : cells + rm.cells ≤ R.cells) (hn : slots + rm.slots ≤ R.slots)
    {pc : Nat} {Ls : Array Slot} {S : List Value} (hsize : Ls.size = c.maxLocals) (hlen : ∀ sig, parseMethodDescriptor y.desc = some sig → argsL.length = sig.parameters.length) (hstack : S = argsL.reverse ++ .ref a :: rest) (hW : 2 * 0 + (rest.map fun v => v.category).sum ≤ W) (hd : decode c.code pc = .ok (.invokespecial index, 3))
    (k : ∀ v T' L', Stand p l e R s m args below meth c T' (locs ++ L') (cells + rm.cells) (slots + rm.slots) → Qc v T'.heap L' → own_Goes p e below P (T'.setTop (mkF m (pc + 3) Ls (v.toList ++ rest)))) :
    own_Goes p e below P (T.setTop (mkF m pc Ls S)) := by
  obtain ⟨v, _, ⟨T', L', k', n'⟩, -, X', ⟨Lc, hQ, l', y', z'⟩, st⟩ := X.specialBack hx (y := y) hy1 hown (mvT hZ w1) (mvT hZ w2) (mvT hZ w3) hy (backOf (W := W) D hZ w3 w4 hf hl) (g := mkF m pc Ls S) rfl hsize (Steps.refl _) (a := a) (argsL := argsL) (rest := rest) hlen hstack hW hd (fun _ _ => ⟨rfl, eT, hc, hn⟩)
  dsimp only [Pt.U, Pt.locs, Pt.cells, Pt.slots] at X' l' y' z' st hQ
  subst l' y' z'
  exact own_tr st (k v T' Lc X' hQ)
theorem own_initO (X : Stand p l e R s m args below meth c T locs cells slots) (hx : p.tables.exec = Jvm.exec) (hZ : Z.Warmed39 s.vm) {own : String} {idx : Nat} {a : Addr} {rest : List Value} {W : Nat} (hown : s.vm.findClass own = some m.cls) (w1 : (Cond.methodLink own idx Lib.objectInit).before a0 Z = true) (w2 : (Cond.instanceMethod Lib.objectInit).before a0 Z = true)
    (w3 : (Cond.code Lib.objectInit ⟨#[0xb1]⟩ 1 none).before a0 Z = true) (eT : T.heap = h) {pc : Nat} {Ls : Array Slot} (hsize : Ls.size = c.maxLocals) (hd : decode c.code pc = .ok (.invokespecial idx, 3)) (hf : 1 ≤ R.frames) (hW : 2 * 0 + (rest.map fun v => v.category).sum ≤ W) (hl : W + 12 ≤ R.locals)
    (k : ∀ T', Stand p l e R s m args below meth c T' locs cells slots → T'.heap = h → own_Goes p e below P (T'.setTop (mkF m (pc + 3) Ls rest))) :
    own_Goes p e below P (T.setTop (mkF m pc Ls (.ref a :: rest))) := by
  obtain ⟨T', X', e', st⟩ := initO X hx hZ hown w1 w2 w3 eT (g := mkF m pc Ls (.ref a :: rest)) rfl hsize rfl hd hf (W := W) hW hl
  exact own_by st (k T' X' e')
theorem own_putF (X : Stand p l e R s m args below meth c T locs cells slots) (hx : p.tables.exec = Jvm.exec) (hZ : Z.Warmed39 s.vm) {own O n d K : String} {index kk : Nat} {ty : FieldType} (hown : s.vm.findClass own = some m.cls) (w : (Cond.fieldLink own index O n d).before a0 Z = true)
    (eT : T.heap = h) {a : Addr} {v old : Value} (F : Fld Z h a O n d old) (E : Exa Z h a K) (L : (Cond.lays K O n d).before a0 Z = true ∨ ((Cond.laysFinal K O n d).before a0 Z = true ∧ own = O ∧ meth.name = "<init>")) (wi : (Cond.instantiable K kk).before a0 Z = true)
    (hty : parseFieldDescriptor d = some ty) (hn : narrow ty v = v) (hf : fits ty v = true) {pc : Nat} {Ls : Array Slot} {rest : List Value} (hd : decode c.code pc = .ok (.putfield index, 3))
    (k : ∀ T' h', Stand p l e R s m args below meth c T' (locs ++ [⟨a, Jvm.RoadKit.slotOf Z O n d⟩]) cells slots → T'.heap = h' → Wr h h' a (Jvm.RoadKit.slotOf Z O n d) v → own_Goes p e below P (T'.setTop (mkF m (pc + 3) Ls rest))) :
    own_Goes p e below P (T.setTop (mkF m pc Ls (v :: .ref a :: rest))) := by
  obtain ⟨T', h', X', e', W', st⟩ := putF X hx hZ hown (host := "") (Or.inl w) Via.refl eT F E L wi hty hn hf (g := mkF m pc Ls (v :: .ref a :: rest)) rfl rfl hd
  exact own_by st (k T' h' X' e' W')
theorem own_arr_new {a : Addr} {cA : ClassId} {ty : FieldType} {n : Int32} {i : Nat} (A : Arr Z h a (newA cA ty n) ty) (hn : n.toInt = i) : own_ArrF Z h a ty i (fun _ => defaultValue ty) := by
  have q : n.toNatClampNeg = i := own_clamp hn
  refine ⟨_, A, by rw [sz_new, q], ?_, fun j hj => ?_⟩
  · have := Int32.toInt_lt n; omega
  · simp [newA, q, hj]
theorem own_newR (X : Stand p l e R s m args below meth c T locs cells slots) (hx : p.tables.exec = Jvm.exec) (hZ : Z.Warmed39 s.vm) {own K : String} {index : Nat} (hown : s.vm.findClass own = some m.cls) (w1 : (Cond.classLink own index K).before a0 Z = true) (w2 : (Cond.arrayOver (.object K)).before a0 Z = true) (eT : T.heap = h)
    {pc : Nat} {Ls : Array Slot} {S : List Value} (hd : decode c.code pc = .ok (.anewarray index, 3)) {n : Int32} (i : Nat) (hi : n.toInt = i) (hb : i * 8 ≤ 536870912) (hc : cells + 1 ≤ R.cells) (hl : slots + i ≤ R.slots)
    (k : ∀ T' h' cA, Stand p l e R s m args below meth c T' locs (cells + 1) (slots + i) → T'.heap = h' → Ext h h' → Arr Z h' h.size (newA cA (.object K) n) (.object K) → Ovr Z cA K → own_Goes p e below P (T'.setTop (mkF m (pc + 3) Ls (.ref h.size :: S)))) :
    own_Goes p e below P (T.setTop (mkF m pc Ls (.int n :: S))) := by
  have q : n.toNatClampNeg = i := own_clamp hi
  have q2 : ¬ n < 0 := by rw [Int32.lt_iff_toInt_lt, hi]; have : (0 : Int32).toInt = 0 := rfl; omega
  obtain ⟨T', h', cA, X', e', E', A', O', st⟩ := newR X hx hZ hown w1 w2 eT (g := mkF m pc Ls (.int n :: S)) rfl hd rfl q2 (cap := i) (by omega) hb hc hl
  exact own_by st (k T' h' cA X' e' E' A' O')
theorem own_newP (X : Stand p l e R s m args below meth c T locs cells slots) (hx : p.tables.exec = Jvm.exec) (hZ : Z.Warmed39 s.vm) {aty : ArrayType} (w : (Cond.arrayClass (newarray.typeOf aty)).before a0 Z = true) (eT : T.heap = h)
    {pc : Nat} {Ls : Array Slot} {S : List Value} (hd : decode c.code pc = .ok (.newarray aty, 2)) {n : Int32} (i : Nat) (hi : n.toInt = i) (hb : i * 8 ≤ 536870912) (hc : cells + 1 ≤ R.cells) (hl : slots + i ≤ R.slots)
    (k : ∀ T' h', Stand p l e R s m args below meth c T' locs (cells + 1) (slots + i) → T'.heap = h' → Ext h h' → own_ArrF Z h' h.size (newarray.typeOf aty) i (fun _ => defaultValue (newarray.typeOf aty)) → own_Goes p e below P (T'.setTop (mkF m (pc + 2) Ls (.ref h.size :: S)))) :
    own_Goes p e below P (T.setTop (mkF m pc Ls (.int n :: S))) := by
  have q : n.toNatClampNeg = i := own_clamp hi
  have q2 : ¬ n < 0 := by rw [Int32.lt_iff_toInt_lt, hi]; have : (0 : Int32).toInt = 0 := rfl; omega
  obtain ⟨T', h', cA, X', e', E', A', st⟩ := newP X hx hZ w eT (g := mkF m pc Ls (.int n :: S)) rfl hd rfl q2 (cap := i) (by omega) hb hc hl
  exact own_by st (k T' h' X' e' E' (own_arr_new A' hi))
theorem own_stI (X : Stand p l e R s m args below meth c T locs cells slots) (hx : p.tables.exec = Jvm.exec) (hZ : Z.Warmed39 s.vm) (eT : T.heap = h) {a : Addr} {n : Nat} {f : Nat → Value} (F : own_ArrF Z h a .int n f) {j x : Int32} (i : Nat) (hj : j.toInt = i) (hi : i < n)
    {pc : Nat} {Ls : Array Slot} {S : List Value} (hd : decode c.code pc = .ok (.iastore, 1))
    (k : ∀ T' h', Stand p l e R s m args below meth c T' (locs ++ [⟨a, i⟩]) cells slots → T'.heap = h' → Wr h h' a i (.int x) → own_ArrF Z h' a .int n (fun q => if q = i then .int x else f q) → own_Goes p e below P (T'.setTop (mkF m (pc + 1) Ls S))) :
    own_Goes p e below P (T.setTop (mkF m pc Ls (.int x :: .int j :: .ref a :: S))) := by
  have F' := F
  obtain ⟨cell, h1, h2, h3, h4⟩ := F'
  have q := own_clamp hj
  obtain ⟨T', h', X', e', W', st⟩ := stI X hx hZ eT h1 (j := j) (x := x) (by rw [h2]; exact own_in hj hi) (g := mkF m pc Ls (.int x :: .int j :: .ref a :: S)) rfl rfl hd
  rw [q] at X' W'
  exact own_by st (k T' h' X' e' W' (F.set hi W'))
theorem own_stR (X : Stand p l e R s m args below meth c T locs cells slots) (hx : p.tables.exec = Jvm.exec) (hZ : Z.Warmed39 s.vm) (eT : T.heap = h) {a : Addr} {ty : FieldType} {n : Nat} {f : Nat → Value} (F : own_ArrF Z h a ty n f) (hty : ty.isReference = true) {v : Value} (hs : Sto Z h a v) {j : Int32} (i : Nat) (hj : j.toInt = i) (hi : i < n)
    {pc : Nat} {Ls : Array Slot} {S : List Value} (hd : decode c.code pc = .ok (.aastore, 1))
    (k : ∀ T' h', Stand p l e R s m args below meth c T' (locs ++ [⟨a, i⟩]) cells slots → T'.heap = h' → Wr h h' a i v → own_ArrF Z h' a ty n (fun q => if q = i then v else f q) → own_Goes p e below P (T'.setTop (mkF m (pc + 1) Ls S))) :
    own_Goes p e below P (T.setTop (mkF m pc Ls (v :: .int j :: .ref a :: S))) := by
  have F' := F
  obtain ⟨cell, h1, h2, h3, h4⟩ := F'
  have q := own_clamp hj
  obtain ⟨T', h', X', e', W', st⟩ := stR X hx hZ eT h1 (j := j) (v := v) (by rw [h2]; exact own_in hj hi) hty hs (g := mkF m pc Ls (v :: .int j :: .ref a :: S)) rfl rfl hd
  rw [q] at X' W'
  exact own_by st (k T' h' X' e' W' (F.set hi W'))
theorem own_Fr.snoc {k : Nat} {L : List Loc} {a : Addr} {i : Nat} (N : Fr k L) (q : k ≤ a) : Fr k (L ++ [⟨a, i⟩]) := N.app fun y hy => by cases List.mem_singleton.mp hy; exact q
/-- the first k components are filled -/
def own_pre (g : Nat → Value) (d : Value) (k : Nat) : Nat → Value := fun q => if q < k then g q else d
theorem own_pre_step (g : Nat → Value) (d : Value) (k : Nat) (q : Nat) : (if q = k then g k else own_pre g d k q) = own_pre g d (k + 1) q := by
  unfold own_pre
  by_cases h1 : q = k
  · subst h1; rw [if_pos rfl, if_pos (Nat.lt_succ_self _)]
  · rw [if_neg h1]
    by_cases h2 : q < k
    · rw [if_pos h2, if_pos (by omega)]
    · rw [if_neg h2, if_neg (by omega)]
theorem own_pre_all {g : Nat → Value} {d : Value} {n i : Nat} (hi : i < n) : own_pre g d n i = g i := if_pos hi
def own_ArrR (Z : State) (h : Heap) (a : Addr) (K : String) (n : Nat) (f : Nat → Value) : Prop := ∃ cell, Arr Z h a cell (.object K) ∧ Ovr Z cell.cls K ∧ cell.slots.size = n ∧ n < 2 ^ 31 ∧ ∀ i, i < n → cell.slots[i]? = some (f i)
theorem own_ArrR.toF {a : Addr} {K : String} {n : Nat} {f : Nat → Value} (F : own_ArrR Z h a K n f) : own_ArrF Z h a (.object K) n f := by
  obtain ⟨cell, h1, -, h2⟩ := F
  exact ⟨cell, h1, h2⟩
theorem own_ArrR.ext {h' : Heap} {a : Addr} {K : String} {n : Nat} {f : Nat → Value} (E : Ext h h') (F : own_ArrR Z h a K n f) : own_ArrR Z h' a K n f := by
  obtain ⟨cell, h1, h2⟩ := F
  exact ⟨cell, h1.ext E, h2⟩
theorem own_ArrR.keep {h' : Heap} {a : Addr} {K : String} {n : Nat} {f : Nat → Value} {b : Addr} {sl : Nat} {v : Value} (W : Wr h h' b sl v) (F : own_ArrR Z h a K n f) (hne : a ≠ b) : own_ArrR Z h' a K n f := by
  obtain ⟨cell, h1, h2⟩ := F
  exact ⟨cell, h1.other W hne, h2⟩
theorem own_ArrF.lt {a : Addr} {ty : FieldType} {n : Nat} {f : Nat → Value} (F : own_ArrF Z h a ty n f) : a < h.size := by
  obtain ⟨cell, h1, -⟩ := F
  exact h1.lt
theorem own_ArrR.lt {a : Addr} {K : String} {n : Nat} {f : Nat → Value} (F : own_ArrR Z h a K n f) : a < h.size := F.toF.lt
theorem own_newRp (g : Nat → Value) (X : Stand p l e R s m args below meth c T locs cells slots) (hx : p.tables.exec = Jvm.exec) (hZ : Z.Warmed39 s.vm) {own K : String} {index : Nat} (hown : s.vm.findClass own = some m.cls) (w1 : (Cond.classLink own index K).before a0 Z = true) (w2 : (Cond.arrayOver (.object K)).before a0 Z = true) (eT : T.heap = h)
    {pc : Nat} {Ls : Array Slot} {S : List Value} (hd : decode c.code pc = .ok (.anewarray index, 3)) {n : Int32} (i : Nat) (hi : n.toInt = i) (hb : i * 8 ≤ 536870912) (hc : cells + 1 ≤ R.cells) (hl : slots + i ≤ R.slots)
    (k : ∀ T' h', Stand p l e R s m args below meth c T' locs (cells + 1) (slots + i) → T'.heap = h' → Ext h h' → own_ArrR Z h' h.size K i (own_pre g .null 0) → own_Goes p e below P (T'.setTop (mkF m (pc + 3) Ls (.ref h.size :: S)))) :
    own_Goes p e below P (T.setTop (mkF m pc Ls (.int n :: S))) := by
  refine own_newR X hx hZ hown w1 w2 eT hd i hi hb hc hl fun T' h' cA X' e' E' A' O' => k T' h' X' e' E' ?_
  have q : n.toNatClampNeg = i := own_clamp hi
  refine ⟨_, A', O', by rw [sz_new, q], ?_, fun j hj => ?_⟩
  · have := Int32.toInt_lt n; omega
  · simp [newA, q, hj, own_pre, defaultValue]
theorem own_stRp (g : Nat → Value) (X : Stand p l e R s m args below meth c T locs cells slots) (hx : p.tables.exec = Jvm.exec) (hZ : Z.Warmed39 s.vm) (eT : T.heap = h) {a : Addr} {K : String} {n : Nat} {i : Nat} (F : own_ArrR Z h a K n (own_pre g .null i)) {v : Value} (hs : v = .null ∨ ∃ y, v = .ref y ∧ Exa Z h y K) (hv : v = g i) {j : Int32} (hj : j.toInt = i) (hi : i < n)
    {pc : Nat} {Ls : Array Slot} {S : List Value} (hd : decode c.code pc = .ok (.aastore, 1))
    (k : ∀ T' h', Stand p l e R s m args below meth c T' (locs ++ [⟨a, i⟩]) cells slots → T'.heap = h' → Wr h h' a i v → own_ArrR Z h' a K n (own_pre g .null (i + 1)) → own_Goes p e below P (T'.setTop (mkF m (pc + 1) Ls S))) :
    own_Goes p e below P (T.setTop (mkF m pc Ls (v :: .int j :: .ref a :: S))) := by
  have F' := F
  obtain ⟨cell, h1, hO, h2, h3, h4⟩ := F'
  have hst : Sto Z h a v := by
    rcases hs with rfl | ⟨y, rfl, Ey⟩
    · exact Or.inl rfl
    · exact Sto.of h1 hO (Ins.self Ey)
  refine own_stR X hx hZ eT F.toF rfl hst i hj hi hd fun T' h' X' e' W' F2 => k T' h' X' e' W' ?_
  refine ⟨cell.setSlot i v, h1.same W', hO, by simp [Cell.setSlot, h2], h3, fun q hq => ?_⟩
  rw [← own_pre_step, ← hv]
  by_cases z : q = i
  · subst z
    rw [if_pos rfl]
    simp [Cell.setSlot, h2, hq]
  · rw [if_neg z, ← h4 q hq]
    exact Array.getElem?_setIfInBounds_ne (Ne.symm z)
theorem own_newIp (g : Nat → Value) (X : Stand p l e R s m args below meth c T locs cells slots) (hx : p.tables.exec = Jvm.exec) (hZ : Z.Warmed39 s.vm) (w : (Cond.arrayClass .int).before a0 Z = true) (eT : T.heap = h)
    {pc : Nat} {Ls : Array Slot} {S : List Value} (hd : decode c.code pc = .ok (.newarray .int, 2)) {n : Int32} (i : Nat) (hi : n.toInt = i) (hb : i * 8 ≤ 536870912) (hc : cells + 1 ≤ R.cells) (hl : slots + i ≤ R.slots)
    (k : ∀ T' h', Stand p l e R s m args below meth c T' locs (cells + 1) (slots + i) → T'.heap = h' → Ext h h' → own_ArrF Z h' h.size .int i (own_pre g (.int 0) 0) → own_Goes p e below P (T'.setTop (mkF m (pc + 2) Ls (.ref h.size :: S)))) :
    own_Goes p e below P (T.setTop (mkF m pc Ls (.int n :: S))) :=
  own_newP X hx hZ (aty := .int) w eT hd i hi hb hc hl fun T' h' X' e' E' F => k T' h' X' e' E' (F.mono fun _ _ => rfl)
theorem own_stIp (g : Nat → Value) (X : Stand p l e R s m args below meth c T locs cells slots) (hx : p.tables.exec = Jvm.exec) (hZ : Z.Warmed39 s.vm) (eT : T.heap = h) {a : Addr} {n : Nat} {i : Nat} (F : own_ArrF Z h a .int n (own_pre g (.int 0) i)) {j x : Int32} (hv : .int x = g i) (hj : j.toInt = i) (hi : i < n)
    {pc : Nat} {Ls : Array Slot} {S : List Value} (hd : decode c.code pc = .ok (.iastore, 1))
    (k : ∀ T' h', Stand p l e R s m args below meth c T' (locs ++ [⟨a, i⟩]) cells slots → T'.heap = h' → Wr h h' a i (.int x) → own_ArrF Z h' a .int n (own_pre g (.int 0) (i + 1)) → own_Goes p e below P (T'.setTop (mkF m (pc + 1) Ls S))) :
    own_Goes p e below P (T.setTop (mkF m pc Ls (.int x :: .int j :: .ref a :: S))) :=
  own_stI X hx hZ eT F i hj hi hd fun T' h' X' e' W' F2 => k T' h' X' e' W' (F2.mono fun q _ => by rw [hv]; exact own_pre_step g (.int 0) i q)
/-! ints -/
theorem own_mask (x : Int32) : (x &&& 2147483647).toInt = x.toInt % 2 ^ 31 := Jvm.Kit.i32_mask x 2147483647 (k := 31) (by decide) (by decide)
theorem own_mod (x n : Int32) (M : Int) (hM : n.toInt = M) (hn : 0 < M) : 0 ≤ ((x &&& 2147483647) % n).toInt ∧ ((x &&& 2147483647) % n).toInt < M := by
  have h1 := own_mask x
  rw [Int32.toInt_mod]
  have h2 : 0 ≤ (x &&& 2147483647).toInt := by omega
  subst hM
  exact ⟨Int.tmod_nonneg _ h2, Int.tmod_lt_of_pos _ hn⟩
theorem own_mask2 (x : Int32) : 0 ≤ (x &&& 3).toInt ∧ (x &&& 3).toInt < 4 := by
  have h1 : (x &&& 3).toInt = x.toInt % 2 ^ 2 := Jvm.Kit.i32_mask x 3 (k := 2) (by decide) (by decide)
  omega
theorem own_mask3 (x : Int32) : 0 ≤ (x &&& 7).toInt ∧ (x &&& 7).toInt < 8 := by
  have h1 : (x &&& 7).toInt = x.toInt % 2 ^ 3 := Jvm.Kit.i32_mask x 7 (k := 3) (by decide) (by decide)
  omega
theorem own_eqInt {x y : Int32} (h : x.toInt = y.toInt) : x = y := Int32.toInt_inj.mp h
theorem own_nat {x : Int32} {n : Nat} (h0 : 0 ≤ x.toInt) (h1 : x.toInt < n) : ∃ i : Nat, i < n ∧ x.toInt = i := ⟨x.toInt.toNat, by omega, by omega⟩
end OwnKit

theorem own_pd0 : parseMethodDescriptor "(II)Z" = some ⟨[.int, .int], some .boolean⟩ := by decide +kernel
theorem own_pd1 : parseMethodDescriptor "(II)I" = some ⟨[.int, .int], some .int⟩ := by decide +kernel
theorem own_pd2 : parseMethodDescriptor "(II)[I" = some ⟨[.int, .int], some (.array .int)⟩ := by decide +kernel
theorem own_pd3 : parseMethodDescriptor "(I)I" = some ⟨[.int], some .int⟩ := by decide +kernel
theorem own_pd4 : parseMethodDescriptor "(JJ)Z" = some ⟨[.long, .long], some .boolean⟩ := by decide +kernel
theorem own_pn0 : plainName "com/example/quoin/quoin/internal/SizeClasses" = true := by first | (simp [plainName, overriddenIn]; done) | decide +kernel
theorem own_pn1 : plainName "com/example/quoin/quoin/internal/SizeClassesRunPagesPinLaw" = true := by first | (simp [plainName, overriddenIn]; done) | decide +kernel
theorem own_w0 {a0 : Array Value} {Z : State} (hw : ∀ d ∈ tables_1, d.before a0 Z = true) : (Jvm.Cond.constant "com/example/quoin/quoin/internal/SizeClassesRunPagesPinLaw" 7 (2147483647 : Int32)).before a0 Z = true := hw _ (List.mem_of_getElem? (i := 0) rfl)
theorem own_w1 {a0 : Array Value} {Z : State} (hw : ∀ d ∈ tables_1, d.before a0 Z = true) : (Jvm.Cond.methodLink "com/example/quoin/quoin/internal/SizeClassesRunPagesPinLaw" 8 (⟨"com/example/quoin/quoin/internal/SizeClasses", "runPages", "(II)[I"⟩ : MethodName)).before a0 Z = true := hw _ (List.mem_of_getElem? (i := 1) rfl)
theorem own_w2 {a0 : Array Value} {Z : State} (hw : ∀ d ∈ tables_1, d.before a0 Z = true) : (Jvm.Cond.static (⟨"com/example/quoin/quoin/internal/SizeClasses", "runPages", "(II)[I"⟩ : MethodName)).before a0 Z = true := hw _ (List.mem_of_getElem? (i := 2) rfl)
theorem own_w3 {a0 : Array Value} {Z : State} (hw : ∀ d ∈ tables_1, d.before a0 Z = true) : (Jvm.Cond.initialized "com/example/quoin/quoin/internal/SizeClasses").before a0 Z = true := hw _ (List.mem_of_getElem? (i := 3) rfl)
theorem own_w4 {a0 : Array Value} {Z : State} (hw : ∀ d ∈ tables_1, d.before a0 Z = true) : (Jvm.Cond.code (⟨"com/example/quoin/quoin/internal/SizeClasses", "runPages", "(II)[I"⟩ : MethodName) prog_6_method_4_code 6 (Option.some (FieldType.array FieldType.int))).before a0 Z = true := hw _ (List.mem_of_getElem? (i := 4) rfl)
theorem own_w5 {a0 : Array Value} {Z : State} (hw : ∀ d ∈ tables_1, d.before a0 Z = true) : (Jvm.Cond.methodLink "com/example/quoin/quoin/internal/SizeClasses" 21 (⟨"java/lang/Math", "min", "(II)I"⟩ : MethodName)).before a0 Z = true := hw _ (List.mem_of_getElem? (i := 5) rfl)
theorem own_w6 {a0 : Array Value} {Z : State} (hw : ∀ d ∈ tables_1, d.before a0 Z = true) : (Jvm.Cond.static (⟨"java/lang/Math", "min", "(II)I"⟩ : MethodName)).before a0 Z = true := hw _ (List.mem_of_getElem? (i := 6) rfl)
theorem own_w7 {a0 : Array Value} {Z : State} (hw : ∀ d ∈ tables_1, d.before a0 Z = true) : (Jvm.Cond.initialized "java/lang/Math").before a0 Z = true := hw _ (List.mem_of_getElem? (i := 7) rfl)
theorem own_w8 {a0 : Array Value} {Z : State} (hw : ∀ d ∈ tables_1, d.before a0 Z = true) : (Jvm.Cond.code (⟨"java/lang/Math", "min", "(II)I"⟩ : MethodName) jdk_29_method_69_code 2 (Option.some FieldType.int)).before a0 Z = true := hw _ (List.mem_of_getElem? (i := 8) rfl)
theorem own_w9 {a0 : Array Value} {Z : State} (hw : ∀ d ∈ tables_1, d.before a0 Z = true) : (Jvm.Cond.fieldLink "com/example/quoin/quoin/internal/SizeClasses" 27 "com/example/quoin/quoin/internal/SizeClasses" "COUNT" "I").before a0 Z = true := hw _ (List.mem_of_getElem? (i := 9) rfl)
theorem own_w10 {a0 : Array Value} {Z : State} (hw : ∀ d ∈ tables_1, d.before a0 Z = true) : (Jvm.Cond.laysStatic "com/example/quoin/quoin/internal/SizeClasses" "COUNT" "I").before a0 Z = true := hw _ (List.mem_of_getElem? (i := 10) rfl)
theorem own_w11 {a0 : Array Value} {Z : State} (hw : ∀ d ∈ tables_1, d.before a0 Z = true) : (Jvm.Cond.arrayClass FieldType.int).before a0 Z = true := hw _ (List.mem_of_getElem? (i := 11) rfl)
theorem own_w12 {a0 : Array Value} {Z : State} (hw : ∀ d ∈ tables_1, d.before a0 Z = true) : (Jvm.Cond.fieldLink "com/example/quoin/quoin/internal/SizeClasses" 17 "com/example/quoin/quoin/internal/SizeClasses" "SIZES" "[I").before a0 Z = true := hw _ (List.mem_of_getElem? (i := 12) rfl)
theorem own_w13 {a0 : Array Value} {Z : State} (hw : ∀ d ∈ tables_1, d.before a0 Z = true) : (Jvm.Cond.laysStatic "com/example/quoin/quoin/internal/SizeClasses" "SIZES" "[I").before a0 Z = true := hw _ (List.mem_of_getElem? (i := 13) rfl)
theorem own_w14 {a0 : Array Value} {Z : State} (hw : ∀ d ∈ tables_1, d.before a0 Z = true) : (Jvm.Cond.methodLink "com/example/quoin/quoin/internal/SizeClasses" 30 (⟨"com/example/quoin/quoin/internal/SizeClasses", "leavesTooMuch", "(II)Z"⟩ : MethodName)).before a0 Z = true := hw _ (List.mem_of_getElem? (i := 14) rfl)
theorem own_w15 {a0 : Array Value} {Z : State} (hw : ∀ d ∈ tables_1, d.before a0 Z = true) : (Jvm.Cond.static (⟨"com/example/quoin/quoin/internal/SizeClasses", "leavesTooMuch", "(II)Z"⟩ : MethodName)).before a0 Z = true := hw _ (List.mem_of_getElem? (i := 15) rfl)
theorem own_w16 {a0 : Array Value} {Z : State} (hw : ∀ d ∈ tables_1, d.before a0 Z = true) : (Jvm.Cond.code (⟨"com/example/quoin/quoin/internal/SizeClasses", "leavesTooMuch", "(II)Z"⟩ : MethodName) prog_6_method_5_code 2 (Option.some FieldType.boolean)).before a0 Z = true := hw _ (List.mem_of_getElem? (i := 16) rfl)
theorem own_w17 {a0 : Array Value} {Z : State} (hw : ∀ d ∈ tables_1, d.before a0 Z = true) : (Jvm.Cond.methodLink "com/example/quoin/quoin/internal/SizeClassesRunPagesPinLaw" 14 (⟨"com/example/quoin/quoin/internal/SizeClassesRunPagesPinLaw", "sizeOf", "(I)I"⟩ : MethodName)).before a0 Z = true := hw _ (List.mem_of_getElem? (i := 17) rfl)
theorem own_w18 {a0 : Array Value} {Z : State} (hw : ∀ d ∈ tables_1, d.before a0 Z = true) : (Jvm.Cond.static (⟨"com/example/quoin/quoin/internal/SizeClassesRunPagesPinLaw", "sizeOf", "(I)I"⟩ : MethodName)).before a0 Z = true := hw _ (List.mem_of_getElem? (i := 18) rfl)
theorem own_w19 {a0 : Array Value} {Z : State} (hw : ∀ d ∈ tables_1, d.before a0 Z = true) : (Jvm.Cond.initialized "com/example/quoin/quoin/internal/SizeClassesRunPagesPinLaw").before a0 Z = true := hw _ (List.mem_of_getElem? (i := 19) rfl)
theorem own_w20 {a0 : Array Value} {Z : State} (hw : ∀ d ∈ tables_1, d.before a0 Z = true) : (Jvm.Cond.code (⟨"com/example/quoin/quoin/internal/SizeClassesRunPagesPinLaw", "sizeOf", "(I)I"⟩ : MethodName) method_4_code 5 (Option.some FieldType.int)).before a0 Z = true := hw _ (List.mem_of_getElem? (i := 20) rfl)
theorem own_w21 {a0 : Array Value} {Z : State} (hw : ∀ d ∈ tables_1, d.before a0 Z = true) : (Jvm.Cond.methodLink "com/example/quoin/quoin/internal/SizeClassesRunPagesPinLaw" 20 (⟨"java/lang/Math", "min", "(II)I"⟩ : MethodName)).before a0 Z = true := hw _ (List.mem_of_getElem? (i := 21) rfl)
theorem own_w22 {a0 : Array Value} {Z : State} (hw : ∀ d ∈ tables_1, d.before a0 Z = true) : (Jvm.Cond.methodLink "com/example/quoin/quoin/internal/SizeClassesRunPagesPinLaw" 26 (⟨"com/example/quoin/quoin/internal/SizeClassesRunPagesPinLaw", "fits", "(JJ)Z"⟩ : MethodName)).before a0 Z = true := hw _ (List.mem_of_getElem? (i := 22) rfl)
theorem own_w23 {a0 : Array Value} {Z : State} (hw : ∀ d ∈ tables_1, d.before a0 Z = true) : (Jvm.Cond.static (⟨"com/example/quoin/quoin/internal/SizeClassesRunPagesPinLaw", "fits", "(JJ)Z"⟩ : MethodName)).before a0 Z = true := hw _ (List.mem_of_getElem? (i := 23) rfl)
theorem own_w24 {a0 : Array Value} {Z : State} (hw : ∀ d ∈ tables_1, d.before a0 Z = true) : (Jvm.Cond.code (⟨"com/example/quoin/quoin/internal/SizeClassesRunPagesPinLaw", "fits", "(JJ)Z"⟩ : MethodName) method_3_code 6 (Option.some FieldType.boolean)).before a0 Z = true := hw _ (List.mem_of_getElem? (i := 24) rfl)
theorem own_w25 {a0 : Array Value} {Z : State} (hw : ∀ d ∈ tables_1, d.before a0 Z = true) : (Jvm.Cond.constantLong "com/example/quoin/quoin/internal/SizeClassesRunPagesPinLaw" 32 16).before a0 Z = true := hw _ (List.mem_of_getElem? (i := 25) rfl)
theorem own_w26 {a0 : Array Value} {Z : State} (hw : ∀ d ∈ tables_1, d.before a0 Z = true) : (Jvm.Cond.constantLong "com/example/quoin/quoin/internal/SizeClassesRunPagesPinLaw" 30 2).before a0 Z = true := hw _ (List.mem_of_getElem? (i := 26) rfl)
def own_W (Z : State) (h : Heap) (A : Nat → Addr) : Prop :=
  Sta Z h "com/example/quoin/quoin/internal/SizeClasses" "SIZES" "[I" (.ref (A 0)) ∧
  Sta Z h "com/example/quoin/quoin/internal/SizeClasses" "COUNT" "I" (.int (44 : Int32)) ∧
  own_ArrF Z h (A 0) Jvm.ClassFile.FieldType.int 44 (fun i => ([(.int (16 : Int32)), (.int (32 : Int32)), (.int (48 : Int32)), (.int (64 : Int32)), (.int (80 : Int32)), (.int (96 : Int32)), (.int (112 : Int32)), (.int (128 : Int32)), (.int (144 : Int32)), (.int (160 : Int32)), (.int (176 : Int32)), (.int (192 : Int32)), (.int (208 : Int32)), (.int (224 : Int32)), (.int (240 : Int32)), (.int (256 : Int32)), (.int (272 : Int32)), (.int (288 : Int32)), (.int (304 : Int32)), (.int (320 : Int32)), (.int (336 : Int32)), (.int (352 : Int32)), (.int (368 : Int32)), (.int (384 : Int32)), (.int (400 : Int32)), (.int (416 : Int32)), (.int (432 : Int32)), (.int (448 : Int32)), (.int (464 : Int32)), (.int (480 : Int32)), (.int (496 : Int32)), (.int (512 : Int32)), (.int (640 : Int32)), (.int (768 : Int32)), (.int (896 : Int32)), (.int (1024 : Int32)), (.int (1280 : Int32)), (.int (1536 : Int32)), (.int (1792 : Int32)), (.int (2048 : Int32)), (.int (2560 : Int32)), (.int (3072 : Int32)), (.int (3584 : Int32)), (.int (4096 : Int32))] : List Value).getD i .null)
theorem own_f0 {Z : State} {h : Heap} {A : Nat → Addr} (W : own_W Z h A) : Sta Z h "com/example/quoin/quoin/internal/SizeClasses" "SIZES" "[I" (.ref (A 0)) := W.1
theorem own_f1 {Z : State} {h : Heap} {A : Nat → Addr} (W : own_W Z h A) : Sta Z h "com/example/quoin/quoin/internal/SizeClasses" "COUNT" "I" (.int (44 : Int32)) := W.2.1
theorem own_f2 {Z : State} {h : Heap} {A : Nat → Addr} (W : own_W Z h A) : own_ArrF Z h (A 0) Jvm.ClassFile.FieldType.int 44 (fun i => ([(.int (16 : Int32)), (.int (32 : Int32)), (.int (48 : Int32)), (.int (64 : Int32)), (.int (80 : Int32)), (.int (96 : Int32)), (.int (112 : Int32)), (.int (128 : Int32)), (.int (144 : Int32)), (.int (160 : Int32)), (.int (176 : Int32)), (.int (192 : Int32)), (.int (208 : Int32)), (.int (224 : Int32)), (.int (240 : Int32)), (.int (256 : Int32)), (.int (272 : Int32)), (.int (288 : Int32)), (.int (304 : Int32)), (.int (320 : Int32)), (.int (336 : Int32)), (.int (352 : Int32)), (.int (368 : Int32)), (.int (384 : Int32)), (.int (400 : Int32)), (.int (416 : Int32)), (.int (432 : Int32)), (.int (448 : Int32)), (.int (464 : Int32)), (.int (480 : Int32)), (.int (496 : Int32)), (.int (512 : Int32)), (.int (640 : Int32)), (.int (768 : Int32)), (.int (896 : Int32)), (.int (1024 : Int32)), (.int (1280 : Int32)), (.int (1536 : Int32)), (.int (1792 : Int32)), (.int (2048 : Int32)), (.int (2560 : Int32)), (.int (3072 : Int32)), (.int (3584 : Int32)), (.int (4096 : Int32))] : List Value).getD i .null) := W.2.2
theorem own_Wext {Z : State} {h h' : Heap} {A : Nat → Addr} (W : own_W Z h A) (E : Ext h h') : own_W Z h' A := ⟨(own_f0 W).ext E, (own_f1 W).ext E, (own_f2 W).ext E⟩
theorem own_world {s : State} {args : Array Value} (hw : ∀ d ∈ tables_1, d.before args s = true) (hn : narrow_1.value args s none s [] = some true) : ∃ A : Nat → Addr, own_W s s.heap A := by
  obtain ⟨n0, r0⟩ := and_e hn
  obtain ⟨n1, r1⟩ := and_e r0
  obtain ⟨n2, r2⟩ := and_e r1
  obtain ⟨n3, r3⟩ := and_e r2
  obtain ⟨n4, r4⟩ := and_e r3
  obtain ⟨n5, r5⟩ := and_e r4
  obtain ⟨n6, r6⟩ := and_e r5
  obtain ⟨n7, r7⟩ := and_e r6
  obtain ⟨n8, r8⟩ := and_e r7
  obtain ⟨n9, r9⟩ := and_e r8
  obtain ⟨n10, r10⟩ := and_e r9
  obtain ⟨n11, r11⟩ := and_e r10
  obtain ⟨n12, r12⟩ := and_e r11
  obtain ⟨n13, r13⟩ := and_e r12
  obtain ⟨n14, r14⟩ := and_e r13
  obtain ⟨n15, r15⟩ := and_e r14
  obtain ⟨n16, r16⟩ := and_e r15
  obtain ⟨n17, r17⟩ := and_e r16
  obtain ⟨n18, r18⟩ := and_e r17
  obtain ⟨n19, r19⟩ := and_e r18
  obtain ⟨n20, r20⟩ := and_e r19
  obtain ⟨n21, r21⟩ := and_e r20
  obtain ⟨n22, r22⟩ := and_e r21
  obtain ⟨n23, r23⟩ := and_e r22
  obtain ⟨n24, r24⟩ := and_e r23
  obtain ⟨n25, r25⟩ := and_e r24
  obtain ⟨n26, r26⟩ := and_e r25
  obtain ⟨n27, r27⟩ := and_e r26
  obtain ⟨n28, r28⟩ := and_e r27
  obtain ⟨n29, r29⟩ := and_e r28
  obtain ⟨n30, r30⟩ := and_e r29
  obtain ⟨n31, r31⟩ := and_e r30
  obtain ⟨n32, r32⟩ := and_e r31
  obtain ⟨n33, r33⟩ := and_e r32
  obtain ⟨n34, r34⟩ := and_e r33
  obtain ⟨n35, r35⟩ := and_e r34
  obtain ⟨n36, r36⟩ := and_e r35
  obtain ⟨n37, r37⟩ := and_e r36
  obtain ⟨n38, r38⟩ := and_e r37
  obtain ⟨n39, r39⟩ := and_e r38
  obtain ⟨n40, r40⟩ := and_e r39
  obtain ⟨n41, r41⟩ := and_e r40
  obtain ⟨n42, r42⟩ := and_e r41
  obtain ⟨n43, r43⟩ := and_e r42
  obtain ⟨n44, r44⟩ := and_e r43
  obtain ⟨n45, r45⟩ := and_e r44
  obtain ⟨a0, v0⟩ := arr_v n1
  exact ⟨fun n => [a0].getD n 0, Sta.start v0 (Or.inr ⟨(own_w3 hw), (own_w13 hw)⟩), Sta.start (own_eqI n0) (Or.inr ⟨(own_w3 hw), (own_w10 hw)⟩), own_arrF v0 n1 n2 (by decide) (fun cell hat hc hs i hi => match i, hi with | 0, _ => own_el v0 hc (own_eqI n3) (by decide) | 1, _ => own_el v0 hc (own_eqI n4) (by decide) | 2, _ => own_el v0 hc (own_eqI n5) (by decide) | 3, _ => own_el v0 hc (own_eqI n6) (by decide) | 4, _ => own_el v0 hc (own_eqI n7) (by decide) | 5, _ => own_el v0 hc (own_eqI n8) (by decide) | 6, _ => own_el v0 hc (own_eqI n9) (by decide) | 7, _ => own_el v0 hc (own_eqI n10) (by decide) | 8, _ => own_el v0 hc (own_eqI n11) (by decide) | 9, _ => own_el v0 hc (own_eqI n12) (by decide) | 10, _ => own_el v0 hc (own_eqI n13) (by decide) | 11, _ => own_el v0 hc (own_eqI n14) (by decide) | 12, _ => own_el v0 hc (own_eqI n15) (by decide) | 13, _ => own_el v0 hc (own_eqI n16) (by decide) | 14, _ => own_el v0 hc (own_eqI n17) (by decide) | 15, _ => own_el v0 hc (own_eqI n18) (by decide) | 16, _ => own_el v0 hc (own_eqI n19) (by decide) | 17, _ => own_el v0 hc (own_eqI n20) (by decide) | 18, _ => own_el v0 hc (own_eqI n21) (by decide) | 19, _ => own_el v0 hc (own_eqI n22) (by decide) | 20, _ => own_el v0 hc (own_eqI n23) (by decide) | 21, _ => own_el v0 hc (own_eqI n24) (by decide) | 22, _ => own_el v0 hc (own_eqI n25) (by decide) | 23, _ => own_el v0 hc (own_eqI n26) (by decide) | 24, _ => own_el v0 hc (own_eqI n27) (by decide) | 25, _ => own_el v0 hc (own_eqI n28) (by decide) | 26, _ => own_el v0 hc (own_eqI n29) (by decide) | 27, _ => own_el v0 hc (own_eqI n30) (by decide) | 28, _ => own_el v0 hc (own_eqI n31) (by decide) | 29, _ => own_el v0 hc (own_eqI n32) (by decide) | 30, _ => own_el v0 hc (own_eqI n33) (by decide) | 31, _ => own_el v0 hc (own_eqI n34) (by decide) | 32, _ => own_el v0 hc (own_eqI n35) (by decide) | 33, _ => own_el v0 hc (own_eqI n36) (by decide) | 34, _ => own_el v0 hc (own_eqI n37) (by decide) | 35, _ => own_el v0 hc (own_eqI n38) (by decide) | 36, _ => own_el v0 hc (own_eqI n39) (by decide) | 37, _ => own_el v0 hc (own_eqI n40) (by decide) | 38, _ => own_el v0 hc (own_eqI n41) (by decide) | 39, _ => own_el v0 hc (own_eqI n42) (by decide) | 40, _ => own_el v0 hc (own_eqI n43) (by decide) | 41, _ => own_el v0 hc (own_eqI n44) (by decide) | 42, _ => own_el v0 hc (own_eqI n45) (by decide) | 43, _ => own_el v0 hc (own_eqI r45) (by decide) | (k + 44), hi => absurd hi (by omega))⟩
def own_sz (i : Nat) : Int32 := ([16, 32, 48, 64, 80, 96, 112, 128, 144, 160, 176, 192, 208, 224, 240, 256, 272, 288, 304, 320, 336, 352, 368, 384, 400, 416, 432, 448, 464, 480, 496, 512, 640, 768, 896, 1024, 1280, 1536, 1792, 2048, 2560, 3072, 3584, 4096] : List Int32).getD i 0
theorem own_sz_eq {i : Nat} (hi : i < 44) : ([(.int (16 : Int32)), (.int (32 : Int32)), (.int (48 : Int32)), (.int (64 : Int32)), (.int (80 : Int32)), (.int (96 : Int32)), (.int (112 : Int32)), (.int (128 : Int32)), (.int (144 : Int32)), (.int (160 : Int32)), (.int (176 : Int32)), (.int (192 : Int32)), (.int (208 : Int32)), (.int (224 : Int32)), (.int (240 : Int32)), (.int (256 : Int32)), (.int (272 : Int32)), (.int (288 : Int32)), (.int (304 : Int32)), (.int (320 : Int32)), (.int (336 : Int32)), (.int (352 : Int32)), (.int (368 : Int32)), (.int (384 : Int32)), (.int (400 : Int32)), (.int (416 : Int32)), (.int (432 : Int32)), (.int (448 : Int32)), (.int (464 : Int32)), (.int (480 : Int32)), (.int (496 : Int32)), (.int (512 : Int32)), (.int (640 : Int32)), (.int (768 : Int32)), (.int (896 : Int32)), (.int (1024 : Int32)), (.int (1280 : Int32)), (.int (1536 : Int32)), (.int (1792 : Int32)), (.int (2048 : Int32)), (.int (2560 : Int32)), (.int (3072 : Int32)), (.int (3584 : Int32)), (.int (4096 : Int32))] : List Value).getD i .null = .int (own_sz i) :=
  match i, hi with | 0, _ => rfl | 1, _ => rfl | 2, _ => rfl | 3, _ => rfl | 4, _ => rfl | 5, _ => rfl | 6, _ => rfl | 7, _ => rfl | 8, _ => rfl | 9, _ => rfl | 10, _ => rfl | 11, _ => rfl | 12, _ => rfl | 13, _ => rfl | 14, _ => rfl | 15, _ => rfl | 16, _ => rfl | 17, _ => rfl | 18, _ => rfl | 19, _ => rfl | 20, _ => rfl | 21, _ => rfl | 22, _ => rfl | 23, _ => rfl | 24, _ => rfl | 25, _ => rfl | 26, _ => rfl | 27, _ => rfl | 28, _ => rfl | 29, _ => rfl | 30, _ => rfl | 31, _ => rfl | 32, _ => rfl | 33, _ => rfl | 34, _ => rfl | 35, _ => rfl | 36, _ => rfl | 37, _ => rfl | 38, _ => rfl | 39, _ => rfl | 40, _ => rfl | 41, _ => rfl | 42, _ => rfl | 43, _ => rfl | (k + 44), hi => absurd hi (by omega)
theorem own_sz_pos {i : Nat} (hi : i < 44) : 0 < (own_sz i).toInt ∧ (own_sz i).toInt ≤ 4096 :=
  match i, hi with | 0, _ => (by decide) | 1, _ => (by decide) | 2, _ => (by decide) | 3, _ => (by decide) | 4, _ => (by decide) | 5, _ => (by decide) | 6, _ => (by decide) | 7, _ => (by decide) | 8, _ => (by decide) | 9, _ => (by decide) | 10, _ => (by decide) | 11, _ => (by decide) | 12, _ => (by decide) | 13, _ => (by decide) | 14, _ => (by decide) | 15, _ => (by decide) | 16, _ => (by decide) | 17, _ => (by decide) | 18, _ => (by decide) | 19, _ => (by decide) | 20, _ => (by decide) | 21, _ => (by decide) | 22, _ => (by decide) | 23, _ => (by decide) | 24, _ => (by decide) | 25, _ => (by decide) | 26, _ => (by decide) | 27, _ => (by decide) | 28, _ => (by decide) | 29, _ => (by decide) | 30, _ => (by decide) | 31, _ => (by decide) | 32, _ => (by decide) | 33, _ => (by decide) | 34, _ => (by decide) | 35, _ => (by decide) | 36, _ => (by decide) | 37, _ => (by decide) | 38, _ => (by decide) | 39, _ => (by decide) | 40, _ => (by decide) | 41, _ => (by decide) | 42, _ => (by decide) | 43, _ => (by decide) | (k + 44), hi => absurd hi (by omega)
theorem own_d2_0 : decode jdk_29_method_69_code 0 = .ok (.iload_n 0, 1) := by decide +kernel
theorem own_d2_1 : decode jdk_29_method_69_code 1 = .ok (.iload_n 1, 1) := by decide +kernel
theorem own_d2_2 : decode jdk_29_method_69_code 2 = .ok (.if_icmp .gt 7, 3) := by decide +kernel
theorem own_d2_5 : decode jdk_29_method_69_code 5 = .ok (.iload_n 0, 1) := by decide +kernel
theorem own_d2_6 : decode jdk_29_method_69_code 6 = .ok (.goto 4, 3) := by decide +kernel
theorem own_d2_9 : decode jdk_29_method_69_code 9 = .ok (.iload_n 1, 1) := by decide +kernel
theorem own_d2_10 : decode jdk_29_method_69_code 10 = .ok (.ireturn, 1) := by decide +kernel
theorem own_pf_min : plainFor (⟨"java/lang/Math", "min", "(II)I"⟩ : MethodName) = true := by decide +kernel
def own_r_min (A : Nat → Addr) (k : Int32) (j : Int32) : Int32 := if j < k then j else k
set_option maxRecDepth 65536 in
set_option maxHeartbeats 40000000 in
theorem rm_min (l : Launch) {Z : State} {a0 : Array Value} (hw : ∀ d ∈ tables_1, d.before a0 Z = true) {A : Nat → Addr} {h0 : Heap} (W : own_W Z h0 A) (k : Int32) (j : Int32)  :
    own_Does l Z (⟨"java/lang/Math", "min", "(II)I"⟩ : MethodName) jdk_29_method_69_code 2 (some .int) [] ({ frames := 0, cells := 0, slots := 0, locals := 0 } : Room) #[(.int k), (.int j)] h0 (own_Is (.int (own_r_min A k j)) h0) := by
  refine own_bodyP own_pf_min ?_
  intro p e s m below meth c T0 hx hby hml hret hlk hnm hown hZ X0 e0
  refine own_tr (XT.entry (Ls := #[.val (.int k), .val (.int j)]) rfl) ?_
  show own_Goes p e below _ (T0.setTop (mkF m 0 #[.val (.int k), .val (.int j)] []))
  refine own_by (fun _ zz => XS.iloadN X0.here hx rfl (hb hby own_d2_0) rfl zz) ?_
  show own_Goes p e below _ (T0.setTop (mkF m 1 #[.val (.int k), .val (.int j)] [(.int k)]))
  refine own_by (fun _ zz => XS.iloadN X0.here hx rfl (hb hby own_d2_1) rfl zz) ?_
  show own_Goes p e below _ (T0.setTop (mkF m 2 #[.val (.int k), .val (.int j)] [(.int j), (.int k)]))
  by_cases q1 : j < k
  · refine own_by (fun _ zz => XS.icmpYes X0.here hx rfl (pc0 := 2) (pc' := 9) rfl (hb hby own_d2_2) rfl (XT.ii_gt_t q1) (by decide) (by decide) zz) ?_
    show own_Goes p e below _ (T0.setTop (mkF m 9 #[.val (.int k), .val (.int j)] []))
    refine own_by (fun _ zz => XS.iloadN X0.here hx rfl (hb hby own_d2_9) rfl zz) ?_
    show own_Goes p e below _ (T0.setTop (mkF m 10 #[.val (.int k), .val (.int j)] [(.int j)]))
    refine own_retI X0 hx hlk hret (hb hby own_d2_10) (by decide) (by decide) ?_
    exact ⟨by unfold own_r_min; rw [if_pos q1] <;> rfl, rfl, e0⟩
  · refine own_by (fun _ zz => XS.icmpNo X0.here hx rfl (hb hby own_d2_2) rfl (XT.ii_gt_f q1) zz) ?_
    show own_Goes p e below _ (T0.setTop (mkF m 5 #[.val (.int k), .val (.int j)] []))
    refine own_by (fun _ zz => XS.iloadN X0.here hx rfl (hb hby own_d2_5) rfl zz) ?_
    show own_Goes p e below _ (T0.setTop (mkF m 6 #[.val (.int k), .val (.int j)] [(.int k)]))
    refine own_by (fun _ zz => XS.goto X0.here hx rfl (pc0 := 6) (pc' := 10) rfl (hb hby own_d2_6) (by decide) (by decide) zz) ?_
    show own_Goes p e below _ (T0.setTop (mkF m 10 #[.val (.int k), .val (.int j)] [(.int k)]))
    refine own_retI X0 hx hlk hret (hb hby own_d2_10) (by decide) (by decide) ?_
    exact ⟨by unfold own_r_min; rw [if_neg q1] <;> rfl, rfl, e0⟩
theorem own_d3_0 : decode prog_6_method_5_code 0 = .ok (.iload_n 0, 1) := by decide +kernel
theorem own_d3_1 : decode prog_6_method_5_code 1 = .ok (.iload_n 1, 1) := by decide +kernel
theorem own_d3_2 : decode prog_6_method_5_code 2 = .ok (.irem, 1) := by decide +kernel
theorem own_d3_3 : decode prog_6_method_5_code 3 = .ok (.iload_n 0, 1) := by decide +kernel
theorem own_d3_4 : decode prog_6_method_5_code 4 = .ok (.bipush 16, 2) := by decide +kernel
theorem own_d3_6 : decode prog_6_method_5_code 6 = .ok (.idiv, 1) := by decide +kernel
theorem own_d3_7 : decode prog_6_method_5_code 7 = .ok (.if_icmp .le 7, 3) := by decide +kernel
theorem own_d3_10 : decode prog_6_method_5_code 10 = .ok (.iconst 1, 1) := by decide +kernel
theorem own_d3_11 : decode prog_6_method_5_code 11 = .ok (.goto 4, 3) := by decide +kernel
theorem own_d3_14 : decode prog_6_method_5_code 14 = .ok (.iconst 0, 1) := by decide +kernel
theorem own_d3_15 : decode prog_6_method_5_code 15 = .ok (.ireturn, 1) := by decide +kernel
def own_r_leaves (A : Nat → Addr) (r : Int32) (t : Int32) : Int32 := if (r / (16 : Int32)) < (r % t) then (1 : Int32) else (0 : Int32)
set_option maxRecDepth 65536 in
set_option maxHeartbeats 40000000 in
theorem rm_leaves (l : Launch) {Z : State} {a0 : Array Value} (hw : ∀ d ∈ tables_1, d.before a0 Z = true) {A : Nat → Addr} {h0 : Heap} (W : own_W Z h0 A) (r : Int32) (t : Int32) (ht : t ≠ 0) :
    own_Does l Z (⟨"com/example/quoin/quoin/internal/SizeClasses", "leavesTooMuch", "(II)Z"⟩ : MethodName) prog_6_method_5_code 2 (some .boolean) [] ({ frames := 0, cells := 0, slots := 0, locals := 0 } : Room) #[(.int r), (.int t)] h0 (own_Is (.int (own_r_leaves A r t)) h0) := by
  refine own_body own_pn0 ?_
  intro p e s m below meth c T0 hx hby hml hret hlk hnm hown hZ X0 e0
  refine own_tr (XT.entry (Ls := #[.val (.int r), .val (.int t)]) rfl) ?_
  show own_Goes p e below _ (T0.setTop (mkF m 0 #[.val (.int r), .val (.int t)] []))
  refine own_by (fun _ zz => XS.iloadN X0.here hx rfl (hb hby own_d3_0) rfl zz) ?_
  show own_Goes p e below _ (T0.setTop (mkF m 1 #[.val (.int r), .val (.int t)] [(.int r)]))
  refine own_by (fun _ zz => XS.iloadN X0.here hx rfl (hb hby own_d3_1) rfl zz) ?_
  show own_Goes p e below _ (T0.setTop (mkF m 2 #[.val (.int r), .val (.int t)] [(.int t), (.int r)]))
  refine own_by (fun _ zz => iremM X0 hx rfl (hb hby own_d3_2) rfl ht zz) ?_
  show own_Goes p e below _ (T0.setTop (mkF m 3 #[.val (.int r), .val (.int t)] [(.int (r % t))]))
  refine own_by (fun _ zz => XS.iloadN X0.here hx rfl (hb hby own_d3_3) rfl zz) ?_
  show own_Goes p e below _ (T0.setTop (mkF m 4 #[.val (.int r), .val (.int t)] [(.int r), (.int (r % t))]))
  refine own_by (fun _ zz => XS.bipush X0.here hx rfl (hb hby own_d3_4) zz) ?_
  show own_Goes p e below _ (T0.setTop (mkF m 6 #[.val (.int r), .val (.int t)] [(.int (16 : Int32)), (.int r), (.int (r % t))]))
  refine own_by (fun _ zz => XS.idiv X0.here hx rfl (hb hby own_d3_6) rfl (by decide) zz) ?_
  show own_Goes p e below _ (T0.setTop (mkF m 7 #[.val (.int r), .val (.int t)] [(.int (r / (16 : Int32))), (.int (r % t))]))
  by_cases q1 : (r / (16 : Int32)) < (r % t)
  · refine own_by (fun _ zz => XS.icmpNo X0.here hx rfl (hb hby own_d3_7) rfl (XT.ii_le_f q1) zz) ?_
    show own_Goes p e below _ (T0.setTop (mkF m 10 #[.val (.int r), .val (.int t)] []))
    refine own_by (fun _ zz => XS.iconst X0.here hx rfl (hb hby own_d3_10) zz) ?_
    show own_Goes p e below _ (T0.setTop (mkF m 11 #[.val (.int r), .val (.int t)] [(.int (1 : Int32))]))
    refine own_by (fun _ zz => XS.goto X0.here hx rfl (pc0 := 11) (pc' := 15) rfl (hb hby own_d3_11) (by decide) (by decide) zz) ?_
    show own_Goes p e below _ (T0.setTop (mkF m 15 #[.val (.int r), .val (.int t)] [(.int (1 : Int32))]))
    refine own_retN X0 hx hlk (ty := .boolean) hret (by simp) (hb hby own_d3_15) (by decide) (by decide) ?_
    exact ⟨by unfold own_r_leaves; rw [if_pos q1] <;> rfl, rfl, e0⟩
  · refine own_by (fun _ zz => XS.icmpYes X0.here hx rfl (pc0 := 7) (pc' := 14) rfl (hb hby own_d3_7) rfl (XT.ii_le_t q1) (by decide) (by decide) zz) ?_
    show own_Goes p e below _ (T0.setTop (mkF m 14 #[.val (.int r), .val (.int t)] []))
    refine own_by (fun _ zz => XS.iconst X0.here hx rfl (hb hby own_d3_14) zz) ?_
    show own_Goes p e below _ (T0.setTop (mkF m 15 #[.val (.int r), .val (.int t)] [(.int (0 : Int32))]))
    refine own_retN X0 hx hlk (ty := .boolean) hret (by simp) (hb hby own_d3_15) (by decide) (by decide) ?_
    exact ⟨by unfold own_r_leaves; rw [if_neg q1] <;> rfl, rfl, e0⟩
theorem own_d4_0 : decode method_4_code 0 = .ok (.iload_n 0, 1) := by decide +kernel
theorem own_d4_1 : decode method_4_code 1 = .ok (.bipush 32, 2) := by decide +kernel
theorem own_d4_3 : decode method_4_code 3 = .ok (.if_icmp .ge 10, 3) := by decide +kernel
theorem own_d4_6 : decode method_4_code 6 = .ok (.bipush 16, 2) := by decide +kernel
theorem own_d4_8 : decode method_4_code 8 = .ok (.iload_n 0, 1) := by decide +kernel
theorem own_d4_9 : decode method_4_code 9 = .ok (.iconst 1, 1) := by decide +kernel
theorem own_d4_10 : decode method_4_code 10 = .ok (.iadd, 1) := by decide +kernel
theorem own_d4_11 : decode method_4_code 11 = .ok (.imul, 1) := by decide +kernel
theorem own_d4_12 : decode method_4_code 12 = .ok (.ireturn, 1) := by decide +kernel
theorem own_d4_13 : decode method_4_code 13 = .ok (.iload_n 0, 1) := by decide +kernel
theorem own_d4_14 : decode method_4_code 14 = .ok (.bipush 32, 2) := by decide +kernel
theorem own_d4_16 : decode method_4_code 16 = .ok (.isub, 1) := by decide +kernel
theorem own_d4_17 : decode method_4_code 17 = .ok (.istore_n 1, 1) := by decide +kernel
theorem own_d4_18 : decode method_4_code 18 = .ok (.iload_n 1, 1) := by decide +kernel
theorem own_d4_19 : decode method_4_code 19 = .ok (.iconst 4, 1) := by decide +kernel
theorem own_d4_20 : decode method_4_code 20 = .ok (.idiv, 1) := by decide +kernel
theorem own_d4_21 : decode method_4_code 21 = .ok (.istore_n 2, 1) := by decide +kernel
theorem own_d4_22 : decode method_4_code 22 = .ok (.iload_n 1, 1) := by decide +kernel
theorem own_d4_23 : decode method_4_code 23 = .ok (.iconst 4, 1) := by decide +kernel
theorem own_d4_24 : decode method_4_code 24 = .ok (.irem, 1) := by decide +kernel
theorem own_d4_25 : decode method_4_code 25 = .ok (.istore_n 3, 1) := by decide +kernel
theorem own_d4_26 : decode method_4_code 26 = .ok (.sipush 512, 3) := by decide +kernel
theorem own_d4_29 : decode method_4_code 29 = .ok (.iload_n 2, 1) := by decide +kernel
theorem own_d4_30 : decode method_4_code 30 = .ok (.ishl, 1) := by decide +kernel
theorem own_d4_31 : decode method_4_code 31 = .ok (.istore 4, 2) := by decide +kernel
theorem own_d4_33 : decode method_4_code 33 = .ok (.iload 4, 2) := by decide +kernel
theorem own_d4_35 : decode method_4_code 35 = .ok (.iload_n 3, 1) := by decide +kernel
theorem own_d4_36 : decode method_4_code 36 = .ok (.iconst 1, 1) := by decide +kernel
theorem own_d4_37 : decode method_4_code 37 = .ok (.iadd, 1) := by decide +kernel
theorem own_d4_38 : decode method_4_code 38 = .ok (.iload 4, 2) := by decide +kernel
theorem own_d4_40 : decode method_4_code 40 = .ok (.iconst 4, 1) := by decide +kernel
theorem own_d4_41 : decode method_4_code 41 = .ok (.idiv, 1) := by decide +kernel
theorem own_d4_42 : decode method_4_code 42 = .ok (.imul, 1) := by decide +kernel
theorem own_d4_43 : decode method_4_code 43 = .ok (.iadd, 1) := by decide +kernel
theorem own_d4_44 : decode method_4_code 44 = .ok (.ireturn, 1) := by decide +kernel
def own_r_sizeOf (A : Nat → Addr) (k : Int32) : Int32 := if k < (32 : Int32) then ((16 : Int32) * (k + (1 : Int32))) else (((512 : Int32) <<< (((k - (32 : Int32)) / (4 : Int32)) &&& 31)) + ((((k - (32 : Int32)) % (4 : Int32)) + (1 : Int32)) * (((512 : Int32) <<< (((k - (32 : Int32)) / (4 : Int32)) &&& 31)) / (4 : Int32))))
set_option maxRecDepth 65536 in
set_option maxHeartbeats 40000000 in
theorem rm_sizeOf (l : Launch) {Z : State} {a0 : Array Value} (hw : ∀ d ∈ tables_1, d.before a0 Z = true) {A : Nat → Addr} {h0 : Heap} (W : own_W Z h0 A) (k : Int32)  :
    own_Does l Z (⟨"com/example/quoin/quoin/internal/SizeClassesRunPagesPinLaw", "sizeOf", "(I)I"⟩ : MethodName) method_4_code 5 (some .int) [] ({ frames := 0, cells := 0, slots := 0, locals := 0 } : Room) #[(.int k)] h0 (own_Is (.int (own_r_sizeOf A k)) h0) := by
  refine own_body own_pn1 ?_
  intro p e s m below meth c T0 hx hby hml hret hlk hnm hown hZ X0 e0
  refine own_tr (XT.entry (Ls := #[.val (.int k), .unset, .unset, .unset, .unset]) rfl) ?_
  show own_Goes p e below _ (T0.setTop (mkF m 0 #[.val (.int k), .unset, .unset, .unset, .unset] []))
  refine own_by (fun _ zz => XS.iloadN X0.here hx rfl (hb hby own_d4_0) rfl zz) ?_
  show own_Goes p e below _ (T0.setTop (mkF m 1 #[.val (.int k), .unset, .unset, .unset, .unset] [(.int k)]))
  refine own_by (fun _ zz => XS.bipush X0.here hx rfl (hb hby own_d4_1) zz) ?_
  show own_Goes p e below _ (T0.setTop (mkF m 3 #[.val (.int k), .unset, .unset, .unset, .unset] [(.int (32 : Int32)), (.int k)]))
  by_cases q1 : k < (32 : Int32)
  · refine own_by (fun _ zz => XS.icmpNo X0.here hx rfl (hb hby own_d4_3) rfl (XT.ii_ge_f q1) zz) ?_
    show own_Goes p e below _ (T0.setTop (mkF m 6 #[.val (.int k), .unset, .unset, .unset, .unset] []))
    refine own_by (fun _ zz => XS.bipush X0.here hx rfl (hb hby own_d4_6) zz) ?_
    show own_Goes p e below _ (T0.setTop (mkF m 8 #[.val (.int k), .unset, .unset, .unset, .unset] [(.int (16 : Int32))]))
    refine own_by (fun _ zz => XS.iloadN X0.here hx rfl (hb hby own_d4_8) rfl zz) ?_
    show own_Goes p e below _ (T0.setTop (mkF m 9 #[.val (.int k), .unset, .unset, .unset, .unset] [(.int k), (.int (16 : Int32))]))
    refine own_by (fun _ zz => XS.iconst X0.here hx rfl (hb hby own_d4_9) zz) ?_
    show own_Goes p e below _ (T0.setTop (mkF m 10 #[.val (.int k), .unset, .unset, .unset, .unset] [(.int (1 : Int32)), (.int k), (.int (16 : Int32))]))
    refine own_by (fun _ zz => XS.iadd X0.here hx rfl (hb hby own_d4_10) rfl zz) ?_
    show own_Goes p e below _ (T0.setTop (mkF m 11 #[.val (.int k), .unset, .unset, .unset, .unset] [(.int (k + (1 : Int32))), (.int (16 : Int32))]))
    refine own_by (fun _ zz => XS.imul X0.here hx rfl (hb hby own_d4_11) rfl zz) ?_
    show own_Goes p e below _ (T0.setTop (mkF m 12 #[.val (.int k), .unset, .unset, .unset, .unset] [(.int ((16 : Int32) * (k + (1 : Int32))))]))
    refine own_retI X0 hx hlk hret (hb hby own_d4_12) (by decide) (by decide) ?_
    exact ⟨by unfold own_r_sizeOf; rw [if_pos q1] <;> rfl, rfl, e0⟩
  · refine own_by (fun _ zz => XS.icmpYes X0.here hx rfl (pc0 := 3) (pc' := 13) rfl (hb hby own_d4_3) rfl (XT.ii_ge_t q1) (by decide) (by decide) zz) ?_
    show own_Goes p e below _ (T0.setTop (mkF m 13 #[.val (.int k), .unset, .unset, .unset, .unset] []))
    refine own_by (fun _ zz => XS.iloadN X0.here hx rfl (hb hby own_d4_13) rfl zz) ?_
    show own_Goes p e below _ (T0.setTop (mkF m 14 #[.val (.int k), .unset, .unset, .unset, .unset] [(.int k)]))
    refine own_by (fun _ zz => XS.bipush X0.here hx rfl (hb hby own_d4_14) zz) ?_
    show own_Goes p e below _ (T0.setTop (mkF m 16 #[.val (.int k), .unset, .unset, .unset, .unset] [(.int (32 : Int32)), (.int k)]))
    refine own_by (fun _ zz => XS.isub X0.here hx rfl (hb hby own_d4_16) rfl zz) ?_
    show own_Goes p e below _ (T0.setTop (mkF m 17 #[.val (.int k), .unset, .unset, .unset, .unset] [(.int (k - (32 : Int32)))]))
    refine own_by (fun _ zz => XS.istoreN X0.here hx rfl (hb hby own_d4_17) rfl (l' := #[.val (.int k), .val (.int (k - (32 : Int32))), .unset, .unset, .unset]) rfl zz) ?_
    show own_Goes p e below _ (T0.setTop (mkF m 18 #[.val (.int k), .val (.int (k - (32 : Int32))), .unset, .unset, .unset] []))
    refine own_by (fun _ zz => XS.iloadN X0.here hx rfl (hb hby own_d4_18) rfl zz) ?_
    show own_Goes p e below _ (T0.setTop (mkF m 19 #[.val (.int k), .val (.int (k - (32 : Int32))), .unset, .unset, .unset] [(.int (k - (32 : Int32)))]))
    refine own_by (fun _ zz => XS.iconst X0.here hx rfl (hb hby own_d4_19) zz) ?_
    show own_Goes p e below _ (T0.setTop (mkF m 20 #[.val (.int k), .val (.int (k - (32 : Int32))), .unset, .unset, .unset] [(.int (4 : Int32)), (.int (k - (32 : Int32)))]))
    refine own_by (fun _ zz => XS.idiv X0.here hx rfl (hb hby own_d4_20) rfl (by decide) zz) ?_
    show own_Goes p e below _ (T0.setTop (mkF m 21 #[.val (.int k), .val (.int (k - (32 : Int32))), .unset, .unset, .unset] [(.int ((k - (32 : Int32)) / (4 : Int32)))]))
    refine own_by (fun _ zz => XS.istoreN X0.here hx rfl (hb hby own_d4_21) rfl (l' := #[.val (.int k), .val (.int (k - (32 : Int32))), .val (.int ((k - (32 : Int32)) / (4 : Int32))), .unset, .unset]) rfl zz) ?_
    show own_Goes p e below _ (T0.setTop (mkF m 22 #[.val (.int k), .val (.int (k - (32 : Int32))), .val (.int ((k - (32 : Int32)) / (4 : Int32))), .unset, .unset] []))
    refine own_by (fun _ zz => XS.iloadN X0.here hx rfl (hb hby own_d4_22) rfl zz) ?_
    show own_Goes p e below _ (T0.setTop (mkF m 23 #[.val (.int k), .val (.int (k - (32 : Int32))), .val (.int ((k - (32 : Int32)) / (4 : Int32))), .unset, .unset] [(.int (k - (32 : Int32)))]))
    refine own_by (fun _ zz => XS.iconst X0.here hx rfl (hb hby own_d4_23) zz) ?_
    show own_Goes p e below _ (T0.setTop (mkF m 24 #[.val (.int k), .val (.int (k - (32 : Int32))), .val (.int ((k - (32 : Int32)) / (4 : Int32))), .unset, .unset] [(.int (4 : Int32)), (.int (k - (32 : Int32)))]))
    refine own_by (fun _ zz => iremM X0 hx rfl (hb hby own_d4_24) rfl (by decide) zz) ?_
    show own_Goes p e below _ (T0.setTop (mkF m 25 #[.val (.int k), .val (.int (k - (32 : Int32))), .val (.int ((k - (32 : Int32)) / (4 : Int32))), .unset, .unset] [(.int ((k - (32 : Int32)) % (4 : Int32)))]))
    refine own_by (fun _ zz => XS.istoreN X0.here hx rfl (hb hby own_d4_25) rfl (l' := #[.val (.int k), .val (.int (k - (32 : Int32))), .val (.int ((k - (32 : Int32)) / (4 : Int32))), .val (.int ((k - (32 : Int32)) % (4 : Int32))), .unset]) rfl zz) ?_
    show own_Goes p e below _ (T0.setTop (mkF m 26 #[.val (.int k), .val (.int (k - (32 : Int32))), .val (.int ((k - (32 : Int32)) / (4 : Int32))), .val (.int ((k - (32 : Int32)) % (4 : Int32))), .unset] []))
    refine own_by (fun _ zz => XS.sipush X0.here hx rfl (hb hby own_d4_26) zz) ?_
    show own_Goes p e below _ (T0.setTop (mkF m 29 #[.val (.int k), .val (.int (k - (32 : Int32))), .val (.int ((k - (32 : Int32)) / (4 : Int32))), .val (.int ((k - (32 : Int32)) % (4 : Int32))), .unset] [(.int (512 : Int32))]))
    refine own_by (fun _ zz => XS.iloadN X0.here hx rfl (hb hby own_d4_29) rfl zz) ?_
    show own_Goes p e below _ (T0.setTop (mkF m 30 #[.val (.int k), .val (.int (k - (32 : Int32))), .val (.int ((k - (32 : Int32)) / (4 : Int32))), .val (.int ((k - (32 : Int32)) % (4 : Int32))), .unset] [(.int ((k - (32 : Int32)) / (4 : Int32))), (.int (512 : Int32))]))
    refine own_by (fun _ zz => XT.ishl X0.here hx rfl (hb hby own_d4_30) rfl zz) ?_
    show own_Goes p e below _ (T0.setTop (mkF m 31 #[.val (.int k), .val (.int (k - (32 : Int32))), .val (.int ((k - (32 : Int32)) / (4 : Int32))), .val (.int ((k - (32 : Int32)) % (4 : Int32))), .unset] [(.int ((512 : Int32) <<< (((k - (32 : Int32)) / (4 : Int32)) &&& 31)))]))
    refine own_by (fun _ zz => XS.istore X0.here hx rfl (hb hby own_d4_31) rfl (l' := #[.val (.int k), .val (.int (k - (32 : Int32))), .val (.int ((k - (32 : Int32)) / (4 : Int32))), .val (.int ((k - (32 : Int32)) % (4 : Int32))), .val (.int ((512 : Int32) <<< (((k - (32 : Int32)) / (4 : Int32)) &&& 31)))]) rfl zz) ?_
    show own_Goes p e below _ (T0.setTop (mkF m 33 #[.val (.int k), .val (.int (k - (32 : Int32))), .val (.int ((k - (32 : Int32)) / (4 : Int32))), .val (.int ((k - (32 : Int32)) % (4 : Int32))), .val (.int ((512 : Int32) <<< (((k - (32 : Int32)) / (4 : Int32)) &&& 31)))] []))
    refine own_by (fun _ zz => XS.iload X0.here hx rfl (hb hby own_d4_33) rfl zz) ?_
    show own_Goes p e below _ (T0.setTop (mkF m 35 #[.val (.int k), .val (.int (k - (32 : Int32))), .val (.int ((k - (32 : Int32)) / (4 : Int32))), .val (.int ((k - (32 : Int32)) % (4 : Int32))), .val (.int ((512 : Int32) <<< (((k - (32 : Int32)) / (4 : Int32)) &&& 31)))] [(.int ((512 : Int32) <<< (((k - (32 : Int32)) / (4 : Int32)) &&& 31)))]))
    refine own_by (fun _ zz => XS.iloadN X0.here hx rfl (hb hby own_d4_35) rfl zz) ?_
    show own_Goes p e below _ (T0.setTop (mkF m 36 #[.val (.int k), .val (.int (k - (32 : Int32))), .val (.int ((k - (32 : Int32)) / (4 : Int32))), .val (.int ((k - (32 : Int32)) % (4 : Int32))), .val (.int ((512 : Int32) <<< (((k - (32 : Int32)) / (4 : Int32)) &&& 31)))] [(.int ((k - (32 : Int32)) % (4 : Int32))), (.int ((512 : Int32) <<< (((k - (32 : Int32)) / (4 : Int32)) &&& 31)))]))
    refine own_by (fun _ zz => XS.iconst X0.here hx rfl (hb hby own_d4_36) zz) ?_
    show own_Goes p e below _ (T0.setTop (mkF m 37 #[.val (.int k), .val (.int (k - (32 : Int32))), .val (.int ((k - (32 : Int32)) / (4 : Int32))), .val (.int ((k - (32 : Int32)) % (4 : Int32))), .val (.int ((512 : Int32) <<< (((k - (32 : Int32)) / (4 : Int32)) &&& 31)))] [(.int (1 : Int32)), (.int ((k - (32 : Int32)) % (4 : Int32))), (.int ((512 : Int32) <<< (((k - (32 : Int32)) / (4 : Int32)) &&& 31)))]))
    refine own_by (fun _ zz => XS.iadd X0.here hx rfl (hb hby own_d4_37) rfl zz) ?_
    show own_Goes p e below _ (T0.setTop (mkF m 38 #[.val (.int k), .val (.int (k - (32 : Int32))), .val (.int ((k - (32 : Int32)) / (4 : Int32))), .val (.int ((k - (32 : Int32)) % (4 : Int32))), .val (.int ((512 : Int32) <<< (((k - (32 : Int32)) / (4 : Int32)) &&& 31)))] [(.int (((k - (32 : Int32)) % (4 : Int32)) + (1 : Int32))), (.int ((512 : Int32) <<< (((k - (32 : Int32)) / (4 : Int32)) &&& 31)))]))
    refine own_by (fun _ zz => XS.iload X0.here hx rfl (hb hby own_d4_38) rfl zz) ?_
    show own_Goes p e below _ (T0.setTop (mkF m 40 #[.val (.int k), .val (.int (k - (32 : Int32))), .val (.int ((k - (32 : Int32)) / (4 : Int32))), .val (.int ((k - (32 : Int32)) % (4 : Int32))), .val (.int ((512 : Int32) <<< (((k - (32 : Int32)) / (4 : Int32)) &&& 31)))] [(.int ((512 : Int32) <<< (((k - (32 : Int32)) / (4 : Int32)) &&& 31))), (.int (((k - (32 : Int32)) % (4 : Int32)) + (1 : Int32))), (.int ((512 : Int32) <<< (((k - (32 : Int32)) / (4 : Int32)) &&& 31)))]))
    refine own_by (fun _ zz => XS.iconst X0.here hx rfl (hb hby own_d4_40) zz) ?_
    show own_Goes p e below _ (T0.setTop (mkF m 41 #[.val (.int k), .val (.int (k - (32 : Int32))), .val (.int ((k - (32 : Int32)) / (4 : Int32))), .val (.int ((k - (32 : Int32)) % (4 : Int32))), .val (.int ((512 : Int32) <<< (((k - (32 : Int32)) / (4 : Int32)) &&& 31)))] [(.int (4 : Int32)), (.int ((512 : Int32) <<< (((k - (32 : Int32)) / (4 : Int32)) &&& 31))), (.int (((k - (32 : Int32)) % (4 : Int32)) + (1 : Int32))), (.int ((512 : Int32) <<< (((k - (32 : Int32)) / (4 : Int32)) &&& 31)))]))
    refine own_by (fun _ zz => XS.idiv X0.here hx rfl (hb hby own_d4_41) rfl (by decide) zz) ?_
    show own_Goes p e below _ (T0.setTop (mkF m 42 #[.val (.int k), .val (.int (k - (32 : Int32))), .val (.int ((k - (32 : Int32)) / (4 : Int32))), .val (.int ((k - (32 : Int32)) % (4 : Int32))), .val (.int ((512 : Int32) <<< (((k - (32 : Int32)) / (4 : Int32)) &&& 31)))] [(.int (((512 : Int32) <<< (((k - (32 : Int32)) / (4 : Int32)) &&& 31)) / (4 : Int32))), (.int (((k - (32 : Int32)) % (4 : Int32)) + (1 : Int32))), (.int ((512 : Int32) <<< (((k - (32 : Int32)) / (4 : Int32)) &&& 31)))]))
    refine own_by (fun _ zz => XS.imul X0.here hx rfl (hb hby own_d4_42) rfl zz) ?_
    show own_Goes p e below _ (T0.setTop (mkF m 43 #[.val (.int k), .val (.int (k - (32 : Int32))), .val (.int ((k - (32 : Int32)) / (4 : Int32))), .val (.int ((k - (32 : Int32)) % (4 : Int32))), .val (.int ((512 : Int32) <<< (((k - (32 : Int32)) / (4 : Int32)) &&& 31)))] [(.int ((((k - (32 : Int32)) % (4 : Int32)) + (1 : Int32)) * (((512 : Int32) <<< (((k - (32 : Int32)) / (4 : Int32)) &&& 31)) / (4 : Int32)))), (.int ((512 : Int32) <<< (((k - (32 : Int32)) / (4 : Int32)) &&& 31)))]))
    refine own_by (fun _ zz => XS.iadd X0.here hx rfl (hb hby own_d4_43) rfl zz) ?_
    show own_Goes p e below _ (T0.setTop (mkF m 44 #[.val (.int k), .val (.int (k - (32 : Int32))), .val (.int ((k - (32 : Int32)) / (4 : Int32))), .val (.int ((k - (32 : Int32)) % (4 : Int32))), .val (.int ((512 : Int32) <<< (((k - (32 : Int32)) / (4 : Int32)) &&& 31)))] [(.int (((512 : Int32) <<< (((k - (32 : Int32)) / (4 : Int32)) &&& 31)) + ((((k - (32 : Int32)) % (4 : Int32)) + (1 : Int32)) * (((512 : Int32) <<< (((k - (32 : Int32)) / (4 : Int32)) &&& 31)) / (4 : Int32)))))]))
    refine own_retI X0 hx hlk hret (hb hby own_d4_44) (by decide) (by decide) ?_
    exact ⟨by unfold own_r_sizeOf; rw [if_neg q1] <;> rfl, rfl, e0⟩
theorem own_d5_0 : decode method_3_code 0 = .ok (.lload_n 0, 1) := by decide +kernel
theorem own_d5_1 : decode method_3_code 1 = .ok (.lload_n 0, 1) := by decide +kernel
theorem own_d5_2 : decode method_3_code 2 = .ok (.lload_n 2, 1) := by decide +kernel
theorem own_d5_3 : decode method_3_code 3 = .ok (.ldiv, 1) := by decide +kernel
theorem own_d5_4 : decode method_3_code 4 = .ok (.lload_n 2, 1) := by decide +kernel
theorem own_d5_5 : decode method_3_code 5 = .ok (.lmul, 1) := by decide +kernel
theorem own_d5_6 : decode method_3_code 6 = .ok (.lsub, 1) := by decide +kernel
theorem own_d5_7 : decode method_3_code 7 = .ok (.lstore 4, 2) := by decide +kernel
theorem own_d5_9 : decode method_3_code 9 = .ok (.lload 4, 2) := by decide +kernel
theorem own_d5_11 : decode method_3_code 11 = .ok (.ldc2_w 32, 3) := by decide +kernel
theorem own_d5_14 : decode method_3_code 14 = .ok (.lmul, 1) := by decide +kernel
theorem own_d5_15 : decode method_3_code 15 = .ok (.lload_n 0, 1) := by decide +kernel
theorem own_d5_16 : decode method_3_code 16 = .ok (.lcmp, 1) := by decide +kernel
theorem own_d5_17 : decode method_3_code 17 = .ok (.ifCond .gt 7, 3) := by decide +kernel
theorem own_d5_20 : decode method_3_code 20 = .ok (.iconst 1, 1) := by decide +kernel
theorem own_d5_21 : decode method_3_code 21 = .ok (.goto 4, 3) := by decide +kernel
theorem own_d5_24 : decode method_3_code 24 = .ok (.iconst 0, 1) := by decide +kernel
theorem own_d5_25 : decode method_3_code 25 = .ok (.ireturn, 1) := by decide +kernel
def own_r_fits (A : Nat → Addr) (r : Int64) (t : Int64) : Int32 := if r < ((r - ((r / t) * t)) * (16 : Int64)) then (0 : Int32) else (1 : Int32)
set_option maxRecDepth 65536 in
set_option maxHeartbeats 40000000 in
theorem rm_fits (l : Launch) {Z : State} {a0 : Array Value} (hw : ∀ d ∈ tables_1, d.before a0 Z = true) {A : Nat → Addr} {h0 : Heap} (W : own_W Z h0 A) (r : Int64) (t : Int64) (ht : t ≠ 0) :
    own_Does l Z (⟨"com/example/quoin/quoin/internal/SizeClassesRunPagesPinLaw", "fits", "(JJ)Z"⟩ : MethodName) method_3_code 6 (some .boolean) [] ({ frames := 0, cells := 0, slots := 0, locals := 0 } : Room) #[(.long r), (.long t)] h0 (own_Is (.int (own_r_fits A r t)) h0) := by
  refine own_body own_pn1 ?_
  intro p e s m below meth c T0 hx hby hml hret hlk hnm hown hZ X0 e0
  refine own_tr (XT.entry (Ls := #[.val (.long r), .second, .val (.long t), .second, .unset, .unset]) rfl) ?_
  show own_Goes p e below _ (T0.setTop (mkF m 0 #[.val (.long r), .second, .val (.long t), .second, .unset, .unset] []))
  refine own_by (fun _ zz => XT.lloadN X0.here hx rfl (hb hby own_d5_0) rfl zz) ?_
  show own_Goes p e below _ (T0.setTop (mkF m 1 #[.val (.long r), .second, .val (.long t), .second, .unset, .unset] [(.long r)]))
  refine own_by (fun _ zz => XT.lloadN X0.here hx rfl (hb hby own_d5_1) rfl zz) ?_
  show own_Goes p e below _ (T0.setTop (mkF m 2 #[.val (.long r), .second, .val (.long t), .second, .unset, .unset] [(.long r), (.long r)]))
  refine own_by (fun _ zz => XT.lloadN X0.here hx rfl (hb hby own_d5_2) rfl zz) ?_
  show own_Goes p e below _ (T0.setTop (mkF m 3 #[.val (.long r), .second, .val (.long t), .second, .unset, .unset] [(.long t), (.long r), (.long r)]))
  refine own_by (fun _ zz => XT.ldiv X0.here hx rfl (hb hby own_d5_3) rfl ht zz) ?_
  show own_Goes p e below _ (T0.setTop (mkF m 4 #[.val (.long r), .second, .val (.long t), .second, .unset, .unset] [(.long (r / t)), (.long r)]))
  refine own_by (fun _ zz => XT.lloadN X0.here hx rfl (hb hby own_d5_4) rfl zz) ?_
  show own_Goes p e below _ (T0.setTop (mkF m 5 #[.val (.long r), .second, .val (.long t), .second, .unset, .unset] [(.long t), (.long (r / t)), (.long r)]))
  refine own_by (fun _ zz => XT.lmul X0.here hx rfl (hb hby own_d5_5) rfl zz) ?_
  show own_Goes p e below _ (T0.setTop (mkF m 6 #[.val (.long r), .second, .val (.long t), .second, .unset, .unset] [(.long ((r / t) * t)), (.long r)]))
  refine own_by (fun _ zz => XT.lsub X0.here hx rfl (hb hby own_d5_6) rfl zz) ?_
  show own_Goes p e below _ (T0.setTop (mkF m 7 #[.val (.long r), .second, .val (.long t), .second, .unset, .unset] [(.long (r - ((r / t) * t)))]))
  refine own_by (fun _ zz => XT.lstore X0.here hx rfl (hb hby own_d5_7) rfl (l' := #[.val (.long r), .second, .val (.long t), .second, .val (.long (r - ((r / t) * t))), .second]) rfl zz) ?_
  show own_Goes p e below _ (T0.setTop (mkF m 9 #[.val (.long r), .second, .val (.long t), .second, .val (.long (r - ((r / t) * t))), .second] []))
  refine own_by (fun _ zz => XT.lload X0.here hx rfl (hb hby own_d5_9) rfl zz) ?_
  show own_Goes p e below _ (T0.setTop (mkF m 11 #[.val (.long r), .second, .val (.long t), .second, .val (.long (r - ((r / t) * t))), .second] [(.long (r - ((r / t) * t)))]))
  refine own_by (fun _ zz => X0.ldc2J hx hown (mvT hZ (own_w25 hw)) rfl (hb hby own_d5_11) zz) ?_
  show own_Goes p e below _ (T0.setTop (mkF m 14 #[.val (.long r), .second, .val (.long t), .second, .val (.long (r - ((r / t) * t))), .second] [(.long (16 : Int64)), (.long (r - ((r / t) * t)))]))
  refine own_by (fun _ zz => XT.lmul X0.here hx rfl (hb hby own_d5_14) rfl zz) ?_
  show own_Goes p e below _ (T0.setTop (mkF m 15 #[.val (.long r), .second, .val (.long t), .second, .val (.long (r - ((r / t) * t))), .second] [(.long ((r - ((r / t) * t)) * (16 : Int64)))]))
  refine own_by (fun _ zz => XT.lloadN X0.here hx rfl (hb hby own_d5_15) rfl zz) ?_
  show own_Goes p e below _ (T0.setTop (mkF m 16 #[.val (.long r), .second, .val (.long t), .second, .val (.long (r - ((r / t) * t))), .second] [(.long r), (.long ((r - ((r / t) * t)) * (16 : Int64)))]))
  refine own_by (fun _ zz => XT.lcmp X0.here hx rfl (hb hby own_d5_16) rfl zz) ?_
  show own_Goes p e below _ (T0.setTop (mkF m 17 #[.val (.long r), .second, .val (.long t), .second, .val (.long (r - ((r / t) * t))), .second] [(.int (XT.cmpL ((r - ((r / t) * t)) * (16 : Int64)) r))]))
  by_cases q1 : r < ((r - ((r / t) * t)) * (16 : Int64))
  · refine own_by (fun _ zz => XS.ifYes X0.here hx rfl (pc0 := 17) (pc' := 24) rfl (hb hby own_d5_17) rfl (XT.ll_gt_t q1) (by decide) (by decide) zz) ?_
    show own_Goes p e below _ (T0.setTop (mkF m 24 #[.val (.long r), .second, .val (.long t), .second, .val (.long (r - ((r / t) * t))), .second] []))
    refine own_by (fun _ zz => XS.iconst X0.here hx rfl (hb hby own_d5_24) zz) ?_
    show own_Goes p e below _ (T0.setTop (mkF m 25 #[.val (.long r), .second, .val (.long t), .second, .val (.long (r - ((r / t) * t))), .second] [(.int (0 : Int32))]))
    refine own_retN X0 hx hlk (ty := .boolean) hret (by simp) (hb hby own_d5_25) (by decide) (by decide) ?_
    exact ⟨by unfold own_r_fits; rw [if_pos q1] <;> rfl, rfl, e0⟩
  · refine own_by (fun _ zz => XS.ifNo X0.here hx rfl (hb hby own_d5_17) rfl (XT.ll_gt_f q1) zz) ?_
    show own_Goes p e below _ (T0.setTop (mkF m 20 #[.val (.long r), .second, .val (.long t), .second, .val (.long (r - ((r / t) * t))), .second] []))
    refine own_by (fun _ zz => XS.iconst X0.here hx rfl (hb hby own_d5_20) zz) ?_
    show own_Goes p e below _ (T0.setTop (mkF m 21 #[.val (.long r), .second, .val (.long t), .second, .val (.long (r - ((r / t) * t))), .second] [(.int (1 : Int32))]))
    refine own_by (fun _ zz => XS.goto X0.here hx rfl (pc0 := 21) (pc' := 25) rfl (hb hby own_d5_21) (by decide) (by decide) zz) ?_
    show own_Goes p e below _ (T0.setTop (mkF m 25 #[.val (.long r), .second, .val (.long t), .second, .val (.long (r - ((r / t) * t))), .second] [(.int (1 : Int32))]))
    refine own_retN X0 hx hlk (ty := .boolean) hret (by simp) (hb hby own_d5_25) (by decide) (by decide) ?_
    exact ⟨by unfold own_r_fits; rw [if_neg q1] <;> rfl, rfl, e0⟩
def own_rp (A : Nat → Addr) (ps mx : Int32) (i : Nat) : Int32 :=
  if (1 : Int32) < mx then (if (own_r_leaves A ((1 : Int32) * ps) (own_sz i)) = 0 then 1 else (if (2 : Int32) < mx then (if (own_r_leaves A ((2 : Int32) * ps) (own_sz i)) = 0 then 2 else 4) else 2)) else 1
theorem own_ne0 {x : Int32} (h : 0 < x.toInt) : x ≠ 0 := fun q => by rw [q] at h; exact absurd h (by decide)
theorem own_ne0L {x : Int64} {v : Int} (h : x.toInt = v) (hp : 0 < v) : x ≠ 0 := fun q => by
  rw [q] at h
  have z : (0 : Int64).toInt = 0 := by decide
  omega
theorem own_lt44 {i : Nat} (h : i < 44) : Int32.ofNat i < (44 : Int32) := by
  rw [Int32.lt_iff_toInt_lt, Int32.toInt_ofNat_small (by omega)]
  have q : (44 : Int32).toInt = 44 := by decide
  omega
theorem own_inc {i : Nat} (h : i < 44) : Int32.ofNat i + (1 : Int32) = Int32.ofNat (i + 1) := own_eqInt (by
  have q : (1 : Int32).toInt = 1 := by decide
  have q2 : (Int32.ofNat i).toInt = i := Int32.toInt_ofNat_small (by omega)
  rw [Jvm.Kit.i32_add (by omega) (by omega), q2, q, Int32.toInt_ofNat_small (by omega)]; omega)
theorem own_d1_0 : decode prog_6_method_4_code 0 = .ok (.iconst 4, 1) := by decide +kernel
theorem own_d1_1 : decode prog_6_method_4_code 1 = .ok (.iload_n 1, 1) := by decide +kernel
theorem own_d1_2 : decode prog_6_method_4_code 2 = .ok (.invokestatic 21, 3) := by decide +kernel
theorem own_d1_5 : decode prog_6_method_4_code 5 = .ok (.istore_n 2, 1) := by decide +kernel
theorem own_d1_6 : decode prog_6_method_4_code 6 = .ok (.getstatic 27, 3) := by decide +kernel
theorem own_d1_9 : decode prog_6_method_4_code 9 = .ok (.newarray .int, 2) := by decide +kernel
theorem own_d1_11 : decode prog_6_method_4_code 11 = .ok (.astore_n 3, 1) := by decide +kernel
theorem own_d1_12 : decode prog_6_method_4_code 12 = .ok (.iconst 0, 1) := by decide +kernel
theorem own_d1_13 : decode prog_6_method_4_code 13 = .ok (.istore 4, 2) := by decide +kernel
theorem own_d1_15 : decode prog_6_method_4_code 15 = .ok (.iload 4, 2) := by decide +kernel
theorem own_d1_17 : decode prog_6_method_4_code 17 = .ok (.getstatic 27, 3) := by decide +kernel
theorem own_d1_20 : decode prog_6_method_4_code 20 = .ok (.if_icmp .ge 49, 3) := by decide +kernel
theorem own_d1_23 : decode prog_6_method_4_code 23 = .ok (.iconst 1, 1) := by decide +kernel
theorem own_d1_24 : decode prog_6_method_4_code 24 = .ok (.istore 5, 2) := by decide +kernel
theorem own_d1_26 : decode prog_6_method_4_code 26 = .ok (.iload 5, 2) := by decide +kernel
theorem own_d1_28 : decode prog_6_method_4_code 28 = .ok (.iload_n 2, 1) := by decide +kernel
theorem own_d1_29 : decode prog_6_method_4_code 29 = .ok (.if_icmp .ge 28, 3) := by decide +kernel
theorem own_d1_32 : decode prog_6_method_4_code 32 = .ok (.iload 5, 2) := by decide +kernel
theorem own_d1_34 : decode prog_6_method_4_code 34 = .ok (.iload_n 0, 1) := by decide +kernel
theorem own_d1_35 : decode prog_6_method_4_code 35 = .ok (.imul, 1) := by decide +kernel
theorem own_d1_36 : decode prog_6_method_4_code 36 = .ok (.getstatic 17, 3) := by decide +kernel
theorem own_d1_39 : decode prog_6_method_4_code 39 = .ok (.iload 4, 2) := by decide +kernel
theorem own_d1_41 : decode prog_6_method_4_code 41 = .ok (.iaload, 1) := by decide +kernel
theorem own_d1_42 : decode prog_6_method_4_code 42 = .ok (.invokestatic 30, 3) := by decide +kernel
theorem own_d1_45 : decode prog_6_method_4_code 45 = .ok (.ifCond .eq 12, 3) := by decide +kernel
theorem own_d1_48 : decode prog_6_method_4_code 48 = .ok (.iload 5, 2) := by decide +kernel
theorem own_d1_50 : decode prog_6_method_4_code 50 = .ok (.iconst 1, 1) := by decide +kernel
theorem own_d1_51 : decode prog_6_method_4_code 51 = .ok (.ishl, 1) := by decide +kernel
theorem own_d1_52 : decode prog_6_method_4_code 52 = .ok (.istore 5, 2) := by decide +kernel
theorem own_d1_54 : decode prog_6_method_4_code 54 = .ok (.goto (-28), 3) := by decide +kernel
theorem own_d1_57 : decode prog_6_method_4_code 57 = .ok (.aload_n 3, 1) := by decide +kernel
theorem own_d1_58 : decode prog_6_method_4_code 58 = .ok (.iload 4, 2) := by decide +kernel
theorem own_d1_60 : decode prog_6_method_4_code 60 = .ok (.iload 5, 2) := by decide +kernel
theorem own_d1_62 : decode prog_6_method_4_code 62 = .ok (.iastore, 1) := by decide +kernel
theorem own_d1_63 : decode prog_6_method_4_code 63 = .ok (.iinc 4 1, 3) := by decide +kernel
theorem own_d1_66 : decode prog_6_method_4_code 66 = .ok (.goto (-51), 3) := by decide +kernel
theorem own_d1_69 : decode prog_6_method_4_code 69 = .ok (.aload_n 3, 1) := by decide +kernel
theorem own_d1_70 : decode prog_6_method_4_code 70 = .ok (.areturn, 1) := by decide +kernel
theorem own_o5 {o5 : Slot} (h : o5 = .unset ∨ ∃ w, o5 = .val (.int w)) : o5 = .unset ∨ ∃ w, o5 = .val w ∧ w.category = 1 := h.imp id fun ⟨w, q⟩ => ⟨_, q, rfl⟩
theorem own_min4 (A : Nat → Addr) (ch : Int32) : ¬ (4 : Int32) < own_r_min A (4 : Int32) ch := by
  unfold own_r_min
  split
  · rename_i q
    rw [Int32.lt_iff_toInt_lt] at q ⊢
    omega
  · decide
def own_RP (Z : State) (h0 : Heap) (A : Nat → Addr) (ps ch : Int32) : Option Value → Heap → List Loc → Prop := fun v h L => v = some (.ref h0.size) ∧ Fr h0.size L ∧ Ext h0 h ∧ own_ArrF Z h h0.size .int 44 (fun i => .int (own_rp A ps (own_r_min A (4 : Int32) ch) i))
set_option maxRecDepth 65536 in
set_option maxHeartbeats 40000000 in
theorem rm_runPages (l : Launch) {Z : State} {a0 : Array Value} (hw : ∀ d ∈ tables_1, d.before a0 Z = true) {A : Nat → Addr} {h0 : Heap} (W : own_W Z h0 A) (ps ch : Int32) :
    own_Does l Z (⟨"com/example/quoin/quoin/internal/SizeClasses", "runPages", "(II)[I"⟩ : MethodName) prog_6_method_4_code 6 (some (.array .int)) [] ({ frames := 1, cells := 1, slots := 44, locals := 13 } : Room) #[(.int ps), (.int ch)] h0 (own_RP Z h0 A ps ch) := by
  refine own_body own_pn0 ?_
  intro p e s m below meth c T0 hx hby hml hret hlk hnm hown hZ X0 e0
  have loop : ∀ (n i : Nat) (T1 : State) (h1 : Heap) (locs : List Loc) (o5 : Slot), i + n = 44 → (o5 = .unset ∨ ∃ w, o5 = .val (.int w)) → Stand p l e ({ frames := 1, cells := 1, slots := 44, locals := 13 } : Room) s m #[(.int ps), (.int ch)] below meth c T1 locs (0 + 1) (0 + 44) → T1.heap = h1 → Ext h0 h1 → Fr h0.size locs → own_ArrF Z h1 h0.size .int 44 (own_pre (fun i => .int (own_rp A ps (own_r_min A (4 : Int32) ch) i)) (.int 0) i) → own_Goes p e below (own_P s (own_RP Z h0 A ps ch) 1 44) (T1.setTop (mkF m 15 #[.val (.int ps), .val (.int ch), .val (.int (own_r_min A (4 : Int32) ch)), .val (.ref h0.size), .val (.int (Int32.ofNat i)), o5] [])) := by
    intro n
    induction n with
    | zero =>
      intro i T1 h1 locs o5 hn ho X1 e1 E1 N1 F1
      obtain rfl : i = 44 := by omega
      have W1 := own_Wext W E1
      show own_Goes p e below _ (T1.setTop (mkF m 15 #[.val (.int ps), .val (.int ch), .val (.int (own_r_min A (4 : Int32) ch)), .val (.ref h0.size), .val (.int (Int32.ofNat 44)), o5] []))
      refine own_by (fun _ zz => XS.iload X1.here hx rfl (hb hby own_d1_15) rfl zz) ?_
      show own_Goes p e below _ (T1.setTop (mkF m 17 #[.val (.int ps), .val (.int ch), .val (.int (own_r_min A (4 : Int32) ch)), .val (.ref h0.size), .val (.int (Int32.ofNat 44)), o5] [(.int (Int32.ofNat 44))]))
      refine own_getS X1 hx hZ hown (own_w9 hw) e1 (own_f1 W1) (hb hby own_d1_17) fun T11 X11 e11 => ?_
      show own_Goes p e below _ (T11.setTop (mkF m 20 #[.val (.int ps), .val (.int ch), .val (.int (own_r_min A (4 : Int32) ch)), .val (.ref h0.size), .val (.int (Int32.ofNat 44)), o5] [(.int (44 : Int32)), (.int (Int32.ofNat 44))]))
      refine own_by (fun _ zz => XS.icmpYes X11.here hx rfl (pc0 := 20) (pc' := 69) rfl (hb hby own_d1_20) rfl (XT.ii_ge_t (by decide)) (by decide) (by decide) zz) ?_
      show own_Goes p e below _ (T11.setTop (mkF m 69 #[.val (.int ps), .val (.int ch), .val (.int (own_r_min A (4 : Int32) ch)), .val (.ref h0.size), .val (.int (Int32.ofNat 44)), o5] []))
      refine own_by (fun _ zz => XS.aloadN X11.here hx rfl (hb hby own_d1_69) rfl rfl zz) ?_
      show own_Goes p e below _ (T11.setTop (mkF m 70 #[.val (.int ps), .val (.int ch), .val (.int (own_r_min A (4 : Int32) ch)), .val (.ref h0.size), .val (.int (Int32.ofNat 44)), o5] [(.ref h0.size)]))
      refine own_retR X11 hx hlk hret rfl rfl rfl (hb hby own_d1_70) (by decide) (by decide) ?_
      exact ⟨rfl, N1, by rw [e11]; exact E1, by rw [e11]; exact (F1).mono fun q hq => own_pre_all hq⟩
    | succ n ih =>
      intro i T1 h1 locs o5 hn ho X1 e1 E1 N1 F1
      have hi : i < 44 := by omega
      have hI : (Int32.ofNat i).toInt = i := Int32.toInt_ofNat_small (by omega)
      have W1 := own_Wext W E1
      show own_Goes p e below _ (T1.setTop (mkF m 15 #[.val (.int ps), .val (.int ch), .val (.int (own_r_min A (4 : Int32) ch)), .val (.ref h0.size), .val (.int (Int32.ofNat i)), o5] []))
      refine own_by (fun _ zz => XS.iload X1.here hx rfl (hb hby own_d1_15) rfl zz) ?_
      show own_Goes p e below _ (T1.setTop (mkF m 17 #[.val (.int ps), .val (.int ch), .val (.int (own_r_min A (4 : Int32) ch)), .val (.ref h0.size), .val (.int (Int32.ofNat i)), o5] [(.int (Int32.ofNat i))]))
      refine own_getS X1 hx hZ hown (own_w9 hw) e1 (own_f1 W1) (hb hby own_d1_17) fun T12 X12 e12 => ?_
      show own_Goes p e below _ (T12.setTop (mkF m 20 #[.val (.int ps), .val (.int ch), .val (.int (own_r_min A (4 : Int32) ch)), .val (.ref h0.size), .val (.int (Int32.ofNat i)), o5] [(.int (44 : Int32)), (.int (Int32.ofNat i))]))
      refine own_by (fun _ zz => XS.icmpNo X12.here hx rfl (hb hby own_d1_20) rfl (XT.ii_ge_f (own_lt44 hi)) zz) ?_
      show own_Goes p e below _ (T12.setTop (mkF m 23 #[.val (.int ps), .val (.int ch), .val (.int (own_r_min A (4 : Int32) ch)), .val (.ref h0.size), .val (.int (Int32.ofNat i)), o5] []))
      refine own_by (fun _ zz => XS.iconst X12.here hx rfl (hb hby own_d1_23) zz) ?_
      show own_Goes p e below _ (T12.setTop (mkF m 24 #[.val (.int ps), .val (.int ch), .val (.int (own_r_min A (4 : Int32) ch)), .val (.ref h0.size), .val (.int (Int32.ofNat i)), o5] [(.int (1 : Int32))]))
      refine own_by (fun _ zz => XS.istoreS X12.here hx rfl (hb hby own_d1_24) rfl rfl (own_o5 ho) zz) ?_
      show own_Goes p e below _ (T12.setTop (mkF m 26 #[.val (.int ps), .val (.int ch), .val (.int (own_r_min A (4 : Int32) ch)), .val (.ref h0.size), .val (.int (Int32.ofNat i)), .val (.int (1 : Int32))] []))
      refine own_by (fun _ zz => XS.iload X12.here hx rfl (hb hby own_d1_26) rfl zz) ?_
      show own_Goes p e below _ (T12.setTop (mkF m 28 #[.val (.int ps), .val (.int ch), .val (.int (own_r_min A (4 : Int32) ch)), .val (.ref h0.size), .val (.int (Int32.ofNat i)), .val (.int (1 : Int32))] [(.int (1 : Int32))]))
      refine own_by (fun _ zz => XS.iloadN X12.here hx rfl (hb hby own_d1_28) rfl zz) ?_
      show own_Goes p e below _ (T12.setTop (mkF m 29 #[.val (.int ps), .val (.int ch), .val (.int (own_r_min A (4 : Int32) ch)), .val (.ref h0.size), .val (.int (Int32.ofNat i)), .val (.int (1 : Int32))] [(.int (own_r_min A (4 : Int32) ch)), (.int (1 : Int32))]))
      by_cases q13 : (1 : Int32) < (own_r_min A (4 : Int32) ch)
      · refine own_by (fun _ zz => XS.icmpNo X12.here hx rfl (hb hby own_d1_29) rfl (XT.ii_ge_f q13) zz) ?_
        show own_Goes p e below _ (T12.setTop (mkF m 32 #[.val (.int ps), .val (.int ch), .val (.int (own_r_min A (4 : Int32) ch)), .val (.ref h0.size), .val (.int (Int32.ofNat i)), .val (.int (1 : Int32))] []))
        refine own_by (fun _ zz => XS.iload X12.here hx rfl (hb hby own_d1_32) rfl zz) ?_
        show own_Goes p e below _ (T12.setTop (mkF m 34 #[.val (.int ps), .val (.int ch), .val (.int (own_r_min A (4 : Int32) ch)), .val (.ref h0.size), .val (.int (Int32.ofNat i)), .val (.int (1 : Int32))] [(.int (1 : Int32))]))
        refine own_by (fun _ zz => XS.iloadN X12.here hx rfl (hb hby own_d1_34) rfl zz) ?_
        show own_Goes p e below _ (T12.setTop (mkF m 35 #[.val (.int ps), .val (.int ch), .val (.int (own_r_min A (4 : Int32) ch)), .val (.ref h0.size), .val (.int (Int32.ofNat i)), .val (.int (1 : Int32))] [(.int ps), (.int (1 : Int32))]))
        refine own_by (fun _ zz => XS.imul X12.here hx rfl (hb hby own_d1_35) rfl zz) ?_
        show own_Goes p e below _ (T12.setTop (mkF m 36 #[.val (.int ps), .val (.int ch), .val (.int (own_r_min A (4 : Int32) ch)), .val (.ref h0.size), .val (.int (Int32.ofNat i)), .val (.int (1 : Int32))] [(.int ((1 : Int32) * ps))]))
        refine own_getS X12 hx hZ hown (own_w12 hw) e12 (own_f0 W1) (hb hby own_d1_36) fun T14 X14 e14 => ?_
        show own_Goes p e below _ (T14.setTop (mkF m 39 #[.val (.int ps), .val (.int ch), .val (.int (own_r_min A (4 : Int32) ch)), .val (.ref h0.size), .val (.int (Int32.ofNat i)), .val (.int (1 : Int32))] [(.ref (A 0)), (.int ((1 : Int32) * ps))]))
        refine own_by (fun _ zz => XS.iload X14.here hx rfl (hb hby own_d1_39) rfl zz) ?_
        show own_Goes p e below _ (T14.setTop (mkF m 41 #[.val (.int ps), .val (.int ch), .val (.int (own_r_min A (4 : Int32) ch)), .val (.ref h0.size), .val (.int (Int32.ofNat i)), .val (.int (1 : Int32))] [(.int (Int32.ofNat i)), (.ref (A 0)), (.int ((1 : Int32) * ps))]))
        refine own_iaload X14 hx hZ e14 (own_f2 W1) i hI hi (v := (.int (own_sz i))) (own_sz_eq hi) (hb hby own_d1_41) ?_
        show own_Goes p e below _ (T14.setTop (mkF m 42 #[.val (.int ps), .val (.int ch), .val (.int (own_r_min A (4 : Int32) ch)), .val (.ref h0.size), .val (.int (Int32.ofNat i)), .val (.int (1 : Int32))] [(.int (own_sz i)), (.int ((1 : Int32) * ps))]))
        refine own_callS0 X14 hx hZ (W := 0) (argsL := [(.int ((1 : Int32) * ps)), (.int (own_sz i))]) (rest := []) hown (own_w14 hw) (own_w15 hw) (own_w3 hw) (own_w16 hw) (by decide) e14 (rm_leaves l hw W1 ((1 : Int32) * ps) (own_sz i) (own_ne0 (own_sz_pos hi).1)) (by decide) (by decide) (by decide) (by decide) (by rw [hml]; rfl) (lenOf own_pd0 rfl) rfl (Nat.le_of_ble_eq_true rfl) (hb hby own_d1_42) fun T15 X15 e15 => ?_
        show own_Goes p e below _ (T15.setTop (mkF m 45 #[.val (.int ps), .val (.int ch), .val (.int (own_r_min A (4 : Int32) ch)), .val (.ref h0.size), .val (.int (Int32.ofNat i)), .val (.int (1 : Int32))] [(.int (own_r_leaves A ((1 : Int32) * ps) (own_sz i)))]))
        by_cases q16 : (own_r_leaves A ((1 : Int32) * ps) (own_sz i)) = 0
        · refine own_by (fun _ zz => XS.ifYes X15.here hx rfl (pc0 := 45) (pc' := 57) rfl (hb hby own_d1_45) rfl (XT.i0_eq_t q16) (by decide) (by decide) zz) ?_
          show own_Goes p e below _ (T15.setTop (mkF m 57 #[.val (.int ps), .val (.int ch), .val (.int (own_r_min A (4 : Int32) ch)), .val (.ref h0.size), .val (.int (Int32.ofNat i)), .val (.int (1 : Int32))] []))
          refine own_by (fun _ zz => XS.aloadN X15.here hx rfl (hb hby own_d1_57) rfl rfl zz) ?_
          show own_Goes p e below _ (T15.setTop (mkF m 58 #[.val (.int ps), .val (.int ch), .val (.int (own_r_min A (4 : Int32) ch)), .val (.ref h0.size), .val (.int (Int32.ofNat i)), .val (.int (1 : Int32))] [(.ref h0.size)]))
          refine own_by (fun _ zz => XS.iload X15.here hx rfl (hb hby own_d1_58) rfl zz) ?_
          show own_Goes p e below _ (T15.setTop (mkF m 60 #[.val (.int ps), .val (.int ch), .val (.int (own_r_min A (4 : Int32) ch)), .val (.ref h0.size), .val (.int (Int32.ofNat i)), .val (.int (1 : Int32))] [(.int (Int32.ofNat i)), (.ref h0.size)]))
          refine own_by (fun _ zz => XS.iload X15.here hx rfl (hb hby own_d1_60) rfl zz) ?_
          show own_Goes p e below _ (T15.setTop (mkF m 62 #[.val (.int ps), .val (.int ch), .val (.int (own_r_min A (4 : Int32) ch)), .val (.ref h0.size), .val (.int (Int32.ofNat i)), .val (.int (1 : Int32))] [(.int (1 : Int32)), (.int (Int32.ofNat i)), (.ref h0.size)]))
          refine own_stIp (fun i => .int (own_rp A ps (own_r_min A (4 : Int32) ch) i)) X15 hx hZ e15 (i := i) F1 (by show Value.int _ = Value.int (own_rp A ps (own_r_min A (4 : Int32) ch) i); unfold own_rp; rw [if_pos q13, if_pos q16]) hI hi (hb hby own_d1_62) fun T17 h17 X17 e17 Wr17 F17 => ?_
          have EE17 := own_Ext.wr E1 Wr17 (Nat.le_refl _)
          have W17 := own_Wext W EE17
          have N17 := Fr.snoc X17 N1 (Nat.le_refl _)
          show own_Goes p e below _ (T17.setTop (mkF m 63 #[.val (.int ps), .val (.int ch), .val (.int (own_r_min A (4 : Int32) ch)), .val (.ref h0.size), .val (.int (Int32.ofNat i)), .val (.int (1 : Int32))] []))
          refine own_by (fun _ zz => XT.iincV X17.here hx rfl (l' := #[.val (.int ps), .val (.int ch), .val (.int (own_r_min A (4 : Int32) ch)), .val (.ref h0.size), .val (.int ((Int32.ofNat i) + (1 : Int32))), .val (.int (1 : Int32))]) (1 : Int32) (hb hby own_d1_63) rfl rfl rfl zz) ?_
          show own_Goes p e below _ (T17.setTop (mkF m 66 #[.val (.int ps), .val (.int ch), .val (.int (own_r_min A (4 : Int32) ch)), .val (.ref h0.size), .val (.int ((Int32.ofNat i) + (1 : Int32))), .val (.int (1 : Int32))] []))
          refine own_by (fun _ zz => XS.goto X17.here hx rfl (pc0 := 66) (pc' := 15) rfl (hb hby own_d1_66) (by decide) (by decide) zz) ?_
          show own_Goes p e below _ (T17.setTop (mkF m 15 #[.val (.int ps), .val (.int ch), .val (.int (own_r_min A (4 : Int32) ch)), .val (.ref h0.size), .val (.int ((Int32.ofNat i) + (1 : Int32))), .val (.int (1 : Int32))] []))
          rw [own_inc hi]
          exact ih (i + 1) _ _ _ _ (by omega) (Or.inr ⟨_, rfl⟩) X17 e17 EE17 N17 F17
        · refine own_by (fun _ zz => XS.ifNo X15.here hx rfl (hb hby own_d1_45) rfl (XT.i0_eq_f q16) zz) ?_
          show own_Goes p e below _ (T15.setTop (mkF m 48 #[.val (.int ps), .val (.int ch), .val (.int (own_r_min A (4 : Int32) ch)), .val (.ref h0.size), .val (.int (Int32.ofNat i)), .val (.int (1 : Int32))] []))
          refine own_by (fun _ zz => XS.iload X15.here hx rfl (hb hby own_d1_48) rfl zz) ?_
          show own_Goes p e below _ (T15.setTop (mkF m 50 #[.val (.int ps), .val (.int ch), .val (.int (own_r_min A (4 : Int32) ch)), .val (.ref h0.size), .val (.int (Int32.ofNat i)), .val (.int (1 : Int32))] [(.int (1 : Int32))]))
          refine own_by (fun _ zz => XS.iconst X15.here hx rfl (hb hby own_d1_50) zz) ?_
          show own_Goes p e below _ (T15.setTop (mkF m 51 #[.val (.int ps), .val (.int ch), .val (.int (own_r_min A (4 : Int32) ch)), .val (.ref h0.size), .val (.int (Int32.ofNat i)), .val (.int (1 : Int32))] [(.int (1 : Int32)), (.int (1 : Int32))]))
          refine own_by (fun _ zz => XT.ishl X15.here hx rfl (hb hby own_d1_51) rfl zz) ?_
          show own_Goes p e below _ (T15.setTop (mkF m 52 #[.val (.int ps), .val (.int ch), .val (.int (own_r_min A (4 : Int32) ch)), .val (.ref h0.size), .val (.int (Int32.ofNat i)), .val (.int (1 : Int32))] [(.int ((1 : Int32) <<< ((1 : Int32) &&& 31)))]))
          show own_Goes p e below _ (T15.setTop (mkF m 52 #[.val (.int ps), .val (.int ch), .val (.int (own_r_min A (4 : Int32) ch)), .val (.ref h0.size), .val (.int (Int32.ofNat i)), .val (.int (1 : Int32))] [(.int (2 : Int32))]))
          refine own_by (fun _ zz => XS.istore X15.here hx rfl (hb hby own_d1_52) rfl (l' := #[.val (.int ps), .val (.int ch), .val (.int (own_r_min A (4 : Int32) ch)), .val (.ref h0.size), .val (.int (Int32.ofNat i)), .val (.int (2 : Int32))]) rfl zz) ?_
          show own_Goes p e below _ (T15.setTop (mkF m 54 #[.val (.int ps), .val (.int ch), .val (.int (own_r_min A (4 : Int32) ch)), .val (.ref h0.size), .val (.int (Int32.ofNat i)), .val (.int (2 : Int32))] []))
          refine own_by (fun _ zz => XS.goto X15.here hx rfl (pc0 := 54) (pc' := 26) rfl (hb hby own_d1_54) (by decide) (by decide) zz) ?_
          show own_Goes p e below _ (T15.setTop (mkF m 26 #[.val (.int ps), .val (.int ch), .val (.int (own_r_min A (4 : Int32) ch)), .val (.ref h0.size), .val (.int (Int32.ofNat i)), .val (.int (2 : Int32))] []))
          refine own_by (fun _ zz => XS.iload X15.here hx rfl (hb hby own_d1_26) rfl zz) ?_
          show own_Goes p e below _ (T15.setTop (mkF m 28 #[.val (.int ps), .val (.int ch), .val (.int (own_r_min A (4 : Int32) ch)), .val (.ref h0.size), .val (.int (Int32.ofNat i)), .val (.int (2 : Int32))] [(.int (2 : Int32))]))
          refine own_by (fun _ zz => XS.iloadN X15.here hx rfl (hb hby own_d1_28) rfl zz) ?_
          show own_Goes p e below _ (T15.setTop (mkF m 29 #[.val (.int ps), .val (.int ch), .val (.int (own_r_min A (4 : Int32) ch)), .val (.ref h0.size), .val (.int (Int32.ofNat i)), .val (.int (2 : Int32))] [(.int (own_r_min A (4 : Int32) ch)), (.int (2 : Int32))]))
          by_cases q18 : (2 : Int32) < (own_r_min A (4 : Int32) ch)
          · refine own_by (fun _ zz => XS.icmpNo X15.here hx rfl (hb hby own_d1_29) rfl (XT.ii_ge_f q18) zz) ?_
            show own_Goes p e below _ (T15.setTop (mkF m 32 #[.val (.int ps), .val (.int ch), .val (.int (own_r_min A (4 : Int32) ch)), .val (.ref h0.size), .val (.int (Int32.ofNat i)), .val (.int (2 : Int32))] []))
            refine own_by (fun _ zz => XS.iload X15.here hx rfl (hb hby own_d1_32) rfl zz) ?_
            show own_Goes p e below _ (T15.setTop (mkF m 34 #[.val (.int ps), .val (.int ch), .val (.int (own_r_min A (4 : Int32) ch)), .val (.ref h0.size), .val (.int (Int32.ofNat i)), .val (.int (2 : Int32))] [(.int (2 : Int32))]))
            refine own_by (fun _ zz => XS.iloadN X15.here hx rfl (hb hby own_d1_34) rfl zz) ?_
            show own_Goes p e below _ (T15.setTop (mkF m 35 #[.val (.int ps), .val (.int ch), .val (.int (own_r_min A (4 : Int32) ch)), .val (.ref h0.size), .val (.int (Int32.ofNat i)), .val (.int (2 : Int32))] [(.int ps), (.int (2 : Int32))]))
            refine own_by (fun _ zz => XS.imul X15.here hx rfl (hb hby own_d1_35) rfl zz) ?_
            show own_Goes p e below _ (T15.setTop (mkF m 36 #[.val (.int ps), .val (.int ch), .val (.int (own_r_min A (4 : Int32) ch)), .val (.ref h0.size), .val (.int (Int32.ofNat i)), .val (.int (2 : Int32))] [(.int ((2 : Int32) * ps))]))
            refine own_getS X15 hx hZ hown (own_w12 hw) e15 (own_f0 W1) (hb hby own_d1_36) fun T19 X19 e19 => ?_
            show own_Goes p e below _ (T19.setTop (mkF m 39 #[.val (.int ps), .val (.int ch), .val (.int (own_r_min A (4 : Int32) ch)), .val (.ref h0.size), .val (.int (Int32.ofNat i)), .val (.int (2 : Int32))] [(.ref (A 0)), (.int ((2 : Int32) * ps))]))
            refine own_by (fun _ zz => XS.iload X19.here hx rfl (hb hby own_d1_39) rfl zz) ?_
            show own_Goes p e below _ (T19.setTop (mkF m 41 #[.val (.int ps), .val (.int ch), .val (.int (own_r_min A (4 : Int32) ch)), .val (.ref h0.size), .val (.int (Int32.ofNat i)), .val (.int (2 : Int32))] [(.int (Int32.ofNat i)), (.ref (A 0)), (.int ((2 : Int32) * ps))]))
            refine own_iaload X19 hx hZ e19 (own_f2 W1) i hI hi (v := (.int (own_sz i))) (own_sz_eq hi) (hb hby own_d1_41) ?_
            show own_Goes p e below _ (T19.setTop (mkF m 42 #[.val (.int ps), .val (.int ch), .val (.int (own_r_min A (4 : Int32) ch)), .val (.ref h0.size), .val (.int (Int32.ofNat i)), .val (.int (2 : Int32))] [(.int (own_sz i)), (.int ((2 : Int32) * ps))]))
            refine own_callS0 X19 hx hZ (W := 0) (argsL := [(.int ((2 : Int32) * ps)), (.int (own_sz i))]) (rest := []) hown (own_w14 hw) (own_w15 hw) (own_w3 hw) (own_w16 hw) (by decide) e19 (rm_leaves l hw W1 ((2 : Int32) * ps) (own_sz i) (own_ne0 (own_sz_pos hi).1)) (by decide) (by decide) (by decide) (by decide) (by rw [hml]; rfl) (lenOf own_pd0 rfl) rfl (Nat.le_of_ble_eq_true rfl) (hb hby own_d1_42) fun T20 X20 e20 => ?_
            show own_Goes p e below _ (T20.setTop (mkF m 45 #[.val (.int ps), .val (.int ch), .val (.int (own_r_min A (4 : Int32) ch)), .val (.ref h0.size), .val (.int (Int32.ofNat i)), .val (.int (2 : Int32))] [(.int (own_r_leaves A ((2 : Int32) * ps) (own_sz i)))]))
            by_cases q21 : (own_r_leaves A ((2 : Int32) * ps) (own_sz i)) = 0
            · refine own_by (fun _ zz => XS.ifYes X20.here hx rfl (pc0 := 45) (pc' := 57) rfl (hb hby own_d1_45) rfl (XT.i0_eq_t q21) (by decide) (by decide) zz) ?_
              show own_Goes p e below _ (T20.setTop (mkF m 57 #[.val (.int ps), .val (.int ch), .val (.int (own_r_min A (4 : Int32) ch)), .val (.ref h0.size), .val (.int (Int32.ofNat i)), .val (.int (2 : Int32))] []))
              refine own_by (fun _ zz => XS.aloadN X20.here hx rfl (hb hby own_d1_57) rfl rfl zz) ?_
              show own_Goes p e below _ (T20.setTop (mkF m 58 #[.val (.int ps), .val (.int ch), .val (.int (own_r_min A (4 : Int32) ch)), .val (.ref h0.size), .val (.int (Int32.ofNat i)), .val (.int (2 : Int32))] [(.ref h0.size)]))
              refine own_by (fun _ zz => XS.iload X20.here hx rfl (hb hby own_d1_58) rfl zz) ?_
              show own_Goes p e below _ (T20.setTop (mkF m 60 #[.val (.int ps), .val (.int ch), .val (.int (own_r_min A (4 : Int32) ch)), .val (.ref h0.size), .val (.int (Int32.ofNat i)), .val (.int (2 : Int32))] [(.int (Int32.ofNat i)), (.ref h0.size)]))
              refine own_by (fun _ zz => XS.iload X20.here hx rfl (hb hby own_d1_60) rfl zz) ?_
              show own_Goes p e below _ (T20.setTop (mkF m 62 #[.val (.int ps), .val (.int ch), .val (.int (own_r_min A (4 : Int32) ch)), .val (.ref h0.size), .val (.int (Int32.ofNat i)), .val (.int (2 : Int32))] [(.int (2 : Int32)), (.int (Int32.ofNat i)), (.ref h0.size)]))
              refine own_stIp (fun i => .int (own_rp A ps (own_r_min A (4 : Int32) ch) i)) X20 hx hZ e20 (i := i) F1 (by show Value.int _ = Value.int (own_rp A ps (own_r_min A (4 : Int32) ch) i); unfold own_rp; rw [if_pos q13, if_neg q16, if_pos q18, if_pos q21]) hI hi (hb hby own_d1_62) fun T22 h22 X22 e22 Wr22 F22 => ?_
              have EE22 := own_Ext.wr E1 Wr22 (Nat.le_refl _)
              have W22 := own_Wext W EE22
              have N22 := Fr.snoc X22 N1 (Nat.le_refl _)
              show own_Goes p e below _ (T22.setTop (mkF m 63 #[.val (.int ps), .val (.int ch), .val (.int (own_r_min A (4 : Int32) ch)), .val (.ref h0.size), .val (.int (Int32.ofNat i)), .val (.int (2 : Int32))] []))
              refine own_by (fun _ zz => XT.iincV X22.here hx rfl (l' := #[.val (.int ps), .val (.int ch), .val (.int (own_r_min A (4 : Int32) ch)), .val (.ref h0.size), .val (.int ((Int32.ofNat i) + (1 : Int32))), .val (.int (2 : Int32))]) (1 : Int32) (hb hby own_d1_63) rfl rfl rfl zz) ?_
              show own_Goes p e below _ (T22.setTop (mkF m 66 #[.val (.int ps), .val (.int ch), .val (.int (own_r_min A (4 : Int32) ch)), .val (.ref h0.size), .val (.int ((Int32.ofNat i) + (1 : Int32))), .val (.int (2 : Int32))] []))
              refine own_by (fun _ zz => XS.goto X22.here hx rfl (pc0 := 66) (pc' := 15) rfl (hb hby own_d1_66) (by decide) (by decide) zz) ?_
              show own_Goes p e below _ (T22.setTop (mkF m 15 #[.val (.int ps), .val (.int ch), .val (.int (own_r_min A (4 : Int32) ch)), .val (.ref h0.size), .val (.int ((Int32.ofNat i) + (1 : Int32))), .val (.int (2 : Int32))] []))
              rw [own_inc hi]
              exact ih (i + 1) _ _ _ _ (by omega) (Or.inr ⟨_, rfl⟩) X22 e22 EE22 N22 F22
            · refine own_by (fun _ zz => XS.ifNo X20.here hx rfl (hb hby own_d1_45) rfl (XT.i0_eq_f q21) zz) ?_
              show own_Goes p e below _ (T20.setTop (mkF m 48 #[.val (.int ps), .val (.int ch), .val (.int (own_r_min A (4 : Int32) ch)), .val (.ref h0.size), .val (.int (Int32.ofNat i)), .val (.int (2 : Int32))] []))
              refine own_by (fun _ zz => XS.iload X20.here hx rfl (hb hby own_d1_48) rfl zz) ?_
              show own_Goes p e below _ (T20.setTop (mkF m 50 #[.val (.int ps), .val (.int ch), .val (.int (own_r_min A (4 : Int32) ch)), .val (.ref h0.size), .val (.int (Int32.ofNat i)), .val (.int (2 : Int32))] [(.int (2 : Int32))]))
              refine own_by (fun _ zz => XS.iconst X20.here hx rfl (hb hby own_d1_50) zz) ?_
              show own_Goes p e below _ (T20.setTop (mkF m 51 #[.val (.int ps), .val (.int ch), .val (.int (own_r_min A (4 : Int32) ch)), .val (.ref h0.size), .val (.int (Int32.ofNat i)), .val (.int (2 : Int32))] [(.int (1 : Int32)), (.int (2 : Int32))]))
              refine own_by (fun _ zz => XT.ishl X20.here hx rfl (hb hby own_d1_51) rfl zz) ?_
              show own_Goes p e below _ (T20.setTop (mkF m 52 #[.val (.int ps), .val (.int ch), .val (.int (own_r_min A (4 : Int32) ch)), .val (.ref h0.size), .val (.int (Int32.ofNat i)), .val (.int (2 : Int32))] [(.int ((2 : Int32) <<< ((1 : Int32) &&& 31)))]))
              show own_Goes p e below _ (T20.setTop (mkF m 52 #[.val (.int ps), .val (.int ch), .val (.int (own_r_min A (4 : Int32) ch)), .val (.ref h0.size), .val (.int (Int32.ofNat i)), .val (.int (2 : Int32))] [(.int (4 : Int32))]))
              refine own_by (fun _ zz => XS.istore X20.here hx rfl (hb hby own_d1_52) rfl (l' := #[.val (.int ps), .val (.int ch), .val (.int (own_r_min A (4 : Int32) ch)), .val (.ref h0.size), .val (.int (Int32.ofNat i)), .val (.int (4 : Int32))]) rfl zz) ?_
              show own_Goes p e below _ (T20.setTop (mkF m 54 #[.val (.int ps), .val (.int ch), .val (.int (own_r_min A (4 : Int32) ch)), .val (.ref h0.size), .val (.int (Int32.ofNat i)), .val (.int (4 : Int32))] []))
              refine own_by (fun _ zz => XS.goto X20.here hx rfl (pc0 := 54) (pc' := 26) rfl (hb hby own_d1_54) (by decide) (by decide) zz) ?_
              show own_Goes p e below _ (T20.setTop (mkF m 26 #[.val (.int ps), .val (.int ch), .val (.int (own_r_min A (4 : Int32) ch)), .val (.ref h0.size), .val (.int (Int32.ofNat i)), .val (.int (4 : Int32))] []))
              refine own_by (fun _ zz => XS.iload X20.here hx rfl (hb hby own_d1_26) rfl zz) ?_
              show own_Goes p e below _ (T20.setTop (mkF m 28 #[.val (.int ps), .val (.int ch), .val (.int (own_r_min A (4 : Int32) ch)), .val (.ref h0.size), .val (.int (Int32.ofNat i)), .val (.int (4 : Int32))] [(.int (4 : Int32))]))
              refine own_by (fun _ zz => XS.iloadN X20.here hx rfl (hb hby own_d1_28) rfl zz) ?_
              show own_Goes p e below _ (T20.setTop (mkF m 29 #[.val (.int ps), .val (.int ch), .val (.int (own_r_min A (4 : Int32) ch)), .val (.ref h0.size), .val (.int (Int32.ofNat i)), .val (.int (4 : Int32))] [(.int (own_r_min A (4 : Int32) ch)), (.int (4 : Int32))]))
              refine own_by (fun _ zz => XS.icmpYes X20.here hx rfl (pc0 := 29) (pc' := 57) rfl (hb hby own_d1_29) rfl (XT.ii_ge_t (own_min4 A ch)) (by decide) (by decide) zz) ?_
              show own_Goes p e below _ (T20.setTop (mkF m 57 #[.val (.int ps), .val (.int ch), .val (.int (own_r_min A (4 : Int32) ch)), .val (.ref h0.size), .val (.int (Int32.ofNat i)), .val (.int (4 : Int32))] []))
              refine own_by (fun _ zz => XS.aloadN X20.here hx rfl (hb hby own_d1_57) rfl rfl zz) ?_
              show own_Goes p e below _ (T20.setTop (mkF m 58 #[.val (.int ps), .val (.int ch), .val (.int (own_r_min A (4 : Int32) ch)), .val (.ref h0.size), .val (.int (Int32.ofNat i)), .val (.int (4 : Int32))] [(.ref h0.size)]))
              refine own_by (fun _ zz => XS.iload X20.here hx rfl (hb hby own_d1_58) rfl zz) ?_
              show own_Goes p e below _ (T20.setTop (mkF m 60 #[.val (.int ps), .val (.int ch), .val (.int (own_r_min A (4 : Int32) ch)), .val (.ref h0.size), .val (.int (Int32.ofNat i)), .val (.int (4 : Int32))] [(.int (Int32.ofNat i)), (.ref h0.size)]))
              refine own_by (fun _ zz => XS.iload X20.here hx rfl (hb hby own_d1_60) rfl zz) ?_
              show own_Goes p e below _ (T20.setTop (mkF m 62 #[.val (.int ps), .val (.int ch), .val (.int (own_r_min A (4 : Int32) ch)), .val (.ref h0.size), .val (.int (Int32.ofNat i)), .val (.int (4 : Int32))] [(.int (4 : Int32)), (.int (Int32.ofNat i)), (.ref h0.size)]))
              refine own_stIp (fun i => .int (own_rp A ps (own_r_min A (4 : Int32) ch) i)) X20 hx hZ e20 (i := i) F1 (by show Value.int _ = Value.int (own_rp A ps (own_r_min A (4 : Int32) ch) i); unfold own_rp; rw [if_pos q13, if_neg q16, if_pos q18, if_neg q21]) hI hi (hb hby own_d1_62) fun T23 h23 X23 e23 Wr23 F23 => ?_
              have EE23 := own_Ext.wr E1 Wr23 (Nat.le_refl _)
              have W23 := own_Wext W EE23
              have N23 := Fr.snoc X23 N1 (Nat.le_refl _)
              show own_Goes p e below _ (T23.setTop (mkF m 63 #[.val (.int ps), .val (.int ch), .val (.int (own_r_min A (4 : Int32) ch)), .val (.ref h0.size), .val (.int (Int32.ofNat i)), .val (.int (4 : Int32))] []))
              refine own_by (fun _ zz => XT.iincV X23.here hx rfl (l' := #[.val (.int ps), .val (.int ch), .val (.int (own_r_min A (4 : Int32) ch)), .val (.ref h0.size), .val (.int ((Int32.ofNat i) + (1 : Int32))), .val (.int (4 : Int32))]) (1 : Int32) (hb hby own_d1_63) rfl rfl rfl zz) ?_
              show own_Goes p e below _ (T23.setTop (mkF m 66 #[.val (.int ps), .val (.int ch), .val (.int (own_r_min A (4 : Int32) ch)), .val (.ref h0.size), .val (.int ((Int32.ofNat i) + (1 : Int32))), .val (.int (4 : Int32))] []))
              refine own_by (fun _ zz => XS.goto X23.here hx rfl (pc0 := 66) (pc' := 15) rfl (hb hby own_d1_66) (by decide) (by decide) zz) ?_
              show own_Goes p e below _ (T23.setTop (mkF m 15 #[.val (.int ps), .val (.int ch), .val (.int (own_r_min A (4 : Int32) ch)), .val (.ref h0.size), .val (.int ((Int32.ofNat i) + (1 : Int32))), .val (.int (4 : Int32))] []))
              rw [own_inc hi]
              exact ih (i + 1) _ _ _ _ (by omega) (Or.inr ⟨_, rfl⟩) X23 e23 EE23 N23 F23
          · refine own_by (fun _ zz => XS.icmpYes X15.here hx rfl (pc0 := 29) (pc' := 57) rfl (hb hby own_d1_29) rfl (XT.ii_ge_t q18) (by decide) (by decide) zz) ?_
            show own_Goes p e below _ (T15.setTop (mkF m 57 #[.val (.int ps), .val (.int ch), .val (.int (own_r_min A (4 : Int32) ch)), .val (.ref h0.size), .val (.int (Int32.ofNat i)), .val (.int (2 : Int32))] []))
            refine own_by (fun _ zz => XS.aloadN X15.here hx rfl (hb hby own_d1_57) rfl rfl zz) ?_
            show own_Goes p e below _ (T15.setTop (mkF m 58 #[.val (.int ps), .val (.int ch), .val (.int (own_r_min A (4 : Int32) ch)), .val (.ref h0.size), .val (.int (Int32.ofNat i)), .val (.int (2 : Int32))] [(.ref h0.size)]))
            refine own_by (fun _ zz => XS.iload X15.here hx rfl (hb hby own_d1_58) rfl zz) ?_
            show own_Goes p e below _ (T15.setTop (mkF m 60 #[.val (.int ps), .val (.int ch), .val (.int (own_r_min A (4 : Int32) ch)), .val (.ref h0.size), .val (.int (Int32.ofNat i)), .val (.int (2 : Int32))] [(.int (Int32.ofNat i)), (.ref h0.size)]))
            refine own_by (fun _ zz => XS.iload X15.here hx rfl (hb hby own_d1_60) rfl zz) ?_
            show own_Goes p e below _ (T15.setTop (mkF m 62 #[.val (.int ps), .val (.int ch), .val (.int (own_r_min A (4 : Int32) ch)), .val (.ref h0.size), .val (.int (Int32.ofNat i)), .val (.int (2 : Int32))] [(.int (2 : Int32)), (.int (Int32.ofNat i)), (.ref h0.size)]))
            refine own_stIp (fun i => .int (own_rp A ps (own_r_min A (4 : Int32) ch) i)) X15 hx hZ e15 (i := i) F1 (by show Value.int _ = Value.int (own_rp A ps (own_r_min A (4 : Int32) ch) i); unfold own_rp; rw [if_pos q13, if_neg q16, if_neg q18]) hI hi (hb hby own_d1_62) fun T24 h24 X24 e24 Wr24 F24 => ?_
            have EE24 := own_Ext.wr E1 Wr24 (Nat.le_refl _)
            have W24 := own_Wext W EE24
            have N24 := Fr.snoc X24 N1 (Nat.le_refl _)
            show own_Goes p e below _ (T24.setTop (mkF m 63 #[.val (.int ps), .val (.int ch), .val (.int (own_r_min A (4 : Int32) ch)), .val (.ref h0.size), .val (.int (Int32.ofNat i)), .val (.int (2 : Int32))] []))
            refine own_by (fun _ zz => XT.iincV X24.here hx rfl (l' := #[.val (.int ps), .val (.int ch), .val (.int (own_r_min A (4 : Int32) ch)), .val (.ref h0.size), .val (.int ((Int32.ofNat i) + (1 : Int32))), .val (.int (2 : Int32))]) (1 : Int32) (hb hby own_d1_63) rfl rfl rfl zz) ?_
            show own_Goes p e below _ (T24.setTop (mkF m 66 #[.val (.int ps), .val (.int ch), .val (.int (own_r_min A (4 : Int32) ch)), .val (.ref h0.size), .val (.int ((Int32.ofNat i) + (1 : Int32))), .val (.int (2 : Int32))] []))
            refine own_by (fun _ zz => XS.goto X24.here hx rfl (pc0 := 66) (pc' := 15) rfl (hb hby own_d1_66) (by decide) (by decide) zz) ?_
            show own_Goes p e below _ (T24.setTop (mkF m 15 #[.val (.int ps), .val (.int ch), .val (.int (own_r_min A (4 : Int32) ch)), .val (.ref h0.size), .val (.int ((Int32.ofNat i) + (1 : Int32))), .val (.int (2 : Int32))] []))
            rw [own_inc hi]
            exact ih (i + 1) _ _ _ _ (by omega) (Or.inr ⟨_, rfl⟩) X24 e24 EE24 N24 F24
      · refine own_by (fun _ zz => XS.icmpYes X12.here hx rfl (pc0 := 29) (pc' := 57) rfl (hb hby own_d1_29) rfl (XT.ii_ge_t q13) (by decide) (by decide) zz) ?_
        show own_Goes p e below _ (T12.setTop (mkF m 57 #[.val (.int ps), .val (.int ch), .val (.int (own_r_min A (4 : Int32) ch)), .val (.ref h0.size), .val (.int (Int32.ofNat i)), .val (.int (1 : Int32))] []))
        refine own_by (fun _ zz => XS.aloadN X12.here hx rfl (hb hby own_d1_57) rfl rfl zz) ?_
        show own_Goes p e below _ (T12.setTop (mkF m 58 #[.val (.int ps), .val (.int ch), .val (.int (own_r_min A (4 : Int32) ch)), .val (.ref h0.size), .val (.int (Int32.ofNat i)), .val (.int (1 : Int32))] [(.ref h0.size)]))
        refine own_by (fun _ zz => XS.iload X12.here hx rfl (hb hby own_d1_58) rfl zz) ?_
        show own_Goes p e below _ (T12.setTop (mkF m 60 #[.val (.int ps), .val (.int ch), .val (.int (own_r_min A (4 : Int32) ch)), .val (.ref h0.size), .val (.int (Int32.ofNat i)), .val (.int (1 : Int32))] [(.int (Int32.ofNat i)), (.ref h0.size)]))
        refine own_by (fun _ zz => XS.iload X12.here hx rfl (hb hby own_d1_60) rfl zz) ?_
        show own_Goes p e below _ (T12.setTop (mkF m 62 #[.val (.int ps), .val (.int ch), .val (.int (own_r_min A (4 : Int32) ch)), .val (.ref h0.size), .val (.int (Int32.ofNat i)), .val (.int (1 : Int32))] [(.int (1 : Int32)), (.int (Int32.ofNat i)), (.ref h0.size)]))
        refine own_stIp (fun i => .int (own_rp A ps (own_r_min A (4 : Int32) ch) i)) X12 hx hZ e12 (i := i) F1 (by show Value.int _ = Value.int (own_rp A ps (own_r_min A (4 : Int32) ch) i); unfold own_rp; rw [if_neg q13]) hI hi (hb hby own_d1_62) fun T25 h25 X25 e25 Wr25 F25 => ?_
        have EE25 := own_Ext.wr E1 Wr25 (Nat.le_refl _)
        have W25 := own_Wext W EE25
        have N25 := Fr.snoc X25 N1 (Nat.le_refl _)
        show own_Goes p e below _ (T25.setTop (mkF m 63 #[.val (.int ps), .val (.int ch), .val (.int (own_r_min A (4 : Int32) ch)), .val (.ref h0.size), .val (.int (Int32.ofNat i)), .val (.int (1 : Int32))] []))
        refine own_by (fun _ zz => XT.iincV X25.here hx rfl (l' := #[.val (.int ps), .val (.int ch), .val (.int (own_r_min A (4 : Int32) ch)), .val (.ref h0.size), .val (.int ((Int32.ofNat i) + (1 : Int32))), .val (.int (1 : Int32))]) (1 : Int32) (hb hby own_d1_63) rfl rfl rfl zz) ?_
        show own_Goes p e below _ (T25.setTop (mkF m 66 #[.val (.int ps), .val (.int ch), .val (.int (own_r_min A (4 : Int32) ch)), .val (.ref h0.size), .val (.int ((Int32.ofNat i) + (1 : Int32))), .val (.int (1 : Int32))] []))
        refine own_by (fun _ zz => XS.goto X25.here hx rfl (pc0 := 66) (pc' := 15) rfl (hb hby own_d1_66) (by decide) (by decide) zz) ?_
        show own_Goes p e below _ (T25.setTop (mkF m 15 #[.val (.int ps), .val (.int ch), .val (.int (own_r_min A (4 : Int32) ch)), .val (.ref h0.size), .val (.int ((Int32.ofNat i) + (1 : Int32))), .val (.int (1 : Int32))] []))
        rw [own_inc hi]
        exact ih (i + 1) _ _ _ _ (by omega) (Or.inr ⟨_, rfl⟩) X25 e25 EE25 N25 F25
  refine own_tr (XT.entry (Ls := #[.val (.int ps), .val (.int ch), .unset, .unset, .unset, .unset]) rfl) ?_
  show own_Goes p e below _ (T0.setTop (mkF m 0 #[.val (.int ps), .val (.int ch), .unset, .unset, .unset, .unset] []))
  refine own_by (fun _ zz => XS.iconst X0.here hx rfl (hb hby own_d1_0) zz) ?_
  show own_Goes p e below _ (T0.setTop (mkF m 1 #[.val (.int ps), .val (.int ch), .unset, .unset, .unset, .unset] [(.int (4 : Int32))]))
  refine own_by (fun _ zz => XS.iloadN X0.here hx rfl (hb hby own_d1_1) rfl zz) ?_
  show own_Goes p e below _ (T0.setTop (mkF m 2 #[.val (.int ps), .val (.int ch), .unset, .unset, .unset, .unset] [(.int ch), (.int (4 : Int32))]))
  refine own_callS0 X0 hx hZ (W := 0) (argsL := [(.int (4 : Int32)), (.int ch)]) (rest := []) hown (own_w5 hw) (own_w6 hw) (own_w7 hw) (own_w8 hw) (by decide) e0 (rm_min l hw W (4 : Int32) ch) (by decide) (by decide) (by decide) (by decide) (by rw [hml]; rfl) (lenOf own_pd1 rfl) rfl (Nat.le_of_ble_eq_true rfl) (hb hby own_d1_2) fun T26 X26 e26 => ?_
  show own_Goes p e below _ (T26.setTop (mkF m 5 #[.val (.int ps), .val (.int ch), .unset, .unset, .unset, .unset] [(.int (own_r_min A (4 : Int32) ch))]))
  refine own_by (fun _ zz => XS.istoreN X26.here hx rfl (hb hby own_d1_5) rfl (l' := #[.val (.int ps), .val (.int ch), .val (.int (own_r_min A (4 : Int32) ch)), .unset, .unset, .unset]) rfl zz) ?_
  show own_Goes p e below _ (T26.setTop (mkF m 6 #[.val (.int ps), .val (.int ch), .val (.int (own_r_min A (4 : Int32) ch)), .unset, .unset, .unset] []))
  refine own_getS X26 hx hZ hown (own_w9 hw) e26 (own_f1 W) (hb hby own_d1_6) fun T27 X27 e27 => ?_
  show own_Goes p e below _ (T27.setTop (mkF m 9 #[.val (.int ps), .val (.int ch), .val (.int (own_r_min A (4 : Int32) ch)), .unset, .unset, .unset] [(.int (44 : Int32))]))
  refine own_newIp (fun i => .int (own_rp A ps (own_r_min A (4 : Int32) ch) i)) X27 hx hZ (own_w11 hw) e27 (hb hby own_d1_9) 44 (by decide) (by decide) (by decide) (by decide) fun T28 h28 X28 e28 E28 F28 => ?_
  have EE28 := own_Ext.trans (own_Ext.refl h0) E28
  have W28 := own_Wext W EE28
  show own_Goes p e below _ (T28.setTop (mkF m 11 #[.val (.int ps), .val (.int ch), .val (.int (own_r_min A (4 : Int32) ch)), .unset, .unset, .unset] [(.ref h0.size)]))
  refine own_by (fun _ zz => XS.astoreN X28.here hx rfl (hb hby own_d1_11) rfl rfl (l' := #[.val (.int ps), .val (.int ch), .val (.int (own_r_min A (4 : Int32) ch)), .val (.ref h0.size), .unset, .unset]) rfl zz) ?_
  show own_Goes p e below _ (T28.setTop (mkF m 12 #[.val (.int ps), .val (.int ch), .val (.int (own_r_min A (4 : Int32) ch)), .val (.ref h0.size), .unset, .unset] []))
  refine own_by (fun _ zz => XS.iconst X28.here hx rfl (hb hby own_d1_12) zz) ?_
  show own_Goes p e below _ (T28.setTop (mkF m 13 #[.val (.int ps), .val (.int ch), .val (.int (own_r_min A (4 : Int32) ch)), .val (.ref h0.size), .unset, .unset] [(.int (0 : Int32))]))
  refine own_by (fun _ zz => XS.istore X28.here hx rfl (hb hby own_d1_13) rfl (l' := #[.val (.int ps), .val (.int ch), .val (.int (own_r_min A (4 : Int32) ch)), .val (.ref h0.size), .val (.int (0 : Int32)), .unset]) rfl zz) ?_
  show own_Goes p e below _ (T28.setTop (mkF m 15 #[.val (.int ps), .val (.int ch), .val (.int (own_r_min A (4 : Int32) ch)), .val (.ref h0.size), .val (.int (0 : Int32)), .unset] []))
  exact loop 44 0 _ _ _ _ rfl (Or.inl rfl) X28 e28 EE28 (Fr.nil h0.size) F28
theorem own_lf (A : Nat → Addr) {r t : Int32} {R S : Int64} (hr : 0 ≤ r.toInt) (ht : 0 < t.toInt) (eR : R.toInt = r.toInt) (eS : S.toInt = t.toInt) (hb : r.toInt < 2 ^ 40) : own_r_leaves A r t = 0 ↔ ¬ own_r_fits A R S = 0 := by
  have h16 : (16 : Int32).toInt = 16 := by decide
  have h16L : (16 : Int64).toInt = 16 := by decide
  have d1 : (r / (16 : Int32)).toInt = r.toInt / 16 := by rw [Jvm.Kit.i32_div (by omega), h16, Int.tdiv_eq_ediv_of_nonneg hr]
  have d2 : (r % t).toInt = r.toInt % t.toInt := Jvm.Kit.i32_rem_nonneg hr
  have d3 : (R - (R / S) * S).toInt = r.toInt % t.toInt := by rw [Jvm.Kit.i64_rem_nonneg (by omega), eR, eS]
  have b1 : 0 ≤ r.toInt % t.toInt := Int.emod_nonneg _ (by omega)
  have b2 : r.toInt % t.toInt < t.toInt := Int.emod_lt_of_pos _ ht
  have b3 := Int32.toInt_lt t
  have d4 : ((R - (R / S) * S) * (16 : Int64)).toInt = (r.toInt % t.toInt) * 16 := by rw [Jvm.Kit.i64_mul (by rw [d3, h16L]; omega) (by rw [d3, h16L]; omega), d3, h16L]
  unfold own_r_leaves own_r_fits
  simp only [Int32.lt_iff_toInt_lt, Int64.lt_iff_toInt_lt, d1, d2, d4, eR]
  by_cases c1 : r.toInt / 16 < r.toInt % t.toInt
  · rw [if_pos c1, if_pos (by omega)]; decide
  · rw [if_neg c1, if_neg (by omega)]; decide
theorem own_29 {k : Int32} (h : 0 ≤ k.toInt ∧ k.toInt < 29) : k = 0 ∨ k = 1 ∨ k = 2 ∨ k = 3 ∨ k = 4 ∨ k = 5 ∨ k = 6 ∨ k = 7 ∨ k = 8 ∨ k = 9 ∨ k = 10 ∨ k = 11 ∨ k = 12 ∨ k = 13 ∨ k = 14 ∨ k = 15 ∨ k = 16 ∨ k = 17 ∨ k = 18 ∨ k = 19 ∨ k = 20 ∨ k = 21 ∨ k = 22 ∨ k = 23 ∨ k = 24 ∨ k = 25 ∨ k = 26 ∨ k = 27 ∨ k = 28 := by
  have h2 : k.toInt = 0 ∨ k.toInt = 1 ∨ k.toInt = 2 ∨ k.toInt = 3 ∨ k.toInt = 4 ∨ k.toInt = 5 ∨ k.toInt = 6 ∨ k.toInt = 7 ∨ k.toInt = 8 ∨ k.toInt = 9 ∨ k.toInt = 10 ∨ k.toInt = 11 ∨ k.toInt = 12 ∨ k.toInt = 13 ∨ k.toInt = 14 ∨ k.toInt = 15 ∨ k.toInt = 16 ∨ k.toInt = 17 ∨ k.toInt = 18 ∨ k.toInt = 19 ∨ k.toInt = 20 ∨ k.toInt = 21 ∨ k.toInt = 22 ∨ k.toInt = 23 ∨ k.toInt = 24 ∨ k.toInt = 25 ∨ k.toInt = 26 ∨ k.toInt = 27 ∨ k.toInt = 28 := by omega
  rcases h2 with h | h | h | h | h | h | h | h | h | h | h | h | h | h | h | h | h | h | h | h | h | h | h | h | h | h | h | h | h
  · exact Or.inl (own_eqInt h)
  · exact Or.inr (Or.inl (own_eqInt h))
  · exact Or.inr (Or.inr (Or.inl (own_eqInt h)))
  · exact Or.inr (Or.inr (Or.inr (Or.inl (own_eqInt h))))
  · exact Or.inr (Or.inr (Or.inr (Or.inr (Or.inl (own_eqInt h)))))
  · exact Or.inr (Or.inr (Or.inr (Or.inr (Or.inr (Or.inl (own_eqInt h))))))
  · exact Or.inr (Or.inr (Or.inr (Or.inr (Or.inr (Or.inr (Or.inl (own_eqInt h)))))))
  · exact Or.inr (Or.inr (Or.inr (Or.inr (Or.inr (Or.inr (Or.inr (Or.inl (own_eqInt h))))))))
  · exact Or.inr (Or.inr (Or.inr (Or.inr (Or.inr (Or.inr (Or.inr (Or.inr (Or.inl (own_eqInt h)))))))))
  · exact Or.inr (Or.inr (Or.inr (Or.inr (Or.inr (Or.inr (Or.inr (Or.inr (Or.inr (Or.inl (own_eqInt h))))))))))
  · exact Or.inr (Or.inr (Or.inr (Or.inr (Or.inr (Or.inr (Or.inr (Or.inr (Or.inr (Or.inr (Or.inl (own_eqInt h)))))))))))
  · exact Or.inr (Or.inr (Or.inr (Or.inr (Or.inr (Or.inr (Or.inr (Or.inr (Or.inr (Or.inr (Or.inr (Or.inl (own_eqInt h))))))))))))
  · exact Or.inr (Or.inr (Or.inr (Or.inr (Or.inr (Or.inr (Or.inr (Or.inr (Or.inr (Or.inr (Or.inr (Or.inr (Or.inl (own_eqInt h)))))))))))))
  · exact Or.inr (Or.inr (Or.inr (Or.inr (Or.inr (Or.inr (Or.inr (Or.inr (Or.inr (Or.inr (Or.inr (Or.inr (Or.inr (Or.inl (own_eqInt h))))))))))))))
  · exact Or.inr (Or.inr (Or.inr (Or.inr (Or.inr (Or.inr (Or.inr (Or.inr (Or.inr (Or.inr (Or.inr (Or.inr (Or.inr (Or.inr (Or.inl (own_eqInt h)))))))))))))))
  · exact Or.inr (Or.inr (Or.inr (Or.inr (Or.inr (Or.inr (Or.inr (Or.inr (Or.inr (Or.inr (Or.inr (Or.inr (Or.inr (Or.inr (Or.inr (Or.inl (own_eqInt h))))))))))))))))
  · exact Or.inr (Or.inr (Or.inr (Or.inr (Or.inr (Or.inr (Or.inr (Or.inr (Or.inr (Or.inr (Or.inr (Or.inr (Or.inr (Or.inr (Or.inr (Or.inr (Or.inl (own_eqInt h)))))))))))))))))
  · exact Or.inr (Or.inr (Or.inr (Or.inr (Or.inr (Or.inr (Or.inr (Or.inr (Or.inr (Or.inr (Or.inr (Or.inr (Or.inr (Or.inr (Or.inr (Or.inr (Or.inr (Or.inl (own_eqInt h))))))))))))))))))
  · exact Or.inr (Or.inr (Or.inr (Or.inr (Or.inr (Or.inr (Or.inr (Or.inr (Or.inr (Or.inr (Or.inr (Or.inr (Or.inr (Or.inr (Or.inr (Or.inr (Or.inr (Or.inr (Or.inl (own_eqInt h)))))))))))))))))))
  · exact Or.inr (Or.inr (Or.inr (Or.inr (Or.inr (Or.inr (Or.inr (Or.inr (Or.inr (Or.inr (Or.inr (Or.inr (Or.inr (Or.inr (Or.inr (Or.inr (Or.inr (Or.inr (Or.inr (Or.inl (own_eqInt h))))))))))))))))))))
  · exact Or.inr (Or.inr (Or.inr (Or.inr (Or.inr (Or.inr (Or.inr (Or.inr (Or.inr (Or.inr (Or.inr (Or.inr (Or.inr (Or.inr (Or.inr (Or.inr (Or.inr (Or.inr (Or.inr (Or.inr (Or.inl (own_eqInt h)))))))))))))))))))))
  · exact Or.inr (Or.inr (Or.inr (Or.inr (Or.inr (Or.inr (Or.inr (Or.inr (Or.inr (Or.inr (Or.inr (Or.inr (Or.inr (Or.inr (Or.inr (Or.inr (Or.inr (Or.inr (Or.inr (Or.inr (Or.inr (Or.inl (own_eqInt h))))))))))))))))))))))
  · exact Or.inr (Or.inr (Or.inr (Or.inr (Or.inr (Or.inr (Or.inr (Or.inr (Or.inr (Or.inr (Or.inr (Or.inr (Or.inr (Or.inr (Or.inr (Or.inr (Or.inr (Or.inr (Or.inr (Or.inr (Or.inr (Or.inr (Or.inl (own_eqInt h)))))))))))))))))))))))
  · exact Or.inr (Or.inr (Or.inr (Or.inr (Or.inr (Or.inr (Or.inr (Or.inr (Or.inr (Or.inr (Or.inr (Or.inr (Or.inr (Or.inr (Or.inr (Or.inr (Or.inr (Or.inr (Or.inr (Or.inr (Or.inr (Or.inr (Or.inr (Or.inl (own_eqInt h))))))))))))))))))))))))
  · exact Or.inr (Or.inr (Or.inr (Or.inr (Or.inr (Or.inr (Or.inr (Or.inr (Or.inr (Or.inr (Or.inr (Or.inr (Or.inr (Or.inr (Or.inr (Or.inr (Or.inr (Or.inr (Or.inr (Or.inr (Or.inr (Or.inr (Or.inr (Or.inr (Or.inl (own_eqInt h)))))))))))))))))))))))))
  · exact Or.inr (Or.inr (Or.inr (Or.inr (Or.inr (Or.inr (Or.inr (Or.inr (Or.inr (Or.inr (Or.inr (Or.inr (Or.inr (Or.inr (Or.inr (Or.inr (Or.inr (Or.inr (Or.inr (Or.inr (Or.inr (Or.inr (Or.inr (Or.inr (Or.inr (Or.inl (own_eqInt h))))))))))))))))))))))))))
  · exact Or.inr (Or.inr (Or.inr (Or.inr (Or.inr (Or.inr (Or.inr (Or.inr (Or.inr (Or.inr (Or.inr (Or.inr (Or.inr (Or.inr (Or.inr (Or.inr (Or.inr (Or.inr (Or.inr (Or.inr (Or.inr (Or.inr (Or.inr (Or.inr (Or.inr (Or.inr (Or.inl (own_eqInt h)))))))))))))))))))))))))))
  · exact Or.inr (Or.inr (Or.inr (Or.inr (Or.inr (Or.inr (Or.inr (Or.inr (Or.inr (Or.inr (Or.inr (Or.inr (Or.inr (Or.inr (Or.inr (Or.inr (Or.inr (Or.inr (Or.inr (Or.inr (Or.inr (Or.inr (Or.inr (Or.inr (Or.inr (Or.inr (Or.inr (Or.inl (own_eqInt h))))))))))))))))))))))))))))
  · exact Or.inr (Or.inr (Or.inr (Or.inr (Or.inr (Or.inr (Or.inr (Or.inr (Or.inr (Or.inr (Or.inr (Or.inr (Or.inr (Or.inr (Or.inr (Or.inr (Or.inr (Or.inr (Or.inr (Or.inr (Or.inr (Or.inr (Or.inr (Or.inr (Or.inr (Or.inr (Or.inr (Or.inr ((own_eqInt h)))))))))))))))))))))))))))))
theorem own_31 {k : Int32} (h : 0 ≤ k.toInt ∧ k.toInt < 31) : k = 0 ∨ k = 1 ∨ k = 2 ∨ k = 3 ∨ k = 4 ∨ k = 5 ∨ k = 6 ∨ k = 7 ∨ k = 8 ∨ k = 9 ∨ k = 10 ∨ k = 11 ∨ k = 12 ∨ k = 13 ∨ k = 14 ∨ k = 15 ∨ k = 16 ∨ k = 17 ∨ k = 18 ∨ k = 19 ∨ k = 20 ∨ k = 21 ∨ k = 22 ∨ k = 23 ∨ k = 24 ∨ k = 25 ∨ k = 26 ∨ k = 27 ∨ k = 28 ∨ k = 29 ∨ k = 30 := by
  have h2 : k.toInt = 0 ∨ k.toInt = 1 ∨ k.toInt = 2 ∨ k.toInt = 3 ∨ k.toInt = 4 ∨ k.toInt = 5 ∨ k.toInt = 6 ∨ k.toInt = 7 ∨ k.toInt = 8 ∨ k.toInt = 9 ∨ k.toInt = 10 ∨ k.toInt = 11 ∨ k.toInt = 12 ∨ k.toInt = 13 ∨ k.toInt = 14 ∨ k.toInt = 15 ∨ k.toInt = 16 ∨ k.toInt = 17 ∨ k.toInt = 18 ∨ k.toInt = 19 ∨ k.toInt = 20 ∨ k.toInt = 21 ∨ k.toInt = 22 ∨ k.toInt = 23 ∨ k.toInt = 24 ∨ k.toInt = 25 ∨ k.toInt = 26 ∨ k.toInt = 27 ∨ k.toInt = 28 ∨ k.toInt = 29 ∨ k.toInt = 30 := by omega
  rcases h2 with h | h | h | h | h | h | h | h | h | h | h | h | h | h | h | h | h | h | h | h | h | h | h | h | h | h | h | h | h | h | h
  · exact Or.inl (own_eqInt h)
  · exact Or.inr (Or.inl (own_eqInt h))
  · exact Or.inr (Or.inr (Or.inl (own_eqInt h)))
  · exact Or.inr (Or.inr (Or.inr (Or.inl (own_eqInt h))))
  · exact Or.inr (Or.inr (Or.inr (Or.inr (Or.inl (own_eqInt h)))))
  · exact Or.inr (Or.inr (Or.inr (Or.inr (Or.inr (Or.inl (own_eqInt h))))))
  · exact Or.inr (Or.inr (Or.inr (Or.inr (Or.inr (Or.inr (Or.inl (own_eqInt h)))))))
  · exact Or.inr (Or.inr (Or.inr (Or.inr (Or.inr (Or.inr (Or.inr (Or.inl (own_eqInt h))))))))
  · exact Or.inr (Or.inr (Or.inr (Or.inr (Or.inr (Or.inr (Or.inr (Or.inr (Or.inl (own_eqInt h)))))))))
  · exact Or.inr (Or.inr (Or.inr (Or.inr (Or.inr (Or.inr (Or.inr (Or.inr (Or.inr (Or.inl (own_eqInt h))))))))))
  · exact Or.inr (Or.inr (Or.inr (Or.inr (Or.inr (Or.inr (Or.inr (Or.inr (Or.inr (Or.inr (Or.inl (own_eqInt h)))))))))))
  · exact Or.inr (Or.inr (Or.inr (Or.inr (Or.inr (Or.inr (Or.inr (Or.inr (Or.inr (Or.inr (Or.inr (Or.inl (own_eqInt h))))))))))))
  · exact Or.inr (Or.inr (Or.inr (Or.inr (Or.inr (Or.inr (Or.inr (Or.inr (Or.inr (Or.inr (Or.inr (Or.inr (Or.inl (own_eqInt h)))))))))))))
  · exact Or.inr (Or.inr (Or.inr (Or.inr (Or.inr (Or.inr (Or.inr (Or.inr (Or.inr (Or.inr (Or.inr (Or.inr (Or.inr (Or.inl (own_eqInt h))))))))))))))
  · exact Or.inr (Or.inr (Or.inr (Or.inr (Or.inr (Or.inr (Or.inr (Or.inr (Or.inr (Or.inr (Or.inr (Or.inr (Or.inr (Or.inr (Or.inl (own_eqInt h)))))))))))))))
  · exact Or.inr (Or.inr (Or.inr (Or.inr (Or.inr (Or.inr (Or.inr (Or.inr (Or.inr (Or.inr (Or.inr (Or.inr (Or.inr (Or.inr (Or.inr (Or.inl (own_eqInt h))))))))))))))))
  · exact Or.inr (Or.inr (Or.inr (Or.inr (Or.inr (Or.inr (Or.inr (Or.inr (Or.inr (Or.inr (Or.inr (Or.inr (Or.inr (Or.inr (Or.inr (Or.inr (Or.inl (own_eqInt h)))))))))))))))))
  · exact Or.inr (Or.inr (Or.inr (Or.inr (Or.inr (Or.inr (Or.inr (Or.inr (Or.inr (Or.inr (Or.inr (Or.inr (Or.inr (Or.inr (Or.inr (Or.inr (Or.inr (Or.inl (own_eqInt h))))))))))))))))))
  · exact Or.inr (Or.inr (Or.inr (Or.inr (Or.inr (Or.inr (Or.inr (Or.inr (Or.inr (Or.inr (Or.inr (Or.inr (Or.inr (Or.inr (Or.inr (Or.inr (Or.inr (Or.inr (Or.inl (own_eqInt h)))))))))))))))))))
  · exact Or.inr (Or.inr (Or.inr (Or.inr (Or.inr (Or.inr (Or.inr (Or.inr (Or.inr (Or.inr (Or.inr (Or.inr (Or.inr (Or.inr (Or.inr (Or.inr (Or.inr (Or.inr (Or.inr (Or.inl (own_eqInt h))))))))))))))))))))
  · exact Or.inr (Or.inr (Or.inr (Or.inr (Or.inr (Or.inr (Or.inr (Or.inr (Or.inr (Or.inr (Or.inr (Or.inr (Or.inr (Or.inr (Or.inr (Or.inr (Or.inr (Or.inr (Or.inr (Or.inr (Or.inl (own_eqInt h)))))))))))))))))))))
  · exact Or.inr (Or.inr (Or.inr (Or.inr (Or.inr (Or.inr (Or.inr (Or.inr (Or.inr (Or.inr (Or.inr (Or.inr (Or.inr (Or.inr (Or.inr (Or.inr (Or.inr (Or.inr (Or.inr (Or.inr (Or.inr (Or.inl (own_eqInt h))))))))))))))))))))))
  · exact Or.inr (Or.inr (Or.inr (Or.inr (Or.inr (Or.inr (Or.inr (Or.inr (Or.inr (Or.inr (Or.inr (Or.inr (Or.inr (Or.inr (Or.inr (Or.inr (Or.inr (Or.inr (Or.inr (Or.inr (Or.inr (Or.inr (Or.inl (own_eqInt h)))))))))))))))))))))))
  · exact Or.inr (Or.inr (Or.inr (Or.inr (Or.inr (Or.inr (Or.inr (Or.inr (Or.inr (Or.inr (Or.inr (Or.inr (Or.inr (Or.inr (Or.inr (Or.inr (Or.inr (Or.inr (Or.inr (Or.inr (Or.inr (Or.inr (Or.inr (Or.inl (own_eqInt h))))))))))))))))))))))))
  · exact Or.inr (Or.inr (Or.inr (Or.inr (Or.inr (Or.inr (Or.inr (Or.inr (Or.inr (Or.inr (Or.inr (Or.inr (Or.inr (Or.inr (Or.inr (Or.inr (Or.inr (Or.inr (Or.inr (Or.inr (Or.inr (Or.inr (Or.inr (Or.inr (Or.inl (own_eqInt h)))))))))))))))))))))))))
  · exact Or.inr (Or.inr (Or.inr (Or.inr (Or.inr (Or.inr (Or.inr (Or.inr (Or.inr (Or.inr (Or.inr (Or.inr (Or.inr (Or.inr (Or.inr (Or.inr (Or.inr (Or.inr (Or.inr (Or.inr (Or.inr (Or.inr (Or.inr (Or.inr (Or.inr (Or.inl (own_eqInt h))))))))))))))))))))))))))
  · exact Or.inr (Or.inr (Or.inr (Or.inr (Or.inr (Or.inr (Or.inr (Or.inr (Or.inr (Or.inr (Or.inr (Or.inr (Or.inr (Or.inr (Or.inr (Or.inr (Or.inr (Or.inr (Or.inr (Or.inr (Or.inr (Or.inr (Or.inr (Or.inr (Or.inr (Or.inr (Or.inl (own_eqInt h)))))))))))))))))))))))))))
  · exact Or.inr (Or.inr (Or.inr (Or.inr (Or.inr (Or.inr (Or.inr (Or.inr (Or.inr (Or.inr (Or.inr (Or.inr (Or.inr (Or.inr (Or.inr (Or.inr (Or.inr (Or.inr (Or.inr (Or.inr (Or.inr (Or.inr (Or.inr (Or.inr (Or.inr (Or.inr (Or.inr (Or.inl (own_eqInt h))))))))))))))))))))))))))))
  · exact Or.inr (Or.inr (Or.inr (Or.inr (Or.inr (Or.inr (Or.inr (Or.inr (Or.inr (Or.inr (Or.inr (Or.inr (Or.inr (Or.inr (Or.inr (Or.inr (Or.inr (Or.inr (Or.inr (Or.inr (Or.inr (Or.inr (Or.inr (Or.inr (Or.inr (Or.inr (Or.inr (Or.inr (Or.inl (own_eqInt h)))))))))))))))))))))))))))))
  · exact Or.inr (Or.inr (Or.inr (Or.inr (Or.inr (Or.inr (Or.inr (Or.inr (Or.inr (Or.inr (Or.inr (Or.inr (Or.inr (Or.inr (Or.inr (Or.inr (Or.inr (Or.inr (Or.inr (Or.inr (Or.inr (Or.inr (Or.inr (Or.inr (Or.inr (Or.inr (Or.inr (Or.inr (Or.inr (Or.inl (own_eqInt h))))))))))))))))))))))))))))))
  · exact Or.inr (Or.inr (Or.inr (Or.inr (Or.inr (Or.inr (Or.inr (Or.inr (Or.inr (Or.inr (Or.inr (Or.inr (Or.inr (Or.inr (Or.inr (Or.inr (Or.inr (Or.inr (Or.inr (Or.inr (Or.inr (Or.inr (Or.inr (Or.inr (Or.inr (Or.inr (Or.inr (Or.inr (Or.inr (Or.inr ((own_eqInt h)))))))))))))))))))))))))))))))
theorem own_ps {k : Int32} (hk : 0 ≤ k.toInt ∧ k.toInt < 29) : 0 < ((1 : Int32) <<< (k &&& 31)).toInt ∧ ((1 : Int32) <<< (k &&& 31)).toInt ≤ 2 ^ 28 := by
  rcases own_29 hk with rfl | rfl | rfl | rfl | rfl | rfl | rfl | rfl | rfl | rfl | rfl | rfl | rfl | rfl | rfl | rfl | rfl | rfl | rfl | rfl | rfl | rfl | rfl | rfl | rfl | rfl | rfl | rfl | rfl <;> decide
theorem own_mx (A : Nat → Addr) {k : Int32} (hk : 0 ≤ k.toInt ∧ k.toInt < 31) : own_r_min A (4 : Int32) ((1 : Int32) <<< (k &&& 31)) = 1 ∨ own_r_min A (4 : Int32) ((1 : Int32) <<< (k &&& 31)) = 2 ∨ own_r_min A (4 : Int32) ((1 : Int32) <<< (k &&& 31)) = 4 := by
  unfold own_r_min
  rcases own_31 hk with rfl | rfl | rfl | rfl | rfl | rfl | rfl | rfl | rfl | rfl | rfl | rfl | rfl | rfl | rfl | rfl | rfl | rfl | rfl | rfl | rfl | rfl | rfl | rfl | rfl | rfl | rfl | rfl | rfl | rfl | rfl <;> decide
theorem own_so (A : Nat → Addr) {i : Nat} (hi : i < 44) : own_r_sizeOf A (Int32.ofNat i) = own_sz i :=
  match i, hi with | 0, _ => (by unfold own_r_sizeOf; decide) | 1, _ => (by unfold own_r_sizeOf; decide) | 2, _ => (by unfold own_r_sizeOf; decide) | 3, _ => (by unfold own_r_sizeOf; decide) | 4, _ => (by unfold own_r_sizeOf; decide) | 5, _ => (by unfold own_r_sizeOf; decide) | 6, _ => (by unfold own_r_sizeOf; decide) | 7, _ => (by unfold own_r_sizeOf; decide) | 8, _ => (by unfold own_r_sizeOf; decide) | 9, _ => (by unfold own_r_sizeOf; decide) | 10, _ => (by unfold own_r_sizeOf; decide) | 11, _ => (by unfold own_r_sizeOf; decide) | 12, _ => (by unfold own_r_sizeOf; decide) | 13, _ => (by unfold own_r_sizeOf; decide) | 14, _ => (by unfold own_r_sizeOf; decide) | 15, _ => (by unfold own_r_sizeOf; decide) | 16, _ => (by unfold own_r_sizeOf; decide) | 17, _ => (by unfold own_r_sizeOf; decide) | 18, _ => (by unfold own_r_sizeOf; decide) | 19, _ => (by unfold own_r_sizeOf; decide) | 20, _ => (by unfold own_r_sizeOf; decide) | 21, _ => (by unfold own_r_sizeOf; decide) | 22, _ => (by unfold own_r_sizeOf; decide) | 23, _ => (by unfold own_r_sizeOf; decide) | 24, _ => (by unfold own_r_sizeOf; decide) | 25, _ => (by unfold own_r_sizeOf; decide) | 26, _ => (by unfold own_r_sizeOf; decide) | 27, _ => (by unfold own_r_sizeOf; decide) | 28, _ => (by unfold own_r_sizeOf; decide) | 29, _ => (by unfold own_r_sizeOf; decide) | 30, _ => (by unfold own_r_sizeOf; decide) | 31, _ => (by unfold own_r_sizeOf; decide) | 32, _ => (by unfold own_r_sizeOf; decide) | 33, _ => (by unfold own_r_sizeOf; decide) | 34, _ => (by unfold own_r_sizeOf; decide) | 35, _ => (by unfold own_r_sizeOf; decide) | 36, _ => (by unfold own_r_sizeOf; decide) | 37, _ => (by unfold own_r_sizeOf; decide) | 38, _ => (by unfold own_r_sizeOf; decide) | 39, _ => (by unfold own_r_sizeOf; decide) | 40, _ => (by unfold own_r_sizeOf; decide) | 41, _ => (by unfold own_r_sizeOf; decide) | 42, _ => (by unfold own_r_sizeOf; decide) | 43, _ => (by unfold own_r_sizeOf; decide) | (k + 44), hi => absurd hi (by omega)
theorem own_fin1 (A : Nat → Addr) {ps mx : Int32} {i : Nat} (h : mx = (1 : Int32)) : own_rp A ps mx i = 1 := by
  unfold own_rp; rw [h]; rfl
theorem own_fin2 (A : Nat → Addr) {ps mx : Int32} {i : Nat} (hm : mx = 1 ∨ mx = 2 ∨ mx = 4) (h : ¬ mx = (1 : Int32)) (g : own_r_leaves A ((1 : Int32) * ps) (own_sz i) = 0) : own_rp A ps mx i = 1 := by
  unfold own_rp
  rcases hm with rfl | rfl | rfl
  · exact absurd rfl h
  · rw [if_pos (by decide), if_pos g]
  · rw [if_pos (by decide), if_pos g]
theorem own_fin3 (A : Nat → Addr) {ps mx : Int32} {i : Nat} (h : mx = (2 : Int32)) (g : ¬ own_r_leaves A ((1 : Int32) * ps) (own_sz i) = 0) : own_rp A ps mx i = 2 := by
  unfold own_rp; rw [h, if_pos (by decide), if_neg g, if_neg (by decide)]
theorem own_fin4 (A : Nat → Addr) {ps mx : Int32} {i : Nat} (hm : mx = 1 ∨ mx = 2 ∨ mx = 4) (h1 : ¬ mx = (1 : Int32)) (h2 : ¬ mx = (2 : Int32)) (g : ¬ own_r_leaves A ((1 : Int32) * ps) (own_sz i) = 0) (g2 : own_r_leaves A ((2 : Int32) * ps) (own_sz i) = 0) : own_rp A ps mx i = 2 := by
  unfold own_rp
  rcases hm with rfl | rfl | rfl
  · exact absurd rfl h1
  · exact absurd rfl h2
  · rw [if_pos (by decide), if_neg g, if_pos (by decide), if_pos g2]
theorem own_fin5 (A : Nat → Addr) {ps mx : Int32} {i : Nat} (hm : mx = 1 ∨ mx = 2 ∨ mx = 4) (h1 : ¬ mx = (1 : Int32)) (h2 : ¬ mx = (2 : Int32)) (g : ¬ own_r_leaves A ((1 : Int32) * ps) (own_sz i) = 0) (g2 : ¬ own_r_leaves A ((2 : Int32) * ps) (own_sz i) = 0) : own_rp A ps mx i = 4 := by
  unfold own_rp
  rcases hm with rfl | rfl | rfl
  · exact absurd rfl h1
  · exact absurd rfl h2
  · rw [if_pos (by decide), if_neg g, if_pos (by decide), if_neg g2]
def own_Q (h0 : Heap) (v : Option Value) (h : Heap) (L : List Loc) : Prop := v = some (.int 1) ∧ Fr h0.size L
set_option maxRecDepth 65536 in
set_option maxHeartbeats 40000000 in
theorem rm_law (l : Launch) {Z : State} {a0 : Array Value} (hw : ∀ d ∈ tables_1, d.before a0 Z = true) (ws : List Jvm.Cond) {A : Nat → Addr} {h0 : Heap} (W : own_W Z h0 A) (p0 : Int32) (p1 : Int32) (p2 : Int32) :
    own_Does l Z x code maxLocals ret ws room_1 #[(.int p0), (.int p1), (.int p2)] h0 (own_Q h0) := by
  refine own_body own_pn1 ?_
  intro p e s m below meth c T0 hx hby hml hret hlk hnm hown hZ X0 e0
  have KK0 := own_mod p0 29 29 (by decide) (by decide)
  have KK1 := own_mod p1 31 31 (by decide) (by decide)
  have KK2 := own_mod p2 44 44 (by decide) (by decide)
  obtain ⟨i, hi, hI⟩ := own_nat KK2.1 KK2.2
  have hK2 : ((p2 &&& (2147483647 : Int32)) % (44 : Int32)) = Int32.ofNat i := own_eqInt (by rw [hI, Int32.toInt_ofNat_small (by omega)])
  have hSZ : (own_r_sizeOf A ((p2 &&& (2147483647 : Int32)) % (44 : Int32))) = own_sz i := by rw [hK2]; exact own_so A hi
  have hP := own_ps KK0
  have hsp := own_sz_pos hi
  have hSi : (((own_r_sizeOf A ((p2 &&& (2147483647 : Int32)) % (44 : Int32)))).toInt64).toInt = (own_sz i).toInt := by rw [hSZ]; exact Int32.toInt_toInt64 _
  have hS0 : ((own_r_sizeOf A ((p2 &&& (2147483647 : Int32)) % (44 : Int32)))).toInt64 ≠ 0 := own_ne0L hSi hsp.1
  have z1 : (1 : Int32).toInt = 1 := by decide
  have z2 : (2 : Int32).toInt = 2 := by decide
  have z2L : (2 : Int64).toInt = 2 := by decide
  have m1 : ((1 : Int32) * ((1 : Int32) <<< (((p0 &&& (2147483647 : Int32)) % (29 : Int32)) &&& 31))).toInt = (((1 : Int32) <<< (((p0 &&& (2147483647 : Int32)) % (29 : Int32)) &&& 31))).toInt := by rw [Jvm.Kit.i32_mul (by rw [z1]; omega) (by rw [z1]; omega), z1]; omega
  have m2 : ((2 : Int32) * ((1 : Int32) <<< (((p0 &&& (2147483647 : Int32)) % (29 : Int32)) &&& 31))).toInt = 2 * (((1 : Int32) <<< (((p0 &&& (2147483647 : Int32)) % (29 : Int32)) &&& 31))).toInt := by rw [Jvm.Kit.i32_mul (by rw [z2]; omega) (by rw [z2]; omega), z2]
  have i1 : ((((1 : Int32) <<< (((p0 &&& (2147483647 : Int32)) % (29 : Int32)) &&& 31))).toInt64).toInt = (((1 : Int32) <<< (((p0 &&& (2147483647 : Int32)) % (29 : Int32)) &&& 31))).toInt := Int32.toInt_toInt64 _
  have m2L : ((2 : Int64) * (((1 : Int32) <<< (((p0 &&& (2147483647 : Int32)) % (29 : Int32)) &&& 31))).toInt64).toInt = 2 * (((1 : Int32) <<< (((p0 &&& (2147483647 : Int32)) % (29 : Int32)) &&& 31))).toInt := by rw [Jvm.Kit.i64_mul (by rw [z2L, i1]; omega) (by rw [z2L, i1]; omega), z2L, i1]
  have hL1 : own_r_leaves A ((1 : Int32) * ((1 : Int32) <<< (((p0 &&& (2147483647 : Int32)) % (29 : Int32)) &&& 31))) (own_sz i) = 0 ↔ ¬ own_r_fits A (((1 : Int32) <<< (((p0 &&& (2147483647 : Int32)) % (29 : Int32)) &&& 31))).toInt64 ((own_r_sizeOf A ((p2 &&& (2147483647 : Int32)) % (44 : Int32)))).toInt64 = 0 := own_lf A (by omega) hsp.1 (by rw [m1, i1]) hSi (by omega)
  have hL2 : own_r_leaves A ((2 : Int32) * ((1 : Int32) <<< (((p0 &&& (2147483647 : Int32)) % (29 : Int32)) &&& 31))) (own_sz i) = 0 ↔ ¬ own_r_fits A ((2 : Int64) * (((1 : Int32) <<< (((p0 &&& (2147483647 : Int32)) % (29 : Int32)) &&& 31))).toInt64) ((own_r_sizeOf A ((p2 &&& (2147483647 : Int32)) % (44 : Int32)))).toInt64 = 0 := own_lf A (by omega) hsp.1 (by rw [m2, m2L]) hSi (by omega)
  refine own_tr (XT.entry (Ls := #[.val (.int p0), .val (.int p1), .val (.int p2), .unset, .unset, .unset, .unset, .unset, .unset, .unset, .unset]) rfl) ?_
  show own_Goes p e below _ (T0.setTop (mkF m 0 #[.val (.int p0), .val (.int p1), .val (.int p2), .unset, .unset, .unset, .unset, .unset, .unset, .unset, .unset] []))
  refine own_by (fun _ zz => XS.iconst X0.here hx rfl (hb hby at_0) zz) ?_
  show own_Goes p e below _ (T0.setTop (mkF m 1 #[.val (.int p0), .val (.int p1), .val (.int p2), .unset, .unset, .unset, .unset, .unset, .unset, .unset, .unset] [(.int (1 : Int32))]))
  refine own_by (fun _ zz => XS.iloadN X0.here hx rfl (hb hby at_1) rfl zz) ?_
  show own_Goes p e below _ (T0.setTop (mkF m 2 #[.val (.int p0), .val (.int p1), .val (.int p2), .unset, .unset, .unset, .unset, .unset, .unset, .unset, .unset] [(.int p0), (.int (1 : Int32))]))
  refine own_by (fun _ zz => X0.ldcI hx hown (mvT hZ (own_w0 hw)) rfl (hb hby at_2) zz) ?_
  show own_Goes p e below _ (T0.setTop (mkF m 4 #[.val (.int p0), .val (.int p1), .val (.int p2), .unset, .unset, .unset, .unset, .unset, .unset, .unset, .unset] [(.int (2147483647 : Int32)), (.int p0), (.int (1 : Int32))]))
  refine own_by (fun _ zz => XS.iand X0.here hx rfl (hb hby at_4) rfl zz) ?_
  show own_Goes p e below _ (T0.setTop (mkF m 5 #[.val (.int p0), .val (.int p1), .val (.int p2), .unset, .unset, .unset, .unset, .unset, .unset, .unset, .unset] [(.int (p0 &&& (2147483647 : Int32))), (.int (1 : Int32))]))
  refine own_by (fun _ zz => XS.bipush X0.here hx rfl (hb hby at_5) zz) ?_
  show own_Goes p e below _ (T0.setTop (mkF m 7 #[.val (.int p0), .val (.int p1), .val (.int p2), .unset, .unset, .unset, .unset, .unset, .unset, .unset, .unset] [(.int (29 : Int32)), (.int (p0 &&& (2147483647 : Int32))), (.int (1 : Int32))]))
  refine own_by (fun _ zz => iremM X0 hx rfl (hb hby at_7) rfl (by decide) zz) ?_
  show own_Goes p e below _ (T0.setTop (mkF m 8 #[.val (.int p0), .val (.int p1), .val (.int p2), .unset, .unset, .unset, .unset, .unset, .unset, .unset, .unset] [(.int ((p0 &&& (2147483647 : Int32)) % (29 : Int32))), (.int (1 : Int32))]))
  refine own_by (fun _ zz => XT.ishl X0.here hx rfl (hb hby at_8) rfl zz) ?_
  show own_Goes p e below _ (T0.setTop (mkF m 9 #[.val (.int p0), .val (.int p1), .val (.int p2), .unset, .unset, .unset, .unset, .unset, .unset, .unset, .unset] [(.int ((1 : Int32) <<< (((p0 &&& (2147483647 : Int32)) % (29 : Int32)) &&& 31)))]))
  refine own_by (fun _ zz => XS.istoreN X0.here hx rfl (hb hby at_9) rfl (l' := #[.val (.int p0), .val (.int p1), .val (.int p2), .val (.int ((1 : Int32) <<< (((p0 &&& (2147483647 : Int32)) % (29 : Int32)) &&& 31))), .unset, .unset, .unset, .unset, .unset, .unset, .unset]) rfl zz) ?_
  show own_Goes p e below _ (T0.setTop (mkF m 10 #[.val (.int p0), .val (.int p1), .val (.int p2), .val (.int ((1 : Int32) <<< (((p0 &&& (2147483647 : Int32)) % (29 : Int32)) &&& 31))), .unset, .unset, .unset, .unset, .unset, .unset, .unset] []))
  refine own_by (fun _ zz => XS.iconst X0.here hx rfl (hb hby at_10) zz) ?_
  show own_Goes p e below _ (T0.setTop (mkF m 11 #[.val (.int p0), .val (.int p1), .val (.int p2), .val (.int ((1 : Int32) <<< (((p0 &&& (2147483647 : Int32)) % (29 : Int32)) &&& 31))), .unset, .unset, .unset, .unset, .unset, .unset, .unset] [(.int (1 : Int32))]))
  refine own_by (fun _ zz => XS.iloadN X0.here hx rfl (hb hby at_11) rfl zz) ?_
  show own_Goes p e below _ (T0.setTop (mkF m 12 #[.val (.int p0), .val (.int p1), .val (.int p2), .val (.int ((1 : Int32) <<< (((p0 &&& (2147483647 : Int32)) % (29 : Int32)) &&& 31))), .unset, .unset, .unset, .unset, .unset, .unset, .unset] [(.int p1), (.int (1 : Int32))]))
  refine own_by (fun _ zz => X0.ldcI hx hown (mvT hZ (own_w0 hw)) rfl (hb hby at_12) zz) ?_
  show own_Goes p e below _ (T0.setTop (mkF m 14 #[.val (.int p0), .val (.int p1), .val (.int p2), .val (.int ((1 : Int32) <<< (((p0 &&& (2147483647 : Int32)) % (29 : Int32)) &&& 31))), .unset, .unset, .unset, .unset, .unset, .unset, .unset] [(.int (2147483647 : Int32)), (.int p1), (.int (1 : Int32))]))
  refine own_by (fun _ zz => XS.iand X0.here hx rfl (hb hby at_14) rfl zz) ?_
  show own_Goes p e below _ (T0.setTop (mkF m 15 #[.val (.int p0), .val (.int p1), .val (.int p2), .val (.int ((1 : Int32) <<< (((p0 &&& (2147483647 : Int32)) % (29 : Int32)) &&& 31))), .unset, .unset, .unset, .unset, .unset, .unset, .unset] [(.int (p1 &&& (2147483647 : Int32))), (.int (1 : Int32))]))
  refine own_by (fun _ zz => XS.bipush X0.here hx rfl (hb hby at_15) zz) ?_
  show own_Goes p e below _ (T0.setTop (mkF m 17 #[.val (.int p0), .val (.int p1), .val (.int p2), .val (.int ((1 : Int32) <<< (((p0 &&& (2147483647 : Int32)) % (29 : Int32)) &&& 31))), .unset, .unset, .unset, .unset, .unset, .unset, .unset] [(.int (31 : Int32)), (.int (p1 &&& (2147483647 : Int32))), (.int (1 : Int32))]))
  refine own_by (fun _ zz => iremM X0 hx rfl (hb hby at_17) rfl (by decide) zz) ?_
  show own_Goes p e below _ (T0.setTop (mkF m 18 #[.val (.int p0), .val (.int p1), .val (.int p2), .val (.int ((1 : Int32) <<< (((p0 &&& (2147483647 : Int32)) % (29 : Int32)) &&& 31))), .unset, .unset, .unset, .unset, .unset, .unset, .unset] [(.int ((p1 &&& (2147483647 : Int32)) % (31 : Int32))), (.int (1 : Int32))]))
  refine own_by (fun _ zz => XT.ishl X0.here hx rfl (hb hby at_18) rfl zz) ?_
  show own_Goes p e below _ (T0.setTop (mkF m 19 #[.val (.int p0), .val (.int p1), .val (.int p2), .val (.int ((1 : Int32) <<< (((p0 &&& (2147483647 : Int32)) % (29 : Int32)) &&& 31))), .unset, .unset, .unset, .unset, .unset, .unset, .unset] [(.int ((1 : Int32) <<< (((p1 &&& (2147483647 : Int32)) % (31 : Int32)) &&& 31)))]))
  refine own_by (fun _ zz => XS.istore X0.here hx rfl (hb hby at_19) rfl (l' := #[.val (.int p0), .val (.int p1), .val (.int p2), .val (.int ((1 : Int32) <<< (((p0 &&& (2147483647 : Int32)) % (29 : Int32)) &&& 31))), .val (.int ((1 : Int32) <<< (((p1 &&& (2147483647 : Int32)) % (31 : Int32)) &&& 31))), .unset, .unset, .unset, .unset, .unset, .unset]) rfl zz) ?_
  show own_Goes p e below _ (T0.setTop (mkF m 21 #[.val (.int p0), .val (.int p1), .val (.int p2), .val (.int ((1 : Int32) <<< (((p0 &&& (2147483647 : Int32)) % (29 : Int32)) &&& 31))), .val (.int ((1 : Int32) <<< (((p1 &&& (2147483647 : Int32)) % (31 : Int32)) &&& 31))), .unset, .unset, .unset, .unset, .unset, .unset] []))
  refine own_by (fun _ zz => XS.iloadN X0.here hx rfl (hb hby at_21) rfl zz) ?_
  show own_Goes p e below _ (T0.setTop (mkF m 22 #[.val (.int p0), .val (.int p1), .val (.int p2), .val (.int ((1 : Int32) <<< (((p0 &&& (2147483647 : Int32)) % (29 : Int32)) &&& 31))), .val (.int ((1 : Int32) <<< (((p1 &&& (2147483647 : Int32)) % (31 : Int32)) &&& 31))), .unset, .unset, .unset, .unset, .unset, .unset] [(.int p2)]))
  refine own_by (fun _ zz => X0.ldcI hx hown (mvT hZ (own_w0 hw)) rfl (hb hby at_22) zz) ?_
  show own_Goes p e below _ (T0.setTop (mkF m 24 #[.val (.int p0), .val (.int p1), .val (.int p2), .val (.int ((1 : Int32) <<< (((p0 &&& (2147483647 : Int32)) % (29 : Int32)) &&& 31))), .val (.int ((1 : Int32) <<< (((p1 &&& (2147483647 : Int32)) % (31 : Int32)) &&& 31))), .unset, .unset, .unset, .unset, .unset, .unset] [(.int (2147483647 : Int32)), (.int p2)]))
  refine own_by (fun _ zz => XS.iand X0.here hx rfl (hb hby at_24) rfl zz) ?_
  show own_Goes p e below _ (T0.setTop (mkF m 25 #[.val (.int p0), .val (.int p1), .val (.int p2), .val (.int ((1 : Int32) <<< (((p0 &&& (2147483647 : Int32)) % (29 : Int32)) &&& 31))), .val (.int ((1 : Int32) <<< (((p1 &&& (2147483647 : Int32)) % (31 : Int32)) &&& 31))), .unset, .unset, .unset, .unset, .unset, .unset] [(.int (p2 &&& (2147483647 : Int32)))]))
  refine own_by (fun _ zz => XS.bipush X0.here hx rfl (hb hby at_25) zz) ?_
  show own_Goes p e below _ (T0.setTop (mkF m 27 #[.val (.int p0), .val (.int p1), .val (.int p2), .val (.int ((1 : Int32) <<< (((p0 &&& (2147483647 : Int32)) % (29 : Int32)) &&& 31))), .val (.int ((1 : Int32) <<< (((p1 &&& (2147483647 : Int32)) % (31 : Int32)) &&& 31))), .unset, .unset, .unset, .unset, .unset, .unset] [(.int (44 : Int32)), (.int (p2 &&& (2147483647 : Int32)))]))
  refine own_by (fun _ zz => iremM X0 hx rfl (hb hby at_27) rfl (by decide) zz) ?_
  show own_Goes p e below _ (T0.setTop (mkF m 28 #[.val (.int p0), .val (.int p1), .val (.int p2), .val (.int ((1 : Int32) <<< (((p0 &&& (2147483647 : Int32)) % (29 : Int32)) &&& 31))), .val (.int ((1 : Int32) <<< (((p1 &&& (2147483647 : Int32)) % (31 : Int32)) &&& 31))), .unset, .unset, .unset, .unset, .unset, .unset] [(.int ((p2 &&& (2147483647 : Int32)) % (44 : Int32)))]))
  refine own_by (fun _ zz => XS.istore X0.here hx rfl (hb hby at_28) rfl (l' := #[.val (.int p0), .val (.int p1), .val (.int p2), .val (.int ((1 : Int32) <<< (((p0 &&& (2147483647 : Int32)) % (29 : Int32)) &&& 31))), .val (.int ((1 : Int32) <<< (((p1 &&& (2147483647 : Int32)) % (31 : Int32)) &&& 31))), .val (.int ((p2 &&& (2147483647 : Int32)) % (44 : Int32))), .unset, .unset, .unset, .unset, .unset]) rfl zz) ?_
  show own_Goes p e below _ (T0.setTop (mkF m 30 #[.val (.int p0), .val (.int p1), .val (.int p2), .val (.int ((1 : Int32) <<< (((p0 &&& (2147483647 : Int32)) % (29 : Int32)) &&& 31))), .val (.int ((1 : Int32) <<< (((p1 &&& (2147483647 : Int32)) % (31 : Int32)) &&& 31))), .val (.int ((p2 &&& (2147483647 : Int32)) % (44 : Int32))), .unset, .unset, .unset, .unset, .unset] []))
  refine own_by (fun _ zz => XS.iloadN X0.here hx rfl (hb hby at_30) rfl zz) ?_
  show own_Goes p e below _ (T0.setTop (mkF m 31 #[.val (.int p0), .val (.int p1), .val (.int p2), .val (.int ((1 : Int32) <<< (((p0 &&& (2147483647 : Int32)) % (29 : Int32)) &&& 31))), .val (.int ((1 : Int32) <<< (((p1 &&& (2147483647 : Int32)) % (31 : Int32)) &&& 31))), .val (.int ((p2 &&& (2147483647 : Int32)) % (44 : Int32))), .unset, .unset, .unset, .unset, .unset] [(.int ((1 : Int32) <<< (((p0 &&& (2147483647 : Int32)) % (29 : Int32)) &&& 31)))]))
  refine own_by (fun _ zz => XS.iload X0.here hx rfl (hb hby at_31) rfl zz) ?_
  show own_Goes p e below _ (T0.setTop (mkF m 33 #[.val (.int p0), .val (.int p1), .val (.int p2), .val (.int ((1 : Int32) <<< (((p0 &&& (2147483647 : Int32)) % (29 : Int32)) &&& 31))), .val (.int ((1 : Int32) <<< (((p1 &&& (2147483647 : Int32)) % (31 : Int32)) &&& 31))), .val (.int ((p2 &&& (2147483647 : Int32)) % (44 : Int32))), .unset, .unset, .unset, .unset, .unset] [(.int ((1 : Int32) <<< (((p1 &&& (2147483647 : Int32)) % (31 : Int32)) &&& 31))), (.int ((1 : Int32) <<< (((p0 &&& (2147483647 : Int32)) % (29 : Int32)) &&& 31)))]))
  refine own_callS X0 hx hZ (W := 0) (argsL := [(.int ((1 : Int32) <<< (((p0 &&& (2147483647 : Int32)) % (29 : Int32)) &&& 31))), (.int ((1 : Int32) <<< (((p1 &&& (2147483647 : Int32)) % (31 : Int32)) &&& 31)))]) (rest := []) hown (own_w1 hw) (own_w2 hw) (own_w3 hw) (own_w4 hw) (by decide) e0 (rm_runPages l hw W ((1 : Int32) <<< (((p0 &&& (2147483647 : Int32)) % (29 : Int32)) &&& 31)) ((1 : Int32) <<< (((p1 &&& (2147483647 : Int32)) % (31 : Int32)) &&& 31))) (by decide) (by decide) (by decide) (by decide) (by rw [hml]; rfl) (lenOf own_pd2 rfl) rfl (Nat.le_of_ble_eq_true rfl) (hb hby at_33) fun v1 T1 L1 X1 hQ1 => ?_
  obtain ⟨rfl, NN1, EE1, F1⟩ := hQ1
  have W1 := own_Wext W EE1
  have e1 : T1.heap = T1.heap := rfl
  have N1 := Fr.app (Fr.nil h0.size) NN1
  show own_Goes p e below _ (T1.setTop (mkF m 36 #[.val (.int p0), .val (.int p1), .val (.int p2), .val (.int ((1 : Int32) <<< (((p0 &&& (2147483647 : Int32)) % (29 : Int32)) &&& 31))), .val (.int ((1 : Int32) <<< (((p1 &&& (2147483647 : Int32)) % (31 : Int32)) &&& 31))), .val (.int ((p2 &&& (2147483647 : Int32)) % (44 : Int32))), .unset, .unset, .unset, .unset, .unset] [(.ref h0.size)]))
  refine own_by (fun _ zz => XS.astore X1.here hx rfl (hb hby at_36) rfl rfl (l' := #[.val (.int p0), .val (.int p1), .val (.int p2), .val (.int ((1 : Int32) <<< (((p0 &&& (2147483647 : Int32)) % (29 : Int32)) &&& 31))), .val (.int ((1 : Int32) <<< (((p1 &&& (2147483647 : Int32)) % (31 : Int32)) &&& 31))), .val (.int ((p2 &&& (2147483647 : Int32)) % (44 : Int32))), .val (.ref h0.size), .unset, .unset, .unset, .unset]) rfl zz) ?_
  show own_Goes p e below _ (T1.setTop (mkF m 38 #[.val (.int p0), .val (.int p1), .val (.int p2), .val (.int ((1 : Int32) <<< (((p0 &&& (2147483647 : Int32)) % (29 : Int32)) &&& 31))), .val (.int ((1 : Int32) <<< (((p1 &&& (2147483647 : Int32)) % (31 : Int32)) &&& 31))), .val (.int ((p2 &&& (2147483647 : Int32)) % (44 : Int32))), .val (.ref h0.size), .unset, .unset, .unset, .unset] []))
  refine own_by (fun _ zz => XS.aload X1.here hx rfl (hb hby at_38) rfl rfl zz) ?_
  show own_Goes p e below _ (T1.setTop (mkF m 40 #[.val (.int p0), .val (.int p1), .val (.int p2), .val (.int ((1 : Int32) <<< (((p0 &&& (2147483647 : Int32)) % (29 : Int32)) &&& 31))), .val (.int ((1 : Int32) <<< (((p1 &&& (2147483647 : Int32)) % (31 : Int32)) &&& 31))), .val (.int ((p2 &&& (2147483647 : Int32)) % (44 : Int32))), .val (.ref h0.size), .unset, .unset, .unset, .unset] [(.ref h0.size)]))
  refine own_by (fun _ zz => XS.ifnullNo X1.here hx rfl (hb hby at_40) rfl zz) ?_
  show own_Goes p e below _ (T1.setTop (mkF m 43 #[.val (.int p0), .val (.int p1), .val (.int p2), .val (.int ((1 : Int32) <<< (((p0 &&& (2147483647 : Int32)) % (29 : Int32)) &&& 31))), .val (.int ((1 : Int32) <<< (((p1 &&& (2147483647 : Int32)) % (31 : Int32)) &&& 31))), .val (.int ((p2 &&& (2147483647 : Int32)) % (44 : Int32))), .val (.ref h0.size), .unset, .unset, .unset, .unset] []))
  refine own_by (fun _ zz => XS.aload X1.here hx rfl (hb hby at_43) rfl rfl zz) ?_
  show own_Goes p e below _ (T1.setTop (mkF m 45 #[.val (.int p0), .val (.int p1), .val (.int p2), .val (.int ((1 : Int32) <<< (((p0 &&& (2147483647 : Int32)) % (29 : Int32)) &&& 31))), .val (.int ((1 : Int32) <<< (((p1 &&& (2147483647 : Int32)) % (31 : Int32)) &&& 31))), .val (.int ((p2 &&& (2147483647 : Int32)) % (44 : Int32))), .val (.ref h0.size), .unset, .unset, .unset, .unset] [(.ref h0.size)]))
  refine own_alen X1 hx hZ e1 F1 (hb hby at_45) ?_
  show own_Goes p e below _ (T1.setTop (mkF m 46 #[.val (.int p0), .val (.int p1), .val (.int p2), .val (.int ((1 : Int32) <<< (((p0 &&& (2147483647 : Int32)) % (29 : Int32)) &&& 31))), .val (.int ((1 : Int32) <<< (((p1 &&& (2147483647 : Int32)) % (31 : Int32)) &&& 31))), .val (.int ((p2 &&& (2147483647 : Int32)) % (44 : Int32))), .val (.ref h0.size), .unset, .unset, .unset, .unset] [(.int (44 : Int32))]))
  refine own_by (fun _ zz => XS.bipush X1.here hx rfl (hb hby at_46) zz) ?_
  show own_Goes p e below _ (T1.setTop (mkF m 48 #[.val (.int p0), .val (.int p1), .val (.int p2), .val (.int ((1 : Int32) <<< (((p0 &&& (2147483647 : Int32)) % (29 : Int32)) &&& 31))), .val (.int ((1 : Int32) <<< (((p1 &&& (2147483647 : Int32)) % (31 : Int32)) &&& 31))), .val (.int ((p2 &&& (2147483647 : Int32)) % (44 : Int32))), .val (.ref h0.size), .unset, .unset, .unset, .unset] [(.int (44 : Int32)), (.int (44 : Int32))]))
  refine own_by (fun _ zz => XS.icmpYes X1.here hx rfl (pc0 := 48) (pc' := 53) rfl (hb hby at_48) rfl (by decide) (by decide) (by decide) zz) ?_
  show own_Goes p e below _ (T1.setTop (mkF m 53 #[.val (.int p0), .val (.int p1), .val (.int p2), .val (.int ((1 : Int32) <<< (((p0 &&& (2147483647 : Int32)) % (29 : Int32)) &&& 31))), .val (.int ((1 : Int32) <<< (((p1 &&& (2147483647 : Int32)) % (31 : Int32)) &&& 31))), .val (.int ((p2 &&& (2147483647 : Int32)) % (44 : Int32))), .val (.ref h0.size), .unset, .unset, .unset, .unset] []))
  refine own_by (fun _ zz => XS.iload X1.here hx rfl (hb hby at_53) rfl zz) ?_
  show own_Goes p e below _ (T1.setTop (mkF m 55 #[.val (.int p0), .val (.int p1), .val (.int p2), .val (.int ((1 : Int32) <<< (((p0 &&& (2147483647 : Int32)) % (29 : Int32)) &&& 31))), .val (.int ((1 : Int32) <<< (((p1 &&& (2147483647 : Int32)) % (31 : Int32)) &&& 31))), .val (.int ((p2 &&& (2147483647 : Int32)) % (44 : Int32))), .val (.ref h0.size), .unset, .unset, .unset, .unset] [(.int ((p2 &&& (2147483647 : Int32)) % (44 : Int32)))]))
  refine own_callS0 X1 hx hZ (W := 0) (argsL := [(.int ((p2 &&& (2147483647 : Int32)) % (44 : Int32)))]) (rest := []) hown (own_w17 hw) (own_w18 hw) (own_w19 hw) (own_w20 hw) (by decide) e1 (rm_sizeOf l hw W1 ((p2 &&& (2147483647 : Int32)) % (44 : Int32))) (by decide) (by decide) (by decide) (by decide) (by rw [hml]; rfl) (lenOf own_pd3 rfl) rfl (Nat.le_of_ble_eq_true rfl) (hb hby at_55) fun T2 X2 e2 => ?_
  show own_Goes p e below _ (T2.setTop (mkF m 58 #[.val (.int p0), .val (.int p1), .val (.int p2), .val (.int ((1 : Int32) <<< (((p0 &&& (2147483647 : Int32)) % (29 : Int32)) &&& 31))), .val (.int ((1 : Int32) <<< (((p1 &&& (2147483647 : Int32)) % (31 : Int32)) &&& 31))), .val (.int ((p2 &&& (2147483647 : Int32)) % (44 : Int32))), .val (.ref h0.size), .unset, .unset, .unset, .unset] [(.int (own_r_sizeOf A ((p2 &&& (2147483647 : Int32)) % (44 : Int32))))]))
  refine own_by (fun _ zz => XT.i2l X2.here hx rfl (hb hby at_58) rfl zz) ?_
  show own_Goes p e below _ (T2.setTop (mkF m 59 #[.val (.int p0), .val (.int p1), .val (.int p2), .val (.int ((1 : Int32) <<< (((p0 &&& (2147483647 : Int32)) % (29 : Int32)) &&& 31))), .val (.int ((1 : Int32) <<< (((p1 &&& (2147483647 : Int32)) % (31 : Int32)) &&& 31))), .val (.int ((p2 &&& (2147483647 : Int32)) % (44 : Int32))), .val (.ref h0.size), .unset, .unset, .unset, .unset] [(.long ((own_r_sizeOf A ((p2 &&& (2147483647 : Int32)) % (44 : Int32)))).toInt64)]))
  refine own_by (fun _ zz => XT.lstore X2.here hx rfl (hb hby at_59) rfl (l' := #[.val (.int p0), .val (.int p1), .val (.int p2), .val (.int ((1 : Int32) <<< (((p0 &&& (2147483647 : Int32)) % (29 : Int32)) &&& 31))), .val (.int ((1 : Int32) <<< (((p1 &&& (2147483647 : Int32)) % (31 : Int32)) &&& 31))), .val (.int ((p2 &&& (2147483647 : Int32)) % (44 : Int32))), .val (.ref h0.size), .val (.long ((own_r_sizeOf A ((p2 &&& (2147483647 : Int32)) % (44 : Int32)))).toInt64), .second, .unset, .unset]) rfl zz) ?_
  show own_Goes p e below _ (T2.setTop (mkF m 61 #[.val (.int p0), .val (.int p1), .val (.int p2), .val (.int ((1 : Int32) <<< (((p0 &&& (2147483647 : Int32)) % (29 : Int32)) &&& 31))), .val (.int ((1 : Int32) <<< (((p1 &&& (2147483647 : Int32)) % (31 : Int32)) &&& 31))), .val (.int ((p2 &&& (2147483647 : Int32)) % (44 : Int32))), .val (.ref h0.size), .val (.long ((own_r_sizeOf A ((p2 &&& (2147483647 : Int32)) % (44 : Int32)))).toInt64), .second, .unset, .unset] []))
  refine own_by (fun _ zz => XS.iconst X2.here hx rfl (hb hby at_61) zz) ?_
  show own_Goes p e below _ (T2.setTop (mkF m 62 #[.val (.int p0), .val (.int p1), .val (.int p2), .val (.int ((1 : Int32) <<< (((p0 &&& (2147483647 : Int32)) % (29 : Int32)) &&& 31))), .val (.int ((1 : Int32) <<< (((p1 &&& (2147483647 : Int32)) % (31 : Int32)) &&& 31))), .val (.int ((p2 &&& (2147483647 : Int32)) % (44 : Int32))), .val (.ref h0.size), .val (.long ((own_r_sizeOf A ((p2 &&& (2147483647 : Int32)) % (44 : Int32)))).toInt64), .second, .unset, .unset] [(.int (4 : Int32))]))
  refine own_by (fun _ zz => XS.iload X2.here hx rfl (hb hby at_62) rfl zz) ?_
  show own_Goes p e below _ (T2.setTop (mkF m 64 #[.val (.int p0), .val (.int p1), .val (.int p2), .val (.int ((1 : Int32) <<< (((p0 &&& (2147483647 : Int32)) % (29 : Int32)) &&& 31))), .val (.int ((1 : Int32) <<< (((p1 &&& (2147483647 : Int32)) % (31 : Int32)) &&& 31))), .val (.int ((p2 &&& (2147483647 : Int32)) % (44 : Int32))), .val (.ref h0.size), .val (.long ((own_r_sizeOf A ((p2 &&& (2147483647 : Int32)) % (44 : Int32)))).toInt64), .second, .unset, .unset] [(.int ((1 : Int32) <<< (((p1 &&& (2147483647 : Int32)) % (31 : Int32)) &&& 31))), (.int (4 : Int32))]))
  refine own_callS0 X2 hx hZ (W := 0) (argsL := [(.int (4 : Int32)), (.int ((1 : Int32) <<< (((p1 &&& (2147483647 : Int32)) % (31 : Int32)) &&& 31)))]) (rest := []) hown (own_w21 hw) (own_w6 hw) (own_w7 hw) (own_w8 hw) (by decide) e2 (rm_min l hw W1 (4 : Int32) ((1 : Int32) <<< (((p1 &&& (2147483647 : Int32)) % (31 : Int32)) &&& 31))) (by decide) (by decide) (by decide) (by decide) (by rw [hml]; rfl) (lenOf own_pd1 rfl) rfl (Nat.le_of_ble_eq_true rfl) (hb hby at_64) fun T3 X3 e3 => ?_
  show own_Goes p e below _ (T3.setTop (mkF m 67 #[.val (.int p0), .val (.int p1), .val (.int p2), .val (.int ((1 : Int32) <<< (((p0 &&& (2147483647 : Int32)) % (29 : Int32)) &&& 31))), .val (.int ((1 : Int32) <<< (((p1 &&& (2147483647 : Int32)) % (31 : Int32)) &&& 31))), .val (.int ((p2 &&& (2147483647 : Int32)) % (44 : Int32))), .val (.ref h0.size), .val (.long ((own_r_sizeOf A ((p2 &&& (2147483647 : Int32)) % (44 : Int32)))).toInt64), .second, .unset, .unset] [(.int (own_r_min A (4 : Int32) ((1 : Int32) <<< (((p1 &&& (2147483647 : Int32)) % (31 : Int32)) &&& 31))))]))
  refine own_by (fun _ zz => XS.istore X3.here hx rfl (hb hby at_67) rfl (l' := #[.val (.int p0), .val (.int p1), .val (.int p2), .val (.int ((1 : Int32) <<< (((p0 &&& (2147483647 : Int32)) % (29 : Int32)) &&& 31))), .val (.int ((1 : Int32) <<< (((p1 &&& (2147483647 : Int32)) % (31 : Int32)) &&& 31))), .val (.int ((p2 &&& (2147483647 : Int32)) % (44 : Int32))), .val (.ref h0.size), .val (.long ((own_r_sizeOf A ((p2 &&& (2147483647 : Int32)) % (44 : Int32)))).toInt64), .second, .val (.int (own_r_min A (4 : Int32) ((1 : Int32) <<< (((p1 &&& (2147483647 : Int32)) % (31 : Int32)) &&& 31)))), .unset]) rfl zz) ?_
  show own_Goes p e below _ (T3.setTop (mkF m 69 #[.val (.int p0), .val (.int p1), .val (.int p2), .val (.int ((1 : Int32) <<< (((p0 &&& (2147483647 : Int32)) % (29 : Int32)) &&& 31))), .val (.int ((1 : Int32) <<< (((p1 &&& (2147483647 : Int32)) % (31 : Int32)) &&& 31))), .val (.int ((p2 &&& (2147483647 : Int32)) % (44 : Int32))), .val (.ref h0.size), .val (.long ((own_r_sizeOf A ((p2 &&& (2147483647 : Int32)) % (44 : Int32)))).toInt64), .second, .val (.int (own_r_min A (4 : Int32) ((1 : Int32) <<< (((p1 &&& (2147483647 : Int32)) % (31 : Int32)) &&& 31)))), .unset] []))
  refine own_by (fun _ zz => XS.iload X3.here hx rfl (hb hby at_69) rfl zz) ?_
  show own_Goes p e below _ (T3.setTop (mkF m 71 #[.val (.int p0), .val (.int p1), .val (.int p2), .val (.int ((1 : Int32) <<< (((p0 &&& (2147483647 : Int32)) % (29 : Int32)) &&& 31))), .val (.int ((1 : Int32) <<< (((p1 &&& (2147483647 : Int32)) % (31 : Int32)) &&& 31))), .val (.int ((p2 &&& (2147483647 : Int32)) % (44 : Int32))), .val (.ref h0.size), .val (.long ((own_r_sizeOf A ((p2 &&& (2147483647 : Int32)) % (44 : Int32)))).toInt64), .second, .val (.int (own_r_min A (4 : Int32) ((1 : Int32) <<< (((p1 &&& (2147483647 : Int32)) % (31 : Int32)) &&& 31)))), .unset] [(.int (own_r_min A (4 : Int32) ((1 : Int32) <<< (((p1 &&& (2147483647 : Int32)) % (31 : Int32)) &&& 31))))]))
  refine own_by (fun _ zz => XS.iconst X3.here hx rfl (hb hby at_71) zz) ?_
  show own_Goes p e below _ (T3.setTop (mkF m 72 #[.val (.int p0), .val (.int p1), .val (.int p2), .val (.int ((1 : Int32) <<< (((p0 &&& (2147483647 : Int32)) % (29 : Int32)) &&& 31))), .val (.int ((1 : Int32) <<< (((p1 &&& (2147483647 : Int32)) % (31 : Int32)) &&& 31))), .val (.int ((p2 &&& (2147483647 : Int32)) % (44 : Int32))), .val (.ref h0.size), .val (.long ((own_r_sizeOf A ((p2 &&& (2147483647 : Int32)) % (44 : Int32)))).toInt64), .second, .val (.int (own_r_min A (4 : Int32) ((1 : Int32) <<< (((p1 &&& (2147483647 : Int32)) % (31 : Int32)) &&& 31)))), .unset] [(.int (1 : Int32)), (.int (own_r_min A (4 : Int32) ((1 : Int32) <<< (((p1 &&& (2147483647 : Int32)) % (31 : Int32)) &&& 31))))]))
  by_cases q4 : (own_r_min A (4 : Int32) ((1 : Int32) <<< (((p1 &&& (2147483647 : Int32)) % (31 : Int32)) &&& 31))) = (1 : Int32)
  · refine own_by (fun _ zz => XS.icmpYes X3.here hx rfl (pc0 := 72) (pc' := 85) rfl (hb hby at_72) rfl (XT.ii_eq_t q4) (by decide) (by decide) zz) ?_
    show own_Goes p e below _ (T3.setTop (mkF m 85 #[.val (.int p0), .val (.int p1), .val (.int p2), .val (.int ((1 : Int32) <<< (((p0 &&& (2147483647 : Int32)) % (29 : Int32)) &&& 31))), .val (.int ((1 : Int32) <<< (((p1 &&& (2147483647 : Int32)) % (31 : Int32)) &&& 31))), .val (.int ((p2 &&& (2147483647 : Int32)) % (44 : Int32))), .val (.ref h0.size), .val (.long ((own_r_sizeOf A ((p2 &&& (2147483647 : Int32)) % (44 : Int32)))).toInt64), .second, .val (.int (own_r_min A (4 : Int32) ((1 : Int32) <<< (((p1 &&& (2147483647 : Int32)) % (31 : Int32)) &&& 31)))), .unset] []))
    refine own_by (fun _ zz => XS.iconst X3.here hx rfl (hb hby at_85) zz) ?_
    show own_Goes p e below _ (T3.setTop (mkF m 86 #[.val (.int p0), .val (.int p1), .val (.int p2), .val (.int ((1 : Int32) <<< (((p0 &&& (2147483647 : Int32)) % (29 : Int32)) &&& 31))), .val (.int ((1 : Int32) <<< (((p1 &&& (2147483647 : Int32)) % (31 : Int32)) &&& 31))), .val (.int ((p2 &&& (2147483647 : Int32)) % (44 : Int32))), .val (.ref h0.size), .val (.long ((own_r_sizeOf A ((p2 &&& (2147483647 : Int32)) % (44 : Int32)))).toInt64), .second, .val (.int (own_r_min A (4 : Int32) ((1 : Int32) <<< (((p1 &&& (2147483647 : Int32)) % (31 : Int32)) &&& 31)))), .unset] [(.int (1 : Int32))]))
    refine own_by (fun _ zz => XS.istore X3.here hx rfl (hb hby at_86) rfl (l' := #[.val (.int p0), .val (.int p1), .val (.int p2), .val (.int ((1 : Int32) <<< (((p0 &&& (2147483647 : Int32)) % (29 : Int32)) &&& 31))), .val (.int ((1 : Int32) <<< (((p1 &&& (2147483647 : Int32)) % (31 : Int32)) &&& 31))), .val (.int ((p2 &&& (2147483647 : Int32)) % (44 : Int32))), .val (.ref h0.size), .val (.long ((own_r_sizeOf A ((p2 &&& (2147483647 : Int32)) % (44 : Int32)))).toInt64), .second, .val (.int (own_r_min A (4 : Int32) ((1 : Int32) <<< (((p1 &&& (2147483647 : Int32)) % (31 : Int32)) &&& 31)))), .val (.int (1 : Int32))]) rfl zz) ?_
    show own_Goes p e below _ (T3.setTop (mkF m 88 #[.val (.int p0), .val (.int p1), .val (.int p2), .val (.int ((1 : Int32) <<< (((p0 &&& (2147483647 : Int32)) % (29 : Int32)) &&& 31))), .val (.int ((1 : Int32) <<< (((p1 &&& (2147483647 : Int32)) % (31 : Int32)) &&& 31))), .val (.int ((p2 &&& (2147483647 : Int32)) % (44 : Int32))), .val (.ref h0.size), .val (.long ((own_r_sizeOf A ((p2 &&& (2147483647 : Int32)) % (44 : Int32)))).toInt64), .second, .val (.int (own_r_min A (4 : Int32) ((1 : Int32) <<< (((p1 &&& (2147483647 : Int32)) % (31 : Int32)) &&& 31)))), .val (.int (1 : Int32))] []))
    refine own_by (fun _ zz => XS.goto X3.here hx rfl (pc0 := 88) (pc' := 120) rfl (hb hby at_88) (by decide) (by decide) zz) ?_
    show own_Goes p e below _ (T3.setTop (mkF m 120 #[.val (.int p0), .val (.int p1), .val (.int p2), .val (.int ((1 : Int32) <<< (((p0 &&& (2147483647 : Int32)) % (29 : Int32)) &&& 31))), .val (.int ((1 : Int32) <<< (((p1 &&& (2147483647 : Int32)) % (31 : Int32)) &&& 31))), .val (.int ((p2 &&& (2147483647 : Int32)) % (44 : Int32))), .val (.ref h0.size), .val (.long ((own_r_sizeOf A ((p2 &&& (2147483647 : Int32)) % (44 : Int32)))).toInt64), .second, .val (.int (own_r_min A (4 : Int32) ((1 : Int32) <<< (((p1 &&& (2147483647 : Int32)) % (31 : Int32)) &&& 31)))), .val (.int (1 : Int32))] []))
    refine own_by (fun _ zz => XS.aload X3.here hx rfl (hb hby at_120) rfl rfl zz) ?_
    show own_Goes p e below _ (T3.setTop (mkF m 122 #[.val (.int p0), .val (.int p1), .val (.int p2), .val (.int ((1 : Int32) <<< (((p0 &&& (2147483647 : Int32)) % (29 : Int32)) &&& 31))), .val (.int ((1 : Int32) <<< (((p1 &&& (2147483647 : Int32)) % (31 : Int32)) &&& 31))), .val (.int ((p2 &&& (2147483647 : Int32)) % (44 : Int32))), .val (.ref h0.size), .val (.long ((own_r_sizeOf A ((p2 &&& (2147483647 : Int32)) % (44 : Int32)))).toInt64), .second, .val (.int (own_r_min A (4 : Int32) ((1 : Int32) <<< (((p1 &&& (2147483647 : Int32)) % (31 : Int32)) &&& 31)))), .val (.int (1 : Int32))] [(.ref h0.size)]))
    refine own_by (fun _ zz => XS.iload X3.here hx rfl (hb hby at_122) rfl zz) ?_
    show own_Goes p e below _ (T3.setTop (mkF m 124 #[.val (.int p0), .val (.int p1), .val (.int p2), .val (.int ((1 : Int32) <<< (((p0 &&& (2147483647 : Int32)) % (29 : Int32)) &&& 31))), .val (.int ((1 : Int32) <<< (((p1 &&& (2147483647 : Int32)) % (31 : Int32)) &&& 31))), .val (.int ((p2 &&& (2147483647 : Int32)) % (44 : Int32))), .val (.ref h0.size), .val (.long ((own_r_sizeOf A ((p2 &&& (2147483647 : Int32)) % (44 : Int32)))).toInt64), .second, .val (.int (own_r_min A (4 : Int32) ((1 : Int32) <<< (((p1 &&& (2147483647 : Int32)) % (31 : Int32)) &&& 31)))), .val (.int (1 : Int32))] [(.int ((p2 &&& (2147483647 : Int32)) % (44 : Int32))), (.ref h0.size)]))
    refine own_iaload X3 hx hZ e3 F1 i hI hi (v := (.int (own_rp A ((1 : Int32) <<< (((p0 &&& (2147483647 : Int32)) % (29 : Int32)) &&& 31)) (own_r_min A (4 : Int32) ((1 : Int32) <<< (((p1 &&& (2147483647 : Int32)) % (31 : Int32)) &&& 31))) i))) rfl (hb hby at_124) ?_
    show own_Goes p e below _ (T3.setTop (mkF m 125 #[.val (.int p0), .val (.int p1), .val (.int p2), .val (.int ((1 : Int32) <<< (((p0 &&& (2147483647 : Int32)) % (29 : Int32)) &&& 31))), .val (.int ((1 : Int32) <<< (((p1 &&& (2147483647 : Int32)) % (31 : Int32)) &&& 31))), .val (.int ((p2 &&& (2147483647 : Int32)) % (44 : Int32))), .val (.ref h0.size), .val (.long ((own_r_sizeOf A ((p2 &&& (2147483647 : Int32)) % (44 : Int32)))).toInt64), .second, .val (.int (own_r_min A (4 : Int32) ((1 : Int32) <<< (((p1 &&& (2147483647 : Int32)) % (31 : Int32)) &&& 31)))), .val (.int (1 : Int32))] [(.int (own_rp A ((1 : Int32) <<< (((p0 &&& (2147483647 : Int32)) % (29 : Int32)) &&& 31)) (own_r_min A (4 : Int32) ((1 : Int32) <<< (((p1 &&& (2147483647 : Int32)) % (31 : Int32)) &&& 31))) i))]))
    refine own_by (fun _ zz => XS.iload X3.here hx rfl (hb hby at_125) rfl zz) ?_
    show own_Goes p e below _ (T3.setTop (mkF m 127 #[.val (.int p0), .val (.int p1), .val (.int p2), .val (.int ((1 : Int32) <<< (((p0 &&& (2147483647 : Int32)) % (29 : Int32)) &&& 31))), .val (.int ((1 : Int32) <<< (((p1 &&& (2147483647 : Int32)) % (31 : Int32)) &&& 31))), .val (.int ((p2 &&& (2147483647 : Int32)) % (44 : Int32))), .val (.ref h0.size), .val (.long ((own_r_sizeOf A ((p2 &&& (2147483647 : Int32)) % (44 : Int32)))).toInt64), .second, .val (.int (own_r_min A (4 : Int32) ((1 : Int32) <<< (((p1 &&& (2147483647 : Int32)) % (31 : Int32)) &&& 31)))), .val (.int (1 : Int32))] [(.int (1 : Int32)), (.int (own_rp A ((1 : Int32) <<< (((p0 &&& (2147483647 : Int32)) % (29 : Int32)) &&& 31)) (own_r_min A (4 : Int32) ((1 : Int32) <<< (((p1 &&& (2147483647 : Int32)) % (31 : Int32)) &&& 31))) i))]))
    refine own_by (fun _ zz => XS.icmpNo X3.here hx rfl (hb hby at_127) rfl (XT.ii_ne_f (own_fin1 A q4)) zz) ?_
    show own_Goes p e below _ (T3.setTop (mkF m 130 #[.val (.int p0), .val (.int p1), .val (.int p2), .val (.int ((1 : Int32) <<< (((p0 &&& (2147483647 : Int32)) % (29 : Int32)) &&& 31))), .val (.int ((1 : Int32) <<< (((p1 &&& (2147483647 : Int32)) % (31 : Int32)) &&& 31))), .val (.int ((p2 &&& (2147483647 : Int32)) % (44 : Int32))), .val (.ref h0.size), .val (.long ((own_r_sizeOf A ((p2 &&& (2147483647 : Int32)) % (44 : Int32)))).toInt64), .second, .val (.int (own_r_min A (4 : Int32) ((1 : Int32) <<< (((p1 &&& (2147483647 : Int32)) % (31 : Int32)) &&& 31)))), .val (.int (1 : Int32))] []))
    refine own_by (fun _ zz => XS.iconst X3.here hx rfl (hb hby at_130) zz) ?_
    show own_Goes p e below _ (T3.setTop (mkF m 131 #[.val (.int p0), .val (.int p1), .val (.int p2), .val (.int ((1 : Int32) <<< (((p0 &&& (2147483647 : Int32)) % (29 : Int32)) &&& 31))), .val (.int ((1 : Int32) <<< (((p1 &&& (2147483647 : Int32)) % (31 : Int32)) &&& 31))), .val (.int ((p2 &&& (2147483647 : Int32)) % (44 : Int32))), .val (.ref h0.size), .val (.long ((own_r_sizeOf A ((p2 &&& (2147483647 : Int32)) % (44 : Int32)))).toInt64), .second, .val (.int (own_r_min A (4 : Int32) ((1 : Int32) <<< (((p1 &&& (2147483647 : Int32)) % (31 : Int32)) &&& 31)))), .val (.int (1 : Int32))] [(.int (1 : Int32))]))
    refine own_by (fun _ zz => XS.goto X3.here hx rfl (pc0 := 131) (pc' := 135) rfl (hb hby at_131) (by decide) (by decide) zz) ?_
    show own_Goes p e below _ (T3.setTop (mkF m 135 #[.val (.int p0), .val (.int p1), .val (.int p2), .val (.int ((1 : Int32) <<< (((p0 &&& (2147483647 : Int32)) % (29 : Int32)) &&& 31))), .val (.int ((1 : Int32) <<< (((p1 &&& (2147483647 : Int32)) % (31 : Int32)) &&& 31))), .val (.int ((p2 &&& (2147483647 : Int32)) % (44 : Int32))), .val (.ref h0.size), .val (.long ((own_r_sizeOf A ((p2 &&& (2147483647 : Int32)) % (44 : Int32)))).toInt64), .second, .val (.int (own_r_min A (4 : Int32) ((1 : Int32) <<< (((p1 &&& (2147483647 : Int32)) % (31 : Int32)) &&& 31)))), .val (.int (1 : Int32))] [(.int (1 : Int32))]))
    refine own_retN X3 hx hlk (ty := .boolean) hret (by simp) (hb hby at_135) (by decide) (by decide) ?_
    exact ⟨rfl, N1⟩
  · refine own_by (fun _ zz => XS.icmpNo X3.here hx rfl (hb hby at_72) rfl (XT.ii_eq_f q4) zz) ?_
    show own_Goes p e below _ (T3.setTop (mkF m 75 #[.val (.int p0), .val (.int p1), .val (.int p2), .val (.int ((1 : Int32) <<< (((p0 &&& (2147483647 : Int32)) % (29 : Int32)) &&& 31))), .val (.int ((1 : Int32) <<< (((p1 &&& (2147483647 : Int32)) % (31 : Int32)) &&& 31))), .val (.int ((p2 &&& (2147483647 : Int32)) % (44 : Int32))), .val (.ref h0.size), .val (.long ((own_r_sizeOf A ((p2 &&& (2147483647 : Int32)) % (44 : Int32)))).toInt64), .second, .val (.int (own_r_min A (4 : Int32) ((1 : Int32) <<< (((p1 &&& (2147483647 : Int32)) % (31 : Int32)) &&& 31)))), .unset] []))
    refine own_by (fun _ zz => XS.iloadN X3.here hx rfl (hb hby at_75) rfl zz) ?_
    show own_Goes p e below _ (T3.setTop (mkF m 76 #[.val (.int p0), .val (.int p1), .val (.int p2), .val (.int ((1 : Int32) <<< (((p0 &&& (2147483647 : Int32)) % (29 : Int32)) &&& 31))), .val (.int ((1 : Int32) <<< (((p1 &&& (2147483647 : Int32)) % (31 : Int32)) &&& 31))), .val (.int ((p2 &&& (2147483647 : Int32)) % (44 : Int32))), .val (.ref h0.size), .val (.long ((own_r_sizeOf A ((p2 &&& (2147483647 : Int32)) % (44 : Int32)))).toInt64), .second, .val (.int (own_r_min A (4 : Int32) ((1 : Int32) <<< (((p1 &&& (2147483647 : Int32)) % (31 : Int32)) &&& 31)))), .unset] [(.int ((1 : Int32) <<< (((p0 &&& (2147483647 : Int32)) % (29 : Int32)) &&& 31)))]))
    refine own_by (fun _ zz => XT.i2l X3.here hx rfl (hb hby at_76) rfl zz) ?_
    show own_Goes p e below _ (T3.setTop (mkF m 77 #[.val (.int p0), .val (.int p1), .val (.int p2), .val (.int ((1 : Int32) <<< (((p0 &&& (2147483647 : Int32)) % (29 : Int32)) &&& 31))), .val (.int ((1 : Int32) <<< (((p1 &&& (2147483647 : Int32)) % (31 : Int32)) &&& 31))), .val (.int ((p2 &&& (2147483647 : Int32)) % (44 : Int32))), .val (.ref h0.size), .val (.long ((own_r_sizeOf A ((p2 &&& (2147483647 : Int32)) % (44 : Int32)))).toInt64), .second, .val (.int (own_r_min A (4 : Int32) ((1 : Int32) <<< (((p1 &&& (2147483647 : Int32)) % (31 : Int32)) &&& 31)))), .unset] [(.long (((1 : Int32) <<< (((p0 &&& (2147483647 : Int32)) % (29 : Int32)) &&& 31))).toInt64)]))
    refine own_by (fun _ zz => XT.lload X3.here hx rfl (hb hby at_77) rfl zz) ?_
    show own_Goes p e below _ (T3.setTop (mkF m 79 #[.val (.int p0), .val (.int p1), .val (.int p2), .val (.int ((1 : Int32) <<< (((p0 &&& (2147483647 : Int32)) % (29 : Int32)) &&& 31))), .val (.int ((1 : Int32) <<< (((p1 &&& (2147483647 : Int32)) % (31 : Int32)) &&& 31))), .val (.int ((p2 &&& (2147483647 : Int32)) % (44 : Int32))), .val (.ref h0.size), .val (.long ((own_r_sizeOf A ((p2 &&& (2147483647 : Int32)) % (44 : Int32)))).toInt64), .second, .val (.int (own_r_min A (4 : Int32) ((1 : Int32) <<< (((p1 &&& (2147483647 : Int32)) % (31 : Int32)) &&& 31)))), .unset] [(.long ((own_r_sizeOf A ((p2 &&& (2147483647 : Int32)) % (44 : Int32)))).toInt64), (.long (((1 : Int32) <<< (((p0 &&& (2147483647 : Int32)) % (29 : Int32)) &&& 31))).toInt64)]))
    refine own_callS0 X3 hx hZ (W := 0) (argsL := [(.long (((1 : Int32) <<< (((p0 &&& (2147483647 : Int32)) % (29 : Int32)) &&& 31))).toInt64), (.long ((own_r_sizeOf A ((p2 &&& (2147483647 : Int32)) % (44 : Int32)))).toInt64)]) (rest := []) hown (own_w22 hw) (own_w23 hw) (own_w19 hw) (own_w24 hw) (by decide) e3 (rm_fits l hw W1 (((1 : Int32) <<< (((p0 &&& (2147483647 : Int32)) % (29 : Int32)) &&& 31))).toInt64 ((own_r_sizeOf A ((p2 &&& (2147483647 : Int32)) % (44 : Int32)))).toInt64 hS0) (by decide) (by decide) (by decide) (by decide) (by rw [hml]; rfl) (lenOf own_pd4 rfl) rfl (Nat.le_of_ble_eq_true rfl) (hb hby at_79) fun T5 X5 e5 => ?_
    show own_Goes p e below _ (T5.setTop (mkF m 82 #[.val (.int p0), .val (.int p1), .val (.int p2), .val (.int ((1 : Int32) <<< (((p0 &&& (2147483647 : Int32)) % (29 : Int32)) &&& 31))), .val (.int ((1 : Int32) <<< (((p1 &&& (2147483647 : Int32)) % (31 : Int32)) &&& 31))), .val (.int ((p2 &&& (2147483647 : Int32)) % (44 : Int32))), .val (.ref h0.size), .val (.long ((own_r_sizeOf A ((p2 &&& (2147483647 : Int32)) % (44 : Int32)))).toInt64), .second, .val (.int (own_r_min A (4 : Int32) ((1 : Int32) <<< (((p1 &&& (2147483647 : Int32)) % (31 : Int32)) &&& 31)))), .unset] [(.int (own_r_fits A (((1 : Int32) <<< (((p0 &&& (2147483647 : Int32)) % (29 : Int32)) &&& 31))).toInt64 ((own_r_sizeOf A ((p2 &&& (2147483647 : Int32)) % (44 : Int32)))).toInt64))]))
    by_cases q6 : (own_r_fits A (((1 : Int32) <<< (((p0 &&& (2147483647 : Int32)) % (29 : Int32)) &&& 31))).toInt64 ((own_r_sizeOf A ((p2 &&& (2147483647 : Int32)) % (44 : Int32)))).toInt64) = 0
    · refine own_by (fun _ zz => XS.ifYes X5.here hx rfl (pc0 := 82) (pc' := 91) rfl (hb hby at_82) rfl (XT.i0_eq_t q6) (by decide) (by decide) zz) ?_
      show own_Goes p e below _ (T5.setTop (mkF m 91 #[.val (.int p0), .val (.int p1), .val (.int p2), .val (.int ((1 : Int32) <<< (((p0 &&& (2147483647 : Int32)) % (29 : Int32)) &&& 31))), .val (.int ((1 : Int32) <<< (((p1 &&& (2147483647 : Int32)) % (31 : Int32)) &&& 31))), .val (.int ((p2 &&& (2147483647 : Int32)) % (44 : Int32))), .val (.ref h0.size), .val (.long ((own_r_sizeOf A ((p2 &&& (2147483647 : Int32)) % (44 : Int32)))).toInt64), .second, .val (.int (own_r_min A (4 : Int32) ((1 : Int32) <<< (((p1 &&& (2147483647 : Int32)) % (31 : Int32)) &&& 31)))), .unset] []))
      refine own_by (fun _ zz => XS.iload X5.here hx rfl (hb hby at_91) rfl zz) ?_
      show own_Goes p e below _ (T5.setTop (mkF m 93 #[.val (.int p0), .val (.int p1), .val (.int p2), .val (.int ((1 : Int32) <<< (((p0 &&& (2147483647 : Int32)) % (29 : Int32)) &&& 31))), .val (.int ((1 : Int32) <<< (((p1 &&& (2147483647 : Int32)) % (31 : Int32)) &&& 31))), .val (.int ((p2 &&& (2147483647 : Int32)) % (44 : Int32))), .val (.ref h0.size), .val (.long ((own_r_sizeOf A ((p2 &&& (2147483647 : Int32)) % (44 : Int32)))).toInt64), .second, .val (.int (own_r_min A (4 : Int32) ((1 : Int32) <<< (((p1 &&& (2147483647 : Int32)) % (31 : Int32)) &&& 31)))), .unset] [(.int (own_r_min A (4 : Int32) ((1 : Int32) <<< (((p1 &&& (2147483647 : Int32)) % (31 : Int32)) &&& 31))))]))
      refine own_by (fun _ zz => XS.iconst X5.here hx rfl (hb hby at_93) zz) ?_
      show own_Goes p e below _ (T5.setTop (mkF m 94 #[.val (.int p0), .val (.int p1), .val (.int p2), .val (.int ((1 : Int32) <<< (((p0 &&& (2147483647 : Int32)) % (29 : Int32)) &&& 31))), .val (.int ((1 : Int32) <<< (((p1 &&& (2147483647 : Int32)) % (31 : Int32)) &&& 31))), .val (.int ((p2 &&& (2147483647 : Int32)) % (44 : Int32))), .val (.ref h0.size), .val (.long ((own_r_sizeOf A ((p2 &&& (2147483647 : Int32)) % (44 : Int32)))).toInt64), .second, .val (.int (own_r_min A (4 : Int32) ((1 : Int32) <<< (((p1 &&& (2147483647 : Int32)) % (31 : Int32)) &&& 31)))), .unset] [(.int (2 : Int32)), (.int (own_r_min A (4 : Int32) ((1 : Int32) <<< (((p1 &&& (2147483647 : Int32)) % (31 : Int32)) &&& 31))))]))
      by_cases q7 : (own_r_min A (4 : Int32) ((1 : Int32) <<< (((p1 &&& (2147483647 : Int32)) % (31 : Int32)) &&& 31))) = (2 : Int32)
      · refine own_by (fun _ zz => XS.icmpYes X5.here hx rfl (pc0 := 94) (pc' := 111) rfl (hb hby at_94) rfl (XT.ii_eq_t q7) (by decide) (by decide) zz) ?_
        show own_Goes p e below _ (T5.setTop (mkF m 111 #[.val (.int p0), .val (.int p1), .val (.int p2), .val (.int ((1 : Int32) <<< (((p0 &&& (2147483647 : Int32)) % (29 : Int32)) &&& 31))), .val (.int ((1 : Int32) <<< (((p1 &&& (2147483647 : Int32)) % (31 : Int32)) &&& 31))), .val (.int ((p2 &&& (2147483647 : Int32)) % (44 : Int32))), .val (.ref h0.size), .val (.long ((own_r_sizeOf A ((p2 &&& (2147483647 : Int32)) % (44 : Int32)))).toInt64), .second, .val (.int (own_r_min A (4 : Int32) ((1 : Int32) <<< (((p1 &&& (2147483647 : Int32)) % (31 : Int32)) &&& 31)))), .unset] []))
        refine own_by (fun _ zz => XS.iconst X5.here hx rfl (hb hby at_111) zz) ?_
        show own_Goes p e below _ (T5.setTop (mkF m 112 #[.val (.int p0), .val (.int p1), .val (.int p2), .val (.int ((1 : Int32) <<< (((p0 &&& (2147483647 : Int32)) % (29 : Int32)) &&& 31))), .val (.int ((1 : Int32) <<< (((p1 &&& (2147483647 : Int32)) % (31 : Int32)) &&& 31))), .val (.int ((p2 &&& (2147483647 : Int32)) % (44 : Int32))), .val (.ref h0.size), .val (.long ((own_r_sizeOf A ((p2 &&& (2147483647 : Int32)) % (44 : Int32)))).toInt64), .second, .val (.int (own_r_min A (4 : Int32) ((1 : Int32) <<< (((p1 &&& (2147483647 : Int32)) % (31 : Int32)) &&& 31)))), .unset] [(.int (2 : Int32))]))
        refine own_by (fun _ zz => XS.istore X5.here hx rfl (hb hby at_112) rfl (l' := #[.val (.int p0), .val (.int p1), .val (.int p2), .val (.int ((1 : Int32) <<< (((p0 &&& (2147483647 : Int32)) % (29 : Int32)) &&& 31))), .val (.int ((1 : Int32) <<< (((p1 &&& (2147483647 : Int32)) % (31 : Int32)) &&& 31))), .val (.int ((p2 &&& (2147483647 : Int32)) % (44 : Int32))), .val (.ref h0.size), .val (.long ((own_r_sizeOf A ((p2 &&& (2147483647 : Int32)) % (44 : Int32)))).toInt64), .second, .val (.int (own_r_min A (4 : Int32) ((1 : Int32) <<< (((p1 &&& (2147483647 : Int32)) % (31 : Int32)) &&& 31)))), .val (.int (2 : Int32))]) rfl zz) ?_
        show own_Goes p e below _ (T5.setTop (mkF m 114 #[.val (.int p0), .val (.int p1), .val (.int p2), .val (.int ((1 : Int32) <<< (((p0 &&& (2147483647 : Int32)) % (29 : Int32)) &&& 31))), .val (.int ((1 : Int32) <<< (((p1 &&& (2147483647 : Int32)) % (31 : Int32)) &&& 31))), .val (.int ((p2 &&& (2147483647 : Int32)) % (44 : Int32))), .val (.ref h0.size), .val (.long ((own_r_sizeOf A ((p2 &&& (2147483647 : Int32)) % (44 : Int32)))).toInt64), .second, .val (.int (own_r_min A (4 : Int32) ((1 : Int32) <<< (((p1 &&& (2147483647 : Int32)) % (31 : Int32)) &&& 31)))), .val (.int (2 : Int32))] []))
        refine own_by (fun _ zz => XS.goto X5.here hx rfl (pc0 := 114) (pc' := 120) rfl (hb hby at_114) (by decide) (by decide) zz) ?_
        show own_Goes p e below _ (T5.setTop (mkF m 120 #[.val (.int p0), .val (.int p1), .val (.int p2), .val (.int ((1 : Int32) <<< (((p0 &&& (2147483647 : Int32)) % (29 : Int32)) &&& 31))), .val (.int ((1 : Int32) <<< (((p1 &&& (2147483647 : Int32)) % (31 : Int32)) &&& 31))), .val (.int ((p2 &&& (2147483647 : Int32)) % (44 : Int32))), .val (.ref h0.size), .val (.long ((own_r_sizeOf A ((p2 &&& (2147483647 : Int32)) % (44 : Int32)))).toInt64), .second, .val (.int (own_r_min A (4 : Int32) ((1 : Int32) <<< (((p1 &&& (2147483647 : Int32)) % (31 : Int32)) &&& 31)))), .val (.int (2 : Int32))] []))
        refine own_by (fun _ zz => XS.aload X5.here hx rfl (hb hby at_120) rfl rfl zz) ?_
        show own_Goes p e below _ (T5.setTop (mkF m 122 #[.val (.int p0), .val (.int p1), .val (.int p2), .val (.int ((1 : Int32) <<< (((p0 &&& (2147483647 : Int32)) % (29 : Int32)) &&& 31))), .val (.int ((1 : Int32) <<< (((p1 &&& (2147483647 : Int32)) % (31 : Int32)) &&& 31))), .val (.int ((p2 &&& (2147483647 : Int32)) % (44 : Int32))), .val (.ref h0.size), .val (.long ((own_r_sizeOf A ((p2 &&& (2147483647 : Int32)) % (44 : Int32)))).toInt64), .second, .val (.int (own_r_min A (4 : Int32) ((1 : Int32) <<< (((p1 &&& (2147483647 : Int32)) % (31 : Int32)) &&& 31)))), .val (.int (2 : Int32))] [(.ref h0.size)]))
        refine own_by (fun _ zz => XS.iload X5.here hx rfl (hb hby at_122) rfl zz) ?_
        show own_Goes p e below _ (T5.setTop (mkF m 124 #[.val (.int p0), .val (.int p1), .val (.int p2), .val (.int ((1 : Int32) <<< (((p0 &&& (2147483647 : Int32)) % (29 : Int32)) &&& 31))), .val (.int ((1 : Int32) <<< (((p1 &&& (2147483647 : Int32)) % (31 : Int32)) &&& 31))), .val (.int ((p2 &&& (2147483647 : Int32)) % (44 : Int32))), .val (.ref h0.size), .val (.long ((own_r_sizeOf A ((p2 &&& (2147483647 : Int32)) % (44 : Int32)))).toInt64), .second, .val (.int (own_r_min A (4 : Int32) ((1 : Int32) <<< (((p1 &&& (2147483647 : Int32)) % (31 : Int32)) &&& 31)))), .val (.int (2 : Int32))] [(.int ((p2 &&& (2147483647 : Int32)) % (44 : Int32))), (.ref h0.size)]))
        refine own_iaload X5 hx hZ e5 F1 i hI hi (v := (.int (own_rp A ((1 : Int32) <<< (((p0 &&& (2147483647 : Int32)) % (29 : Int32)) &&& 31)) (own_r_min A (4 : Int32) ((1 : Int32) <<< (((p1 &&& (2147483647 : Int32)) % (31 : Int32)) &&& 31))) i))) rfl (hb hby at_124) ?_
        show own_Goes p e below _ (T5.setTop (mkF m 125 #[.val (.int p0), .val (.int p1), .val (.int p2), .val (.int ((1 : Int32) <<< (((p0 &&& (2147483647 : Int32)) % (29 : Int32)) &&& 31))), .val (.int ((1 : Int32) <<< (((p1 &&& (2147483647 : Int32)) % (31 : Int32)) &&& 31))), .val (.int ((p2 &&& (2147483647 : Int32)) % (44 : Int32))), .val (.ref h0.size), .val (.long ((own_r_sizeOf A ((p2 &&& (2147483647 : Int32)) % (44 : Int32)))).toInt64), .second, .val (.int (own_r_min A (4 : Int32) ((1 : Int32) <<< (((p1 &&& (2147483647 : Int32)) % (31 : Int32)) &&& 31)))), .val (.int (2 : Int32))] [(.int (own_rp A ((1 : Int32) <<< (((p0 &&& (2147483647 : Int32)) % (29 : Int32)) &&& 31)) (own_r_min A (4 : Int32) ((1 : Int32) <<< (((p1 &&& (2147483647 : Int32)) % (31 : Int32)) &&& 31))) i))]))
        refine own_by (fun _ zz => XS.iload X5.here hx rfl (hb hby at_125) rfl zz) ?_
        show own_Goes p e below _ (T5.setTop (mkF m 127 #[.val (.int p0), .val (.int p1), .val (.int p2), .val (.int ((1 : Int32) <<< (((p0 &&& (2147483647 : Int32)) % (29 : Int32)) &&& 31))), .val (.int ((1 : Int32) <<< (((p1 &&& (2147483647 : Int32)) % (31 : Int32)) &&& 31))), .val (.int ((p2 &&& (2147483647 : Int32)) % (44 : Int32))), .val (.ref h0.size), .val (.long ((own_r_sizeOf A ((p2 &&& (2147483647 : Int32)) % (44 : Int32)))).toInt64), .second, .val (.int (own_r_min A (4 : Int32) ((1 : Int32) <<< (((p1 &&& (2147483647 : Int32)) % (31 : Int32)) &&& 31)))), .val (.int (2 : Int32))] [(.int (2 : Int32)), (.int (own_rp A ((1 : Int32) <<< (((p0 &&& (2147483647 : Int32)) % (29 : Int32)) &&& 31)) (own_r_min A (4 : Int32) ((1 : Int32) <<< (((p1 &&& (2147483647 : Int32)) % (31 : Int32)) &&& 31))) i))]))
        refine own_by (fun _ zz => XS.icmpNo X5.here hx rfl (hb hby at_127) rfl (XT.ii_ne_f (own_fin3 A q7 (fun z => hL1.mp z q6))) zz) ?_
        show own_Goes p e below _ (T5.setTop (mkF m 130 #[.val (.int p0), .val (.int p1), .val (.int p2), .val (.int ((1 : Int32) <<< (((p0 &&& (2147483647 : Int32)) % (29 : Int32)) &&& 31))), .val (.int ((1 : Int32) <<< (((p1 &&& (2147483647 : Int32)) % (31 : Int32)) &&& 31))), .val (.int ((p2 &&& (2147483647 : Int32)) % (44 : Int32))), .val (.ref h0.size), .val (.long ((own_r_sizeOf A ((p2 &&& (2147483647 : Int32)) % (44 : Int32)))).toInt64), .second, .val (.int (own_r_min A (4 : Int32) ((1 : Int32) <<< (((p1 &&& (2147483647 : Int32)) % (31 : Int32)) &&& 31)))), .val (.int (2 : Int32))] []))
        refine own_by (fun _ zz => XS.iconst X5.here hx rfl (hb hby at_130) zz) ?_
        show own_Goes p e below _ (T5.setTop (mkF m 131 #[.val (.int p0), .val (.int p1), .val (.int p2), .val (.int ((1 : Int32) <<< (((p0 &&& (2147483647 : Int32)) % (29 : Int32)) &&& 31))), .val (.int ((1 : Int32) <<< (((p1 &&& (2147483647 : Int32)) % (31 : Int32)) &&& 31))), .val (.int ((p2 &&& (2147483647 : Int32)) % (44 : Int32))), .val (.ref h0.size), .val (.long ((own_r_sizeOf A ((p2 &&& (2147483647 : Int32)) % (44 : Int32)))).toInt64), .second, .val (.int (own_r_min A (4 : Int32) ((1 : Int32) <<< (((p1 &&& (2147483647 : Int32)) % (31 : Int32)) &&& 31)))), .val (.int (2 : Int32))] [(.int (1 : Int32))]))
        refine own_by (fun _ zz => XS.goto X5.here hx rfl (pc0 := 131) (pc' := 135) rfl (hb hby at_131) (by decide) (by decide) zz) ?_
        show own_Goes p e below _ (T5.setTop (mkF m 135 #[.val (.int p0), .val (.int p1), .val (.int p2), .val (.int ((1 : Int32) <<< (((p0 &&& (2147483647 : Int32)) % (29 : Int32)) &&& 31))), .val (.int ((1 : Int32) <<< (((p1 &&& (2147483647 : Int32)) % (31 : Int32)) &&& 31))), .val (.int ((p2 &&& (2147483647 : Int32)) % (44 : Int32))), .val (.ref h0.size), .val (.long ((own_r_sizeOf A ((p2 &&& (2147483647 : Int32)) % (44 : Int32)))).toInt64), .second, .val (.int (own_r_min A (4 : Int32) ((1 : Int32) <<< (((p1 &&& (2147483647 : Int32)) % (31 : Int32)) &&& 31)))), .val (.int (2 : Int32))] [(.int (1 : Int32))]))
        refine own_retN X5 hx hlk (ty := .boolean) hret (by simp) (hb hby at_135) (by decide) (by decide) ?_
        exact ⟨rfl, N1⟩
      · refine own_by (fun _ zz => XS.icmpNo X5.here hx rfl (hb hby at_94) rfl (XT.ii_eq_f q7) zz) ?_
        show own_Goes p e below _ (T5.setTop (mkF m 97 #[.val (.int p0), .val (.int p1), .val (.int p2), .val (.int ((1 : Int32) <<< (((p0 &&& (2147483647 : Int32)) % (29 : Int32)) &&& 31))), .val (.int ((1 : Int32) <<< (((p1 &&& (2147483647 : Int32)) % (31 : Int32)) &&& 31))), .val (.int ((p2 &&& (2147483647 : Int32)) % (44 : Int32))), .val (.ref h0.size), .val (.long ((own_r_sizeOf A ((p2 &&& (2147483647 : Int32)) % (44 : Int32)))).toInt64), .second, .val (.int (own_r_min A (4 : Int32) ((1 : Int32) <<< (((p1 &&& (2147483647 : Int32)) % (31 : Int32)) &&& 31)))), .unset] []))
        refine own_by (fun _ zz => X5.ldc2J hx hown (mvT hZ (own_w26 hw)) rfl (hb hby at_97) zz) ?_
        show own_Goes p e below _ (T5.setTop (mkF m 100 #[.val (.int p0), .val (.int p1), .val (.int p2), .val (.int ((1 : Int32) <<< (((p0 &&& (2147483647 : Int32)) % (29 : Int32)) &&& 31))), .val (.int ((1 : Int32) <<< (((p1 &&& (2147483647 : Int32)) % (31 : Int32)) &&& 31))), .val (.int ((p2 &&& (2147483647 : Int32)) % (44 : Int32))), .val (.ref h0.size), .val (.long ((own_r_sizeOf A ((p2 &&& (2147483647 : Int32)) % (44 : Int32)))).toInt64), .second, .val (.int (own_r_min A (4 : Int32) ((1 : Int32) <<< (((p1 &&& (2147483647 : Int32)) % (31 : Int32)) &&& 31)))), .unset] [(.long (2 : Int64))]))
        refine own_by (fun _ zz => XS.iloadN X5.here hx rfl (hb hby at_100) rfl zz) ?_
        show own_Goes p e below _ (T5.setTop (mkF m 101 #[.val (.int p0), .val (.int p1), .val (.int p2), .val (.int ((1 : Int32) <<< (((p0 &&& (2147483647 : Int32)) % (29 : Int32)) &&& 31))), .val (.int ((1 : Int32) <<< (((p1 &&& (2147483647 : Int32)) % (31 : Int32)) &&& 31))), .val (.int ((p2 &&& (2147483647 : Int32)) % (44 : Int32))), .val (.ref h0.size), .val (.long ((own_r_sizeOf A ((p2 &&& (2147483647 : Int32)) % (44 : Int32)))).toInt64), .second, .val (.int (own_r_min A (4 : Int32) ((1 : Int32) <<< (((p1 &&& (2147483647 : Int32)) % (31 : Int32)) &&& 31)))), .unset] [(.int ((1 : Int32) <<< (((p0 &&& (2147483647 : Int32)) % (29 : Int32)) &&& 31))), (.long (2 : Int64))]))
        refine own_by (fun _ zz => XT.i2l X5.here hx rfl (hb hby at_101) rfl zz) ?_
        show own_Goes p e below _ (T5.setTop (mkF m 102 #[.val (.int p0), .val (.int p1), .val (.int p2), .val (.int ((1 : Int32) <<< (((p0 &&& (2147483647 : Int32)) % (29 : Int32)) &&& 31))), .val (.int ((1 : Int32) <<< (((p1 &&& (2147483647 : Int32)) % (31 : Int32)) &&& 31))), .val (.int ((p2 &&& (2147483647 : Int32)) % (44 : Int32))), .val (.ref h0.size), .val (.long ((own_r_sizeOf A ((p2 &&& (2147483647 : Int32)) % (44 : Int32)))).toInt64), .second, .val (.int (own_r_min A (4 : Int32) ((1 : Int32) <<< (((p1 &&& (2147483647 : Int32)) % (31 : Int32)) &&& 31)))), .unset] [(.long (((1 : Int32) <<< (((p0 &&& (2147483647 : Int32)) % (29 : Int32)) &&& 31))).toInt64), (.long (2 : Int64))]))
        refine own_by (fun _ zz => XT.lmul X5.here hx rfl (hb hby at_102) rfl zz) ?_
        show own_Goes p e below _ (T5.setTop (mkF m 103 #[.val (.int p0), .val (.int p1), .val (.int p2), .val (.int ((1 : Int32) <<< (((p0 &&& (2147483647 : Int32)) % (29 : Int32)) &&& 31))), .val (.int ((1 : Int32) <<< (((p1 &&& (2147483647 : Int32)) % (31 : Int32)) &&& 31))), .val (.int ((p2 &&& (2147483647 : Int32)) % (44 : Int32))), .val (.ref h0.size), .val (.long ((own_r_sizeOf A ((p2 &&& (2147483647 : Int32)) % (44 : Int32)))).toInt64), .second, .val (.int (own_r_min A (4 : Int32) ((1 : Int32) <<< (((p1 &&& (2147483647 : Int32)) % (31 : Int32)) &&& 31)))), .unset] [(.long ((2 : Int64) * (((1 : Int32) <<< (((p0 &&& (2147483647 : Int32)) % (29 : Int32)) &&& 31))).toInt64))]))
        refine own_by (fun _ zz => XT.lload X5.here hx rfl (hb hby at_103) rfl zz) ?_
        show own_Goes p e below _ (T5.setTop (mkF m 105 #[.val (.int p0), .val (.int p1), .val (.int p2), .val (.int ((1 : Int32) <<< (((p0 &&& (2147483647 : Int32)) % (29 : Int32)) &&& 31))), .val (.int ((1 : Int32) <<< (((p1 &&& (2147483647 : Int32)) % (31 : Int32)) &&& 31))), .val (.int ((p2 &&& (2147483647 : Int32)) % (44 : Int32))), .val (.ref h0.size), .val (.long ((own_r_sizeOf A ((p2 &&& (2147483647 : Int32)) % (44 : Int32)))).toInt64), .second, .val (.int (own_r_min A (4 : Int32) ((1 : Int32) <<< (((p1 &&& (2147483647 : Int32)) % (31 : Int32)) &&& 31)))), .unset] [(.long ((own_r_sizeOf A ((p2 &&& (2147483647 : Int32)) % (44 : Int32)))).toInt64), (.long ((2 : Int64) * (((1 : Int32) <<< (((p0 &&& (2147483647 : Int32)) % (29 : Int32)) &&& 31))).toInt64))]))
        refine own_callS0 X5 hx hZ (W := 0) (argsL := [(.long ((2 : Int64) * (((1 : Int32) <<< (((p0 &&& (2147483647 : Int32)) % (29 : Int32)) &&& 31))).toInt64)), (.long ((own_r_sizeOf A ((p2 &&& (2147483647 : Int32)) % (44 : Int32)))).toInt64)]) (rest := []) hown (own_w22 hw) (own_w23 hw) (own_w19 hw) (own_w24 hw) (by decide) e5 (rm_fits l hw W1 ((2 : Int64) * (((1 : Int32) <<< (((p0 &&& (2147483647 : Int32)) % (29 : Int32)) &&& 31))).toInt64) ((own_r_sizeOf A ((p2 &&& (2147483647 : Int32)) % (44 : Int32)))).toInt64 hS0) (by decide) (by decide) (by decide) (by decide) (by rw [hml]; rfl) (lenOf own_pd4 rfl) rfl (Nat.le_of_ble_eq_true rfl) (hb hby at_105) fun T8 X8 e8 => ?_
        show own_Goes p e below _ (T8.setTop (mkF m 108 #[.val (.int p0), .val (.int p1), .val (.int p2), .val (.int ((1 : Int32) <<< (((p0 &&& (2147483647 : Int32)) % (29 : Int32)) &&& 31))), .val (.int ((1 : Int32) <<< (((p1 &&& (2147483647 : Int32)) % (31 : Int32)) &&& 31))), .val (.int ((p2 &&& (2147483647 : Int32)) % (44 : Int32))), .val (.ref h0.size), .val (.long ((own_r_sizeOf A ((p2 &&& (2147483647 : Int32)) % (44 : Int32)))).toInt64), .second, .val (.int (own_r_min A (4 : Int32) ((1 : Int32) <<< (((p1 &&& (2147483647 : Int32)) % (31 : Int32)) &&& 31)))), .unset] [(.int (own_r_fits A ((2 : Int64) * (((1 : Int32) <<< (((p0 &&& (2147483647 : Int32)) % (29 : Int32)) &&& 31))).toInt64) ((own_r_sizeOf A ((p2 &&& (2147483647 : Int32)) % (44 : Int32)))).toInt64))]))
        by_cases q9 : (own_r_fits A ((2 : Int64) * (((1 : Int32) <<< (((p0 &&& (2147483647 : Int32)) % (29 : Int32)) &&& 31))).toInt64) ((own_r_sizeOf A ((p2 &&& (2147483647 : Int32)) % (44 : Int32)))).toInt64) = 0
        · refine own_by (fun _ zz => XS.ifYes X8.here hx rfl (pc0 := 108) (pc' := 117) rfl (hb hby at_108) rfl (XT.i0_eq_t q9) (by decide) (by decide) zz) ?_
          show own_Goes p e below _ (T8.setTop (mkF m 117 #[.val (.int p0), .val (.int p1), .val (.int p2), .val (.int ((1 : Int32) <<< (((p0 &&& (2147483647 : Int32)) % (29 : Int32)) &&& 31))), .val (.int ((1 : Int32) <<< (((p1 &&& (2147483647 : Int32)) % (31 : Int32)) &&& 31))), .val (.int ((p2 &&& (2147483647 : Int32)) % (44 : Int32))), .val (.ref h0.size), .val (.long ((own_r_sizeOf A ((p2 &&& (2147483647 : Int32)) % (44 : Int32)))).toInt64), .second, .val (.int (own_r_min A (4 : Int32) ((1 : Int32) <<< (((p1 &&& (2147483647 : Int32)) % (31 : Int32)) &&& 31)))), .unset] []))
          refine own_by (fun _ zz => XS.iconst X8.here hx rfl (hb hby at_117) zz) ?_
          show own_Goes p e below _ (T8.setTop (mkF m 118 #[.val (.int p0), .val (.int p1), .val (.int p2), .val (.int ((1 : Int32) <<< (((p0 &&& (2147483647 : Int32)) % (29 : Int32)) &&& 31))), .val (.int ((1 : Int32) <<< (((p1 &&& (2147483647 : Int32)) % (31 : Int32)) &&& 31))), .val (.int ((p2 &&& (2147483647 : Int32)) % (44 : Int32))), .val (.ref h0.size), .val (.long ((own_r_sizeOf A ((p2 &&& (2147483647 : Int32)) % (44 : Int32)))).toInt64), .second, .val (.int (own_r_min A (4 : Int32) ((1 : Int32) <<< (((p1 &&& (2147483647 : Int32)) % (31 : Int32)) &&& 31)))), .unset] [(.int (4 : Int32))]))
          refine own_by (fun _ zz => XS.istore X8.here hx rfl (hb hby at_118) rfl (l' := #[.val (.int p0), .val (.int p1), .val (.int p2), .val (.int ((1 : Int32) <<< (((p0 &&& (2147483647 : Int32)) % (29 : Int32)) &&& 31))), .val (.int ((1 : Int32) <<< (((p1 &&& (2147483647 : Int32)) % (31 : Int32)) &&& 31))), .val (.int ((p2 &&& (2147483647 : Int32)) % (44 : Int32))), .val (.ref h0.size), .val (.long ((own_r_sizeOf A ((p2 &&& (2147483647 : Int32)) % (44 : Int32)))).toInt64), .second, .val (.int (own_r_min A (4 : Int32) ((1 : Int32) <<< (((p1 &&& (2147483647 : Int32)) % (31 : Int32)) &&& 31)))), .val (.int (4 : Int32))]) rfl zz) ?_
          show own_Goes p e below _ (T8.setTop (mkF m 120 #[.val (.int p0), .val (.int p1), .val (.int p2), .val (.int ((1 : Int32) <<< (((p0 &&& (2147483647 : Int32)) % (29 : Int32)) &&& 31))), .val (.int ((1 : Int32) <<< (((p1 &&& (2147483647 : Int32)) % (31 : Int32)) &&& 31))), .val (.int ((p2 &&& (2147483647 : Int32)) % (44 : Int32))), .val (.ref h0.size), .val (.long ((own_r_sizeOf A ((p2 &&& (2147483647 : Int32)) % (44 : Int32)))).toInt64), .second, .val (.int (own_r_min A (4 : Int32) ((1 : Int32) <<< (((p1 &&& (2147483647 : Int32)) % (31 : Int32)) &&& 31)))), .val (.int (4 : Int32))] []))
          refine own_by (fun _ zz => XS.aload X8.here hx rfl (hb hby at_120) rfl rfl zz) ?_
          show own_Goes p e below _ (T8.setTop (mkF m 122 #[.val (.int p0), .val (.int p1), .val (.int p2), .val (.int ((1 : Int32) <<< (((p0 &&& (2147483647 : Int32)) % (29 : Int32)) &&& 31))), .val (.int ((1 : Int32) <<< (((p1 &&& (2147483647 : Int32)) % (31 : Int32)) &&& 31))), .val (.int ((p2 &&& (2147483647 : Int32)) % (44 : Int32))), .val (.ref h0.size), .val (.long ((own_r_sizeOf A ((p2 &&& (2147483647 : Int32)) % (44 : Int32)))).toInt64), .second, .val (.int (own_r_min A (4 : Int32) ((1 : Int32) <<< (((p1 &&& (2147483647 : Int32)) % (31 : Int32)) &&& 31)))), .val (.int (4 : Int32))] [(.ref h0.size)]))
          refine own_by (fun _ zz => XS.iload X8.here hx rfl (hb hby at_122) rfl zz) ?_
          show own_Goes p e below _ (T8.setTop (mkF m 124 #[.val (.int p0), .val (.int p1), .val (.int p2), .val (.int ((1 : Int32) <<< (((p0 &&& (2147483647 : Int32)) % (29 : Int32)) &&& 31))), .val (.int ((1 : Int32) <<< (((p1 &&& (2147483647 : Int32)) % (31 : Int32)) &&& 31))), .val (.int ((p2 &&& (2147483647 : Int32)) % (44 : Int32))), .val (.ref h0.size), .val (.long ((own_r_sizeOf A ((p2 &&& (2147483647 : Int32)) % (44 : Int32)))).toInt64), .second, .val (.int (own_r_min A (4 : Int32) ((1 : Int32) <<< (((p1 &&& (2147483647 : Int32)) % (31 : Int32)) &&& 31)))), .val (.int (4 : Int32))] [(.int ((p2 &&& (2147483647 : Int32)) % (44 : Int32))), (.ref h0.size)]))
          refine own_iaload X8 hx hZ e8 F1 i hI hi (v := (.int (own_rp A ((1 : Int32) <<< (((p0 &&& (2147483647 : Int32)) % (29 : Int32)) &&& 31)) (own_r_min A (4 : Int32) ((1 : Int32) <<< (((p1 &&& (2147483647 : Int32)) % (31 : Int32)) &&& 31))) i))) rfl (hb hby at_124) ?_
          show own_Goes p e below _ (T8.setTop (mkF m 125 #[.val (.int p0), .val (.int p1), .val (.int p2), .val (.int ((1 : Int32) <<< (((p0 &&& (2147483647 : Int32)) % (29 : Int32)) &&& 31))), .val (.int ((1 : Int32) <<< (((p1 &&& (2147483647 : Int32)) % (31 : Int32)) &&& 31))), .val (.int ((p2 &&& (2147483647 : Int32)) % (44 : Int32))), .val (.ref h0.size), .val (.long ((own_r_sizeOf A ((p2 &&& (2147483647 : Int32)) % (44 : Int32)))).toInt64), .second, .val (.int (own_r_min A (4 : Int32) ((1 : Int32) <<< (((p1 &&& (2147483647 : Int32)) % (31 : Int32)) &&& 31)))), .val (.int (4 : Int32))] [(.int (own_rp A ((1 : Int32) <<< (((p0 &&& (2147483647 : Int32)) % (29 : Int32)) &&& 31)) (own_r_min A (4 : Int32) ((1 : Int32) <<< (((p1 &&& (2147483647 : Int32)) % (31 : Int32)) &&& 31))) i))]))
          refine own_by (fun _ zz => XS.iload X8.here hx rfl (hb hby at_125) rfl zz) ?_
          show own_Goes p e below _ (T8.setTop (mkF m 127 #[.val (.int p0), .val (.int p1), .val (.int p2), .val (.int ((1 : Int32) <<< (((p0 &&& (2147483647 : Int32)) % (29 : Int32)) &&& 31))), .val (.int ((1 : Int32) <<< (((p1 &&& (2147483647 : Int32)) % (31 : Int32)) &&& 31))), .val (.int ((p2 &&& (2147483647 : Int32)) % (44 : Int32))), .val (.ref h0.size), .val (.long ((own_r_sizeOf A ((p2 &&& (2147483647 : Int32)) % (44 : Int32)))).toInt64), .second, .val (.int (own_r_min A (4 : Int32) ((1 : Int32) <<< (((p1 &&& (2147483647 : Int32)) % (31 : Int32)) &&& 31)))), .val (.int (4 : Int32))] [(.int (4 : Int32)), (.int (own_rp A ((1 : Int32) <<< (((p0 &&& (2147483647 : Int32)) % (29 : Int32)) &&& 31)) (own_r_min A (4 : Int32) ((1 : Int32) <<< (((p1 &&& (2147483647 : Int32)) % (31 : Int32)) &&& 31))) i))]))
          refine own_by (fun _ zz => XS.icmpNo X8.here hx rfl (hb hby at_127) rfl (XT.ii_ne_f (own_fin5 A (own_mx A KK1) q4 q7 (fun z => hL1.mp z q6) (fun z => hL2.mp z q9))) zz) ?_
          show own_Goes p e below _ (T8.setTop (mkF m 130 #[.val (.int p0), .val (.int p1), .val (.int p2), .val (.int ((1 : Int32) <<< (((p0 &&& (2147483647 : Int32)) % (29 : Int32)) &&& 31))), .val (.int ((1 : Int32) <<< (((p1 &&& (2147483647 : Int32)) % (31 : Int32)) &&& 31))), .val (.int ((p2 &&& (2147483647 : Int32)) % (44 : Int32))), .val (.ref h0.size), .val (.long ((own_r_sizeOf A ((p2 &&& (2147483647 : Int32)) % (44 : Int32)))).toInt64), .second, .val (.int (own_r_min A (4 : Int32) ((1 : Int32) <<< (((p1 &&& (2147483647 : Int32)) % (31 : Int32)) &&& 31)))), .val (.int (4 : Int32))] []))
          refine own_by (fun _ zz => XS.iconst X8.here hx rfl (hb hby at_130) zz) ?_
          show own_Goes p e below _ (T8.setTop (mkF m 131 #[.val (.int p0), .val (.int p1), .val (.int p2), .val (.int ((1 : Int32) <<< (((p0 &&& (2147483647 : Int32)) % (29 : Int32)) &&& 31))), .val (.int ((1 : Int32) <<< (((p1 &&& (2147483647 : Int32)) % (31 : Int32)) &&& 31))), .val (.int ((p2 &&& (2147483647 : Int32)) % (44 : Int32))), .val (.ref h0.size), .val (.long ((own_r_sizeOf A ((p2 &&& (2147483647 : Int32)) % (44 : Int32)))).toInt64), .second, .val (.int (own_r_min A (4 : Int32) ((1 : Int32) <<< (((p1 &&& (2147483647 : Int32)) % (31 : Int32)) &&& 31)))), .val (.int (4 : Int32))] [(.int (1 : Int32))]))
          refine own_by (fun _ zz => XS.goto X8.here hx rfl (pc0 := 131) (pc' := 135) rfl (hb hby at_131) (by decide) (by decide) zz) ?_
          show own_Goes p e below _ (T8.setTop (mkF m 135 #[.val (.int p0), .val (.int p1), .val (.int p2), .val (.int ((1 : Int32) <<< (((p0 &&& (2147483647 : Int32)) % (29 : Int32)) &&& 31))), .val (.int ((1 : Int32) <<< (((p1 &&& (2147483647 : Int32)) % (31 : Int32)) &&& 31))), .val (.int ((p2 &&& (2147483647 : Int32)) % (44 : Int32))), .val (.ref h0.size), .val (.long ((own_r_sizeOf A ((p2 &&& (2147483647 : Int32)) % (44 : Int32)))).toInt64), .second, .val (.int (own_r_min A (4 : Int32) ((1 : Int32) <<< (((p1 &&& (2147483647 : Int32)) % (31 : Int32)) &&& 31)))), .val (.int (4 : Int32))] [(.int (1 : Int32))]))
          refine own_retN X8 hx hlk (ty := .boolean) hret (by simp) (hb hby at_135) (by decide) (by decide) ?_
          exact ⟨rfl, N1⟩
        · refine own_by (fun _ zz => XS.ifNo X8.here hx rfl (hb hby at_108) rfl (XT.i0_eq_f q9) zz) ?_
          show own_Goes p e below _ (T8.setTop (mkF m 111 #[.val (.int p0), .val (.int p1), .val (.int p2), .val (.int ((1 : Int32) <<< (((p0 &&& (2147483647 : Int32)) % (29 : Int32)) &&& 31))), .val (.int ((1 : Int32) <<< (((p1 &&& (2147483647 : Int32)) % (31 : Int32)) &&& 31))), .val (.int ((p2 &&& (2147483647 : Int32)) % (44 : Int32))), .val (.ref h0.size), .val (.long ((own_r_sizeOf A ((p2 &&& (2147483647 : Int32)) % (44 : Int32)))).toInt64), .second, .val (.int (own_r_min A (4 : Int32) ((1 : Int32) <<< (((p1 &&& (2147483647 : Int32)) % (31 : Int32)) &&& 31)))), .unset] []))
          refine own_by (fun _ zz => XS.iconst X8.here hx rfl (hb hby at_111) zz) ?_
          show own_Goes p e below _ (T8.setTop (mkF m 112 #[.val (.int p0), .val (.int p1), .val (.int p2), .val (.int ((1 : Int32) <<< (((p0 &&& (2147483647 : Int32)) % (29 : Int32)) &&& 31))), .val (.int ((1 : Int32) <<< (((p1 &&& (2147483647 : Int32)) % (31 : Int32)) &&& 31))), .val (.int ((p2 &&& (2147483647 : Int32)) % (44 : Int32))), .val (.ref h0.size), .val (.long ((own_r_sizeOf A ((p2 &&& (2147483647 : Int32)) % (44 : Int32)))).toInt64), .second, .val (.int (own_r_min A (4 : Int32) ((1 : Int32) <<< (((p1 &&& (2147483647 : Int32)) % (31 : Int32)) &&& 31)))), .unset] [(.int (2 : Int32))]))
          refine own_by (fun _ zz => XS.istore X8.here hx rfl (hb hby at_112) rfl (l' := #[.val (.int p0), .val (.int p1), .val (.int p2), .val (.int ((1 : Int32) <<< (((p0 &&& (2147483647 : Int32)) % (29 : Int32)) &&& 31))), .val (.int ((1 : Int32) <<< (((p1 &&& (2147483647 : Int32)) % (31 : Int32)) &&& 31))), .val (.int ((p2 &&& (2147483647 : Int32)) % (44 : Int32))), .val (.ref h0.size), .val (.long ((own_r_sizeOf A ((p2 &&& (2147483647 : Int32)) % (44 : Int32)))).toInt64), .second, .val (.int (own_r_min A (4 : Int32) ((1 : Int32) <<< (((p1 &&& (2147483647 : Int32)) % (31 : Int32)) &&& 31)))), .val (.int (2 : Int32))]) rfl zz) ?_
          show own_Goes p e below _ (T8.setTop (mkF m 114 #[.val (.int p0), .val (.int p1), .val (.int p2), .val (.int ((1 : Int32) <<< (((p0 &&& (2147483647 : Int32)) % (29 : Int32)) &&& 31))), .val (.int ((1 : Int32) <<< (((p1 &&& (2147483647 : Int32)) % (31 : Int32)) &&& 31))), .val (.int ((p2 &&& (2147483647 : Int32)) % (44 : Int32))), .val (.ref h0.size), .val (.long ((own_r_sizeOf A ((p2 &&& (2147483647 : Int32)) % (44 : Int32)))).toInt64), .second, .val (.int (own_r_min A (4 : Int32) ((1 : Int32) <<< (((p1 &&& (2147483647 : Int32)) % (31 : Int32)) &&& 31)))), .val (.int (2 : Int32))] []))
          refine own_by (fun _ zz => XS.goto X8.here hx rfl (pc0 := 114) (pc' := 120) rfl (hb hby at_114) (by decide) (by decide) zz) ?_
          show own_Goes p e below _ (T8.setTop (mkF m 120 #[.val (.int p0), .val (.int p1), .val (.int p2), .val (.int ((1 : Int32) <<< (((p0 &&& (2147483647 : Int32)) % (29 : Int32)) &&& 31))), .val (.int ((1 : Int32) <<< (((p1 &&& (2147483647 : Int32)) % (31 : Int32)) &&& 31))), .val (.int ((p2 &&& (2147483647 : Int32)) % (44 : Int32))), .val (.ref h0.size), .val (.long ((own_r_sizeOf A ((p2 &&& (2147483647 : Int32)) % (44 : Int32)))).toInt64), .second, .val (.int (own_r_min A (4 : Int32) ((1 : Int32) <<< (((p1 &&& (2147483647 : Int32)) % (31 : Int32)) &&& 31)))), .val (.int (2 : Int32))] []))
          refine own_by (fun _ zz => XS.aload X8.here hx rfl (hb hby at_120) rfl rfl zz) ?_
          show own_Goes p e below _ (T8.setTop (mkF m 122 #[.val (.int p0), .val (.int p1), .val (.int p2), .val (.int ((1 : Int32) <<< (((p0 &&& (2147483647 : Int32)) % (29 : Int32)) &&& 31))), .val (.int ((1 : Int32) <<< (((p1 &&& (2147483647 : Int32)) % (31 : Int32)) &&& 31))), .val (.int ((p2 &&& (2147483647 : Int32)) % (44 : Int32))), .val (.ref h0.size), .val (.long ((own_r_sizeOf A ((p2 &&& (2147483647 : Int32)) % (44 : Int32)))).toInt64), .second, .val (.int (own_r_min A (4 : Int32) ((1 : Int32) <<< (((p1 &&& (2147483647 : Int32)) % (31 : Int32)) &&& 31)))), .val (.int (2 : Int32))] [(.ref h0.size)]))
          refine own_by (fun _ zz => XS.iload X8.here hx rfl (hb hby at_122) rfl zz) ?_
          show own_Goes p e below _ (T8.setTop (mkF m 124 #[.val (.int p0), .val (.int p1), .val (.int p2), .val (.int ((1 : Int32) <<< (((p0 &&& (2147483647 : Int32)) % (29 : Int32)) &&& 31))), .val (.int ((1 : Int32) <<< (((p1 &&& (2147483647 : Int32)) % (31 : Int32)) &&& 31))), .val (.int ((p2 &&& (2147483647 : Int32)) % (44 : Int32))), .val (.ref h0.size), .val (.long ((own_r_sizeOf A ((p2 &&& (2147483647 : Int32)) % (44 : Int32)))).toInt64), .second, .val (.int (own_r_min A (4 : Int32) ((1 : Int32) <<< (((p1 &&& (2147483647 : Int32)) % (31 : Int32)) &&& 31)))), .val (.int (2 : Int32))] [(.int ((p2 &&& (2147483647 : Int32)) % (44 : Int32))), (.ref h0.size)]))
          refine own_iaload X8 hx hZ e8 F1 i hI hi (v := (.int (own_rp A ((1 : Int32) <<< (((p0 &&& (2147483647 : Int32)) % (29 : Int32)) &&& 31)) (own_r_min A (4 : Int32) ((1 : Int32) <<< (((p1 &&& (2147483647 : Int32)) % (31 : Int32)) &&& 31))) i))) rfl (hb hby at_124) ?_
          show own_Goes p e below _ (T8.setTop (mkF m 125 #[.val (.int p0), .val (.int p1), .val (.int p2), .val (.int ((1 : Int32) <<< (((p0 &&& (2147483647 : Int32)) % (29 : Int32)) &&& 31))), .val (.int ((1 : Int32) <<< (((p1 &&& (2147483647 : Int32)) % (31 : Int32)) &&& 31))), .val (.int ((p2 &&& (2147483647 : Int32)) % (44 : Int32))), .val (.ref h0.size), .val (.long ((own_r_sizeOf A ((p2 &&& (2147483647 : Int32)) % (44 : Int32)))).toInt64), .second, .val (.int (own_r_min A (4 : Int32) ((1 : Int32) <<< (((p1 &&& (2147483647 : Int32)) % (31 : Int32)) &&& 31)))), .val (.int (2 : Int32))] [(.int (own_rp A ((1 : Int32) <<< (((p0 &&& (2147483647 : Int32)) % (29 : Int32)) &&& 31)) (own_r_min A (4 : Int32) ((1 : Int32) <<< (((p1 &&& (2147483647 : Int32)) % (31 : Int32)) &&& 31))) i))]))
          refine own_by (fun _ zz => XS.iload X8.here hx rfl (hb hby at_125) rfl zz) ?_
          show own_Goes p e below _ (T8.setTop (mkF m 127 #[.val (.int p0), .val (.int p1), .val (.int p2), .val (.int ((1 : Int32) <<< (((p0 &&& (2147483647 : Int32)) % (29 : Int32)) &&& 31))), .val (.int ((1 : Int32) <<< (((p1 &&& (2147483647 : Int32)) % (31 : Int32)) &&& 31))), .val (.int ((p2 &&& (2147483647 : Int32)) % (44 : Int32))), .val (.ref h0.size), .val (.long ((own_r_sizeOf A ((p2 &&& (2147483647 : Int32)) % (44 : Int32)))).toInt64), .second, .val (.int (own_r_min A (4 : Int32) ((1 : Int32) <<< (((p1 &&& (2147483647 : Int32)) % (31 : Int32)) &&& 31)))), .val (.int (2 : Int32))] [(.int (2 : Int32)), (.int (own_rp A ((1 : Int32) <<< (((p0 &&& (2147483647 : Int32)) % (29 : Int32)) &&& 31)) (own_r_min A (4 : Int32) ((1 : Int32) <<< (((p1 &&& (2147483647 : Int32)) % (31 : Int32)) &&& 31))) i))]))
          refine own_by (fun _ zz => XS.icmpNo X8.here hx rfl (hb hby at_127) rfl (XT.ii_ne_f (own_fin4 A (own_mx A KK1) q4 q7 (fun z => hL1.mp z q6) (hL2.mpr q9))) zz) ?_
          show own_Goes p e below _ (T8.setTop (mkF m 130 #[.val (.int p0), .val (.int p1), .val (.int p2), .val (.int ((1 : Int32) <<< (((p0 &&& (2147483647 : Int32)) % (29 : Int32)) &&& 31))), .val (.int ((1 : Int32) <<< (((p1 &&& (2147483647 : Int32)) % (31 : Int32)) &&& 31))), .val (.int ((p2 &&& (2147483647 : Int32)) % (44 : Int32))), .val (.ref h0.size), .val (.long ((own_r_sizeOf A ((p2 &&& (2147483647 : Int32)) % (44 : Int32)))).toInt64), .second, .val (.int (own_r_min A (4 : Int32) ((1 : Int32) <<< (((p1 &&& (2147483647 : Int32)) % (31 : Int32)) &&& 31)))), .val (.int (2 : Int32))] []))
          refine own_by (fun _ zz => XS.iconst X8.here hx rfl (hb hby at_130) zz) ?_
          show own_Goes p e below _ (T8.setTop (mkF m 131 #[.val (.int p0), .val (.int p1), .val (.int p2), .val (.int ((1 : Int32) <<< (((p0 &&& (2147483647 : Int32)) % (29 : Int32)) &&& 31))), .val (.int ((1 : Int32) <<< (((p1 &&& (2147483647 : Int32)) % (31 : Int32)) &&& 31))), .val (.int ((p2 &&& (2147483647 : Int32)) % (44 : Int32))), .val (.ref h0.size), .val (.long ((own_r_sizeOf A ((p2 &&& (2147483647 : Int32)) % (44 : Int32)))).toInt64), .second, .val (.int (own_r_min A (4 : Int32) ((1 : Int32) <<< (((p1 &&& (2147483647 : Int32)) % (31 : Int32)) &&& 31)))), .val (.int (2 : Int32))] [(.int (1 : Int32))]))
          refine own_by (fun _ zz => XS.goto X8.here hx rfl (pc0 := 131) (pc' := 135) rfl (hb hby at_131) (by decide) (by decide) zz) ?_
          show own_Goes p e below _ (T8.setTop (mkF m 135 #[.val (.int p0), .val (.int p1), .val (.int p2), .val (.int ((1 : Int32) <<< (((p0 &&& (2147483647 : Int32)) % (29 : Int32)) &&& 31))), .val (.int ((1 : Int32) <<< (((p1 &&& (2147483647 : Int32)) % (31 : Int32)) &&& 31))), .val (.int ((p2 &&& (2147483647 : Int32)) % (44 : Int32))), .val (.ref h0.size), .val (.long ((own_r_sizeOf A ((p2 &&& (2147483647 : Int32)) % (44 : Int32)))).toInt64), .second, .val (.int (own_r_min A (4 : Int32) ((1 : Int32) <<< (((p1 &&& (2147483647 : Int32)) % (31 : Int32)) &&& 31)))), .val (.int (2 : Int32))] [(.int (1 : Int32))]))
          refine own_retN X8 hx hlk (ty := .boolean) hret (by simp) (hb hby at_135) (by decide) (by decide) ?_
          exact ⟨rfl, N1⟩
    · refine own_by (fun _ zz => XS.ifNo X5.here hx rfl (hb hby at_82) rfl (XT.i0_eq_f q6) zz) ?_
      show own_Goes p e below _ (T5.setTop (mkF m 85 #[.val (.int p0), .val (.int p1), .val (.int p2), .val (.int ((1 : Int32) <<< (((p0 &&& (2147483647 : Int32)) % (29 : Int32)) &&& 31))), .val (.int ((1 : Int32) <<< (((p1 &&& (2147483647 : Int32)) % (31 : Int32)) &&& 31))), .val (.int ((p2 &&& (2147483647 : Int32)) % (44 : Int32))), .val (.ref h0.size), .val (.long ((own_r_sizeOf A ((p2 &&& (2147483647 : Int32)) % (44 : Int32)))).toInt64), .second, .val (.int (own_r_min A (4 : Int32) ((1 : Int32) <<< (((p1 &&& (2147483647 : Int32)) % (31 : Int32)) &&& 31)))), .unset] []))
      refine own_by (fun _ zz => XS.iconst X5.here hx rfl (hb hby at_85) zz) ?_
      show own_Goes p e below _ (T5.setTop (mkF m 86 #[.val (.int p0), .val (.int p1), .val (.int p2), .val (.int ((1 : Int32) <<< (((p0 &&& (2147483647 : Int32)) % (29 : Int32)) &&& 31))), .val (.int ((1 : Int32) <<< (((p1 &&& (2147483647 : Int32)) % (31 : Int32)) &&& 31))), .val (.int ((p2 &&& (2147483647 : Int32)) % (44 : Int32))), .val (.ref h0.size), .val (.long ((own_r_sizeOf A ((p2 &&& (2147483647 : Int32)) % (44 : Int32)))).toInt64), .second, .val (.int (own_r_min A (4 : Int32) ((1 : Int32) <<< (((p1 &&& (2147483647 : Int32)) % (31 : Int32)) &&& 31)))), .unset] [(.int (1 : Int32))]))
      refine own_by (fun _ zz => XS.istore X5.here hx rfl (hb hby at_86) rfl (l' := #[.val (.int p0), .val (.int p1), .val (.int p2), .val (.int ((1 : Int32) <<< (((p0 &&& (2147483647 : Int32)) % (29 : Int32)) &&& 31))), .val (.int ((1 : Int32) <<< (((p1 &&& (2147483647 : Int32)) % (31 : Int32)) &&& 31))), .val (.int ((p2 &&& (2147483647 : Int32)) % (44 : Int32))), .val (.ref h0.size), .val (.long ((own_r_sizeOf A ((p2 &&& (2147483647 : Int32)) % (44 : Int32)))).toInt64), .second, .val (.int (own_r_min A (4 : Int32) ((1 : Int32) <<< (((p1 &&& (2147483647 : Int32)) % (31 : Int32)) &&& 31)))), .val (.int (1 : Int32))]) rfl zz) ?_
      show own_Goes p e below _ (T5.setTop (mkF m 88 #[.val (.int p0), .val (.int p1), .val (.int p2), .val (.int ((1 : Int32) <<< (((p0 &&& (2147483647 : Int32)) % (29 : Int32)) &&& 31))), .val (.int ((1 : Int32) <<< (((p1 &&& (2147483647 : Int32)) % (31 : Int32)) &&& 31))), .val (.int ((p2 &&& (2147483647 : Int32)) % (44 : Int32))), .val (.ref h0.size), .val (.long ((own_r_sizeOf A ((p2 &&& (2147483647 : Int32)) % (44 : Int32)))).toInt64), .second, .val (.int (own_r_min A (4 : Int32) ((1 : Int32) <<< (((p1 &&& (2147483647 : Int32)) % (31 : Int32)) &&& 31)))), .val (.int (1 : Int32))] []))
      refine own_by (fun _ zz => XS.goto X5.here hx rfl (pc0 := 88) (pc' := 120) rfl (hb hby at_88) (by decide) (by decide) zz) ?_
      show own_Goes p e below _ (T5.setTop (mkF m 120 #[.val (.int p0), .val (.int p1), .val (.int p2), .val (.int ((1 : Int32) <<< (((p0 &&& (2147483647 : Int32)) % (29 : Int32)) &&& 31))), .val (.int ((1 : Int32) <<< (((p1 &&& (2147483647 : Int32)) % (31 : Int32)) &&& 31))), .val (.int ((p2 &&& (2147483647 : Int32)) % (44 : Int32))), .val (.ref h0.size), .val (.long ((own_r_sizeOf A ((p2 &&& (2147483647 : Int32)) % (44 : Int32)))).toInt64), .second, .val (.int (own_r_min A (4 : Int32) ((1 : Int32) <<< (((p1 &&& (2147483647 : Int32)) % (31 : Int32)) &&& 31)))), .val (.int (1 : Int32))] []))
      refine own_by (fun _ zz => XS.aload X5.here hx rfl (hb hby at_120) rfl rfl zz) ?_
      show own_Goes p e below _ (T5.setTop (mkF m 122 #[.val (.int p0), .val (.int p1), .val (.int p2), .val (.int ((1 : Int32) <<< (((p0 &&& (2147483647 : Int32)) % (29 : Int32)) &&& 31))), .val (.int ((1 : Int32) <<< (((p1 &&& (2147483647 : Int32)) % (31 : Int32)) &&& 31))), .val (.int ((p2 &&& (2147483647 : Int32)) % (44 : Int32))), .val (.ref h0.size), .val (.long ((own_r_sizeOf A ((p2 &&& (2147483647 : Int32)) % (44 : Int32)))).toInt64), .second, .val (.int (own_r_min A (4 : Int32) ((1 : Int32) <<< (((p1 &&& (2147483647 : Int32)) % (31 : Int32)) &&& 31)))), .val (.int (1 : Int32))] [(.ref h0.size)]))
      refine own_by (fun _ zz => XS.iload X5.here hx rfl (hb hby at_122) rfl zz) ?_
      show own_Goes p e below _ (T5.setTop (mkF m 124 #[.val (.int p0), .val (.int p1), .val (.int p2), .val (.int ((1 : Int32) <<< (((p0 &&& (2147483647 : Int32)) % (29 : Int32)) &&& 31))), .val (.int ((1 : Int32) <<< (((p1 &&& (2147483647 : Int32)) % (31 : Int32)) &&& 31))), .val (.int ((p2 &&& (2147483647 : Int32)) % (44 : Int32))), .val (.ref h0.size), .val (.long ((own_r_sizeOf A ((p2 &&& (2147483647 : Int32)) % (44 : Int32)))).toInt64), .second, .val (.int (own_r_min A (4 : Int32) ((1 : Int32) <<< (((p1 &&& (2147483647 : Int32)) % (31 : Int32)) &&& 31)))), .val (.int (1 : Int32))] [(.int ((p2 &&& (2147483647 : Int32)) % (44 : Int32))), (.ref h0.size)]))
      refine own_iaload X5 hx hZ e5 F1 i hI hi (v := (.int (own_rp A ((1 : Int32) <<< (((p0 &&& (2147483647 : Int32)) % (29 : Int32)) &&& 31)) (own_r_min A (4 : Int32) ((1 : Int32) <<< (((p1 &&& (2147483647 : Int32)) % (31 : Int32)) &&& 31))) i))) rfl (hb hby at_124) ?_
      show own_Goes p e below _ (T5.setTop (mkF m 125 #[.val (.int p0), .val (.int p1), .val (.int p2), .val (.int ((1 : Int32) <<< (((p0 &&& (2147483647 : Int32)) % (29 : Int32)) &&& 31))), .val (.int ((1 : Int32) <<< (((p1 &&& (2147483647 : Int32)) % (31 : Int32)) &&& 31))), .val (.int ((p2 &&& (2147483647 : Int32)) % (44 : Int32))), .val (.ref h0.size), .val (.long ((own_r_sizeOf A ((p2 &&& (2147483647 : Int32)) % (44 : Int32)))).toInt64), .second, .val (.int (own_r_min A (4 : Int32) ((1 : Int32) <<< (((p1 &&& (2147483647 : Int32)) % (31 : Int32)) &&& 31)))), .val (.int (1 : Int32))] [(.int (own_rp A ((1 : Int32) <<< (((p0 &&& (2147483647 : Int32)) % (29 : Int32)) &&& 31)) (own_r_min A (4 : Int32) ((1 : Int32) <<< (((p1 &&& (2147483647 : Int32)) % (31 : Int32)) &&& 31))) i))]))
      refine own_by (fun _ zz => XS.iload X5.here hx rfl (hb hby at_125) rfl zz) ?_
      show own_Goes p e below _ (T5.setTop (mkF m 127 #[.val (.int p0), .val (.int p1), .val (.int p2), .val (.int ((1 : Int32) <<< (((p0 &&& (2147483647 : Int32)) % (29 : Int32)) &&& 31))), .val (.int ((1 : Int32) <<< (((p1 &&& (2147483647 : Int32)) % (31 : Int32)) &&& 31))), .val (.int ((p2 &&& (2147483647 : Int32)) % (44 : Int32))), .val (.ref h0.size), .val (.long ((own_r_sizeOf A ((p2 &&& (2147483647 : Int32)) % (44 : Int32)))).toInt64), .second, .val (.int (own_r_min A (4 : Int32) ((1 : Int32) <<< (((p1 &&& (2147483647 : Int32)) % (31 : Int32)) &&& 31)))), .val (.int (1 : Int32))] [(.int (1 : Int32)), (.int (own_rp A ((1 : Int32) <<< (((p0 &&& (2147483647 : Int32)) % (29 : Int32)) &&& 31)) (own_r_min A (4 : Int32) ((1 : Int32) <<< (((p1 &&& (2147483647 : Int32)) % (31 : Int32)) &&& 31))) i))]))
      refine own_by (fun _ zz => XS.icmpNo X5.here hx rfl (hb hby at_127) rfl (XT.ii_ne_f (own_fin2 A (own_mx A KK1) q4 (hL1.mpr q6))) zz) ?_
      show own_Goes p e below _ (T5.setTop (mkF m 130 #[.val (.int p0), .val (.int p1), .val (.int p2), .val (.int ((1 : Int32) <<< (((p0 &&& (2147483647 : Int32)) % (29 : Int32)) &&& 31))), .val (.int ((1 : Int32) <<< (((p1 &&& (2147483647 : Int32)) % (31 : Int32)) &&& 31))), .val (.int ((p2 &&& (2147483647 : Int32)) % (44 : Int32))), .val (.ref h0.size), .val (.long ((own_r_sizeOf A ((p2 &&& (2147483647 : Int32)) % (44 : Int32)))).toInt64), .second, .val (.int (own_r_min A (4 : Int32) ((1 : Int32) <<< (((p1 &&& (2147483647 : Int32)) % (31 : Int32)) &&& 31)))), .val (.int (1 : Int32))] []))
      refine own_by (fun _ zz => XS.iconst X5.here hx rfl (hb hby at_130) zz) ?_
      show own_Goes p e below _ (T5.setTop (mkF m 131 #[.val (.int p0), .val (.int p1), .val (.int p2), .val (.int ((1 : Int32) <<< (((p0 &&& (2147483647 : Int32)) % (29 : Int32)) &&& 31))), .val (.int ((1 : Int32) <<< (((p1 &&& (2147483647 : Int32)) % (31 : Int32)) &&& 31))), .val (.int ((p2 &&& (2147483647 : Int32)) % (44 : Int32))), .val (.ref h0.size), .val (.long ((own_r_sizeOf A ((p2 &&& (2147483647 : Int32)) % (44 : Int32)))).toInt64), .second, .val (.int (own_r_min A (4 : Int32) ((1 : Int32) <<< (((p1 &&& (2147483647 : Int32)) % (31 : Int32)) &&& 31)))), .val (.int (1 : Int32))] [(.int (1 : Int32))]))
      refine own_by (fun _ zz => XS.goto X5.here hx rfl (pc0 := 131) (pc' := 135) rfl (hb hby at_131) (by decide) (by decide) zz) ?_
      show own_Goes p e below _ (T5.setTop (mkF m 135 #[.val (.int p0), .val (.int p1), .val (.int p2), .val (.int ((1 : Int32) <<< (((p0 &&& (2147483647 : Int32)) % (29 : Int32)) &&& 31))), .val (.int ((1 : Int32) <<< (((p1 &&& (2147483647 : Int32)) % (31 : Int32)) &&& 31))), .val (.int ((p2 &&& (2147483647 : Int32)) % (44 : Int32))), .val (.ref h0.size), .val (.long ((own_r_sizeOf A ((p2 &&& (2147483647 : Int32)) % (44 : Int32)))).toInt64), .second, .val (.int (own_r_min A (4 : Int32) ((1 : Int32) <<< (((p1 &&& (2147483647 : Int32)) % (31 : Int32)) &&& 31)))), .val (.int (1 : Int32))] [(.int (1 : Int32))]))
      refine own_retN X5 hx hlk (ty := .boolean) hret (by simp) (hb hby at_135) (by decide) (by decide) ?_
      exact ⟨rfl, N1⟩
set_option maxRecDepth 65536 in
set_option maxHeartbeats 40000000 in
theorem comes_1 {Post : Tables → Env → Array Value → State → Outcome → State → Prop} (hpost : ∀ tb e args s v u, (limb_1_1.after args s (.returned v) u = true ∧ limb_1_2.after args s (.returned v) u = true ∧ True) → FrameEnd s (.returned v) u (Jvm.fieldLocs frame_1_writes args s ++ Jvm.arrayLocs frame_1_arrays args s ++ Jvm.staticLocs frame_1_statics s) 16 192 → Post tb e args s (.returned v) u) :
    ArmFor flags0 classFile x code maxLocals ret World_1 tables_1 room_1 Calls_1 rest_1 Pre_1 Post := by
  intro l hfl _ _ p e ha hc hk s m args below hf hA hF happ hP
  obtain ⟨hcalls, hrest, hpre⟩ := hP
  obtain ⟨-, -, -, hnamed, -, -, -, hat⟩ := (Spec.applies_iff hf).mp happ
  obtain ⟨hg, hn⟩ := and_e (Cond.before_iff.mp (show (Jvm.Cond.and given_1 narrow_1).before args s = true from hpre))
  obtain ⟨g0, hg0⟩ := and_e hg
  obtain ⟨i0, hg1⟩ := and_e hg0
  obtain ⟨i1, hg2⟩ := and_e hg1
  obtain ⟨w0, w1, w2, rfl⟩ : ∃ w0 w1 w2 : Value, args = #[w0, w1, w2] := by
    have hs : args.size = 3 := by simpa [Cond.value, given_1] using g0
    obtain ⟨L⟩ := args
    match L, hs with
    | [w0, w1, w2], _ => exact ⟨w0, w1, w2, rfl⟩
  have hw := fun d (hd : d ∈ tables_1) => atoms_spec (ws := Jvm.Cond.code x code maxLocals ret :: tables_1) hat d (List.mem_cons_of_mem _ hd)
  obtain ⟨j0, y0⟩ := is_v i0
  obtain rfl : w0 = (.int j0) := Option.some.inj y0
  obtain ⟨j1, y1⟩ := is_v i1
  obtain rfl : w1 = (.int j1) := Option.some.inj y1
  obtain ⟨j2, y2⟩ := is_v hg2
  obtain rfl : w2 = (.int j2) := Option.some.inj y2
  obtain ⟨A, W⟩ := own_world hw hn
  obtain ⟨n, o, h1, h2, h3, _, L, rfl, ⟨rfl, NN⟩, hq⟩ := rm_law l hw tables_1 W j0 j1 j2 p e ha hc hk s m _ below hf ((Spec.applies_iff_loose hf).mp happ).1 ⟨rfl, State.Warmed39.refl s, rfl⟩ trivial
  refine ⟨n, _, h1, h2, h3, hpost _ _ _ _ _ _ ⟨Cond.after_iff.mpr rfl, Cond.after_iff.mpr (eq_i res_at (Term.int_eval (1)) rfl), trivial⟩ ⟨hq.1, hq.2.1, (hq.2.2.sift fun y hy => Or.inr (NN y hy)).mono (by decide) (by decide)⟩⟩
theorem main_1_1 : Claimed_1_1 := comes_1 fun _ _ _ _ _ _ h hF => ⟨h.1, hF⟩
theorem main_1_2 : Claimed_1_2 := comes_1 fun _ _ _ _ _ _ h hF => ⟨h.2.1, hF⟩
end Jvm.Pilot.@@N@@
namespace Jvm.Pilot.@@N@@
open Jvm Jvm.ClassFile Sem Op Lib Jvm.Free Jvm.Stand Jvm.Pilot.@@N@@.Jvm.D
/-! MADE BY PROGRAM (witnessworld.py) out of the Statement's table words and the real class files: 10 classes; the members and pool entries that the words name. The judged class is class 1, her method 1. -/
namespace start1
open Jvm.ClassFile
def u (s : String) : CpInfo := .utf8 (stringToUtf16 s)
/-- a pool by its gaps: so many unusable entries, then the entry; so many at the end -/
def gap : Nat → List CpInfo → List CpInfo
  | 0, r => r
  | n + 1, r => .unusable :: gap n r
def poolList (es : List (Nat × CpInfo)) (last : Nat) : List CpInfo := es.foldr (fun e r => gap e.1 (e.2 :: r)) (gap last [])
def pool (es : List (Nat × CpInfo)) (last : Nat) : Array CpInfo := ⟨poolList es last⟩
def fileOf (pool : Array CpInfo) (this : Nat) (attrs : Array Attribute := #[]) (ms : Array MethodInfo := #[]) (fl : Nat := 33) (sup : Nat := 0) (ifs : Array Nat := #[]) (fds : Array FieldInfo := #[]) : ClassFile where
  minorVersion := 0
  majorVersion := 65
  constantPool := pool
  accessFlags := fl
  thisClass := this
  superClass := sup
  interfaces := ifs
  fields := fds
  methods := ms
  attributes := attrs
def plain (name : String) (sup : Option ClassId) : Class where
  name := name
  kind := .ordinary
  loader := none
  accessFlags := 33
  super := sup
  interfaces := #[]
  cf := none
  fields := #[]
  methods := #[]
  instanceTypes := #[]
  staticTypes := #[]
  resolved := #[]
  callSites := []
  init := .initialized
  statics := none
  mirror := none

def pool0 : Array CpInfo := pool [(5, u "<init>"), (0, u "()V"), (1, .class_ 10), (1, u "java/lang/Object")] 113

def k0m0 : Method := { name := "<init>", desc := "()V", sig := { parameters := [], returnType := none }, accessFlags := 1, code := none }
/-- java/lang/Object -/
def k0 : Class := { plain "java/lang/Object" none with
  accessFlags := 33
  interfaces := #[]
  cf := some (fileOf pool0 8 #[] #[{ accessFlags := 1, nameIndex := 5, descriptorIndex := 6, attributes := #[] }] 33 0 #[] #[])
  fields := #[]
  methods := #[k0m0]
  instanceTypes := #[]
  staticTypes := #[]
  resolved := Array.replicate 124 none
  statics := none }

def pool1 : Array CpInfo := pool [(2, .class_ 4), (1, u "java/lang/Object"), (0, u "<init>"), (0, u "()V"), (0, .integer 2147483647), (0, .methodref 9 10), (0, .class_ 11), (0, .nameAndType 12 13), (0, u "com/example/quoin/quoin/internal/SizeClasses"), (0, u "runPages"), (0, u "(II)[I"), (0, .methodref 15 16), (0, .class_ 17), (0, .nameAndType 18 19), (0, u "com/example/quoin/quoin/internal/SizeClassesRunPagesPinLaw"), (0, u "sizeOf"), (0, u "(I)I"), (0, .methodref 21 22), (0, .class_ 23), (0, .nameAndType 24 25), (0, u "java/lang/Math"), (0, u "min"), (0, u "(II)I"), (0, .methodref 15 27), (0, .nameAndType 28 29), (0, u "fits"), (0, u "(JJ)Z"), (0, .long 2), (1, .long 16), (3, u "law"), (0, u "(III)Z")] 5

def k1m0 : Method := { name := "<init>", desc := "()V", sig := { parameters := [], returnType := none }, accessFlags := 1, code := none }
def k1c1 : Code := { maxStack := 4, maxLocals := 11, code := code, exceptionTable := #[], attributes := #[] }
def k1m1 : Method := { name := "law", desc := "(III)Z", sig := { parameters := [.int, .int, .int], returnType := some .boolean }, accessFlags := 9, code := some k1c1 }
def k1c2 : Code := { maxStack := 6, maxLocals := 6, code := method_3_code, exceptionTable := #[], attributes := #[] }
def k1m2 : Method := { name := "fits", desc := "(JJ)Z", sig := { parameters := [.long, .long], returnType := some .boolean }, accessFlags := 10, code := some k1c2 }
def k1c3 : Code := { maxStack := 4, maxLocals := 5, code := method_4_code, exceptionTable := #[], attributes := #[] }
def k1m3 : Method := { name := "sizeOf", desc := "(I)I", sig := { parameters := [.int], returnType := some .int }, accessFlags := 10, code := some k1c3 }
/-- com/example/quoin/quoin/internal/SizeClassesRunPagesPinLaw -/
def k1 : Class := { plain "com/example/quoin/quoin/internal/SizeClassesRunPagesPinLaw" (some 0) with
  accessFlags := 49
  interfaces := #[]
  cf := some (fileOf pool1 15 #[] #[{ accessFlags := 1, nameIndex := 5, descriptorIndex := 6, attributes := #[] }, { accessFlags := 9, nameIndex := 36, descriptorIndex := 37, attributes := #[] }, { accessFlags := 10, nameIndex := 28, descriptorIndex := 29, attributes := #[] }, { accessFlags := 10, nameIndex := 18, descriptorIndex := 19, attributes := #[] }] 49 2 #[] #[])
  fields := #[]
  methods := #[k1m0, k1m1, k1m2, k1m3]
  instanceTypes := #[]
  staticTypes := #[]
  resolved := Array.replicate 43 none
  statics := none }

def pool2 : Array CpInfo := pool [(2, .class_ 4), (1, u "java/lang/Object"), (0, u "<init>"), (0, u "()V"), (1, .class_ 10), (1, u "com/example/quoin/quoin/internal/SizeClasses"), (0, u "CLASS_BY_QUANTA"), (0, u "[B"), (2, u "QUANTUM_SHIFT"), (0, u "I"), (0, .fieldref 8 18), (0, .nameAndType 19 20), (0, u "SIZES"), (0, u "[I"), (0, .methodref 22 23), (0, .class_ 24), (0, .nameAndType 25 26), (0, u "java/lang/Math"), (0, u "min"), (0, u "(II)I"), (0, .fieldref 8 28), (0, .nameAndType 29 16), (0, u "COUNT"), (0, .methodref 8 31), (0, .nameAndType 32 33), (0, u "leavesTooMuch"), (0, u "(II)Z"), (23, u "MAX_ELEMENT_SIZE"), (2, u "QUANTUM"), (1, u "LAST_QUANTUM_SIZE"), (1, u "SIZES_PER_DOUBLING"), (1, u "MAX_RUN_PAGES"), (0, u "MAX_TAIL_SHARE"), (4, u "runPages"), (0, u "(II)[I")] 6

def k2m0 : Method := { name := "<init>", desc := "()V", sig := { parameters := [], returnType := none }, accessFlags := 2, code := none }
def k2c1 : Code := { maxStack := 3, maxLocals := 6, code := prog_6_method_4_code, exceptionTable := #[], attributes := #[] }
def k2m1 : Method := { name := "runPages", desc := "(II)[I", sig := { parameters := [.int, .int], returnType := some (.array .int) }, accessFlags := 8, code := some k2c1 }
def k2c2 : Code := { maxStack := 3, maxLocals := 2, code := prog_6_method_5_code, exceptionTable := #[], attributes := #[] }
def k2m2 : Method := { name := "leavesTooMuch", desc := "(II)Z", sig := { parameters := [.int, .int], returnType := some .boolean }, accessFlags := 10, code := some k2c2 }
/-- com/example/quoin/quoin/internal/SizeClasses -/
def k2 : Class := { plain "com/example/quoin/quoin/internal/SizeClasses" (some 0) with
  accessFlags := 48
  interfaces := #[]
  cf := some (fileOf pool2 8 #[] #[{ accessFlags := 2, nameIndex := 5, descriptorIndex := 6, attributes := #[] }, { accessFlags := 8, nameIndex := 72, descriptorIndex := 73, attributes := #[] }, { accessFlags := 10, nameIndex := 32, descriptorIndex := 33, attributes := #[] }] 48 2 #[] #[{ accessFlags := 24, nameIndex := 57, descriptorIndex := 16, attributes := #[] }, { accessFlags := 26, nameIndex := 60, descriptorIndex := 16, attributes := #[] }, { accessFlags := 26, nameIndex := 15, descriptorIndex := 16, attributes := #[] }, { accessFlags := 26, nameIndex := 62, descriptorIndex := 16, attributes := #[] }, { accessFlags := 26, nameIndex := 64, descriptorIndex := 16, attributes := #[] }, { accessFlags := 26, nameIndex := 19, descriptorIndex := 20, attributes := #[] }, { accessFlags := 26, nameIndex := 11, descriptorIndex := 12, attributes := #[] }, { accessFlags := 24, nameIndex := 29, descriptorIndex := 16, attributes := #[] }, { accessFlags := 26, nameIndex := 66, descriptorIndex := 16, attributes := #[] }, { accessFlags := 26, nameIndex := 67, descriptorIndex := 16, attributes := #[] }])
  fields := #[{ name := "MAX_ELEMENT_SIZE", type := .int, accessFlags := 24, slot := 0, constantValue := 0 }, { name := "QUANTUM", type := .int, accessFlags := 26, slot := 1, constantValue := 0 }, { name := "QUANTUM_SHIFT", type := .int, accessFlags := 26, slot := 2, constantValue := 0 }, { name := "LAST_QUANTUM_SIZE", type := .int, accessFlags := 26, slot := 3, constantValue := 0 }, { name := "SIZES_PER_DOUBLING", type := .int, accessFlags := 26, slot := 4, constantValue := 0 }, { name := "SIZES", type := (.array .int), accessFlags := 26, slot := 5, constantValue := 0 }, { name := "CLASS_BY_QUANTA", type := (.array .byte), accessFlags := 26, slot := 6, constantValue := 0 }, { name := "COUNT", type := .int, accessFlags := 24, slot := 7, constantValue := 0 }, { name := "MAX_RUN_PAGES", type := .int, accessFlags := 26, slot := 8, constantValue := 0 }, { name := "MAX_TAIL_SHARE", type := .int, accessFlags := 26, slot := 9, constantValue := 0 }]
  methods := #[k2m0, k2m1, k2m2]
  instanceTypes := #[]
  staticTypes := #[.int, .int, .int, .int, .int, (.array .int), (.array .byte), .int, .int, .int]
  resolved := Array.replicate 80 none
  statics := some 0 }

def pool3 : Array CpInfo := pool [(1, .class_ 2), (0, u "java/lang/Math"), (1, .class_ 6), (1, u "java/lang/Object"), (0, u "<init>"), (0, u "()V"), (89, .class_ 100), (1, u "java/lang/Math$RandomNumberGeneratorHolder"), (71, u "negativeZeroFloatBits"), (0, u "J"), (2, u "negativeZeroDoubleBits"), (24, u "min"), (43, u "$assertionsDisabled"), (0, u "Z"), (88, u "(II)I"), (2, u "twoToTheDoubleScaleDown"), (0, u "D"), (4, u "twoToTheDoubleScaleUp"), (9, u "E"), (3, u "PI"), (2, u "TAU"), (2, u "DEGREES_TO_RADIANS"), (0, u "RADIANS_TO_DEGREES")] 94

def k3m0 : Method := { name := "<init>", desc := "()V", sig := { parameters := [], returnType := none }, accessFlags := 2, code := none }
def k3c1 : Code := { maxStack := 2, maxLocals := 2, code := jdk_29_method_69_code, exceptionTable := #[], attributes := #[] }
def k3m1 : Method := { name := "min", desc := "(II)I", sig := { parameters := [.int, .int], returnType := some .int }, accessFlags := 9, code := some k3c1 }
/-- java/lang/Math -/
def k3 : Class := { plain "java/lang/Math" (some 0) with
  accessFlags := 49
  interfaces := #[]
  cf := some (fileOf pool3 1 #[.nestMembers #[98]] #[{ accessFlags := 2, nameIndex := 7, descriptorIndex := 8, attributes := #[] }, { accessFlags := 9, nameIndex := 201, descriptorIndex := 335, attributes := #[] }] 49 4 #[] #[{ accessFlags := 25, nameIndex := 354, descriptorIndex := 339, attributes := #[] }, { accessFlags := 25, nameIndex := 358, descriptorIndex := 339, attributes := #[] }, { accessFlags := 25, nameIndex := 361, descriptorIndex := 339, attributes := #[] }, { accessFlags := 26, nameIndex := 364, descriptorIndex := 339, attributes := #[] }, { accessFlags := 26, nameIndex := 365, descriptorIndex := 339, attributes := #[] }, { accessFlags := 26, nameIndex := 172, descriptorIndex := 173, attributes := #[] }, { accessFlags := 26, nameIndex := 176, descriptorIndex := 173, attributes := #[] }, { accessFlags := 8, nameIndex := 344, descriptorIndex := 339, attributes := #[] }, { accessFlags := 8, nameIndex := 338, descriptorIndex := 339, attributes := #[] }, { accessFlags := 4120, nameIndex := 245, descriptorIndex := 246, attributes := #[] }])
  fields := #[{ name := "E", type := .double, accessFlags := 25, slot := 0, constantValue := 0 }, { name := "PI", type := .double, accessFlags := 25, slot := 1, constantValue := 0 }, { name := "TAU", type := .double, accessFlags := 25, slot := 2, constantValue := 0 }, { name := "DEGREES_TO_RADIANS", type := .double, accessFlags := 26, slot := 3, constantValue := 0 }, { name := "RADIANS_TO_DEGREES", type := .double, accessFlags := 26, slot := 4, constantValue := 0 }, { name := "negativeZeroFloatBits", type := .long, accessFlags := 26, slot := 5, constantValue := 0 }, { name := "negativeZeroDoubleBits", type := .long, accessFlags := 26, slot := 6, constantValue := 0 }, { name := "twoToTheDoubleScaleUp", type := .double, accessFlags := 8, slot := 7, constantValue := 0 }, { name := "twoToTheDoubleScaleDown", type := .double, accessFlags := 8, slot := 8, constantValue := 0 }, { name := "$assertionsDisabled", type := .boolean, accessFlags := 4120, slot := 9, constantValue := 0 }]
  methods := #[k3m0, k3m1]
  instanceTypes := #[]
  staticTypes := #[.double, .double, .double, .double, .double, .long, .long, .double, .double, .boolean]
  resolved := Array.replicate 460 none
  statics := none }

def pool4 : Array CpInfo := pool [(1, u "java/lang/Cloneable"), (0, .class_ 1), (0, u "java/lang/Object"), (0, .class_ 3)] 3

/-- java/lang/Cloneable -/
def k4 : Class := { plain "java/lang/Cloneable" (some 0) with
  accessFlags := 1537
  interfaces := #[]
  cf := some (fileOf pool4 2 #[] #[] 1537 4 #[] #[])
  fields := #[]
  methods := #[]
  instanceTypes := #[]
  staticTypes := #[]
  resolved := Array.replicate 8 none
  statics := none }

def pool5 : Array CpInfo := pool [(1, u "java/io/Serializable"), (0, .class_ 1), (0, u "java/lang/Object"), (0, .class_ 3)] 3

/-- java/io/Serializable -/
def k5 : Class := { plain "java/io/Serializable" (some 0) with
  accessFlags := 1537
  interfaces := #[]
  cf := some (fileOf pool5 2 #[] #[] 1537 4 #[] #[])
  fields := #[]
  methods := #[]
  instanceTypes := #[]
  staticTypes := #[]
  resolved := Array.replicate 8 none
  statics := none }

/-- the primitive byte -/
def k6 : Class := { plain "byte" none with kind := .primitive 'B', accessFlags := 0x411 }
/-- [B -/
def k7 : Class := { plain "[B" (some 0) with kind := .array 6 .byte, interfaces := #[4, 5], accessFlags := 1041 }

/-- the primitive int -/
def k8 : Class := { plain "int" none with kind := .primitive 'I', accessFlags := 0x411 }
/-- [I -/
def k9 : Class := { plain "[I" (some 0) with kind := .array 8 .int, interfaces := #[4, 5], accessFlags := 1041 }

def heap : Heap := #[{ cls := 2, slots := #[.int 0, .int 0, .int 0, .int 0, .int 0, .ref 1, .null, .int 44, .int 0, .int 0], vm := .statics 2 },
  { cls := 9, slots := #[.int 16, .int 32, .int 48, .int 64, .int 80, .int 96, .int 112, .int 128, .int 144, .int 160, .int 176, .int 192, .int 208, .int 224, .int 240, .int 256, .int 272, .int 288, .int 304, .int 320, .int 336, .int 352, .int 368, .int 384, .int 400, .int 416, .int 432, .int 448, .int 464, .int 480, .int 496, .int 512, .int 640, .int 768, .int 896, .int 1024, .int 1280, .int 1536, .int 1792, .int 2048, .int 2560, .int 3072, .int 3584, .int 4096], vm := .none }]
def classes : Array Class := #[k0, k1, k2, k3, k4, k5, k6, k7, k8, k9]
def interned : List (Array UInt16 × Addr) := []
def slotsUsed : Nat := 54
def theMethod : MethodId := ⟨1, 1⟩
def args0 : Array Value := #[.int 5, .int 6, .int 7]
def aboutOver (below : List Frame) : State where
  vm := { classes := classes, interned := interned.toArray }
  heap := heap
  slotsUsed := slotsUsed
  threads := #[{ frames := .invoking theMethod args0 :: below }]
def below0 : List Frame := [.native { method := ⟨0, 0⟩, args := #[] }]
def about1 : State := aboutOver below0
def p0 : Program := .bare "" "" ""
def e0 : Env := launch0.env 0 0 0
theorem w_frames : about1.frames = Frame.invoking theMethod args0 :: below0 := rfl
set_option maxRecDepth 65536 in
theorem w_args : argsFit about1.vm theMethod args0 = true := by decide +kernel
set_option maxRecDepth 65536 in
theorem w_heap : heapFits about1 = true := by decide +kernel
set_option maxRecDepth 65536 in
theorem w_runnable : about1.curStatus? = some .runnable := by decide +kernel
set_option maxRecDepth 65536 in
theorem w_alone : about1.alone = true := by decide +kernel
set_option maxRecDepth 65536 in
theorem w_named : about1.methodNamed? x = some theMethod := by decide +kernel
set_option maxRecDepth 65536 in
theorem w_hears : about1.hears theMethod below0 = true := by decide +kernel
set_option maxRecDepth 65536 in
theorem w_ripe : about1.ripe theMethod args0 below0 = true := by decide +kernel
theorem w_running : about1.status = .running := rfl
set_option maxRecDepth 65536 in
theorem w_room : about1.hasRoom e0.platform room_1 = true :=
  launch0.hasRoom_least _ room_1 (by decide +kernel) (by decide +kernel) (by decide +kernel) (by decide +kernel) (by decide +kernel) (by decide +kernel)
theorem allAtoms_all (ts : List Jvm.Cond) (a : Array Jvm.Value) (st : Jvm.State) : (allAtoms ts).before a st = ts.all (fun c => c.before a st) := by
  induction ts with
  | nil => rfl
  | cons c t ih =>
    show (Jvm.Cond.and c (allAtoms t)).before a st = _
    rw [Jvm.Cond.before_and, ih, List.all_cons]
def words1 : List Jvm.Cond := Jvm.Cond.code x code maxLocals ret :: tables_1
/-- a 'code' word, met by the world's own term for the bytes: nothing is compared byte by byte -/
theorem code_word {y : MethodName} {bytes : ByteArray} {mx : Nat} {rt : Option FieldType} {a : Array Value} {s : State} {m : MethodId} {meth : Method} {c : Code} (h1 : s.methodNamed? y = some m) (h2 : s.vm.method? m = some meth) (h3 : meth.code = some c) (h4 : c.code = bytes)
    (h5 : (c.maxLocals == mx && c.exceptionTable.isEmpty && decide (c.maxStack ≤ mostOperands) && decide (meth.sig.returnType = rt) && !meth.locks && decide (parseMethodDescriptor y.desc = some meth.sig)) = true) : (Jvm.Cond.code y bytes mx rt).before a s = true := by
  simp only [Bool.and_eq_true, beq_iff_eq, Bool.not_eq_true', decide_eq_true_eq] at h5
  obtain ⟨⟨⟨⟨⟨g1, g2⟩, g3⟩, g4⟩, g5⟩, g6⟩ := h5
  simp [Cond.before, Cond.holds, Cond.value, h1, h2, h3, h4, g1, g2, g3, g4, g5, g6]
def isCode : Jvm.Cond → Bool
  | .code _ _ _ _ => true
  | _ => false
theorem all_split {L : List Jvm.Cond} {P : Jvm.Cond → Bool} (h1 : L.all (fun c => isCode c || P c) = true) (h2 : ∀ c ∈ L.filter isCode, P c = true) : L.all P = true := by
  refine List.all_eq_true.mpr fun c hc => ?_
  have h := List.all_eq_true.mp h1 c hc
  rcases Bool.eq_false_or_eq_true (isCode c) with hi | hi
  · exact h2 c (List.mem_filter.mpr ⟨hc, hi⟩)
  · simpa [hi] using h
set_option maxRecDepth 65536 in
theorem w_c0 : (Jvm.Cond.code x code maxLocals ret).before args0 about1 = true := code_word (m := ⟨1, 1⟩) (meth := k1m1) (c := k1c1) (by decide +kernel) rfl rfl rfl (by decide +kernel)
set_option maxRecDepth 65536 in
theorem w_c1 : (Jvm.Cond.code ({ cls := "com/example/quoin/quoin/internal/SizeClasses", name := "runPages", desc := "(II)[I" } : Jvm.MethodName) prog_6_method_4_code (6 : Nat) (Option.some (Jvm.ClassFile.FieldType.array Jvm.ClassFile.FieldType.int))).before args0 about1 = true := code_word (m := ⟨2, 1⟩) (meth := k2m1) (c := k2c1) (by decide +kernel) rfl rfl rfl (by decide +kernel)
set_option maxRecDepth 65536 in
theorem w_c2 : (Jvm.Cond.code ({ cls := "java/lang/Math", name := "min", desc := "(II)I" } : Jvm.MethodName) jdk_29_method_69_code (2 : Nat) (Option.some Jvm.ClassFile.FieldType.int)).before args0 about1 = true := code_word (m := ⟨3, 1⟩) (meth := k3m1) (c := k3c1) (by decide +kernel) rfl rfl rfl (by decide +kernel)
set_option maxRecDepth 65536 in
theorem w_c3 : (Jvm.Cond.code ({ cls := "com/example/quoin/quoin/internal/SizeClasses", name := "leavesTooMuch", desc := "(II)Z" } : Jvm.MethodName) prog_6_method_5_code (2 : Nat) (Option.some Jvm.ClassFile.FieldType.boolean)).before args0 about1 = true := code_word (m := ⟨2, 2⟩) (meth := k2m2) (c := k2c2) (by decide +kernel) rfl rfl rfl (by decide +kernel)
set_option maxRecDepth 65536 in
theorem w_c4 : (Jvm.Cond.code ({ cls := "com/example/quoin/quoin/internal/SizeClassesRunPagesPinLaw", name := "sizeOf", desc := "(I)I" } : Jvm.MethodName) method_4_code (5 : Nat) (Option.some Jvm.ClassFile.FieldType.int)).before args0 about1 = true := code_word (m := ⟨1, 3⟩) (meth := k1m3) (c := k1c3) (by decide +kernel) rfl rfl rfl (by decide +kernel)
set_option maxRecDepth 65536 in
theorem w_c5 : (Jvm.Cond.code ({ cls := "com/example/quoin/quoin/internal/SizeClassesRunPagesPinLaw", name := "fits", desc := "(JJ)Z" } : Jvm.MethodName) method_3_code (6 : Nat) (Option.some Jvm.ClassFile.FieldType.boolean)).before args0 about1 = true := code_word (m := ⟨1, 2⟩) (meth := k1m2) (c := k1c2) (by decide +kernel) rfl rfl rfl (by decide +kernel)
def codes1 : List Jvm.Cond := [Jvm.Cond.code x code maxLocals ret, Jvm.Cond.code ({ cls := "com/example/quoin/quoin/internal/SizeClasses", name := "runPages", desc := "(II)[I" } : Jvm.MethodName) prog_6_method_4_code (6 : Nat) (Option.some (Jvm.ClassFile.FieldType.array Jvm.ClassFile.FieldType.int)), Jvm.Cond.code ({ cls := "java/lang/Math", name := "min", desc := "(II)I" } : Jvm.MethodName) jdk_29_method_69_code (2 : Nat) (Option.some Jvm.ClassFile.FieldType.int), Jvm.Cond.code ({ cls := "com/example/quoin/quoin/internal/SizeClasses", name := "leavesTooMuch", desc := "(II)Z" } : Jvm.MethodName) prog_6_method_5_code (2 : Nat) (Option.some Jvm.ClassFile.FieldType.boolean), Jvm.Cond.code ({ cls := "com/example/quoin/quoin/internal/SizeClassesRunPagesPinLaw", name := "sizeOf", desc := "(I)I" } : Jvm.MethodName) method_4_code (5 : Nat) (Option.some Jvm.ClassFile.FieldType.int), Jvm.Cond.code ({ cls := "com/example/quoin/quoin/internal/SizeClassesRunPagesPinLaw", name := "fits", desc := "(JJ)Z" } : Jvm.MethodName) method_3_code (6 : Nat) (Option.some Jvm.ClassFile.FieldType.boolean)]
set_option maxRecDepth 65536 in
theorem codes_eq : words1.filter isCode = codes1 := rfl
theorem w_codes : ∀ c ∈ words1.filter isCode, c.before args0 about1 = true := by
  rw [codes_eq]
  intro c hc
  simp only [codes1, List.mem_cons, List.not_mem_nil, or_false] at hc
  rcases hc with rfl | rfl | rfl | rfl | rfl | rfl
  · exact w_c0
  · exact w_c1
  · exact w_c2
  · exact w_c3
  · exact w_c4
  · exact w_c5
set_option maxRecDepth 65536 in
theorem w_t1 : (words1.take 24).all (fun c => isCode c || c.before args0 about1) = true := by decide +kernel
set_option maxRecDepth 65536 in
theorem w_t2 : (words1.drop 24).all (fun c => isCode c || c.before args0 about1) = true := by decide +kernel
theorem w_tables : (allAtoms (Jvm.Cond.code x code maxLocals ret :: tables_1)).before args0 about1 = true := by
  rw [allAtoms_all]
  show words1.all (fun c => c.before args0 about1) = true
  refine all_split ?_ w_codes
  rw [← List.take_append_drop 24 words1, List.all_append, w_t1, w_t2]
  rfl
set_option maxRecDepth 65536 in
theorem w_case : (Jvm.Cond.and given_1 narrow_1).before args0 about1 = true := by decide +kernel
theorem w_applies : (headSpec (Jvm.Cond.code x code maxLocals ret :: tables_1) room_1).applies x e0.platform about1 = true :=
  (Spec.applies_iff w_frames).mpr ⟨w_running, w_runnable, w_alone, w_named, w_hears, w_ripe, w_room, w_tables⟩
theorem atStart : AtStart classFile x code maxLocals ret World_1 tables_1 room_1 Calls_1 rest_1 Pre_1 launch0 p0 e0 about1 theMethod args0 below0 :=
  ⟨lists_1, trivial, launch0.admits_env _ _ _, launch0.least_env, fairChoices_fair.cas, fairChoices_fair.clock, w_frames, w_args, w_heap, w_applies, trivial, trivial, w_case⟩
end start1
theorem witness_1 : WitnessClaimed_1 := ⟨start1.p0, start1.e0, start1.about1, start1.theMethod, start1.args0, start1.below0, start1.atStart⟩
end Jvm.Pilot.@@N@@
