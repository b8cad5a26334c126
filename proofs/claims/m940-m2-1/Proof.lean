import JvmDerived
import JvmDerived.Pilot.@@N@@Statement
import JvmDerived.Pilot.@@N@@Code
set_option linter.unusedVariables false
set_option linter.unusedSimpArgs false
@@BLOCK:NumsL.lean.txt@@
namespace Jvm.RoadKit
open Sem ClassFile Op Lib Jvm.Stand Jvm.Free Jvm.LawKit
section New
variable {p : Program} {l : Launch} {e : Env} {R : Room} {s : State} {m : MethodId} {args : Array Value} {below : List Frame} {meth : Method} {c : Code} {T : State} {locs : List Loc} {cells slots : Nat}
theorem retI (X : Stand p l e R s m args below meth c T locs cells slots) (hx : p.tables.exec = Jvm.exec) {pc : Nat} {Ls : Array Slot} {z : Int32} {rest : List Value} (hret : meth.sig.returnType = some .int) (hd : decode c.code pc = .ok (.ireturn, 1)) {fs : List Frame}
    (hl : ∀ (f : JFrame) (acts : List Action), f.method = m → f.locked = none → f.entered = [] → (doReturn e (T.setTop f) acts (some (.int z))).1 = T.setFrames fs) : Steps p.tables e below (T.setTop (mkF m pc Ls (.int z :: rest))) (T.setFrames fs) := by
  have hm' : T.vm.method? m = some meth := X.method'
  have hn : narrow .int (.int z) = .int z := rfl
  show Steps p.tables e below (T.setTop { method := m, pc := pc, locals := Ls, stack := _ :: rest, locked := none }) _
  jvm_step X.here [X.here.top, hx, hd, hm', hret, hn]
  first | (intro acts; rw [hl _ acts rfl rfl rfl]) | rw [hl _ _ rfl rfl rfl]
  exact Steps.refl _
end New
end Jvm.RoadKit
namespace Jvm.Pilot.@@N@@
open Jvm Jvm.ClassFile Sem Op Lib Jvm.Free Jvm.Stand Jvm.LawKit Jvm.RoadKit Bundle Jvm.Pilot.@@N@@.Jvm.D
section OwnKit
variable {p : Program} {l : Launch} {e : Env} {R : Room} {s : State} {m : MethodId} {args : Array Value} {below : List Frame} {meth : Method} {c : Code} {T : State} {locs : List Loc} {cells slots : Nat} {Z : State} {a0 : Array Value} {h : Heap} {Q : Option Value → Heap → List Loc → Prop} {C N : Nat} {t t' : State} {P : Outcome → State → Prop}
/-- from the state t the run comes to a return that meets Q -/
def own_Goes (p : Program) (e : Env) (below : List Frame) (P : Outcome → State → Prop) (t : State) : Prop :=
  ∃ s₂ o, Steps p.tables e below t s₂ ∧ s₂.status = .running ∧ Ended s₂ below o ∧ P o s₂
def own_P (s : State) (Q : Option Value → Heap → List Loc → Prop) (C N : Nat) : Outcome → State → Prop := fun o s₂ => ∃ v L, o = .returned v ∧ Q v s₂.heap L ∧ FrameEnd s o s₂ L C N
theorem own_by (st : ∀ target, Steps p.tables e below t' target → Steps p.tables e below t target) (k : own_Goes p e below P t') : own_Goes p e below P t := by
  obtain ⟨s₂, o, h1, h2⟩ := k
  exact ⟨s₂, o, st _ h1, h2⟩
theorem own_tr (st : Steps p.tables e below t t') (k : own_Goes p e below P t') : own_Goes p e below P t := by
  obtain ⟨s₂, o, h1, h2⟩ := k
  exact ⟨s₂, o, st.trans h1, h2⟩
theorem own_retI (X : Stand p l e R s m args below meth c T locs cells slots) (hx : p.tables.exec = Jvm.exec) (hlk : meth.locks = false) {pc : Nat} {Ls : Array Slot} {z : Int32} {rest : List Value} (hret : meth.sig.returnType = some .int) (hd : decode c.code pc = .ok (.ireturn, 1)) (hC : cells ≤ C) (hN : slots ≤ N) (hq : Q (some (.int z)) T.heap locs) : own_Goes p e below (own_P s Q C N) (T.setTop (mkF m pc Ls (.int z :: rest))) := by
  obtain ⟨fs, hr, hrun, hended, hW, hsame⟩ := X.leave (v := some (.int z)) (fun h => by rw [hret] at h; cases h) hlk
  exact ⟨_, _, retI X hx hret hd hr, hrun, hended, _, _, rfl, hq, ⟨_, rfl⟩, hW, hsame.mono hC hN⟩
theorem own_retN (X : Stand p l e R s m args below meth c T locs cells slots) (hx : p.tables.exec = Jvm.exec) (hlk : meth.locks = false) {pc : Nat} {Ls : Array Slot} {z : Int32} {ty : FieldType} {rest : List Value} (hret : meth.sig.returnType = some ty) (ht : ty = .boolean ∨ ty = .byte ∨ ty = .char ∨ ty = .short) (hd : decode c.code pc = .ok (.ireturn, 1)) (hC : cells ≤ C) (hN : slots ≤ N) (hq : Q (some (.int (nar ty z))) T.heap locs) : own_Goes p e below (own_P s Q C N) (T.setTop (mkF m pc Ls (.int z :: rest))) := by
  obtain ⟨fs, hr, hrun, hended, hW, hsame⟩ := X.leave (v := some (.int (nar ty z))) (fun h => by rw [hret] at h; cases h) hlk
  exact ⟨_, _, retN X hx hret ht hd hr, hrun, hended, _, _, rfl, hq, ⟨_, rfl⟩, hW, hsame.mono hC hN⟩
theorem own_retR (X : Stand p l e R s m args below meth c T locs cells slots) (hx : p.tables.exec = Jvm.exec) (hlk : meth.locks = false) {pc : Nat} {Ls : Array Slot} {w : Value} {ty : FieldType} {rest : List Value} (hret : meth.sig.returnType = some ty) (ht : ty.isReference = true) (hw : w.isRef = true) (hn : narrow ty w = w) (hd : decode c.code pc = .ok (.areturn, 1)) (hC : cells ≤ C) (hN : slots ≤ N) (hq : Q (some w) T.heap locs) : own_Goes p e below (own_P s Q C N) (T.setTop (mkF m pc Ls (w :: rest))) := by
  obtain ⟨fs, hr, hrun, hended, hW, hsame⟩ := X.leave (v := some w) (fun h => by rw [hret] at h; cases h) hlk
  exact ⟨_, _, retOut X hx hret hn (Or.inr (Or.inr (Or.inr (Or.inr ⟨rfl, ht, hw⟩)))) hd hr, hrun, hended, _, _, rfl, hq, ⟨_, rfl⟩, hW, hsame.mono hC hN⟩
theorem own_retV (X : Stand p l e R s m args below meth c T locs cells slots) (hx : p.tables.exec = Jvm.exec) (hlk : meth.locks = false) {pc : Nat} {Ls : Array Slot} (hret : meth.sig.returnType = none) (hd : decode c.code pc = .ok (.return_, 1)) (hC : cells ≤ C) (hN : slots ≤ N) (hq : Q none T.heap locs) : own_Goes p e below (own_P s Q C N) (T.setTop (mkF m pc Ls [])) := by
  obtain ⟨fs, hr, hrun, hended, hW, hsame⟩ := X.leave (v := none) (fun _ => rfl) hlk
  exact ⟨_, _, X.returnOut hx hret hd hr, hrun, hended, _, _, rfl, hq, ⟨_, rfl⟩, hW, hsame.mono hC hN⟩
/-- the method y, called with as' on the heap h, returns so that Qc holds -/
def own_Does (l : Launch) (Z : State) (y : MethodName) (bytes : ByteArray) (maxL : Nat) (ret : Option FieldType) (ws : List Jvm.Cond) (rm : Room) (as' : Array Value) (h : Heap) (Qc : Option Value → Heap → List Loc → Prop) : Prop :=
  MetFree l y (head1 (Jvm.Cond.code y bytes maxL ret :: ws) rm) (fun a U => a = as' ∧ Z.Warmed39 U.vm ∧ U.heap = h) (fun _ _ _ _ _ => True) (fun _ U o U' => ∃ v L, o = .returned v ∧ Qc v U'.heap L ∧ FrameEnd U o U' L rm.cells rm.slots)
theorem own_body {y : MethodName} {bytes : ByteArray} {maxL : Nat} {ret : Option FieldType} {ws : List Jvm.Cond} {rm : Room} {as' : Array Value} (hpn : plainName y.cls = true)
    (body : ∀ (p : Program) (e : Env) (s : State) (m : MethodId) (below : List Frame) (meth : Method) (c : Code) (T : State), p.tables.exec = Jvm.exec → c.code = bytes → c.maxLocals = maxL → meth.sig.returnType = ret → meth.locks = false → meth.name = y.name → s.vm.findClass y.cls = some m.cls → Z.Warmed39 s.vm → Stand p l e rm s m as' below meth c T [] 0 0 → T.heap = h → own_Goes p e below (own_P s Q rm.cells rm.slots) (T.setTop (entryFrame m as' maxL))) :
    own_Does l Z y bytes maxL ret ws rm as' h Q := by
  refine MetFree.of_bodySF (plainFor_of_name hpn) hisR ?_
  intro p e s m args below meth c s₁ Bd hml0 hP hK
  obtain ⟨rfl, hZ, hh⟩ := hP
  exact body p e s m below meth c s₁ Bd.exec Bd.bytes hml0 Bd.returns Bd.notSynchronized (name_of_methodNamed Bd.named Bd.method).1 (findClass_of_methodNamed Bd.named) hZ (Stand.of_body Bd) (by rw [← hh, Bd.state]; rfl)
theorem own_bodyP {y : MethodName} {bytes : ByteArray} {maxL : Nat} {ret : Option FieldType} {ws : List Jvm.Cond} {rm : Room} {as' : Array Value} (hpn : plainFor y = true)
    (body : ∀ (p : Program) (e : Env) (s : State) (m : MethodId) (below : List Frame) (meth : Method) (c : Code) (T : State), p.tables.exec = Jvm.exec → c.code = bytes → c.maxLocals = maxL → meth.sig.returnType = ret → meth.locks = false → meth.name = y.name → s.vm.findClass y.cls = some m.cls → Z.Warmed39 s.vm → Stand p l e rm s m as' below meth c T [] 0 0 → T.heap = h → own_Goes p e below (own_P s Q rm.cells rm.slots) (T.setTop (entryFrame m as' maxL))) :
    own_Does l Z y bytes maxL ret ws rm as' h Q := by
  refine MetFree.of_bodySF hpn hisR ?_
  intro p e s m args below meth c s₁ Bd hml0 hP hK
  obtain ⟨rfl, hZ, hh⟩ := hP
  exact body p e s m below meth c s₁ Bd.exec Bd.bytes hml0 Bd.returns Bd.notSynchronized (name_of_methodNamed Bd.named Bd.method).1 (findClass_of_methodNamed Bd.named) hZ (Stand.of_body Bd) (by rw [← hh, Bd.state]; rfl)
/-- it returns w, and nothing has been written -/
def own_Is (w : Value) (h : Heap) : Option Value → Heap → List Loc → Prop := fun v h' L => v = some w ∧ L = [] ∧ h' = h
theorem own_callS (X : Stand p l e R s m args below meth c T locs cells slots) (hx : p.tables.exec = Jvm.exec) (hZ : Z.Warmed39 s.vm) {own : String} {index : Nat} {y : MethodName} {bytes : ByteArray} {maxL : Nat} {ret : Option FieldType} {rm : Room} {argsL rest : List Value} {Qc : Option Value → Heap → List Loc → Prop} {W : Nat}
    (hown : s.vm.findClass own = some m.cls) (w1 : (Cond.methodLink own index y).before a0 Z = true) (w2 : (Cond.static y).before a0 Z = true) (w3 : (Cond.initialized y.cls).before a0 Z = true) (w4 : (Cond.code y bytes maxL ret).before a0 Z = true)
    (hy : y.cls ≠ "java/lang/invoke/MethodHandle" ∧ y.cls ≠ "java/lang/invoke/VarHandle") (eT : T.heap = h) (D : own_Does l Z y bytes maxL ret [] rm argsL.toArray h Qc)
    (hf : rm.frames + 1 ≤ R.frames) (hl : W + (maxL + 11) + rm.locals ≤ R.locals) (hc : cells + rm.cells ≤ R.cells) (hn : slots + rm.slots ≤ R.slots)
    {pc : Nat} {Ls : Array Slot} {S : List Value} (hsize : Ls.size = c.maxLocals) (hlen : ∀ sig, parseMethodDescriptor y.desc = some sig → argsL.length = sig.parameters.length) (hstack : S = argsL.reverse ++ rest) (hW : 2 * 0 + (rest.map fun v => v.category).sum ≤ W) (hd : decode c.code pc = .ok (.invokestatic index, 3))
    (k : ∀ v T' L', Stand p l e R s m args below meth c T' (locs ++ L') (cells + rm.cells) (slots + rm.slots) → Qc v T'.heap L' → own_Goes p e below P (T'.setTop (mkF m (pc + 3) Ls (v.toList ++ rest)))) :
    own_Goes p e below P (T.setTop (mkF m pc Ls S)) := by
  obtain ⟨v, _, ⟨T', L', k', n'⟩, -, X', ⟨Lc, hQ, l', y', z'⟩, st⟩ := Jvm.LawKit.callS X hx hown (mvT hZ w1) (mvT hZ w2) (mvT hZ w3) (mvT hZ w4) hy (backOf (W := W) D hZ w4 w3 hf hl) (g := mkF m pc Ls S) rfl hsize (argsL := argsL) (rest := rest) hlen hstack hW hd (fun _ _ => ⟨rfl, eT, hc, hn⟩)
  dsimp only [Pt.U, Pt.locs, Pt.cells, Pt.slots] at X' l' y' z' st hQ
  subst l' y' z'
  exact own_by st (k v T' Lc X' hQ)
theorem own_callS0 (X : Stand p l e R s m args below meth c T locs cells slots) (hx : p.tables.exec = Jvm.exec) (hZ : Z.Warmed39 s.vm) {own : String} {index : Nat} {y : MethodName} {bytes : ByteArray} {maxL : Nat} {ret : Option FieldType} {fr lo : Nat} {argsL rest : List Value} {w : Value} {W : Nat}
    (hown : s.vm.findClass own = some m.cls) (w1 : (Cond.methodLink own index y).before a0 Z = true) (w2 : (Cond.static y).before a0 Z = true) (w3 : (Cond.initialized y.cls).before a0 Z = true) (w4 : (Cond.code y bytes maxL ret).before a0 Z = true)
    (hy : y.cls ≠ "java/lang/invoke/MethodHandle" ∧ y.cls ≠ "java/lang/invoke/VarHandle") (eT : T.heap = h) (D : own_Does l Z y bytes maxL ret [] { frames := fr, cells := 0, slots := 0, locals := lo } argsL.toArray h (own_Is w h))
    (hf : fr + 1 ≤ R.frames) (hl : W + (maxL + 11) + lo ≤ R.locals) (hc : cells ≤ R.cells) (hn : slots ≤ R.slots)
    {pc : Nat} {Ls : Array Slot} {S : List Value} (hsize : Ls.size = c.maxLocals) (hlen : ∀ sig, parseMethodDescriptor y.desc = some sig → argsL.length = sig.parameters.length) (hstack : S = argsL.reverse ++ rest) (hW : 2 * 0 + (rest.map fun v => v.category).sum ≤ W) (hd : decode c.code pc = .ok (.invokestatic index, 3))
    (k : ∀ T', Stand p l e R s m args below meth c T' locs cells slots → T'.heap = h → own_Goes p e below P (T'.setTop (mkF m (pc + 3) Ls (w :: rest)))) :
    own_Goes p e below P (T.setTop (mkF m pc Ls S)) := by
  refine own_callS X hx hZ hown w1 w2 w3 w4 hy eT D hf hl hc hn hsize hlen hstack hW hd fun v T' L' X' hQ => ?_
  obtain ⟨rfl, rfl, e'⟩ := hQ
  rw [List.append_nil] at X'
  exact k T' X' e'
theorem own_callV (X : Stand p l e R s m args below meth c T locs cells slots) (hx : p.tables.exec = Jvm.exec) (hZ : Z.Warmed39 s.vm) {own K : String} {index : Nat} {y : MethodName} {bytes : ByteArray} {maxL : Nat} {ret : Option FieldType} {rm : Room} {b : Addr} {argsL rest : List Value} {Qc : Option Value → Heap → List Loc → Prop} {W : Nat}
    (hown : s.vm.findClass own = some m.cls) (w1 : (Cond.methodLink own index y).before a0 Z = true) (w2 : (Cond.declares y).before a0 Z = true) (w3 : (Cond.selects K y y).before a0 Z = true) (w4 : (Cond.instanceMethod y).before a0 Z = true) (w5 : (Cond.code y bytes maxL ret).before a0 Z = true) (w6 : (Cond.initialized y.cls).before a0 Z = true)
    (hy : y.cls ≠ "java/lang/invoke/MethodHandle" ∧ y.cls ≠ "java/lang/invoke/VarHandle") (eT : T.heap = h) (E : Exa Z h b K) (D : own_Does l Z y bytes maxL ret [] rm (.ref b :: argsL).toArray h Qc)
    (hf : rm.frames + 1 ≤ R.frames) (hl : W + (maxL + 11) + rm.locals ≤ R.locals) (hc : cells + rm.cells ≤ R.cells) (hn : slots + rm.slots ≤ R.slots)
    {pc : Nat} {Ls : Array Slot} {S : List Value} (hsize : Ls.size = c.maxLocals) (hlen : ∀ sig, parseMethodDescriptor y.desc = some sig → argsL.length = sig.parameters.length) (hstack : S = argsL.reverse ++ .ref b :: rest) (hW : 2 * 0 + (rest.map fun v => v.category).sum ≤ W) (hd : decode c.code pc = .ok (.invokevirtual index, 3))
    (k : ∀ v T' L', Stand p l e R s m args below meth c T' (locs ++ L') (cells + rm.cells) (slots + rm.slots) → Qc v T'.heap L' → own_Goes p e below P (T'.setTop (mkF m (pc + 3) Ls (v.toList ++ rest)))) :
    own_Goes p e below P (T.setTop (mkF m pc Ls S)) := by
  obtain ⟨cq, kq, qa, -, qc⟩ := isOf (T := T) hZ eT E
  obtain ⟨v, _, ⟨T', L', k', n'⟩, -, X', ⟨Lc, hQ, l', y', z'⟩, st⟩ := X.virtualBack hx (y := y) (z := y) hown (mvT hZ w1) (mvT hZ w2) (notFace_of_selects (args := #[]) (mvT hZ w3)) (mvT hZ w3) (mvT hZ w4) hy (backOf (W := W) D hZ w5 w6 hf hl) qa qc (g := mkF m pc Ls S) rfl hsize (Steps.refl _) (argsL := argsL) (rest := rest) hlen hstack hW hd (fun _ _ => ⟨rfl, eT, hc, hn⟩)
  dsimp only [Pt.U, Pt.locs, Pt.cells, Pt.slots] at X' l' y' z' st hQ
  subst l' y' z'
  exact own_tr st (k v T' Lc X' hQ)
theorem own_callV0 (X : Stand p l e R s m args below meth c T locs cells slots) (hx : p.tables.exec = Jvm.exec) (hZ : Z.Warmed39 s.vm) {own K : String} {index : Nat} {y : MethodName} {bytes : ByteArray} {maxL : Nat} {ret : Option FieldType} {fr lo : Nat} {b : Addr} {argsL rest : List Value} {w : Value} {W : Nat}
    (hown : s.vm.findClass own = some m.cls) (w1 : (Cond.methodLink own index y).before a0 Z = true) (w2 : (Cond.declares y).before a0 Z = true) (w3 : (Cond.selects K y y).before a0 Z = true) (w4 : (Cond.instanceMethod y).before a0 Z = true) (w5 : (Cond.code y bytes maxL ret).before a0 Z = true) (w6 : (Cond.initialized y.cls).before a0 Z = true)
    (hy : y.cls ≠ "java/lang/invoke/MethodHandle" ∧ y.cls ≠ "java/lang/invoke/VarHandle") (eT : T.heap = h) (E : Exa Z h b K) (D : own_Does l Z y bytes maxL ret [] { frames := fr, cells := 0, slots := 0, locals := lo } (.ref b :: argsL).toArray h (own_Is w h))
    (hf : fr + 1 ≤ R.frames) (hl : W + (maxL + 11) + lo ≤ R.locals) (hc : cells ≤ R.cells) (hn : slots ≤ R.slots)
    {pc : Nat} {Ls : Array Slot} {S : List Value} (hsize : Ls.size = c.maxLocals) (hlen : ∀ sig, parseMethodDescriptor y.desc = some sig → argsL.length = sig.parameters.length) (hstack : S = argsL.reverse ++ .ref b :: rest) (hW : 2 * 0 + (rest.map fun v => v.category).sum ≤ W) (hd : decode c.code pc = .ok (.invokevirtual index, 3))
    (k : ∀ T', Stand p l e R s m args below meth c T' locs cells slots → T'.heap = h → own_Goes p e below P (T'.setTop (mkF m (pc + 3) Ls (w :: rest)))) :
    own_Goes p e below P (T.setTop (mkF m pc Ls S)) := by
  refine own_callV X hx hZ hown w1 w2 w3 w4 w5 w6 hy eT E D hf hl hc hn hsize hlen hstack hW hd fun v T' L' X' hQ => ?_
  obtain ⟨rfl, rfl, e'⟩ := hQ
  rw [List.append_nil] at X'
  exact k T' X' e'
theorem own_getS (X : Stand p l e R s m args below meth c T locs cells slots) (hx : p.tables.exec = Jvm.exec) (hZ : Z.Warmed39 s.vm) {own O n d : String} {index : Nat} (hown : s.vm.findClass own = some m.cls) (w : (Cond.fieldLink own index O n d).before a0 Z = true) (eT : T.heap = h) {v : Value} (F : Sta Z h O n d v)
    {pc : Nat} {Ls : Array Slot} {S : List Value} (hd : decode c.code pc = .ok (.getstatic index, 3))
    (k : ∀ T', Stand p l e R s m args below meth c T' locs cells slots → T'.heap = h → own_Goes p e below P (T'.setTop (mkF m (pc + 3) Ls (v :: S)))) :
    own_Goes p e below P (T.setTop (mkF m pc Ls S)) := by
  obtain ⟨T', X', e', st⟩ := getS X hx hZ (host := "") hown w Via.refl eT F (g := mkF m pc Ls S) rfl hd
  exact own_by st (k T' X' e')
theorem own_getF (X : Stand p l e R s m args below meth c T locs cells slots) (hx : p.tables.exec = Jvm.exec) (hZ : Z.Warmed39 s.vm) {own O n d : String} {index : Nat} (hown : s.vm.findClass own = some m.cls) (w : (Cond.fieldLink own index O n d).before a0 Z = true) (eT : T.heap = h) {a : Addr} {v : Value} (F : Fld Z h a O n d v)
    {pc : Nat} {Ls : Array Slot} {S : List Value} (hd : decode c.code pc = .ok (.getfield index, 3))
    (k : ∀ T', Stand p l e R s m args below meth c T' locs cells slots → T'.heap = h → own_Goes p e below P (T'.setTop (mkF m (pc + 3) Ls (v :: S)))) :
    own_Goes p e below P (T.setTop (mkF m pc Ls (.ref a :: S))) := by
  obtain ⟨T', X', e', st⟩ := getF X hx hZ (host := "") hown (Or.inl w) Via.refl eT F (g := mkF m pc Ls (.ref a :: S)) rfl rfl hd
  exact own_by st (k T' X' e')
/-! a callee or a road that may load a String constant -/
def own_PW (s : State) (Q : Option Value → Heap → List Loc → Prop) (C N : Nat) : Outcome → State → Prop := fun o s₂ => ∃ v L, o = .returned v ∧ Q v s₂.heap L ∧ ReturnedEndW s o s₂ L C N
theorem own_endW {vm0 : Vm} {k0 : Nat} (X : Stand p l e R (s.setVm vm0) m args below meth c T locs cells slots) (hS : s.Since vm0 k0) (hk : k0 ≤ T.heap.size) (hlk : meth.locks = false) (v : Option Value) (hv : meth.sig.returnType = none → v = none) (hC : cells ≤ C) (hN : slots ≤ N) (hq : Q v T.heap locs) :
    ∃ fs, (∀ (f : JFrame) (acts : List Action), f.method = m → f.locked = none → f.entered = [] → (doReturn e (T.setTop f) acts v).1 = T.setFrames fs) ∧ ∀ t0, Steps p.tables e below t0 (T.setFrames fs) → own_Goes p e below (own_PW s Q C N) t0 := by
  obtain ⟨fs, hr, hrun, hended, -, h1, h2, h3⟩ := X.leaveW hS hk hv hlk
  exact ⟨fs, hr, fun t0 st => ⟨_, _, st, hrun, hended, _, _, rfl, hq, ⟨_, rfl⟩, h1, h2, h3.mono hC hN⟩⟩
theorem own_retNW {vm0 : Vm} {k0 : Nat} (X : Stand p l e R (s.setVm vm0) m args below meth c T locs cells slots) (hS : s.Since vm0 k0) (hk : k0 ≤ T.heap.size) (hx : p.tables.exec = Jvm.exec) (hlk : meth.locks = false) {pc : Nat} {Ls : Array Slot} {z : Int32} {ty : FieldType} {rest : List Value} (hret : meth.sig.returnType = some ty) (ht : ty = .boolean ∨ ty = .byte ∨ ty = .char ∨ ty = .short) (hd : decode c.code pc = .ok (.ireturn, 1)) (hC : cells ≤ C) (hN : slots ≤ N) (hq : Q (some (.int (nar ty z))) T.heap locs) : own_Goes p e below (own_PW s Q C N) (T.setTop (mkF m pc Ls (.int z :: rest))) := by
  obtain ⟨fs, hr, k⟩ := own_endW X hS hk hlk (some (.int (nar ty z))) (fun h => by rw [hret] at h; cases h) hC hN hq
  exact k _ (retN X hx hret ht hd hr)
theorem own_retRW {vm0 : Vm} {k0 : Nat} (X : Stand p l e R (s.setVm vm0) m args below meth c T locs cells slots) (hS : s.Since vm0 k0) (hk : k0 ≤ T.heap.size) (hx : p.tables.exec = Jvm.exec) (hlk : meth.locks = false) {pc : Nat} {Ls : Array Slot} {w : Value} {ty : FieldType} {rest : List Value} (hret : meth.sig.returnType = some ty) (ht : ty.isReference = true) (hw : w.isRef = true) (hn : narrow ty w = w) (hd : decode c.code pc = .ok (.areturn, 1)) (hC : cells ≤ C) (hN : slots ≤ N) (hq : Q (some w) T.heap locs) : own_Goes p e below (own_PW s Q C N) (T.setTop (mkF m pc Ls (w :: rest))) := by
  obtain ⟨fs, hr, k⟩ := own_endW X hS hk hlk (some w) (fun h => by rw [hret] at h; cases h) hC hN hq
  exact k _ (retOut X hx hret hn (Or.inr (Or.inr (Or.inr (Or.inr ⟨rfl, ht, hw⟩)))) hd hr)
theorem own_retVW {vm0 : Vm} {k0 : Nat} (X : Stand p l e R (s.setVm vm0) m args below meth c T locs cells slots) (hS : s.Since vm0 k0) (hk : k0 ≤ T.heap.size) (hx : p.tables.exec = Jvm.exec) (hlk : meth.locks = false) {pc : Nat} {Ls : Array Slot} (hret : meth.sig.returnType = none) (hd : decode c.code pc = .ok (.return_, 1)) (hC : cells ≤ C) (hN : slots ≤ N) (hq : Q none T.heap locs) : own_Goes p e below (own_PW s Q C N) (T.setTop (mkF m pc Ls [])) := by
  obtain ⟨fs, hr, k⟩ := own_endW X hS hk hlk none (fun _ => rfl) hC hN hq
  exact k _ (X.returnOut hx hret hd hr)
def own_DoesW (l : Launch) (Z : State) (y : MethodName) (bytes : ByteArray) (maxL : Nat) (ret : Option FieldType) (ws : List Jvm.Cond) (rm : Room) (as' : Array Value) (h : Heap) (Qc : Option Value → Heap → List Loc → Prop) : Prop :=
  MetFree l y (head1 (Jvm.Cond.code y bytes maxL ret :: ws) rm) (fun a U => a = as' ∧ Z.Warmed39 U.vm ∧ U.heap = h) (fun _ _ _ _ _ => True) (fun _ U o U' => ∃ v L, o = .returned v ∧ Qc v U'.heap L ∧ ReturnedEndW U o U' L rm.cells rm.slots)
theorem own_bodyW {y : MethodName} {bytes : ByteArray} {maxL : Nat} {ret : Option FieldType} {ws : List Jvm.Cond} {rm : Room} {as' : Array Value} (hpn : plainName y.cls = true)
    (body : ∀ (p : Program) (e : Env) (s : State) (m : MethodId) (below : List Frame) (meth : Method) (c : Code) (T : State), p.tables.exec = Jvm.exec → c.code = bytes → c.maxLocals = maxL → meth.sig.returnType = ret → meth.locks = false → meth.name = y.name → (s.setVm s.vm).vm.findClass y.cls = some m.cls → Z.Warmed39 (s.setVm s.vm).vm → s.Since s.vm 0 → Stand p l e rm (s.setVm s.vm) m as' below meth c T [] 0 0 → T.heap = h → own_Goes p e below (own_PW s Q rm.cells rm.slots) (T.setTop (entryFrame m as' maxL))) :
    own_DoesW l Z y bytes maxL ret ws rm as' h Q := by
  refine MetFree.of_bodySF (plainFor_of_name hpn) hisR ?_
  intro p e s m args below meth c s₁ Bd hml0 hP hK
  obtain ⟨rfl, hZ, hh⟩ := hP
  exact body p e s m below meth c s₁ Bd.exec Bd.bytes hml0 Bd.returns Bd.notSynchronized (name_of_methodNamed Bd.named Bd.method).1 (findClass_of_methodNamed Bd.named) hZ ((State.WarmedH.refl s).since 0) (Stand.of_body Bd) (by rw [← hh, Bd.state]; rfl)
theorem own_ldcS {vm0 : Vm} {k0 : Nat} (X : Stand p l e R (s.setVm vm0) m args below meth c T locs cells slots) (hx : p.tables.exec = Jvm.exec) (hZ : Z.Warmed39 (s.setVm vm0).vm) {own text : String} {index : Nat} (hown : (s.setVm vm0).vm.findClass own = some m.cls) (w : (Cond.stringLink own index text).before a0 Z = true) (wS : ∀ a ∈ Bundle.stringAtoms, a.before a0 Z = true)
    (eT : T.heap = h) (hS : s.Since vm0 k0) (hk : k0 ≤ h.size) {pc : Nat} {Ls : Array Slot} {S : List Value} (hd : decode c.code pc = .ok (.ldc index, 2)) {n : Nat} (hn : 4 * text.toList.length ≤ n) (hbig : n ≤ 536870912) (hc : cells + 2 ≤ R.cells) (hl : slots + (n + 4) ≤ R.slots)
    (k : ∀ (a : Addr) (T' : State) (h' : Heap) (k1 : Nat), Stand p l e R (s.setVm T'.vm) m args below meth c T' locs (cells + 2) (slots + (n + 4)) → T'.heap = h' → Ext h h' → s.Since T'.vm k1 → k1 ≤ h'.size → Z.Warmed39 (s.setVm T'.vm).vm → (s.setVm T'.vm).vm.findClass own = some m.cls → own_Goes p e below P (T'.setTop (mkF m (pc + 2) Ls (.ref a :: S)))) :
    own_Goes p e below P (T.setTop (mkF m pc Ls S)) := by
  obtain ⟨a, T', h', k1, X', e', E', hS', hk', hZ', hown', st⟩ := ldcS X hx hZ hown w wS eT hS hk (g := mkF m pc Ls S) rfl hd hn hbig hc hl
  exact own_by st (k a T' h' k1 X' e' E' hS' hk' hZ' hown')
theorem own_callSS {vm0 : Vm} {k0 : Nat} (X : Stand p l e R (s.setVm vm0) m args below meth c T locs cells slots) (hx : p.tables.exec = Jvm.exec) (hZ : Z.Warmed39 (s.setVm vm0).vm) (hS : s.Since vm0 k0) (hk : k0 ≤ T.heap.size) {own : String} {index : Nat} {y : MethodName} {bytes : ByteArray} {maxL : Nat} {ret : Option FieldType} {rm : Room} {argsL rest : List Value} {Qc : Option Value → Heap → List Loc → Prop} {W : Nat}
    (hown : (s.setVm vm0).vm.findClass own = some m.cls) (w1 : (Cond.methodLink own index y).before a0 Z = true) (w2 : (Cond.static y).before a0 Z = true) (w3 : (Cond.initialized y.cls).before a0 Z = true) (w4 : (Cond.code y bytes maxL ret).before a0 Z = true)
    (hy : y.cls ≠ "java/lang/invoke/MethodHandle" ∧ y.cls ≠ "java/lang/invoke/VarHandle") (eT : T.heap = h) (D : own_DoesW l Z y bytes maxL ret [] rm argsL.toArray h Qc)
    (hf : rm.frames + 1 ≤ R.frames) (hl : W + (maxL + 11) + rm.locals ≤ R.locals) (hc : cells + rm.cells ≤ R.cells) (hn : slots + rm.slots ≤ R.slots)
    {pc : Nat} {Ls : Array Slot} {S : List Value} (hsize : Ls.size = c.maxLocals) (hlen : ∀ sig, parseMethodDescriptor y.desc = some sig → argsL.length = sig.parameters.length) (hstack : S = argsL.reverse ++ rest) (hW : 2 * 0 + (rest.map fun v => v.category).sum ≤ W) (hd : decode c.code pc = .ok (.invokestatic index, 3))
    (k : ∀ v T' L', Stand p l e R (s.setVm T'.vm) m args below meth c T' (locs ++ L') (cells + rm.cells) (slots + rm.slots) → s.Since T'.vm T'.heap.size → Z.Warmed39 (s.setVm T'.vm).vm → (s.setVm T'.vm).vm.findClass own = some m.cls → Qc v T'.heap L' → own_Goes p e below P (T'.setTop (mkF m (pc + 3) Ls (v.toList ++ rest)))) :
    own_Goes p e below P (T.setTop (mkF m pc Ls S)) := by
  obtain ⟨v, _, ⟨T', L', k', n'⟩, -, X', hS2, hg2, ⟨Lc, hQ, l', y', z'⟩, st⟩ := callSS X hx hown (mvT hZ w1) (mvT hZ w2) (mvT hZ w3) (mvT hZ w4) hy (backOfS (W := W) D hZ w4 w3 hf hl) (g := mkF m pc Ls S) rfl hsize (argsL := argsL) (rest := rest) hlen hstack hW hd (fun _ _ => ⟨rfl, eT, hc, hn⟩)
  dsimp only [Pt.U, Pt.locs, Pt.cells, Pt.slots] at X' l' y' z' st hQ hS2 hg2
  subst l' y' z'
  obtain ⟨X2, hS3, hZ3, hown3⟩ := rebS hS hk X' hS2 hg2 hZ hown
  exact own_tr st (k v T' Lc X2 hS3 hZ3 hown3 hQ)
theorem own_callIS {vm0 : Vm} {k0 : Nat} (X : Stand p l e R (s.setVm vm0) m args below meth c T locs cells slots) (hx : p.tables.exec = Jvm.exec) (hZ : Z.Warmed39 (s.setVm vm0).vm) (hS : s.Since vm0 k0) (hk : k0 ≤ T.heap.size) {own : String} {index : Nat} {y : MethodName} {bytes : ByteArray} {maxL : Nat} {rm : Room} {a : Addr} {argsL rest : List Value} {Qc : Option Value → Heap → List Loc → Prop} {W : Nat} (hy1 : y.name = "<init>")
    (hown : (s.setVm vm0).vm.findClass own = some m.cls) (w1 : (Cond.methodLink own index y).before a0 Z = true) (w2 : (Cond.instanceMethod y).before a0 Z = true) (w3 : (Cond.code y bytes maxL none).before a0 Z = true) (w4 : (Cond.initialized y.cls).before a0 Z = true)
    (hy : y.cls ≠ "java/lang/invoke/MethodHandle" ∧ y.cls ≠ "java/lang/invoke/VarHandle") (eT : T.heap = h) (D : own_DoesW l Z y bytes maxL none [] rm (.ref a :: argsL).toArray h Qc)
    (hf : rm.frames + 1 ≤ R.frames) (hl : W + (maxL + 11) + rm.locals ≤ R.locals) (hc : cells + rm.cells ≤ R.cells) (hn : slots + rm.slots ≤ R.slots)
    {pc : Nat} {Ls : Array Slot} {S : List Value} (hsize : Ls.size = c.maxLocals) (hlen : ∀ sig, parseMethodDescriptor y.desc = some sig → argsL.length = sig.parameters.length) (hstack : S = argsL.reverse ++ .ref a :: rest) (hW : 2 * 0 + (rest.map fun v => v.category).sum ≤ W) (hd : decode c.code pc = .ok (.invokespecial index, 3))
    (k : ∀ v T' L', Stand p l e R (s.setVm T'.vm) m args below meth c T' (locs ++ L') (cells + rm.cells) (slots + rm.slots) → s.Since T'.vm T'.heap.size → Z.Warmed39 (s.setVm T'.vm).vm → (s.setVm T'.vm).vm.findClass own = some m.cls → Qc v T'.heap L' → own_Goes p e below P (T'.setTop (mkF m (pc + 3) Ls (v.toList ++ rest)))) :
    own_Goes p e below P (T.setTop (mkF m pc Ls S)) := by
  obtain ⟨v, _, ⟨T', L', k', n'⟩, -, X', hS2, hg2, ⟨Lc, hQ, l', y', z'⟩, st⟩ := X.specialBackS hx (y := y) hy1 hown (mvT hZ w1) (mvT hZ w2) (mvT hZ w3) hy (backOfS (W := W) D hZ w3 w4 hf hl) (g := mkF m pc Ls S) rfl hsize (Steps.refl _) (a := a) (argsL := argsL) (rest := rest) hlen hstack hW hd (fun _ _ => ⟨rfl, eT, hc, hn⟩)
  dsimp only [Pt.U, Pt.locs, Pt.cells, Pt.slots] at X' l' y' z' st hQ hS2 hg2
  subst l' y' z'
  obtain ⟨X2, hS3, hZ3, hown3⟩ := rebS hS hk X' hS2 hg2 hZ hown
  exact own_tr st (k v T' Lc X2 hS3 hZ3 hown3 hQ)
theorem own_notIns {O N1 C1 K : String} {n : Nat} (w1 : (Cond.superclass C1 N1).before a0 Z = true) (w2 : (Cond.superclass N1 O).before a0 Z = true) (w3 : (Cond.noSuperclass O).before a0 Z = true) (wi : (Cond.instantiable K n).before a0 Z = true) (h1 : O ≠ K) (h2 : N1 ≠ K) (h3 : C1 ≠ K) : ∃ c t, Z.vm.findClass C1 = some c ∧ Z.vm.findClass K = some t ∧ Z.vm.assignable c t = false := by
  obtain ⟨t, kt, g1, g2, g3, g4, -⟩ := Cond.instantiable_spec wi
  have root : NS Z O K := by
    obtain ⟨c, k, q1, q2, q3, -, -⟩ := Cond.noSuperclass_spec w3
    have ne := ids_ne q1 g1 h1
    refine ⟨c, t, q1, g1, fun fuel => ?_⟩
    cases fuel with
    | zero => rfl
    | succ f => simp [Vm.isSubclassAux, ne, q2, q3]
  obtain ⟨c, t', q0, q1, n3⟩ := NS.step w1 (NS.step w2 root h2) h3
  cases g1.symm.trans q1
  obtain ⟨p, k, kp, r1, r2, r3, r4, r5, -, r7⟩ := Cond.superclass_spec q0 w1
  have ne := ids_ne q0 g1 h3
  have g5 : kt.isInterface = false := by
    cases hq : kt.isInterface
    · rfl
    · rw [hq] at g4; cases g4
  refine ⟨c, t, q0, g1, ?_⟩
  show Z.vm.assignableAux (255 + 1) c t = false
  simp [Vm.assignableAux, ne, r2, g2, r5, g3, g5, Vm.isSubclass, n3]
/-! from the case's words -/
theorem own_eqR {args : Array Value} {s : State} {a b : Term} {y : Addr} (h1 : (Cond.eq a b).value args s none s [] = some true) (h2 : b.eval args s none [] s = some (.ref y)) : a.eval args s none [] s = some (.ref y) := by
  simp only [Cond.value, h2] at h1
  cases ha : a.eval args s none [] s with
  | none => simp [ha] at h1
  | some x => cases x <;> simp [ha] at h1 ⊢ <;> exact h1
theorem own_eqI {args : Array Value} {s : State} {a : Term} {n : Int32} (h1 : (Cond.eq a (.int n)).value args s none s [] = some true) : a.eval args s none [] s = some (.int n) := by
  have h2 : (Term.int n).eval args s none [] s = some (.int n) := rfl
  simp only [Cond.value, h2] at h1
  cases ha : a.eval args s none [] s with
  | none => simp [ha] at h1
  | some x => cases x <;> simp [ha] at h1 ⊢ <;> exact h1
theorem own_fld {args : Array Value} {s : State} {t : Term} {a : Addr} {C n d : String} {v : Value} (ht : t.eval args s none [] s = some (.ref a)) (h : (Term.field t C n d).eval args s none [] s = some v) : Fld s s.heap a C n d v := Fld.start (by rw [← fld_at ht]; exact h)
/-- two objects whose field differs are two -/
theorem own_ne {a b : Addr} {C n d : String} {v w : Value} (F : Fld Z h a C n d v) (G : Fld Z h b C n d w) (hn : v ≠ w) : a ≠ b := fun q => by
  subst q
  obtain ⟨c1, f1, k1, i1, g1, h1, h2, -, -, -, -, h7⟩ := F
  obtain ⟨c2, f2, k2, i2, g2, e1, e2, -, -, -, -, e7⟩ := G
  cases h1.symm.trans e1
  cases h2.symm.trans e2
  exact hn (Option.some.inj (h7.symm.trans e7))
/-! arrays: the array at a has n components, the i-th is f i -/
def own_ArrF (Z : State) (h : Heap) (a : Addr) (ty : FieldType) (n : Nat) (f : Nat → Value) : Prop := ∃ cell, Arr Z h a cell ty ∧ cell.slots.size = n ∧ n < 2 ^ 31 ∧ ∀ i, i < n → cell.slots[i]? = some (f i)
theorem own_len {args : Array Value} {s : State} {t : Term} {a : Addr} {cell : Cell} {n : Int32} (h : (Term.length t).eval args s none [] s = some (.int n)) (ht : t.eval args s none [] s = some (.ref a)) (hc : s.arrayAt? a = some cell) : cell.slots.size < 2 ^ 31 ∧ cell.slots.size.toInt32 = n := by
  simp only [Term.eval, ht, hc, Option.bind_eq_bind, Option.bind_some] at h
  split at h
  · rename_i q
    exact ⟨q, by simpa using h⟩
  · cases h
theorem own_clamp {j : Int32} {i : Nat} (h : j.toInt = i) : j.toNatClampNeg = i := by
  show j.toInt.toNat = i
  omega
theorem own_in {j : Int32} {i n : Nat} (h : j.toInt = i) (hi : i < n) : ¬ (j < 0 ∨ n ≤ j.toNatClampNeg) := by
  rw [own_clamp h, Int32.lt_iff_toInt_lt]
  have q : (0 : Int32).toInt = 0 := rfl
  omega
theorem own_arrF {args : Array Value} {s : State} {t : Term} {a : Addr} {ty : FieldType} {f : Nat → Value} {n : Nat} {n32 : Int32} (ht : t.eval args s none [] s = some (.ref a)) (h1 : (Cond.arrayOf t ty).value args s none s [] = some true) (h2 : (Cond.eq (.length t) (.int n32)).value args s none s [] = some true) (hn : n32.toInt = n)
    (hel : ∀ cell, s.arrayAt? a = some cell → s.heap[a]? = some cell → cell.slots.size = n → ∀ i, i < n → cell.slots[i]? = some (f i)) : own_ArrF s s.heap a ty n f := by
  obtain ⟨cell, Ac⟩ := Arr.start ht h1
  have hat := Ac.fin (Vm.Alike.refl _)
  obtain ⟨q1, q2⟩ := own_len (own_eqI h2) ht hat
  have q3 : cell.slots.size = n := by
    have q4 := congrArg Int32.toInt q2
    rw [len_toInt q1, hn] at q4
    omega
  exact ⟨cell, Ac, q3, by omega, hel cell hat Ac.1 q3⟩
theorem own_el {args : Array Value} {s : State} {t : Term} {a : Addr} {cell : Cell} {j : Int32} {v : Value} {i : Nat} (ht : t.eval args s none [] s = some (.ref a)) (hc : s.heap[a]? = some cell) (h : (Term.elem t (.int j)).eval args s none [] s = some v) (hj : j.toInt = i) : cell.slots[i]? = some v := by
  have q := (elem_in h ht rfl hc).2
  rw [own_clamp hj] at q
  exact q
theorem own_ArrF.ext {h' : Heap} {a : Addr} {ty : FieldType} {n : Nat} {f : Nat → Value} (E : Ext h h') (F : own_ArrF Z h a ty n f) : own_ArrF Z h' a ty n f := by
  obtain ⟨cell, h1, h2⟩ := F
  exact ⟨cell, h1.ext E, h2⟩
theorem own_ArrF.keep {h' : Heap} {a : Addr} {ty : FieldType} {n : Nat} {f : Nat → Value} {b : Addr} {sl : Nat} {v : Value} (W : Wr h h' b sl v) (F : own_ArrF Z h a ty n f) (hne : a ≠ b) : own_ArrF Z h' a ty n f := by
  obtain ⟨cell, h1, h2⟩ := F
  exact ⟨cell, h1.other W hne, h2⟩
theorem own_ArrF.set {h' : Heap} {a : Addr} {ty : FieldType} {n : Nat} {f : Nat → Value} {j : Nat} {v : Value} (F : own_ArrF Z h a ty n f) (hj : j < n) (W : Wr h h' a j v) : own_ArrF Z h' a ty n (fun i => if i = j then v else f i) := by
  obtain ⟨cell, h1, h2, h3, h4⟩ := F
  refine ⟨cell.setSlot j v, h1.same W, by simp [Cell.setSlot, h2], h3, fun i hi => ?_⟩
  show _ = some (if i = j then v else f i)
  by_cases q : i = j
  · subst q
    rw [if_pos rfl]
    simp [Cell.setSlot, h2, hi]
  · rw [if_neg q, ← h4 i hi]
    exact Array.getElem?_setIfInBounds_ne (Ne.symm q)
theorem own_ArrF.mono {a : Addr} {ty : FieldType} {n : Nat} {f g : Nat → Value} (F : own_ArrF Z h a ty n f) (hg : ∀ i, i < n → f i = g i) : own_ArrF Z h a ty n g := by
  obtain ⟨cell, h1, h2, h3, h4⟩ := F
  exact ⟨cell, h1, h2, h3, fun i hi => by rw [h4 i hi, hg i hi]⟩
theorem own_alen (X : Stand p l e R s m args below meth c T locs cells slots) (hx : p.tables.exec = Jvm.exec) (hZ : Z.Warmed39 s.vm) (eT : T.heap = h) {a : Addr} {ty : FieldType} {n : Nat} {f : Nat → Value} (F : own_ArrF Z h a ty n f)
    {pc : Nat} {Ls : Array Slot} {S : List Value} (hd : decode c.code pc = .ok (.arraylength, 1)) (k : own_Goes p e below P (T.setTop (mkF m (pc + 1) Ls (.int n.toInt32 :: S)))) : own_Goes p e below P (T.setTop (mkF m pc Ls (.ref a :: S))) := by
  obtain ⟨cell, h1, h2, h3, h4⟩ := F
  subst h2
  exact own_by (fun _ q => X.arraylength hx (by rw [eT]; exact h1.1) (State.isArrayOf_alike hZ.alike h1.2.1) (g := mkF m pc Ls (.ref a :: S)) rfl rfl hd _ q) k
theorem own_aaload (X : Stand p l e R s m args below meth c T locs cells slots) (hx : p.tables.exec = Jvm.exec) (hZ : Z.Warmed39 s.vm) (eT : T.heap = h) {a : Addr} {ty : FieldType} {n : Nat} {f : Nat → Value} (F : own_ArrF Z h a ty n f) (hty : ty.isReference = true) {j : Int32} (i : Nat) (hj : j.toInt = i) (hi : i < n) {v : Value} (hv : f i = v)
    {pc : Nat} {Ls : Array Slot} {S : List Value} (hd : decode c.code pc = .ok (.aaload, 1)) (k : own_Goes p e below P (T.setTop (mkF m (pc + 1) Ls (v :: S)))) : own_Goes p e below P (T.setTop (mkF m pc Ls (.int j :: .ref a :: S))) := by
  obtain ⟨cell, h1, h2, h3, h4⟩ := F
  exact own_by (fun _ q => X.aaload hx (j := j) (v := v) (by rw [eT]; exact h1.1) (State.isArrayOf_alike hZ.alike h1.2.1) hty h1.2.2 (by rw [h2]; exact own_in hj hi) (by rw [own_clamp hj, h4 i hi, hv]) (g := mkF m pc Ls (.int j :: .ref a :: S)) rfl rfl hd _ q) k
theorem own_iaload (X : Stand p l e R s m args below meth c T locs cells slots) (hx : p.tables.exec = Jvm.exec) (hZ : Z.Warmed39 s.vm) (eT : T.heap = h) {a : Addr} {n : Nat} {f : Nat → Value} (F : own_ArrF Z h a .int n f) {j : Int32} (i : Nat) (hj : j.toInt = i) (hi : i < n) {v : Value} (hv : f i = v)
    {pc : Nat} {Ls : Array Slot} {S : List Value} (hd : decode c.code pc = .ok (.iaload, 1)) (k : own_Goes p e below P (T.setTop (mkF m (pc + 1) Ls (v :: S)))) : own_Goes p e below P (T.setTop (mkF m pc Ls (.int j :: .ref a :: S))) := by
  obtain ⟨cell, h1, h2, h3, h4⟩ := F
  exact own_by (fun _ q => X.iaload hx (j := j) (v := v) (by rw [eT]; exact h1.1) (State.isArrayOf_alike hZ.alike h1.2.1) h1.2.2 (by rw [h2]; exact own_in hj hi) (by rw [own_clamp hj, h4 i hi, hv]) (g := mkF m pc Ls (.int j :: .ref a :: S)) rfl rfl hd _ q) k
theorem own_baload (X : Stand p l e R s m args below meth c T locs cells slots) (hx : p.tables.exec = Jvm.exec) (hZ : Z.Warmed39 s.vm) (eT : T.heap = h) {a : Addr} {n : Nat} {f : Nat → Value} (F : own_ArrF Z h a .byte n f) {j : Int32} (i : Nat) (hj : j.toInt = i) (hi : i < n) {v : Value} (hv : f i = v)
    {pc : Nat} {Ls : Array Slot} {S : List Value} (hd : decode c.code pc = .ok (.baload, 1)) (k : own_Goes p e below P (T.setTop (mkF m (pc + 1) Ls (v :: S)))) : own_Goes p e below P (T.setTop (mkF m pc Ls (.int j :: .ref a :: S))) := by
  obtain ⟨cell, h1, h2, h3, h4⟩ := F
  exact own_by (fun _ q => X.baloadBytes hx (j := j) (v := v) (by rw [eT]; exact h1.1) (State.isArrayOf_alike hZ.alike h1.2.1) h1.2.2 (by rw [h2]; exact own_in hj hi) (by rw [own_clamp hj, h4 i hi, hv]) (g := mkF m pc Ls (.int j :: .ref a :: S)) rfl rfl hd _ q) k
theorem own_callVU0 (X : Stand p l e R s m args below meth c T locs cells slots) (hx : p.tables.exec = Jvm.exec) (hZ : Z.Warmed39 s.vm) {own K owner : String} {index : Nat} {y z : MethodName} {bytes : ByteArray} {maxL : Nat} {ret : Option FieldType} {fr lo : Nat} {b : Addr} {argsL rest : List Value} {w : Value} {W : Nat}
    (hown : s.vm.findClass own = some m.cls) (w1 : (Cond.methodLink own index y).before a0 Z = true) (w2 : (Cond.sameMethod y.cls owner y.name y.desc).before a0 Z = true) (w2' : (Cond.declares ⟨owner, y.name, y.desc⟩).before a0 Z = true) (w3 : (Cond.selects K y z).before a0 Z = true) (w4 : (Cond.instanceMethod z).before a0 Z = true) (w5 : (Cond.code z bytes maxL ret).before a0 Z = true) (w6 : (Cond.initialized z.cls).before a0 Z = true)
    (hy : owner ≠ "java/lang/invoke/MethodHandle" ∧ owner ≠ "java/lang/invoke/VarHandle") (eT : T.heap = h) (E : Exa Z h b K) (D : own_Does l Z z bytes maxL ret [] { frames := fr, cells := 0, slots := 0, locals := lo } (.ref b :: argsL).toArray h (own_Is w h))
    (hf : fr + 1 ≤ R.frames) (hl : W + (maxL + 11) + lo ≤ R.locals) (hc : cells ≤ R.cells) (hn : slots ≤ R.slots)
    {pc : Nat} {Ls : Array Slot} {S : List Value} (hsize : Ls.size = c.maxLocals) (hlen : ∀ sig, parseMethodDescriptor y.desc = some sig → argsL.length = sig.parameters.length) (hstack : S = argsL.reverse ++ .ref b :: rest) (hW : 2 * 0 + (rest.map fun v => v.category).sum ≤ W) (hd : decode c.code pc = .ok (.invokevirtual index, 3))
    (k : ∀ T', Stand p l e R s m args below meth c T' locs cells slots → T'.heap = h → own_Goes p e below P (T'.setTop (mkF m (pc + 3) Ls (w :: rest)))) :
    own_Goes p e below P (T.setTop (mkF m pc Ls S)) := by
  obtain ⟨cq, kq, qa, -, qc⟩ := isOf (T := T) hZ eT E
  obtain ⟨v, _, ⟨T', L', k', n'⟩, -, X', ⟨Lc, hQ, l', y', z'⟩, st⟩ := X.virtualBackUp hx (x := y) (y := z) hown (mvT hZ w1) (mvT hZ w2) (mvT hZ w2') hy (mvT hZ w3) (mvT hZ w4) (backOf (W := W) D hZ w5 w6 hf hl) qa qc (g := mkF m pc Ls S) rfl hsize (Steps.refl _) (argsL := argsL) (rest := rest) hlen hstack hW hd (fun _ _ => ⟨rfl, eT, hc, hn⟩)
  dsimp only [Pt.U, Pt.locs, Pt.cells, Pt.slots] at X' l' y' z' st hQ
  subst l' y' z'
  obtain ⟨rfl, rfl, e'⟩ := hQ
  rw [List.append_nil] at X'
  exact own_tr st (k T' X' e')
theorem own_getClass (X : Stand p l e R s m args below meth c T locs cells slots) (hx : p.tables.exec = Jvm.exec) (hZ : Z.Warmed39 s.vm) {own K : String} {index : Nat} {b mir : Addr} {cM : ClassId} {kM : Class} (hown : s.vm.findClass own = some m.cls) (w1 : (Cond.methodLink own index Jvm.Stand.gcN).before a0 Z = true) (w2 : (Cond.declares Jvm.Stand.gcN).before a0 Z = true) (w3 : (Cond.selects K Jvm.Stand.gcN Jvm.Stand.gcN).before a0 Z = true) (w4 : (Cond.instanceMethod Jvm.Stand.gcN).before a0 Z = true) (w5 : (Cond.native Jvm.Stand.gcN).before a0 Z = true)
    (eT : T.heap = h) (E : Exa Z h b K) (m1 : Z.vm.findClass K = some cM) (m2 : Z.vm.classes[cM]? = some kM) (m3 : kM.mirror = some mir)
    {pc : Nat} {Ls : Array Slot} {rest : List Value} (hsize : Ls.size = c.maxLocals) (hd : decode c.code pc = .ok (.invokevirtual index, 3)) (hf : 1 ≤ R.frames) (hl : 2 * 0 + (rest.map fun v => v.category).sum + (nativeFrameWords "java/lang/Object" "getClass" 1 + 11) ≤ R.locals)
    (k : ∀ T', Stand p l e R s m args below meth c T' locs cells slots → T'.heap = h → own_Goes p e below P (T'.setTop (mkF m (pc + 3) Ls (.ref mir :: rest)))) :
    own_Goes p e below P (T.setTop (mkF m pc Ls (.ref b :: rest))) := by
  obtain ⟨cq, kq, qa, qb, qc⟩ := isOf (T := T) hZ eT E
  have e1 : cq = cM := by
    rw [hZ.alike.findClass] at qa
    exact Option.some.inj (qa.symm.trans m1)
  subst e1
  obtain ⟨k', r1, r2⟩ := hZ.alike.2.2 _ _ m2
  cases qb.symm.trans r1
  obtain ⟨vm1, X', st⟩ := X.getClassOf hx hown (mvT hZ w1) (mvT hZ w2) (notFace_of_selects (args := #[]) (mvT hZ w3)) (mvT hZ w3) (mvT hZ w4) (mvT hZ w5) qa qc qb (by rw [r2]; exact m3) (g := mkF m pc Ls (.ref b :: rest)) rfl hsize rfl hd hf hl
  exact own_by st (k _ X' eT)
theorem own_callF0 (X : Stand p l e R s m args below meth c T locs cells slots) (hx : p.tables.exec = Jvm.exec) (hZ : Z.Warmed39 s.vm) {own K : String} {index count : Nat} {y z : MethodName} {bytes : ByteArray} {maxL : Nat} {ret : Option FieldType} {fr lo : Nat} {b : Addr} {argsL rest : List Value} {w : Value} {W : Nat}
    (hown : s.vm.findClass own = some m.cls) (w1 : (Cond.methodLink own index y).before a0 Z = true) (w2 : (Cond.declares y).before a0 Z = true) (w2' : (Cond.interfaceMethod y.cls y.cls y.name y.desc).before args s = true) (w3 : (Cond.selects K y z).before a0 Z = true) (w4 : (Cond.instanceMethod z).before a0 Z = true) (wp : (Cond.publicMethod z).before a0 Z = true) (wu : (Cond.unhidden K y.name y.desc).before a0 Z = true) (wc : (Cond.castable K y.cls).before a0 Z = true) (w5 : (Cond.code z bytes maxL ret).before a0 Z = true) (w6 : (Cond.initialized z.cls).before a0 Z = true)
    (hy : y.cls ≠ "java/lang/invoke/MethodHandle" ∧ y.cls ≠ "java/lang/invoke/VarHandle") (eT : T.heap = h) (E : Exa Z h b K) (D : own_Does l Z z bytes maxL ret [] { frames := fr, cells := 0, slots := 0, locals := lo } (.ref b :: argsL).toArray h (own_Is w h))
    (hf : fr + 1 ≤ R.frames) (hl : W + (maxL + 11) + lo ≤ R.locals) (hc : cells ≤ R.cells) (hn : slots ≤ R.slots)
    {pc : Nat} {Ls : Array Slot} {S : List Value} (hsize : Ls.size = c.maxLocals) (hlen : ∀ sig, parseMethodDescriptor y.desc = some sig → argsL.length = sig.parameters.length) (hstack : S = argsL.reverse ++ .ref b :: rest) (hW : 2 * 0 + (rest.map fun v => v.category).sum ≤ W) (hd : decode c.code pc = .ok (.invokeinterface index count, 5))
    (k : ∀ T', Stand p l e R s m args below meth c T' locs cells slots → T'.heap = h → own_Goes p e below P (T'.setTop (mkF m (pc + 5) Ls (w :: rest)))) :
    own_Goes p e below P (T.setTop (mkF m pc Ls S)) := by
  obtain ⟨cq, kq, qa, qb, qc⟩ := isOf (T := T) hZ eT E
  obtain ⟨v, _, ⟨T', L', k', n'⟩, -, X', ⟨Lc, hQ, l', y', z'⟩, st⟩ := X.interfaceBack hx (xi := y) (y := z) hown (mvT hZ w1) (mvT hZ w2) w2' (mvT hZ w3) (mvT hZ w4) (mvT hZ wp) (mvT hZ wu) (mvT hZ wc) hy (backOf (W := W) D hZ w5 w6 hf hl) qa qb qc (g := mkF m pc Ls S) rfl hsize (Steps.refl _) (argsL := argsL) (rest := rest) hlen hstack hW hd (fun _ _ => ⟨rfl, eT, hc, hn⟩)
  dsimp only [Pt.U, Pt.locs, Pt.cells, Pt.slots] at X' l' y' z' st hQ
  subst l' y' z'
  obtain ⟨rfl, rfl, e'⟩ := hQ
  rw [List.append_nil] at X'
  exact own_tr st (k T' X' e')
theorem own_cast (X : Stand p l e R s m args below meth c T locs cells slots) (hx : p.tables.exec = Jvm.exec) (hZ : Z.Warmed39 s.vm) {own K : String} {index : Nat} (hown : s.vm.findClass own = some m.cls) (w : (Cond.classLink own index K).before a0 Z = true) (eT : T.heap = h) {a : Addr} (F : Ins Z h a K true)
    {pc : Nat} {Ls : Array Slot} {S : List Value} (hd : decode c.code pc = .ok (.checkcast index, 3))
    (k : ∀ T', Stand p l e R s m args below meth c T' locs cells slots → T'.heap = h → own_Goes p e below P (T'.setTop (mkF m (pc + 3) Ls (.ref a :: S)))) :
    own_Goes p e below P (T.setTop (mkF m pc Ls (.ref a :: S))) := by
  obtain ⟨T', X', e', st⟩ := castY X hx hZ hown w eT F (g := mkF m pc Ls (.ref a :: S)) rfl rfl hd
  exact own_by st (k T' X' e')
def own_ArrC (Z : State) (h : Heap) (a : Addr) (ty : FieldType) (n : Nat) (f : Nat → Value) : Prop := ∃ cell, Arr Z h a cell ty ∧ FitC Z cell ∧ cell.slots.size = n ∧ n < 2 ^ 31 ∧ ∀ i, i < n → cell.slots[i]? = some (f i)
theorem own_ArrC.ext {h' : Heap} {a : Addr} {ty : FieldType} {n : Nat} {f : Nat → Value} (E : Ext h h') (F : own_ArrC Z h a ty n f) : own_ArrC Z h' a ty n f := by
  obtain ⟨cell, h1, h2⟩ := F
  exact ⟨cell, h1.ext E, h2⟩
theorem own_ArrF.fit {s : State} {a : Addr} {ty : FieldType} {n : Nat} {f : Nat → Value} (hf : Fit s) (F : own_ArrF s s.heap a ty n f) : own_ArrC s s.heap a ty n f := by
  obtain ⟨cell, h1, h2⟩ := F
  exact ⟨cell, h1, FitC.start hf h1, h2⟩
theorem own_clone (X : Stand p l e R s m args below meth c T locs cells slots) (hx : p.tables.exec = Jvm.exec) (hZ : Z.Warmed39 s.vm) {own ad : String} {index : Nat} {W : Nat} (hown : s.vm.findClass own = some m.cls)
    (w1 : (Cond.methodLink own index ⟨ad, "clone", "()Ljava/lang/Object;"⟩).before a0 Z = true) (w2 : (Cond.sameMethod ad "java/lang/Object" "clone" "()Ljava/lang/Object;").before a0 Z = true) (w3 : (Cond.native ⟨"java/lang/Object", "clone", "()Ljava/lang/Object;"⟩).before a0 Z = true)
    (w4 : (Cond.instanceMethod ⟨"java/lang/Object", "clone", "()Ljava/lang/Object;"⟩).before a0 Z = true) (w5 : (Cond.selects ad ⟨ad, "clone", "()Ljava/lang/Object;"⟩ ⟨"java/lang/Object", "clone", "()Ljava/lang/Object;"⟩).before a0 Z = true) (w6 : (Cond.castable ad "java/lang/Cloneable").before a0 Z = true)
    (eT : T.heap = h) {a : Addr} {ty : FieldType} {n : Nat} {f : Nat → Value} (A : own_ArrC Z h a ty n f) (E : Exa Z h a ad) {pc : Nat} {Ls : Array Slot} {rest : List Value} (hsize : Ls.size = c.maxLocals) (hd : decode c.code pc = .ok (.invokevirtual index, 3))
    (hf : 1 ≤ R.frames) (hW : 2 * 0 + (rest.map fun v => v.category).sum ≤ W) (hl : W + 14 ≤ R.locals) (hc : cells + 1 ≤ R.cells) (hsl : slots + n ≤ R.slots)
    (k : ∀ T' h', Stand p l e R s m args below meth c T' locs (cells + 1) (slots + n) → T'.heap = h' → Ext h h' → own_ArrF Z h' h.size ty n f → Exa Z h' h.size ad → own_Goes p e below P (T'.setTop (mkF m (pc + 3) Ls (.ref h.size :: rest)))) :
    own_Goes p e below P (T.setTop (mkF m pc Ls (.ref a :: rest))) := by
  obtain ⟨cell, h1, h2, h3, h4, h5⟩ := A
  obtain ⟨T', h', X', e', E', A', Ex', st⟩ := cloneA X hx hZ hown w1 w2 w3 w4 w5 w6 eT h1 E h2 (g := mkF m pc Ls (.ref a :: rest)) rfl hsize rfl hd hf (W := W) (cap := n) hW hl (by omega) hc hsl
  exact own_by st (k T' h' X' e' E' ⟨_, A', h3, h4, h5⟩ Ex')
/-! what is made and written -/
theorem own_Ext.refl (h : Heap) : Ext h h := ⟨Nat.le_refl _, fun _ _ q => q⟩
theorem own_Ext.trans {h h' h'' : Heap} (E : Ext h h') (E' : Ext h' h'') : Ext h h'' := ⟨Nat.le_trans E.1 E'.1, fun a c q => E'.2 a c (E.2 a c q)⟩
theorem own_Ext.keep {h h' h'' : Heap} {ws : List Addr} (E : Ext h h') (K : Keep h' h'' ws) (q : ∀ x ∈ ws, h.size ≤ x) : Ext h h'' :=
  ⟨Nat.le_trans E.1 K.1, fun a c r => K.2.1 a c (E.2 a c r) fun z => absurd (Array.getElem?_eq_some_iff.mp r).1 (Nat.not_lt.mpr (q a z))⟩
theorem own_Ext.wr {h h' h'' : Heap} {a : Addr} {sl : Nat} {v : Value} (E : Ext h h') (W : Wr h' h'' a sl v) (q : h.size ≤ a) : Ext h h'' := own_Ext.keep E (Keep.of_wr W) fun x hx => by cases List.mem_singleton.mp hx; exact q
theorem own_newO (X : Stand p l e R s m args below meth c T locs cells slots) (hx : p.tables.exec = Jvm.exec) (hZ : Z.Warmed39 s.vm) {own K : String} {index n : Nat} (hown : s.vm.findClass own = some m.cls) (w : (Cond.classLink own index K).before a0 Z = true) (wi : (Cond.instantiable K n).before a0 Z = true) (wz : (Cond.initialized K).before a0 Z = true) (eT : T.heap = h)
    {pc : Nat} {Ls : Array Slot} {S : List Value} (hd : decode c.code pc = .ok (.new index, 3)) (hc : cells + 1 ≤ R.cells) (hl : slots + n ≤ R.slots)
    (k : ∀ T' h', Stand p l e R s m args below meth c T' locs (cells + 1) (slots + n) → T'.heap = h' → Ext h h' → Exa Z h' h.size K → (∀ (O nm d : String) (ty : FieldType), Laid Z a0 K O nm d → parseFieldDescriptor d = some ty → Fld Z h' h.size O nm d (defaultValue ty)) → own_Goes p e below P (T'.setTop (mkF m (pc + 3) Ls (.ref h.size :: S)))) :
    own_Goes p e below P (T.setTop (mkF m pc Ls S)) := by
  obtain ⟨T', h', X', e', E', A', D', -, st⟩ := newO X hx hZ hown w wi wz eT (g := mkF m pc Ls S) rfl hd hc hl
  exact own_by st (k T' h' X' e' E' A' (fun O nm d ty q r => D' q r))
theorem own_callI (X : Stand p l e R s m args below meth c T locs cells slots) (hx : p.tables.exec = Jvm.exec) (hZ : Z.Warmed39 s.vm) {own : String} {index : Nat} {y : MethodName} {bytes : ByteArray} {maxL : Nat} {rm : Room} {a : Addr} {argsL rest : List Value} {Qc : Option Value → Heap → List Loc → Prop} {W : Nat} (hy1 : y.name = "<init>")
    (hown : s.vm.findClass own = some m.cls) (w1 : (Cond.methodLink own index y).before a0 Z = true) (w2 : (Cond.instanceMethod y).before a0 Z = true) (w3 : (Cond.code y bytes maxL none).before a0 Z = true) (w4 : (Cond.initialized y.cls).before a0 Z = true)
    (hy : y.cls ≠ "java/lang/invoke/MethodHandle" ∧ y.cls ≠ "java/lang/invoke/VarHandle") (eT : T.heap = h) (D : own_Does l Z y bytes maxL none [] rm (.ref a :: argsL).toArray h Qc)
    (hf : rm.frames + 1 ≤ R.frames) (hl : W + (maxL + 11) + rm.locals ≤ R.locals) (hc : cells + rm.cells ≤ R.cells) (hn : slots + rm.slots ≤ R.slots)
    {pc : Nat} {Ls : Array Slot} {S : List Value} (hsize : Ls.size = c.maxLocals) (hlen : ∀ sig, parseMethodDescriptor y.desc = some sig → argsL.length = sig.parameters.length) (hstack : S = argsL.reverse ++ .ref a :: rest) (hW : 2 * 0 + (rest.map fun v => v.category).sum ≤ W) (hd : decode c.code pc = .ok (.invokespecial index, 3))
    (k : ∀ v T' L', Stand p l e R s m args below meth c T' (locs ++ L') (cells + rm.cells) (slots + rm.slots) → Qc v T'.heap L' → own_Goes p e below P (T'.setTop (mkF m (pc + 3) Ls (v.toList ++ rest)))) :
    own_Goes p e below P (T.setTop (mkF m pc Ls S)) := by
  obtain ⟨v, _, ⟨T', L', k', n'⟩, -, X', ⟨Lc, hQ, l', y', z'⟩, st⟩ := X.specialBack hx (y := y) hy1 hown (mvT hZ w1) (mvT hZ w2) (mvT hZ w3) hy (backOf (W := W) D hZ w3 w4 hf hl) (g := mkF m pc Ls S) rfl hsize (Steps.refl _) (a := a) (argsL := argsL) (rest := rest) hlen hstack hW hd (fun _ _ => ⟨rfl, eT, hc, hn⟩)
  dsimp only [Pt.U, Pt.locs, Pt.cells, Pt.slots] at X' l' y' z' st hQ
  subst l' y' z'
  exact own_tr st (k v T' Lc X' hQ)
theorem own_initO (X : Stand p l e R s m args below meth c T locs cells slots) (hx : p.tables.exec = Jvm.exec) (hZ : Z.Warmed39 s.vm) {own : String} {idx : Nat} {a : Addr} {rest : List Value} {W : Nat} (hown : s.vm.findClass own = some m.cls) (w1 : (Cond.methodLink own idx Lib.objectInit).before a0 Z = true) (w2 : (Cond.instanceMethod Lib.objectInit).before a0 Z = true)
    (w3 : (Cond.code Lib.objectInit ⟨#[0xb1]⟩ 1 none).before a0 Z = true) (eT : T.heap = h) {pc : Nat} {Ls : Array Slot} (hsize : Ls.size = c.maxLocals) (hd : decode c.code pc = .ok (.invokespecial idx, 3)) (hf : 1 ≤ R.frames) (hW : 2 * 0 + (rest.map fun v => v.category).sum ≤ W) (hl : W + 12 ≤ R.locals)
    (k : ∀ T', Stand p l e R s m args below meth c T' locs cells slots → T'.heap = h → own_Goes p e below P (T'.setTop (mkF m (pc + 3) Ls rest))) :
    own_Goes p e below P (T.setTop (mkF m pc Ls (.ref a :: rest))) := by
  obtain ⟨T', X', e', st⟩ := initO X hx hZ hown w1 w2 w3 eT (g := mkF m pc Ls (.ref a :: rest)) rfl hsize rfl hd hf (W := W) hW hl
  exact own_by st (k T' X' e')
theorem own_putF (X : Stand p l e R s m args below meth c T locs cells slots) (hx : p.tables.exec = Jvm.exec) (hZ : Z.Warmed39 s.vm) {own O n d K : String} {index kk : Nat} {ty : FieldType} (hown : s.vm.findClass own = some m.cls) (w : (Cond.fieldLink own index O n d).before a0 Z = true)
    (eT : T.heap = h) {a : Addr} {v old : Value} (F : Fld Z h a O n d old) (E : Exa Z h a K) (L : (Cond.lays K O n d).before a0 Z = true ∨ ((Cond.laysFinal K O n d).before a0 Z = true ∧ own = O ∧ meth.name = "<init>")) (wi : (Cond.instantiable K kk).before a0 Z = true)
    (hty : parseFieldDescriptor d = some ty) (hn : narrow ty v = v) (hf : fits ty v = true) {pc : Nat} {Ls : Array Slot} {rest : List Value} (hd : decode c.code pc = .ok (.putfield index, 3))
    (k : ∀ T' h', Stand p l e R s m args below meth c T' (locs ++ [⟨a, Jvm.RoadKit.slotOf Z O n d⟩]) cells slots → T'.heap = h' → Wr h h' a (Jvm.RoadKit.slotOf Z O n d) v → own_Goes p e below P (T'.setTop (mkF m (pc + 3) Ls rest))) :
    own_Goes p e below P (T.setTop (mkF m pc Ls (v :: .ref a :: rest))) := by
  obtain ⟨T', h', X', e', W', st⟩ := putF X hx hZ hown (host := "") (Or.inl w) Via.refl eT F E L wi hty hn hf (g := mkF m pc Ls (v :: .ref a :: rest)) rfl rfl hd
  exact own_by st (k T' h' X' e' W')
theorem own_arr_new {a : Addr} {cA : ClassId} {ty : FieldType} {n : Int32} {i : Nat} (A : Arr Z h a (newA cA ty n) ty) (hn : n.toInt = i) : own_ArrF Z h a ty i (fun _ => defaultValue ty) := by
  have q : n.toNatClampNeg = i := own_clamp hn
  refine ⟨_, A, by rw [sz_new, q], ?_, fun j hj => ?_⟩
  · have := Int32.toInt_lt n; omega
  · simp [newA, q, hj]
theorem own_newR (X : Stand p l e R s m args below meth c T locs cells slots) (hx : p.tables.exec = Jvm.exec) (hZ : Z.Warmed39 s.vm) {own K : String} {index : Nat} (hown : s.vm.findClass own = some m.cls) (w1 : (Cond.classLink own index K).before a0 Z = true) (w2 : (Cond.arrayOver (.object K)).before a0 Z = true) (eT : T.heap = h)
    {pc : Nat} {Ls : Array Slot} {S : List Value} (hd : decode c.code pc = .ok (.anewarray index, 3)) {n : Int32} (i : Nat) (hi : n.toInt = i) (hb : i * 8 ≤ 536870912) (hc : cells + 1 ≤ R.cells) (hl : slots + i ≤ R.slots)
    (k : ∀ T' h' cA, Stand p l e R s m args below meth c T' locs (cells + 1) (slots + i) → T'.heap = h' → Ext h h' → Arr Z h' h.size (newA cA (.object K) n) (.object K) → Ovr Z cA K → own_Goes p e below P (T'.setTop (mkF m (pc + 3) Ls (.ref h.size :: S)))) :
    own_Goes p e below P (T.setTop (mkF m pc Ls (.int n :: S))) := by
  have q : n.toNatClampNeg = i := own_clamp hi
  have q2 : ¬ n < 0 := by rw [Int32.lt_iff_toInt_lt, hi]; have : (0 : Int32).toInt = 0 := rfl; omega
  obtain ⟨T', h', cA, X', e', E', A', O', st⟩ := newR X hx hZ hown w1 w2 eT (g := mkF m pc Ls (.int n :: S)) rfl hd rfl q2 (cap := i) (by omega) hb hc hl
  exact own_by st (k T' h' cA X' e' E' A' O')
theorem own_newP (X : Stand p l e R s m args below meth c T locs cells slots) (hx : p.tables.exec = Jvm.exec) (hZ : Z.Warmed39 s.vm) {aty : ArrayType} (w : (Cond.arrayClass (newarray.typeOf aty)).before a0 Z = true) (eT : T.heap = h)
    {pc : Nat} {Ls : Array Slot} {S : List Value} (hd : decode c.code pc = .ok (.newarray aty, 2)) {n : Int32} (i : Nat) (hi : n.toInt = i) (hb : i * 8 ≤ 536870912) (hc : cells + 1 ≤ R.cells) (hl : slots + i ≤ R.slots)
    (k : ∀ T' h', Stand p l e R s m args below meth c T' locs (cells + 1) (slots + i) → T'.heap = h' → Ext h h' → own_ArrF Z h' h.size (newarray.typeOf aty) i (fun _ => defaultValue (newarray.typeOf aty)) → own_Goes p e below P (T'.setTop (mkF m (pc + 2) Ls (.ref h.size :: S)))) :
    own_Goes p e below P (T.setTop (mkF m pc Ls (.int n :: S))) := by
  have q : n.toNatClampNeg = i := own_clamp hi
  have q2 : ¬ n < 0 := by rw [Int32.lt_iff_toInt_lt, hi]; have : (0 : Int32).toInt = 0 := rfl; omega
  obtain ⟨T', h', cA, X', e', E', A', st⟩ := newP X hx hZ w eT (g := mkF m pc Ls (.int n :: S)) rfl hd rfl q2 (cap := i) (by omega) hb hc hl
  exact own_by st (k T' h' X' e' E' (own_arr_new A' hi))
theorem own_stI (X : Stand p l e R s m args below meth c T locs cells slots) (hx : p.tables.exec = Jvm.exec) (hZ : Z.Warmed39 s.vm) (eT : T.heap = h) {a : Addr} {n : Nat} {f : Nat → Value} (F : own_ArrF Z h a .int n f) {j x : Int32} (i : Nat) (hj : j.toInt = i) (hi : i < n)
    {pc : Nat} {Ls : Array Slot} {S : List Value} (hd : decode c.code pc = .ok (.iastore, 1))
    (k : ∀ T' h', Stand p l e R s m args below meth c T' (locs ++ [⟨a, i⟩]) cells slots → T'.heap = h' → Wr h h' a i (.int x) → own_ArrF Z h' a .int n (fun q => if q = i then .int x else f q) → own_Goes p e below P (T'.setTop (mkF m (pc + 1) Ls S))) :
    own_Goes p e below P (T.setTop (mkF m pc Ls (.int x :: .int j :: .ref a :: S))) := by
  have F' := F
  obtain ⟨cell, h1, h2, h3, h4⟩ := F'
  have q := own_clamp hj
  obtain ⟨T', h', X', e', W', st⟩ := stI X hx hZ eT h1 (j := j) (x := x) (by rw [h2]; exact own_in hj hi) (g := mkF m pc Ls (.int x :: .int j :: .ref a :: S)) rfl rfl hd
  rw [q] at X' W'
  exact own_by st (k T' h' X' e' W' (F.set hi W'))
theorem own_stR (X : Stand p l e R s m args below meth c T locs cells slots) (hx : p.tables.exec = Jvm.exec) (hZ : Z.Warmed39 s.vm) (eT : T.heap = h) {a : Addr} {ty : FieldType} {n : Nat} {f : Nat → Value} (F : own_ArrF Z h a ty n f) (hty : ty.isReference = true) {v : Value} (hs : Sto Z h a v) {j : Int32} (i : Nat) (hj : j.toInt = i) (hi : i < n)
    {pc : Nat} {Ls : Array Slot} {S : List Value} (hd : decode c.code pc = .ok (.aastore, 1))
    (k : ∀ T' h', Stand p l e R s m args below meth c T' (locs ++ [⟨a, i⟩]) cells slots → T'.heap = h' → Wr h h' a i v → own_ArrF Z h' a ty n (fun q => if q = i then v else f q) → own_Goes p e below P (T'.setTop (mkF m (pc + 1) Ls S))) :
    own_Goes p e below P (T.setTop (mkF m pc Ls (v :: .int j :: .ref a :: S))) := by
  have F' := F
  obtain ⟨cell, h1, h2, h3, h4⟩ := F'
  have q := own_clamp hj
  obtain ⟨T', h', X', e', W', st⟩ := stR X hx hZ eT h1 (j := j) (v := v) (by rw [h2]; exact own_in hj hi) hty hs (g := mkF m pc Ls (v :: .int j :: .ref a :: S)) rfl rfl hd
  rw [q] at X' W'
  exact own_by st (k T' h' X' e' W' (F.set hi W'))
theorem own_Fr.snoc {k : Nat} {L : List Loc} {a : Addr} {i : Nat} (N : Fr k L) (q : k ≤ a) : Fr k (L ++ [⟨a, i⟩]) := N.app fun y hy => by cases List.mem_singleton.mp hy; exact q
/-- the first k components are filled -/
def own_pre (g : Nat → Value) (d : Value) (k : Nat) : Nat → Value := fun q => if q < k then g q else d
theorem own_pre_step (g : Nat → Value) (d : Value) (k : Nat) (q : Nat) : (if q = k then g k else own_pre g d k q) = own_pre g d (k + 1) q := by
  unfold own_pre
  by_cases h1 : q = k
  · subst h1; rw [if_pos rfl, if_pos (Nat.lt_succ_self _)]
  · rw [if_neg h1]
    by_cases h2 : q < k
    · rw [if_pos h2, if_pos (by omega)]
    · rw [if_neg h2, if_neg (by omega)]
theorem own_pre_all {g : Nat → Value} {d : Value} {n i : Nat} (hi : i < n) : own_pre g d n i = g i := if_pos hi
def own_ArrR (Z : State) (h : Heap) (a : Addr) (K : String) (n : Nat) (f : Nat → Value) : Prop := ∃ cell, Arr Z h a cell (.object K) ∧ Ovr Z cell.cls K ∧ cell.slots.size = n ∧ n < 2 ^ 31 ∧ ∀ i, i < n → cell.slots[i]? = some (f i)
theorem own_ArrR.toF {a : Addr} {K : String} {n : Nat} {f : Nat → Value} (F : own_ArrR Z h a K n f) : own_ArrF Z h a (.object K) n f := by
  obtain ⟨cell, h1, -, h2⟩ := F
  exact ⟨cell, h1, h2⟩
theorem own_ArrR.ext {h' : Heap} {a : Addr} {K : String} {n : Nat} {f : Nat → Value} (E : Ext h h') (F : own_ArrR Z h a K n f) : own_ArrR Z h' a K n f := by
  obtain ⟨cell, h1, h2⟩ := F
  exact ⟨cell, h1.ext E, h2⟩
theorem own_ArrR.keep {h' : Heap} {a : Addr} {K : String} {n : Nat} {f : Nat → Value} {b : Addr} {sl : Nat} {v : Value} (W : Wr h h' b sl v) (F : own_ArrR Z h a K n f) (hne : a ≠ b) : own_ArrR Z h' a K n f := by
  obtain ⟨cell, h1, h2⟩ := F
  exact ⟨cell, h1.other W hne, h2⟩
theorem own_ArrF.lt {a : Addr} {ty : FieldType} {n : Nat} {f : Nat → Value} (F : own_ArrF Z h a ty n f) : a < h.size := by
  obtain ⟨cell, h1, -⟩ := F
  exact h1.lt
theorem own_ArrR.lt {a : Addr} {K : String} {n : Nat} {f : Nat → Value} (F : own_ArrR Z h a K n f) : a < h.size := F.toF.lt
theorem own_newRp (g : Nat → Value) (X : Stand p l e R s m args below meth c T locs cells slots) (hx : p.tables.exec = Jvm.exec) (hZ : Z.Warmed39 s.vm) {own K : String} {index : Nat} (hown : s.vm.findClass own = some m.cls) (w1 : (Cond.classLink own index K).before a0 Z = true) (w2 : (Cond.arrayOver (.object K)).before a0 Z = true) (eT : T.heap = h)
    {pc : Nat} {Ls : Array Slot} {S : List Value} (hd : decode c.code pc = .ok (.anewarray index, 3)) {n : Int32} (i : Nat) (hi : n.toInt = i) (hb : i * 8 ≤ 536870912) (hc : cells + 1 ≤ R.cells) (hl : slots + i ≤ R.slots)
    (k : ∀ T' h', Stand p l e R s m args below meth c T' locs (cells + 1) (slots + i) → T'.heap = h' → Ext h h' → own_ArrR Z h' h.size K i (own_pre g .null 0) → own_Goes p e below P (T'.setTop (mkF m (pc + 3) Ls (.ref h.size :: S)))) :
    own_Goes p e below P (T.setTop (mkF m pc Ls (.int n :: S))) := by
  refine own_newR X hx hZ hown w1 w2 eT hd i hi hb hc hl fun T' h' cA X' e' E' A' O' => k T' h' X' e' E' ?_
  have q : n.toNatClampNeg = i := own_clamp hi
  refine ⟨_, A', O', by rw [sz_new, q], ?_, fun j hj => ?_⟩
  · have := Int32.toInt_lt n; omega
  · simp [newA, q, hj, own_pre, defaultValue]
theorem own_stRp (g : Nat → Value) (X : Stand p l e R s m args below meth c T locs cells slots) (hx : p.tables.exec = Jvm.exec) (hZ : Z.Warmed39 s.vm) (eT : T.heap = h) {a : Addr} {K : String} {n : Nat} {i : Nat} (F : own_ArrR Z h a K n (own_pre g .null i)) {v : Value} (hs : v = .null ∨ ∃ y, v = .ref y ∧ Exa Z h y K) (hv : v = g i) {j : Int32} (hj : j.toInt = i) (hi : i < n)
    {pc : Nat} {Ls : Array Slot} {S : List Value} (hd : decode c.code pc = .ok (.aastore, 1))
    (k : ∀ T' h', Stand p l e R s m args below meth c T' (locs ++ [⟨a, i⟩]) cells slots → T'.heap = h' → Wr h h' a i v → own_ArrR Z h' a K n (own_pre g .null (i + 1)) → own_Goes p e below P (T'.setTop (mkF m (pc + 1) Ls S))) :
    own_Goes p e below P (T.setTop (mkF m pc Ls (v :: .int j :: .ref a :: S))) := by
  have F' := F
  obtain ⟨cell, h1, hO, h2, h3, h4⟩ := F'
  have hst : Sto Z h a v := by
    rcases hs with rfl | ⟨y, rfl, Ey⟩
    · exact Or.inl rfl
    · exact Sto.of h1 hO (Ins.self Ey)
  refine own_stR X hx hZ eT F.toF rfl hst i hj hi hd fun T' h' X' e' W' F2 => k T' h' X' e' W' ?_
  refine ⟨cell.setSlot i v, h1.same W', hO, by simp [Cell.setSlot, h2], h3, fun q hq => ?_⟩
  rw [← own_pre_step, ← hv]
  by_cases z : q = i
  · subst z
    rw [if_pos rfl]
    simp [Cell.setSlot, h2, hq]
  · rw [if_neg z, ← h4 q hq]
    exact Array.getElem?_setIfInBounds_ne (Ne.symm z)
theorem own_newIp (g : Nat → Value) (X : Stand p l e R s m args below meth c T locs cells slots) (hx : p.tables.exec = Jvm.exec) (hZ : Z.Warmed39 s.vm) (w : (Cond.arrayClass .int).before a0 Z = true) (eT : T.heap = h)
    {pc : Nat} {Ls : Array Slot} {S : List Value} (hd : decode c.code pc = .ok (.newarray .int, 2)) {n : Int32} (i : Nat) (hi : n.toInt = i) (hb : i * 8 ≤ 536870912) (hc : cells + 1 ≤ R.cells) (hl : slots + i ≤ R.slots)
    (k : ∀ T' h', Stand p l e R s m args below meth c T' locs (cells + 1) (slots + i) → T'.heap = h' → Ext h h' → own_ArrF Z h' h.size .int i (own_pre g (.int 0) 0) → own_Goes p e below P (T'.setTop (mkF m (pc + 2) Ls (.ref h.size :: S)))) :
    own_Goes p e below P (T.setTop (mkF m pc Ls (.int n :: S))) :=
  own_newP X hx hZ (aty := .int) w eT hd i hi hb hc hl fun T' h' X' e' E' F => k T' h' X' e' E' (F.mono fun _ _ => rfl)
theorem own_stIp (g : Nat → Value) (X : Stand p l e R s m args below meth c T locs cells slots) (hx : p.tables.exec = Jvm.exec) (hZ : Z.Warmed39 s.vm) (eT : T.heap = h) {a : Addr} {n : Nat} {i : Nat} (F : own_ArrF Z h a .int n (own_pre g (.int 0) i)) {j x : Int32} (hv : .int x = g i) (hj : j.toInt = i) (hi : i < n)
    {pc : Nat} {Ls : Array Slot} {S : List Value} (hd : decode c.code pc = .ok (.iastore, 1))
    (k : ∀ T' h', Stand p l e R s m args below meth c T' (locs ++ [⟨a, i⟩]) cells slots → T'.heap = h' → Wr h h' a i (.int x) → own_ArrF Z h' a .int n (own_pre g (.int 0) (i + 1)) → own_Goes p e below P (T'.setTop (mkF m (pc + 1) Ls S))) :
    own_Goes p e below P (T.setTop (mkF m pc Ls (.int x :: .int j :: .ref a :: S))) :=
  own_stI X hx hZ eT F i hj hi hd fun T' h' X' e' W' F2 => k T' h' X' e' W' (F2.mono fun q _ => by rw [hv]; exact own_pre_step g (.int 0) i q)
/-! ints -/
theorem own_mask (x : Int32) : (x &&& 2147483647).toInt = x.toInt % 2 ^ 31 := Jvm.Kit.i32_mask x 2147483647 (k := 31) (by decide) (by decide)
theorem own_mod (x n : Int32) (M : Int) (hM : n.toInt = M) (hn : 0 < M) : 0 ≤ ((x &&& 2147483647) % n).toInt ∧ ((x &&& 2147483647) % n).toInt < M := by
  have h1 := own_mask x
  rw [Int32.toInt_mod]
  have h2 : 0 ≤ (x &&& 2147483647).toInt := by omega
  subst hM
  exact ⟨Int.tmod_nonneg _ h2, Int.tmod_lt_of_pos _ hn⟩
theorem own_mask2 (x : Int32) : 0 ≤ (x &&& 3).toInt ∧ (x &&& 3).toInt < 4 := by
  have h1 : (x &&& 3).toInt = x.toInt % 2 ^ 2 := Jvm.Kit.i32_mask x 3 (k := 2) (by decide) (by decide)
  omega
theorem own_mask3 (x : Int32) : 0 ≤ (x &&& 7).toInt ∧ (x &&& 7).toInt < 8 := by
  have h1 : (x &&& 7).toInt = x.toInt % 2 ^ 3 := Jvm.Kit.i32_mask x 7 (k := 3) (by decide) (by decide)
  omega
theorem own_eqInt {x y : Int32} (h : x.toInt = y.toInt) : x = y := Int32.toInt_inj.mp h
theorem own_nat {x : Int32} {n : Nat} (h0 : 0 ≤ x.toInt) (h1 : x.toInt < n) : ∃ i : Nat, i < n ∧ x.toInt = i := ⟨x.toInt.toNat, by omega, by omega⟩
end OwnKit

theorem own_pd0 : parseMethodDescriptor "()Z" = some ⟨[], some .boolean⟩ := by decide +kernel
theorem own_pn0 : plainName "com/example/janustile/dicom/Vr" = true := by first | (simp [plainName, overriddenIn]; done) | decide +kernel
theorem own_pn1 : plainName "com/example/janustile/dicom/VrTakesCharacterSetPinLaw" = true := by first | (simp [plainName, overriddenIn]; done) | decide +kernel
theorem own_w0 {a0 : Array Value} {Z : State} (hw : ∀ d ∈ tables_1, d.before a0 Z = true) : (Jvm.Cond.classLink "com/example/janustile/dicom/VrTakesCharacterSetPinLaw" 7 "com/example/janustile/dicom/Vr").before a0 Z = true := hw _ (List.mem_of_getElem? (i := 0) rfl)
theorem own_w1 {a0 : Array Value} {Z : State} (hw : ∀ d ∈ tables_1, d.before a0 Z = true) : (Jvm.Cond.arrayOver (FieldType.object "com/example/janustile/dicom/Vr")).before a0 Z = true := hw _ (List.mem_of_getElem? (i := 1) rfl)
theorem own_w2 {a0 : Array Value} {Z : State} (hw : ∀ d ∈ tables_1, d.before a0 Z = true) : (Jvm.Cond.fieldLink "com/example/janustile/dicom/VrTakesCharacterSetPinLaw" 9 "com/example/janustile/dicom/Vr" "AE" "Lcom/example/janustile/dicom/Vr;").before a0 Z = true := hw _ (List.mem_of_getElem? (i := 2) rfl)
theorem own_w3 {a0 : Array Value} {Z : State} (hw : ∀ d ∈ tables_1, d.before a0 Z = true) : (Jvm.Cond.initialized "com/example/janustile/dicom/Vr").before a0 Z = true := hw _ (List.mem_of_getElem? (i := 3) rfl)
theorem own_w4 {a0 : Array Value} {Z : State} (hw : ∀ d ∈ tables_1, d.before a0 Z = true) : (Jvm.Cond.laysStatic "com/example/janustile/dicom/Vr" "AE" "Lcom/example/janustile/dicom/Vr;").before a0 Z = true := hw _ (List.mem_of_getElem? (i := 4) rfl)
theorem own_w6 {a0 : Array Value} {Z : State} (hw : ∀ d ∈ tables_1, d.before a0 Z = true) : (Jvm.Cond.fieldLink "com/example/janustile/dicom/VrTakesCharacterSetPinLaw" 13 "com/example/janustile/dicom/Vr" "AS" "Lcom/example/janustile/dicom/Vr;").before a0 Z = true := hw _ (List.mem_of_getElem? (i := 6) rfl)
theorem own_w7 {a0 : Array Value} {Z : State} (hw : ∀ d ∈ tables_1, d.before a0 Z = true) : (Jvm.Cond.laysStatic "com/example/janustile/dicom/Vr" "AS" "Lcom/example/janustile/dicom/Vr;").before a0 Z = true := hw _ (List.mem_of_getElem? (i := 7) rfl)
theorem own_w8 {a0 : Array Value} {Z : State} (hw : ∀ d ∈ tables_1, d.before a0 Z = true) : (Jvm.Cond.fieldLink "com/example/janustile/dicom/VrTakesCharacterSetPinLaw" 16 "com/example/janustile/dicom/Vr" "AT" "Lcom/example/janustile/dicom/Vr;").before a0 Z = true := hw _ (List.mem_of_getElem? (i := 8) rfl)
theorem own_w9 {a0 : Array Value} {Z : State} (hw : ∀ d ∈ tables_1, d.before a0 Z = true) : (Jvm.Cond.laysStatic "com/example/janustile/dicom/Vr" "AT" "Lcom/example/janustile/dicom/Vr;").before a0 Z = true := hw _ (List.mem_of_getElem? (i := 9) rfl)
theorem own_w10 {a0 : Array Value} {Z : State} (hw : ∀ d ∈ tables_1, d.before a0 Z = true) : (Jvm.Cond.fieldLink "com/example/janustile/dicom/VrTakesCharacterSetPinLaw" 19 "com/example/janustile/dicom/Vr" "CS" "Lcom/example/janustile/dicom/Vr;").before a0 Z = true := hw _ (List.mem_of_getElem? (i := 10) rfl)
theorem own_w11 {a0 : Array Value} {Z : State} (hw : ∀ d ∈ tables_1, d.before a0 Z = true) : (Jvm.Cond.laysStatic "com/example/janustile/dicom/Vr" "CS" "Lcom/example/janustile/dicom/Vr;").before a0 Z = true := hw _ (List.mem_of_getElem? (i := 11) rfl)
theorem own_w12 {a0 : Array Value} {Z : State} (hw : ∀ d ∈ tables_1, d.before a0 Z = true) : (Jvm.Cond.fieldLink "com/example/janustile/dicom/VrTakesCharacterSetPinLaw" 22 "com/example/janustile/dicom/Vr" "DA" "Lcom/example/janustile/dicom/Vr;").before a0 Z = true := hw _ (List.mem_of_getElem? (i := 12) rfl)
theorem own_w13 {a0 : Array Value} {Z : State} (hw : ∀ d ∈ tables_1, d.before a0 Z = true) : (Jvm.Cond.laysStatic "com/example/janustile/dicom/Vr" "DA" "Lcom/example/janustile/dicom/Vr;").before a0 Z = true := hw _ (List.mem_of_getElem? (i := 13) rfl)
theorem own_w14 {a0 : Array Value} {Z : State} (hw : ∀ d ∈ tables_1, d.before a0 Z = true) : (Jvm.Cond.fieldLink "com/example/janustile/dicom/VrTakesCharacterSetPinLaw" 25 "com/example/janustile/dicom/Vr" "DS" "Lcom/example/janustile/dicom/Vr;").before a0 Z = true := hw _ (List.mem_of_getElem? (i := 14) rfl)
theorem own_w15 {a0 : Array Value} {Z : State} (hw : ∀ d ∈ tables_1, d.before a0 Z = true) : (Jvm.Cond.laysStatic "com/example/janustile/dicom/Vr" "DS" "Lcom/example/janustile/dicom/Vr;").before a0 Z = true := hw _ (List.mem_of_getElem? (i := 15) rfl)
theorem own_w16 {a0 : Array Value} {Z : State} (hw : ∀ d ∈ tables_1, d.before a0 Z = true) : (Jvm.Cond.fieldLink "com/example/janustile/dicom/VrTakesCharacterSetPinLaw" 28 "com/example/janustile/dicom/Vr" "DT" "Lcom/example/janustile/dicom/Vr;").before a0 Z = true := hw _ (List.mem_of_getElem? (i := 16) rfl)
theorem own_w17 {a0 : Array Value} {Z : State} (hw : ∀ d ∈ tables_1, d.before a0 Z = true) : (Jvm.Cond.laysStatic "com/example/janustile/dicom/Vr" "DT" "Lcom/example/janustile/dicom/Vr;").before a0 Z = true := hw _ (List.mem_of_getElem? (i := 17) rfl)
theorem own_w18 {a0 : Array Value} {Z : State} (hw : ∀ d ∈ tables_1, d.before a0 Z = true) : (Jvm.Cond.fieldLink "com/example/janustile/dicom/VrTakesCharacterSetPinLaw" 31 "com/example/janustile/dicom/Vr" "FD" "Lcom/example/janustile/dicom/Vr;").before a0 Z = true := hw _ (List.mem_of_getElem? (i := 18) rfl)
theorem own_w19 {a0 : Array Value} {Z : State} (hw : ∀ d ∈ tables_1, d.before a0 Z = true) : (Jvm.Cond.laysStatic "com/example/janustile/dicom/Vr" "FD" "Lcom/example/janustile/dicom/Vr;").before a0 Z = true := hw _ (List.mem_of_getElem? (i := 19) rfl)
theorem own_w20 {a0 : Array Value} {Z : State} (hw : ∀ d ∈ tables_1, d.before a0 Z = true) : (Jvm.Cond.fieldLink "com/example/janustile/dicom/VrTakesCharacterSetPinLaw" 34 "com/example/janustile/dicom/Vr" "FL" "Lcom/example/janustile/dicom/Vr;").before a0 Z = true := hw _ (List.mem_of_getElem? (i := 20) rfl)
theorem own_w21 {a0 : Array Value} {Z : State} (hw : ∀ d ∈ tables_1, d.before a0 Z = true) : (Jvm.Cond.laysStatic "com/example/janustile/dicom/Vr" "FL" "Lcom/example/janustile/dicom/Vr;").before a0 Z = true := hw _ (List.mem_of_getElem? (i := 21) rfl)
theorem own_w22 {a0 : Array Value} {Z : State} (hw : ∀ d ∈ tables_1, d.before a0 Z = true) : (Jvm.Cond.fieldLink "com/example/janustile/dicom/VrTakesCharacterSetPinLaw" 37 "com/example/janustile/dicom/Vr" "IS" "Lcom/example/janustile/dicom/Vr;").before a0 Z = true := hw _ (List.mem_of_getElem? (i := 22) rfl)
theorem own_w23 {a0 : Array Value} {Z : State} (hw : ∀ d ∈ tables_1, d.before a0 Z = true) : (Jvm.Cond.laysStatic "com/example/janustile/dicom/Vr" "IS" "Lcom/example/janustile/dicom/Vr;").before a0 Z = true := hw _ (List.mem_of_getElem? (i := 23) rfl)
theorem own_w24 {a0 : Array Value} {Z : State} (hw : ∀ d ∈ tables_1, d.before a0 Z = true) : (Jvm.Cond.fieldLink "com/example/janustile/dicom/VrTakesCharacterSetPinLaw" 40 "com/example/janustile/dicom/Vr" "LO" "Lcom/example/janustile/dicom/Vr;").before a0 Z = true := hw _ (List.mem_of_getElem? (i := 24) rfl)
theorem own_w25 {a0 : Array Value} {Z : State} (hw : ∀ d ∈ tables_1, d.before a0 Z = true) : (Jvm.Cond.laysStatic "com/example/janustile/dicom/Vr" "LO" "Lcom/example/janustile/dicom/Vr;").before a0 Z = true := hw _ (List.mem_of_getElem? (i := 25) rfl)
theorem own_w26 {a0 : Array Value} {Z : State} (hw : ∀ d ∈ tables_1, d.before a0 Z = true) : (Jvm.Cond.fieldLink "com/example/janustile/dicom/VrTakesCharacterSetPinLaw" 43 "com/example/janustile/dicom/Vr" "LT" "Lcom/example/janustile/dicom/Vr;").before a0 Z = true := hw _ (List.mem_of_getElem? (i := 26) rfl)
theorem own_w27 {a0 : Array Value} {Z : State} (hw : ∀ d ∈ tables_1, d.before a0 Z = true) : (Jvm.Cond.laysStatic "com/example/janustile/dicom/Vr" "LT" "Lcom/example/janustile/dicom/Vr;").before a0 Z = true := hw _ (List.mem_of_getElem? (i := 27) rfl)
theorem own_w28 {a0 : Array Value} {Z : State} (hw : ∀ d ∈ tables_1, d.before a0 Z = true) : (Jvm.Cond.fieldLink "com/example/janustile/dicom/VrTakesCharacterSetPinLaw" 46 "com/example/janustile/dicom/Vr" "OB" "Lcom/example/janustile/dicom/Vr;").before a0 Z = true := hw _ (List.mem_of_getElem? (i := 28) rfl)
theorem own_w29 {a0 : Array Value} {Z : State} (hw : ∀ d ∈ tables_1, d.before a0 Z = true) : (Jvm.Cond.laysStatic "com/example/janustile/dicom/Vr" "OB" "Lcom/example/janustile/dicom/Vr;").before a0 Z = true := hw _ (List.mem_of_getElem? (i := 29) rfl)
theorem own_w30 {a0 : Array Value} {Z : State} (hw : ∀ d ∈ tables_1, d.before a0 Z = true) : (Jvm.Cond.fieldLink "com/example/janustile/dicom/VrTakesCharacterSetPinLaw" 49 "com/example/janustile/dicom/Vr" "OD" "Lcom/example/janustile/dicom/Vr;").before a0 Z = true := hw _ (List.mem_of_getElem? (i := 30) rfl)
theorem own_w31 {a0 : Array Value} {Z : State} (hw : ∀ d ∈ tables_1, d.before a0 Z = true) : (Jvm.Cond.laysStatic "com/example/janustile/dicom/Vr" "OD" "Lcom/example/janustile/dicom/Vr;").before a0 Z = true := hw _ (List.mem_of_getElem? (i := 31) rfl)
theorem own_w32 {a0 : Array Value} {Z : State} (hw : ∀ d ∈ tables_1, d.before a0 Z = true) : (Jvm.Cond.fieldLink "com/example/janustile/dicom/VrTakesCharacterSetPinLaw" 52 "com/example/janustile/dicom/Vr" "OF" "Lcom/example/janustile/dicom/Vr;").before a0 Z = true := hw _ (List.mem_of_getElem? (i := 32) rfl)
theorem own_w33 {a0 : Array Value} {Z : State} (hw : ∀ d ∈ tables_1, d.before a0 Z = true) : (Jvm.Cond.laysStatic "com/example/janustile/dicom/Vr" "OF" "Lcom/example/janustile/dicom/Vr;").before a0 Z = true := hw _ (List.mem_of_getElem? (i := 33) rfl)
theorem own_w34 {a0 : Array Value} {Z : State} (hw : ∀ d ∈ tables_1, d.before a0 Z = true) : (Jvm.Cond.fieldLink "com/example/janustile/dicom/VrTakesCharacterSetPinLaw" 55 "com/example/janustile/dicom/Vr" "OL" "Lcom/example/janustile/dicom/Vr;").before a0 Z = true := hw _ (List.mem_of_getElem? (i := 34) rfl)
theorem own_w35 {a0 : Array Value} {Z : State} (hw : ∀ d ∈ tables_1, d.before a0 Z = true) : (Jvm.Cond.laysStatic "com/example/janustile/dicom/Vr" "OL" "Lcom/example/janustile/dicom/Vr;").before a0 Z = true := hw _ (List.mem_of_getElem? (i := 35) rfl)
theorem own_w36 {a0 : Array Value} {Z : State} (hw : ∀ d ∈ tables_1, d.before a0 Z = true) : (Jvm.Cond.fieldLink "com/example/janustile/dicom/VrTakesCharacterSetPinLaw" 58 "com/example/janustile/dicom/Vr" "OV" "Lcom/example/janustile/dicom/Vr;").before a0 Z = true := hw _ (List.mem_of_getElem? (i := 36) rfl)
theorem own_w37 {a0 : Array Value} {Z : State} (hw : ∀ d ∈ tables_1, d.before a0 Z = true) : (Jvm.Cond.laysStatic "com/example/janustile/dicom/Vr" "OV" "Lcom/example/janustile/dicom/Vr;").before a0 Z = true := hw _ (List.mem_of_getElem? (i := 37) rfl)
theorem own_w38 {a0 : Array Value} {Z : State} (hw : ∀ d ∈ tables_1, d.before a0 Z = true) : (Jvm.Cond.fieldLink "com/example/janustile/dicom/VrTakesCharacterSetPinLaw" 61 "com/example/janustile/dicom/Vr" "OW" "Lcom/example/janustile/dicom/Vr;").before a0 Z = true := hw _ (List.mem_of_getElem? (i := 38) rfl)
theorem own_w39 {a0 : Array Value} {Z : State} (hw : ∀ d ∈ tables_1, d.before a0 Z = true) : (Jvm.Cond.laysStatic "com/example/janustile/dicom/Vr" "OW" "Lcom/example/janustile/dicom/Vr;").before a0 Z = true := hw _ (List.mem_of_getElem? (i := 39) rfl)
theorem own_w40 {a0 : Array Value} {Z : State} (hw : ∀ d ∈ tables_1, d.before a0 Z = true) : (Jvm.Cond.fieldLink "com/example/janustile/dicom/VrTakesCharacterSetPinLaw" 64 "com/example/janustile/dicom/Vr" "PN" "Lcom/example/janustile/dicom/Vr;").before a0 Z = true := hw _ (List.mem_of_getElem? (i := 40) rfl)
theorem own_w41 {a0 : Array Value} {Z : State} (hw : ∀ d ∈ tables_1, d.before a0 Z = true) : (Jvm.Cond.laysStatic "com/example/janustile/dicom/Vr" "PN" "Lcom/example/janustile/dicom/Vr;").before a0 Z = true := hw _ (List.mem_of_getElem? (i := 41) rfl)
theorem own_w42 {a0 : Array Value} {Z : State} (hw : ∀ d ∈ tables_1, d.before a0 Z = true) : (Jvm.Cond.fieldLink "com/example/janustile/dicom/VrTakesCharacterSetPinLaw" 67 "com/example/janustile/dicom/Vr" "SH" "Lcom/example/janustile/dicom/Vr;").before a0 Z = true := hw _ (List.mem_of_getElem? (i := 42) rfl)
theorem own_w43 {a0 : Array Value} {Z : State} (hw : ∀ d ∈ tables_1, d.before a0 Z = true) : (Jvm.Cond.laysStatic "com/example/janustile/dicom/Vr" "SH" "Lcom/example/janustile/dicom/Vr;").before a0 Z = true := hw _ (List.mem_of_getElem? (i := 43) rfl)
theorem own_w44 {a0 : Array Value} {Z : State} (hw : ∀ d ∈ tables_1, d.before a0 Z = true) : (Jvm.Cond.fieldLink "com/example/janustile/dicom/VrTakesCharacterSetPinLaw" 70 "com/example/janustile/dicom/Vr" "SL" "Lcom/example/janustile/dicom/Vr;").before a0 Z = true := hw _ (List.mem_of_getElem? (i := 44) rfl)
theorem own_w45 {a0 : Array Value} {Z : State} (hw : ∀ d ∈ tables_1, d.before a0 Z = true) : (Jvm.Cond.laysStatic "com/example/janustile/dicom/Vr" "SL" "Lcom/example/janustile/dicom/Vr;").before a0 Z = true := hw _ (List.mem_of_getElem? (i := 45) rfl)
theorem own_w46 {a0 : Array Value} {Z : State} (hw : ∀ d ∈ tables_1, d.before a0 Z = true) : (Jvm.Cond.fieldLink "com/example/janustile/dicom/VrTakesCharacterSetPinLaw" 73 "com/example/janustile/dicom/Vr" "SQ" "Lcom/example/janustile/dicom/Vr;").before a0 Z = true := hw _ (List.mem_of_getElem? (i := 46) rfl)
theorem own_w47 {a0 : Array Value} {Z : State} (hw : ∀ d ∈ tables_1, d.before a0 Z = true) : (Jvm.Cond.laysStatic "com/example/janustile/dicom/Vr" "SQ" "Lcom/example/janustile/dicom/Vr;").before a0 Z = true := hw _ (List.mem_of_getElem? (i := 47) rfl)
theorem own_w48 {a0 : Array Value} {Z : State} (hw : ∀ d ∈ tables_1, d.before a0 Z = true) : (Jvm.Cond.fieldLink "com/example/janustile/dicom/VrTakesCharacterSetPinLaw" 76 "com/example/janustile/dicom/Vr" "SS" "Lcom/example/janustile/dicom/Vr;").before a0 Z = true := hw _ (List.mem_of_getElem? (i := 48) rfl)
theorem own_w49 {a0 : Array Value} {Z : State} (hw : ∀ d ∈ tables_1, d.before a0 Z = true) : (Jvm.Cond.laysStatic "com/example/janustile/dicom/Vr" "SS" "Lcom/example/janustile/dicom/Vr;").before a0 Z = true := hw _ (List.mem_of_getElem? (i := 49) rfl)
theorem own_w50 {a0 : Array Value} {Z : State} (hw : ∀ d ∈ tables_1, d.before a0 Z = true) : (Jvm.Cond.fieldLink "com/example/janustile/dicom/VrTakesCharacterSetPinLaw" 79 "com/example/janustile/dicom/Vr" "ST" "Lcom/example/janustile/dicom/Vr;").before a0 Z = true := hw _ (List.mem_of_getElem? (i := 50) rfl)
theorem own_w51 {a0 : Array Value} {Z : State} (hw : ∀ d ∈ tables_1, d.before a0 Z = true) : (Jvm.Cond.laysStatic "com/example/janustile/dicom/Vr" "ST" "Lcom/example/janustile/dicom/Vr;").before a0 Z = true := hw _ (List.mem_of_getElem? (i := 51) rfl)
theorem own_w52 {a0 : Array Value} {Z : State} (hw : ∀ d ∈ tables_1, d.before a0 Z = true) : (Jvm.Cond.fieldLink "com/example/janustile/dicom/VrTakesCharacterSetPinLaw" 82 "com/example/janustile/dicom/Vr" "SV" "Lcom/example/janustile/dicom/Vr;").before a0 Z = true := hw _ (List.mem_of_getElem? (i := 52) rfl)
theorem own_w53 {a0 : Array Value} {Z : State} (hw : ∀ d ∈ tables_1, d.before a0 Z = true) : (Jvm.Cond.laysStatic "com/example/janustile/dicom/Vr" "SV" "Lcom/example/janustile/dicom/Vr;").before a0 Z = true := hw _ (List.mem_of_getElem? (i := 53) rfl)
theorem own_w54 {a0 : Array Value} {Z : State} (hw : ∀ d ∈ tables_1, d.before a0 Z = true) : (Jvm.Cond.fieldLink "com/example/janustile/dicom/VrTakesCharacterSetPinLaw" 85 "com/example/janustile/dicom/Vr" "TM" "Lcom/example/janustile/dicom/Vr;").before a0 Z = true := hw _ (List.mem_of_getElem? (i := 54) rfl)
theorem own_w55 {a0 : Array Value} {Z : State} (hw : ∀ d ∈ tables_1, d.before a0 Z = true) : (Jvm.Cond.laysStatic "com/example/janustile/dicom/Vr" "TM" "Lcom/example/janustile/dicom/Vr;").before a0 Z = true := hw _ (List.mem_of_getElem? (i := 55) rfl)
theorem own_w56 {a0 : Array Value} {Z : State} (hw : ∀ d ∈ tables_1, d.before a0 Z = true) : (Jvm.Cond.fieldLink "com/example/janustile/dicom/VrTakesCharacterSetPinLaw" 88 "com/example/janustile/dicom/Vr" "UC" "Lcom/example/janustile/dicom/Vr;").before a0 Z = true := hw _ (List.mem_of_getElem? (i := 56) rfl)
theorem own_w57 {a0 : Array Value} {Z : State} (hw : ∀ d ∈ tables_1, d.before a0 Z = true) : (Jvm.Cond.laysStatic "com/example/janustile/dicom/Vr" "UC" "Lcom/example/janustile/dicom/Vr;").before a0 Z = true := hw _ (List.mem_of_getElem? (i := 57) rfl)
theorem own_w58 {a0 : Array Value} {Z : State} (hw : ∀ d ∈ tables_1, d.before a0 Z = true) : (Jvm.Cond.fieldLink "com/example/janustile/dicom/VrTakesCharacterSetPinLaw" 91 "com/example/janustile/dicom/Vr" "UI" "Lcom/example/janustile/dicom/Vr;").before a0 Z = true := hw _ (List.mem_of_getElem? (i := 58) rfl)
theorem own_w59 {a0 : Array Value} {Z : State} (hw : ∀ d ∈ tables_1, d.before a0 Z = true) : (Jvm.Cond.laysStatic "com/example/janustile/dicom/Vr" "UI" "Lcom/example/janustile/dicom/Vr;").before a0 Z = true := hw _ (List.mem_of_getElem? (i := 59) rfl)
theorem own_w60 {a0 : Array Value} {Z : State} (hw : ∀ d ∈ tables_1, d.before a0 Z = true) : (Jvm.Cond.fieldLink "com/example/janustile/dicom/VrTakesCharacterSetPinLaw" 94 "com/example/janustile/dicom/Vr" "UL" "Lcom/example/janustile/dicom/Vr;").before a0 Z = true := hw _ (List.mem_of_getElem? (i := 60) rfl)
theorem own_w61 {a0 : Array Value} {Z : State} (hw : ∀ d ∈ tables_1, d.before a0 Z = true) : (Jvm.Cond.laysStatic "com/example/janustile/dicom/Vr" "UL" "Lcom/example/janustile/dicom/Vr;").before a0 Z = true := hw _ (List.mem_of_getElem? (i := 61) rfl)
theorem own_w62 {a0 : Array Value} {Z : State} (hw : ∀ d ∈ tables_1, d.before a0 Z = true) : (Jvm.Cond.fieldLink "com/example/janustile/dicom/VrTakesCharacterSetPinLaw" 97 "com/example/janustile/dicom/Vr" "UN" "Lcom/example/janustile/dicom/Vr;").before a0 Z = true := hw _ (List.mem_of_getElem? (i := 62) rfl)
theorem own_w63 {a0 : Array Value} {Z : State} (hw : ∀ d ∈ tables_1, d.before a0 Z = true) : (Jvm.Cond.laysStatic "com/example/janustile/dicom/Vr" "UN" "Lcom/example/janustile/dicom/Vr;").before a0 Z = true := hw _ (List.mem_of_getElem? (i := 63) rfl)
theorem own_w64 {a0 : Array Value} {Z : State} (hw : ∀ d ∈ tables_1, d.before a0 Z = true) : (Jvm.Cond.fieldLink "com/example/janustile/dicom/VrTakesCharacterSetPinLaw" 100 "com/example/janustile/dicom/Vr" "UR" "Lcom/example/janustile/dicom/Vr;").before a0 Z = true := hw _ (List.mem_of_getElem? (i := 64) rfl)
theorem own_w65 {a0 : Array Value} {Z : State} (hw : ∀ d ∈ tables_1, d.before a0 Z = true) : (Jvm.Cond.laysStatic "com/example/janustile/dicom/Vr" "UR" "Lcom/example/janustile/dicom/Vr;").before a0 Z = true := hw _ (List.mem_of_getElem? (i := 65) rfl)
theorem own_w66 {a0 : Array Value} {Z : State} (hw : ∀ d ∈ tables_1, d.before a0 Z = true) : (Jvm.Cond.fieldLink "com/example/janustile/dicom/VrTakesCharacterSetPinLaw" 103 "com/example/janustile/dicom/Vr" "US" "Lcom/example/janustile/dicom/Vr;").before a0 Z = true := hw _ (List.mem_of_getElem? (i := 66) rfl)
theorem own_w67 {a0 : Array Value} {Z : State} (hw : ∀ d ∈ tables_1, d.before a0 Z = true) : (Jvm.Cond.laysStatic "com/example/janustile/dicom/Vr" "US" "Lcom/example/janustile/dicom/Vr;").before a0 Z = true := hw _ (List.mem_of_getElem? (i := 67) rfl)
theorem own_w68 {a0 : Array Value} {Z : State} (hw : ∀ d ∈ tables_1, d.before a0 Z = true) : (Jvm.Cond.fieldLink "com/example/janustile/dicom/VrTakesCharacterSetPinLaw" 106 "com/example/janustile/dicom/Vr" "UT" "Lcom/example/janustile/dicom/Vr;").before a0 Z = true := hw _ (List.mem_of_getElem? (i := 68) rfl)
theorem own_w69 {a0 : Array Value} {Z : State} (hw : ∀ d ∈ tables_1, d.before a0 Z = true) : (Jvm.Cond.laysStatic "com/example/janustile/dicom/Vr" "UT" "Lcom/example/janustile/dicom/Vr;").before a0 Z = true := hw _ (List.mem_of_getElem? (i := 69) rfl)
theorem own_w70 {a0 : Array Value} {Z : State} (hw : ∀ d ∈ tables_1, d.before a0 Z = true) : (Jvm.Cond.fieldLink "com/example/janustile/dicom/VrTakesCharacterSetPinLaw" 109 "com/example/janustile/dicom/Vr" "UV" "Lcom/example/janustile/dicom/Vr;").before a0 Z = true := hw _ (List.mem_of_getElem? (i := 70) rfl)
theorem own_w71 {a0 : Array Value} {Z : State} (hw : ∀ d ∈ tables_1, d.before a0 Z = true) : (Jvm.Cond.laysStatic "com/example/janustile/dicom/Vr" "UV" "Lcom/example/janustile/dicom/Vr;").before a0 Z = true := hw _ (List.mem_of_getElem? (i := 71) rfl)
theorem own_w72 {a0 : Array Value} {Z : State} (hw : ∀ d ∈ tables_1, d.before a0 Z = true) : (Jvm.Cond.constant "com/example/janustile/dicom/VrTakesCharacterSetPinLaw" 112 (2147483647 : Int32)).before a0 Z = true := hw _ (List.mem_of_getElem? (i := 72) rfl)
theorem own_w73 {a0 : Array Value} {Z : State} (hw : ∀ d ∈ tables_1, d.before a0 Z = true) : (Jvm.Cond.methodLink "com/example/janustile/dicom/VrTakesCharacterSetPinLaw" 113 (⟨"com/example/janustile/dicom/Vr", "takesCharacterSet", "()Z"⟩ : MethodName)).before a0 Z = true := hw _ (List.mem_of_getElem? (i := 73) rfl)
theorem own_w74 {a0 : Array Value} {Z : State} (hw : ∀ d ∈ tables_1, d.before a0 Z = true) : (Jvm.Cond.declares (⟨"com/example/janustile/dicom/Vr", "takesCharacterSet", "()Z"⟩ : MethodName)).before a0 Z = true := hw _ (List.mem_of_getElem? (i := 74) rfl)
theorem own_w75 {a0 : Array Value} {Z : State} (hw : ∀ d ∈ tables_1, d.before a0 Z = true) : (Jvm.Cond.instanceMethod (⟨"com/example/janustile/dicom/Vr", "takesCharacterSet", "()Z"⟩ : MethodName)).before a0 Z = true := hw _ (List.mem_of_getElem? (i := 75) rfl)
theorem own_w76 {a0 : Array Value} {Z : State} (hw : ∀ d ∈ tables_1, d.before a0 Z = true) : (Jvm.Cond.selects "com/example/janustile/dicom/Vr" (⟨"com/example/janustile/dicom/Vr", "takesCharacterSet", "()Z"⟩ : MethodName) (⟨"com/example/janustile/dicom/Vr", "takesCharacterSet", "()Z"⟩ : MethodName)).before a0 Z = true := hw _ (List.mem_of_getElem? (i := 76) rfl)
theorem own_w77 {a0 : Array Value} {Z : State} (hw : ∀ d ∈ tables_1, d.before a0 Z = true) : (Jvm.Cond.code (⟨"com/example/janustile/dicom/Vr", "takesCharacterSet", "()Z"⟩ : MethodName) prog_49_method_13_code 1 (Option.some FieldType.boolean)).before a0 Z = true := hw _ (List.mem_of_getElem? (i := 77) rfl)
theorem own_w78 {a0 : Array Value} {Z : State} (hw : ∀ d ∈ tables_1, d.before a0 Z = true) : (Jvm.Cond.fieldLink "com/example/janustile/dicom/Vr" 61 "com/example/janustile/dicom/Vr" "SH" "Lcom/example/janustile/dicom/Vr;").before a0 Z = true := hw _ (List.mem_of_getElem? (i := 78) rfl)
theorem own_w79 {a0 : Array Value} {Z : State} (hw : ∀ d ∈ tables_1, d.before a0 Z = true) : (Jvm.Cond.fieldLink "com/example/janustile/dicom/Vr" 34 "com/example/janustile/dicom/Vr" "LO" "Lcom/example/janustile/dicom/Vr;").before a0 Z = true := hw _ (List.mem_of_getElem? (i := 79) rfl)
theorem own_w80 {a0 : Array Value} {Z : State} (hw : ∀ d ∈ tables_1, d.before a0 Z = true) : (Jvm.Cond.fieldLink "com/example/janustile/dicom/Vr" 82 "com/example/janustile/dicom/Vr" "UC" "Lcom/example/janustile/dicom/Vr;").before a0 Z = true := hw _ (List.mem_of_getElem? (i := 80) rfl)
theorem own_w81 {a0 : Array Value} {Z : State} (hw : ∀ d ∈ tables_1, d.before a0 Z = true) : (Jvm.Cond.fieldLink "com/example/janustile/dicom/Vr" 58 "com/example/janustile/dicom/Vr" "PN" "Lcom/example/janustile/dicom/Vr;").before a0 Z = true := hw _ (List.mem_of_getElem? (i := 81) rfl)
theorem own_w82 {a0 : Array Value} {Z : State} (hw : ∀ d ∈ tables_1, d.before a0 Z = true) : (Jvm.Cond.fieldLink "com/example/janustile/dicom/Vr" 73 "com/example/janustile/dicom/Vr" "ST" "Lcom/example/janustile/dicom/Vr;").before a0 Z = true := hw _ (List.mem_of_getElem? (i := 82) rfl)
theorem own_w83 {a0 : Array Value} {Z : State} (hw : ∀ d ∈ tables_1, d.before a0 Z = true) : (Jvm.Cond.fieldLink "com/example/janustile/dicom/Vr" 37 "com/example/janustile/dicom/Vr" "LT" "Lcom/example/janustile/dicom/Vr;").before a0 Z = true := hw _ (List.mem_of_getElem? (i := 83) rfl)
theorem own_w84 {a0 : Array Value} {Z : State} (hw : ∀ d ∈ tables_1, d.before a0 Z = true) : (Jvm.Cond.fieldLink "com/example/janustile/dicom/Vr" 100 "com/example/janustile/dicom/Vr" "UT" "Lcom/example/janustile/dicom/Vr;").before a0 Z = true := hw _ (List.mem_of_getElem? (i := 84) rfl)
def own_W (Z : State) (h : Heap) (A : Nat → Addr) : Prop :=
  Sta Z h "com/example/janustile/dicom/Vr" "AE" "Lcom/example/janustile/dicom/Vr;" (.ref (A 0)) ∧
  Exa Z h (A 0) "com/example/janustile/dicom/Vr" ∧
  Sta Z h "com/example/janustile/dicom/Vr" "AS" "Lcom/example/janustile/dicom/Vr;" (.ref (A 1)) ∧
  Exa Z h (A 1) "com/example/janustile/dicom/Vr" ∧
  Sta Z h "com/example/janustile/dicom/Vr" "AT" "Lcom/example/janustile/dicom/Vr;" (.ref (A 2)) ∧
  Exa Z h (A 2) "com/example/janustile/dicom/Vr" ∧
  Sta Z h "com/example/janustile/dicom/Vr" "CS" "Lcom/example/janustile/dicom/Vr;" (.ref (A 3)) ∧
  Exa Z h (A 3) "com/example/janustile/dicom/Vr" ∧
  Sta Z h "com/example/janustile/dicom/Vr" "DA" "Lcom/example/janustile/dicom/Vr;" (.ref (A 4)) ∧
  Exa Z h (A 4) "com/example/janustile/dicom/Vr" ∧
  Sta Z h "com/example/janustile/dicom/Vr" "DS" "Lcom/example/janustile/dicom/Vr;" (.ref (A 5)) ∧
  Exa Z h (A 5) "com/example/janustile/dicom/Vr" ∧
  Sta Z h "com/example/janustile/dicom/Vr" "DT" "Lcom/example/janustile/dicom/Vr;" (.ref (A 6)) ∧
  Exa Z h (A 6) "com/example/janustile/dicom/Vr" ∧
  Sta Z h "com/example/janustile/dicom/Vr" "FD" "Lcom/example/janustile/dicom/Vr;" (.ref (A 7)) ∧
  Exa Z h (A 7) "com/example/janustile/dicom/Vr" ∧
  Sta Z h "com/example/janustile/dicom/Vr" "FL" "Lcom/example/janustile/dicom/Vr;" (.ref (A 8)) ∧
  Exa Z h (A 8) "com/example/janustile/dicom/Vr" ∧
  Sta Z h "com/example/janustile/dicom/Vr" "IS" "Lcom/example/janustile/dicom/Vr;" (.ref (A 9)) ∧
  Exa Z h (A 9) "com/example/janustile/dicom/Vr" ∧
  Sta Z h "com/example/janustile/dicom/Vr" "LO" "Lcom/example/janustile/dicom/Vr;" (.ref (A 10)) ∧
  Exa Z h (A 10) "com/example/janustile/dicom/Vr" ∧
  Sta Z h "com/example/janustile/dicom/Vr" "LT" "Lcom/example/janustile/dicom/Vr;" (.ref (A 11)) ∧
  Exa Z h (A 11) "com/example/janustile/dicom/Vr" ∧
  Sta Z h "com/example/janustile/dicom/Vr" "OB" "Lcom/example/janustile/dicom/Vr;" (.ref (A 12)) ∧
  Exa Z h (A 12) "com/example/janustile/dicom/Vr" ∧
  Sta Z h "com/example/janustile/dicom/Vr" "OD" "Lcom/example/janustile/dicom/Vr;" (.ref (A 13)) ∧
  Exa Z h (A 13) "com/example/janustile/dicom/Vr" ∧
  Sta Z h "com/example/janustile/dicom/Vr" "OF" "Lcom/example/janustile/dicom/Vr;" (.ref (A 14)) ∧
  Exa Z h (A 14) "com/example/janustile/dicom/Vr" ∧
  Sta Z h "com/example/janustile/dicom/Vr" "OL" "Lcom/example/janustile/dicom/Vr;" (.ref (A 15)) ∧
  Exa Z h (A 15) "com/example/janustile/dicom/Vr" ∧
  Sta Z h "com/example/janustile/dicom/Vr" "OV" "Lcom/example/janustile/dicom/Vr;" (.ref (A 16)) ∧
  Exa Z h (A 16) "com/example/janustile/dicom/Vr" ∧
  Sta Z h "com/example/janustile/dicom/Vr" "OW" "Lcom/example/janustile/dicom/Vr;" (.ref (A 17)) ∧
  Exa Z h (A 17) "com/example/janustile/dicom/Vr" ∧
  Sta Z h "com/example/janustile/dicom/Vr" "PN" "Lcom/example/janustile/dicom/Vr;" (.ref (A 18)) ∧
  Exa Z h (A 18) "com/example/janustile/dicom/Vr" ∧
  Sta Z h "com/example/janustile/dicom/Vr" "SH" "Lcom/example/janustile/dicom/Vr;" (.ref (A 19)) ∧
  Exa Z h (A 19) "com/example/janustile/dicom/Vr" ∧
  Sta Z h "com/example/janustile/dicom/Vr" "SL" "Lcom/example/janustile/dicom/Vr;" (.ref (A 20)) ∧
  Exa Z h (A 20) "com/example/janustile/dicom/Vr" ∧
  Sta Z h "com/example/janustile/dicom/Vr" "SQ" "Lcom/example/janustile/dicom/Vr;" (.ref (A 21)) ∧
  Exa Z h (A 21) "com/example/janustile/dicom/Vr" ∧
  Sta Z h "com/example/janustile/dicom/Vr" "SS" "Lcom/example/janustile/dicom/Vr;" (.ref (A 22)) ∧
  Exa Z h (A 22) "com/example/janustile/dicom/Vr" ∧
  Sta Z h "com/example/janustile/dicom/Vr" "ST" "Lcom/example/janustile/dicom/Vr;" (.ref (A 23)) ∧
  Exa Z h (A 23) "com/example/janustile/dicom/Vr" ∧
  Sta Z h "com/example/janustile/dicom/Vr" "SV" "Lcom/example/janustile/dicom/Vr;" (.ref (A 24)) ∧
  Exa Z h (A 24) "com/example/janustile/dicom/Vr" ∧
  Sta Z h "com/example/janustile/dicom/Vr" "TM" "Lcom/example/janustile/dicom/Vr;" (.ref (A 25)) ∧
  Exa Z h (A 25) "com/example/janustile/dicom/Vr" ∧
  Sta Z h "com/example/janustile/dicom/Vr" "UC" "Lcom/example/janustile/dicom/Vr;" (.ref (A 26)) ∧
  Exa Z h (A 26) "com/example/janustile/dicom/Vr" ∧
  Sta Z h "com/example/janustile/dicom/Vr" "UI" "Lcom/example/janustile/dicom/Vr;" (.ref (A 27)) ∧
  Exa Z h (A 27) "com/example/janustile/dicom/Vr" ∧
  Sta Z h "com/example/janustile/dicom/Vr" "UL" "Lcom/example/janustile/dicom/Vr;" (.ref (A 28)) ∧
  Exa Z h (A 28) "com/example/janustile/dicom/Vr" ∧
  Sta Z h "com/example/janustile/dicom/Vr" "UN" "Lcom/example/janustile/dicom/Vr;" (.ref (A 29)) ∧
  Exa Z h (A 29) "com/example/janustile/dicom/Vr" ∧
  Sta Z h "com/example/janustile/dicom/Vr" "UR" "Lcom/example/janustile/dicom/Vr;" (.ref (A 30)) ∧
  Exa Z h (A 30) "com/example/janustile/dicom/Vr" ∧
  Sta Z h "com/example/janustile/dicom/Vr" "US" "Lcom/example/janustile/dicom/Vr;" (.ref (A 31)) ∧
  Exa Z h (A 31) "com/example/janustile/dicom/Vr" ∧
  Sta Z h "com/example/janustile/dicom/Vr" "UT" "Lcom/example/janustile/dicom/Vr;" (.ref (A 32)) ∧
  Exa Z h (A 32) "com/example/janustile/dicom/Vr" ∧
  Sta Z h "com/example/janustile/dicom/Vr" "UV" "Lcom/example/janustile/dicom/Vr;" (.ref (A 33)) ∧
  Exa Z h (A 33) "com/example/janustile/dicom/Vr" ∧
  Fld Z h (A 0) "java/lang/Enum" "ordinal" "I" (.int (0 : Int32)) ∧
  Fld Z h (A 19) "java/lang/Enum" "ordinal" "I" (.int (19 : Int32)) ∧
  Fld Z h (A 10) "java/lang/Enum" "ordinal" "I" (.int (10 : Int32)) ∧
  Fld Z h (A 26) "java/lang/Enum" "ordinal" "I" (.int (26 : Int32)) ∧
  Fld Z h (A 18) "java/lang/Enum" "ordinal" "I" (.int (18 : Int32)) ∧
  Fld Z h (A 23) "java/lang/Enum" "ordinal" "I" (.int (23 : Int32)) ∧
  Fld Z h (A 11) "java/lang/Enum" "ordinal" "I" (.int (11 : Int32)) ∧
  Fld Z h (A 32) "java/lang/Enum" "ordinal" "I" (.int (32 : Int32)) ∧
  Fld Z h (A 3) "java/lang/Enum" "ordinal" "I" (.int (3 : Int32)) ∧
  Fld Z h (A 8) "java/lang/Enum" "ordinal" "I" (.int (8 : Int32)) ∧
  Fld Z h (A 17) "java/lang/Enum" "ordinal" "I" (.int (17 : Int32)) ∧
  Fld Z h (A 9) "java/lang/Enum" "ordinal" "I" (.int (9 : Int32)) ∧
  Fld Z h (A 6) "java/lang/Enum" "ordinal" "I" (.int (6 : Int32)) ∧
  Fld Z h (A 7) "java/lang/Enum" "ordinal" "I" (.int (7 : Int32)) ∧
  Fld Z h (A 2) "java/lang/Enum" "ordinal" "I" (.int (2 : Int32)) ∧
  Fld Z h (A 1) "java/lang/Enum" "ordinal" "I" (.int (1 : Int32)) ∧
  Fld Z h (A 13) "java/lang/Enum" "ordinal" "I" (.int (13 : Int32)) ∧
  Fld Z h (A 4) "java/lang/Enum" "ordinal" "I" (.int (4 : Int32)) ∧
  Fld Z h (A 16) "java/lang/Enum" "ordinal" "I" (.int (16 : Int32)) ∧
  Fld Z h (A 28) "java/lang/Enum" "ordinal" "I" (.int (28 : Int32)) ∧
  Fld Z h (A 15) "java/lang/Enum" "ordinal" "I" (.int (15 : Int32)) ∧
  Fld Z h (A 24) "java/lang/Enum" "ordinal" "I" (.int (24 : Int32)) ∧
  Fld Z h (A 22) "java/lang/Enum" "ordinal" "I" (.int (22 : Int32)) ∧
  Fld Z h (A 5) "java/lang/Enum" "ordinal" "I" (.int (5 : Int32)) ∧
  Fld Z h (A 14) "java/lang/Enum" "ordinal" "I" (.int (14 : Int32)) ∧
  Fld Z h (A 12) "java/lang/Enum" "ordinal" "I" (.int (12 : Int32)) ∧
  Fld Z h (A 33) "java/lang/Enum" "ordinal" "I" (.int (33 : Int32)) ∧
  Fld Z h (A 20) "java/lang/Enum" "ordinal" "I" (.int (20 : Int32)) ∧
  Fld Z h (A 25) "java/lang/Enum" "ordinal" "I" (.int (25 : Int32)) ∧
  Fld Z h (A 30) "java/lang/Enum" "ordinal" "I" (.int (30 : Int32)) ∧
  Fld Z h (A 27) "java/lang/Enum" "ordinal" "I" (.int (27 : Int32)) ∧
  Fld Z h (A 21) "java/lang/Enum" "ordinal" "I" (.int (21 : Int32)) ∧
  Fld Z h (A 31) "java/lang/Enum" "ordinal" "I" (.int (31 : Int32)) ∧
  Fld Z h (A 29) "java/lang/Enum" "ordinal" "I" (.int (29 : Int32))
theorem own_f0 {Z : State} {h : Heap} {A : Nat → Addr} (W : own_W Z h A) : Sta Z h "com/example/janustile/dicom/Vr" "AE" "Lcom/example/janustile/dicom/Vr;" (.ref (A 0)) := W.1
theorem own_f1 {Z : State} {h : Heap} {A : Nat → Addr} (W : own_W Z h A) : Exa Z h (A 0) "com/example/janustile/dicom/Vr" := W.2.1
theorem own_f2 {Z : State} {h : Heap} {A : Nat → Addr} (W : own_W Z h A) : Sta Z h "com/example/janustile/dicom/Vr" "AS" "Lcom/example/janustile/dicom/Vr;" (.ref (A 1)) := W.2.2.1
theorem own_f3 {Z : State} {h : Heap} {A : Nat → Addr} (W : own_W Z h A) : Exa Z h (A 1) "com/example/janustile/dicom/Vr" := W.2.2.2.1
theorem own_f4 {Z : State} {h : Heap} {A : Nat → Addr} (W : own_W Z h A) : Sta Z h "com/example/janustile/dicom/Vr" "AT" "Lcom/example/janustile/dicom/Vr;" (.ref (A 2)) := W.2.2.2.2.1
theorem own_f5 {Z : State} {h : Heap} {A : Nat → Addr} (W : own_W Z h A) : Exa Z h (A 2) "com/example/janustile/dicom/Vr" := W.2.2.2.2.2.1
theorem own_f6 {Z : State} {h : Heap} {A : Nat → Addr} (W : own_W Z h A) : Sta Z h "com/example/janustile/dicom/Vr" "CS" "Lcom/example/janustile/dicom/Vr;" (.ref (A 3)) := W.2.2.2.2.2.2.1
theorem own_f7 {Z : State} {h : Heap} {A : Nat → Addr} (W : own_W Z h A) : Exa Z h (A 3) "com/example/janustile/dicom/Vr" := W.2.2.2.2.2.2.2.1
theorem own_f8 {Z : State} {h : Heap} {A : Nat → Addr} (W : own_W Z h A) : Sta Z h "com/example/janustile/dicom/Vr" "DA" "Lcom/example/janustile/dicom/Vr;" (.ref (A 4)) := W.2.2.2.2.2.2.2.2.1
theorem own_f9 {Z : State} {h : Heap} {A : Nat → Addr} (W : own_W Z h A) : Exa Z h (A 4) "com/example/janustile/dicom/Vr" := W.2.2.2.2.2.2.2.2.2.1
theorem own_f10 {Z : State} {h : Heap} {A : Nat → Addr} (W : own_W Z h A) : Sta Z h "com/example/janustile/dicom/Vr" "DS" "Lcom/example/janustile/dicom/Vr;" (.ref (A 5)) := W.2.2.2.2.2.2.2.2.2.2.1
theorem own_f11 {Z : State} {h : Heap} {A : Nat → Addr} (W : own_W Z h A) : Exa Z h (A 5) "com/example/janustile/dicom/Vr" := W.2.2.2.2.2.2.2.2.2.2.2.1
theorem own_f12 {Z : State} {h : Heap} {A : Nat → Addr} (W : own_W Z h A) : Sta Z h "com/example/janustile/dicom/Vr" "DT" "Lcom/example/janustile/dicom/Vr;" (.ref (A 6)) := W.2.2.2.2.2.2.2.2.2.2.2.2.1
theorem own_f13 {Z : State} {h : Heap} {A : Nat → Addr} (W : own_W Z h A) : Exa Z h (A 6) "com/example/janustile/dicom/Vr" := W.2.2.2.2.2.2.2.2.2.2.2.2.2.1
theorem own_f14 {Z : State} {h : Heap} {A : Nat → Addr} (W : own_W Z h A) : Sta Z h "com/example/janustile/dicom/Vr" "FD" "Lcom/example/janustile/dicom/Vr;" (.ref (A 7)) := W.2.2.2.2.2.2.2.2.2.2.2.2.2.2.1
theorem own_f15 {Z : State} {h : Heap} {A : Nat → Addr} (W : own_W Z h A) : Exa Z h (A 7) "com/example/janustile/dicom/Vr" := W.2.2.2.2.2.2.2.2.2.2.2.2.2.2.2.1
theorem own_f16 {Z : State} {h : Heap} {A : Nat → Addr} (W : own_W Z h A) : Sta Z h "com/example/janustile/dicom/Vr" "FL" "Lcom/example/janustile/dicom/Vr;" (.ref (A 8)) := W.2.2.2.2.2.2.2.2.2.2.2.2.2.2.2.2.1
theorem own_f17 {Z : State} {h : Heap} {A : Nat → Addr} (W : own_W Z h A) : Exa Z h (A 8) "com/example/janustile/dicom/Vr" := W.2.2.2.2.2.2.2.2.2.2.2.2.2.2.2.2.2.1
theorem own_f18 {Z : State} {h : Heap} {A : Nat → Addr} (W : own_W Z h A) : Sta Z h "com/example/janustile/dicom/Vr" "IS" "Lcom/example/janustile/dicom/Vr;" (.ref (A 9)) := W.2.2.2.2.2.2.2.2.2.2.2.2.2.2.2.2.2.2.1
theorem own_f19 {Z : State} {h : Heap} {A : Nat → Addr} (W : own_W Z h A) : Exa Z h (A 9) "com/example/janustile/dicom/Vr" := W.2.2.2.2.2.2.2.2.2.2.2.2.2.2.2.2.2.2.2.1
theorem own_f20 {Z : State} {h : Heap} {A : Nat → Addr} (W : own_W Z h A) : Sta Z h "com/example/janustile/dicom/Vr" "LO" "Lcom/example/janustile/dicom/Vr;" (.ref (A 10)) := W.2.2.2.2.2.2.2.2.2.2.2.2.2.2.2.2.2.2.2.2.1
theorem own_f21 {Z : State} {h : Heap} {A : Nat → Addr} (W : own_W Z h A) : Exa Z h (A 10) "com/example/janustile/dicom/Vr" := W.2.2.2.2.2.2.2.2.2.2.2.2.2.2.2.2.2.2.2.2.2.1
theorem own_f22 {Z : State} {h : Heap} {A : Nat → Addr} (W : own_W Z h A) : Sta Z h "com/example/janustile/dicom/Vr" "LT" "Lcom/example/janustile/dicom/Vr;" (.ref (A 11)) := W.2.2.2.2.2.2.2.2.2.2.2.2.2.2.2.2.2.2.2.2.2.2.1
theorem own_f23 {Z : State} {h : Heap} {A : Nat → Addr} (W : own_W Z h A) : Exa Z h (A 11) "com/example/janustile/dicom/Vr" := W.2.2.2.2.2.2.2.2.2.2.2.2.2.2.2.2.2.2.2.2.2.2.2.1
theorem own_f24 {Z : State} {h : Heap} {A : Nat → Addr} (W : own_W Z h A) : Sta Z h "com/example/janustile/dicom/Vr" "OB" "Lcom/example/janustile/dicom/Vr;" (.ref (A 12)) := W.2.2.2.2.2.2.2.2.2.2.2.2.2.2.2.2.2.2.2.2.2.2.2.2.1
theorem own_f25 {Z : State} {h : Heap} {A : Nat → Addr} (W : own_W Z h A) : Exa Z h (A 12) "com/example/janustile/dicom/Vr" := W.2.2.2.2.2.2.2.2.2.2.2.2.2.2.2.2.2.2.2.2.2.2.2.2.2.1
theorem own_f26 {Z : State} {h : Heap} {A : Nat → Addr} (W : own_W Z h A) : Sta Z h "com/example/janustile/dicom/Vr" "OD" "Lcom/example/janustile/dicom/Vr;" (.ref (A 13)) := W.2.2.2.2.2.2.2.2.2.2.2.2.2.2.2.2.2.2.2.2.2.2.2.2.2.2.1
theorem own_f27 {Z : State} {h : Heap} {A : Nat → Addr} (W : own_W Z h A) : Exa Z h (A 13) "com/example/janustile/dicom/Vr" := W.2.2.2.2.2.2.2.2.2.2.2.2.2.2.2.2.2.2.2.2.2.2.2.2.2.2.2.1
theorem own_f28 {Z : State} {h : Heap} {A : Nat → Addr} (W : own_W Z h A) : Sta Z h "com/example/janustile/dicom/Vr" "OF" "Lcom/example/janustile/dicom/Vr;" (.ref (A 14)) := W.2.2.2.2.2.2.2.2.2.2.2.2.2.2.2.2.2.2.2.2.2.2.2.2.2.2.2.2.1
theorem own_f29 {Z : State} {h : Heap} {A : Nat → Addr} (W : own_W Z h A) : Exa Z h (A 14) "com/example/janustile/dicom/Vr" := W.2.2.2.2.2.2.2.2.2.2.2.2.2.2.2.2.2.2.2.2.2.2.2.2.2.2.2.2.2.1
theorem own_f30 {Z : State} {h : Heap} {A : Nat → Addr} (W : own_W Z h A) : Sta Z h "com/example/janustile/dicom/Vr" "OL" "Lcom/example/janustile/dicom/Vr;" (.ref (A 15)) := W.2.2.2.2.2.2.2.2.2.2.2.2.2.2.2.2.2.2.2.2.2.2.2.2.2.2.2.2.2.2.1
theorem own_f31 {Z : State} {h : Heap} {A : Nat → Addr} (W : own_W Z h A) : Exa Z h (A 15) "com/example/janustile/dicom/Vr" := W.2.2.2.2.2.2.2.2.2.2.2.2.2.2.2.2.2.2.2.2.2.2.2.2.2.2.2.2.2.2.2.1
theorem own_f32 {Z : State} {h : Heap} {A : Nat → Addr} (W : own_W Z h A) : Sta Z h "com/example/janustile/dicom/Vr" "OV" "Lcom/example/janustile/dicom/Vr;" (.ref (A 16)) := W.2.2.2.2.2.2.2.2.2.2.2.2.2.2.2.2.2.2.2.2.2.2.2.2.2.2.2.2.2.2.2.2.1
theorem own_f33 {Z : State} {h : Heap} {A : Nat → Addr} (W : own_W Z h A) : Exa Z h (A 16) "com/example/janustile/dicom/Vr" := W.2.2.2.2.2.2.2.2.2.2.2.2.2.2.2.2.2.2.2.2.2.2.2.2.2.2.2.2.2.2.2.2.2.1
theorem own_f34 {Z : State} {h : Heap} {A : Nat → Addr} (W : own_W Z h A) : Sta Z h "com/example/janustile/dicom/Vr" "OW" "Lcom/example/janustile/dicom/Vr;" (.ref (A 17)) := W.2.2.2.2.2.2.2.2.2.2.2.2.2.2.2.2.2.2.2.2.2.2.2.2.2.2.2.2.2.2.2.2.2.2.1
theorem own_f35 {Z : State} {h : Heap} {A : Nat → Addr} (W : own_W Z h A) : Exa Z h (A 17) "com/example/janustile/dicom/Vr" := W.2.2.2.2.2.2.2.2.2.2.2.2.2.2.2.2.2.2.2.2.2.2.2.2.2.2.2.2.2.2.2.2.2.2.2.1
theorem own_f36 {Z : State} {h : Heap} {A : Nat → Addr} (W : own_W Z h A) : Sta Z h "com/example/janustile/dicom/Vr" "PN" "Lcom/example/janustile/dicom/Vr;" (.ref (A 18)) := W.2.2.2.2.2.2.2.2.2.2.2.2.2.2.2.2.2.2.2.2.2.2.2.2.2.2.2.2.2.2.2.2.2.2.2.2.1
theorem own_f37 {Z : State} {h : Heap} {A : Nat → Addr} (W : own_W Z h A) : Exa Z h (A 18) "com/example/janustile/dicom/Vr" := W.2.2.2.2.2.2.2.2.2.2.2.2.2.2.2.2.2.2.2.2.2.2.2.2.2.2.2.2.2.2.2.2.2.2.2.2.2.1
theorem own_f38 {Z : State} {h : Heap} {A : Nat → Addr} (W : own_W Z h A) : Sta Z h "com/example/janustile/dicom/Vr" "SH" "Lcom/example/janustile/dicom/Vr;" (.ref (A 19)) := W.2.2.2.2.2.2.2.2.2.2.2.2.2.2.2.2.2.2.2.2.2.2.2.2.2.2.2.2.2.2.2.2.2.2.2.2.2.2.1
theorem own_f39 {Z : State} {h : Heap} {A : Nat → Addr} (W : own_W Z h A) : Exa Z h (A 19) "com/example/janustile/dicom/Vr" := W.2.2.2.2.2.2.2.2.2.2.2.2.2.2.2.2.2.2.2.2.2.2.2.2.2.2.2.2.2.2.2.2.2.2.2.2.2.2.2.1
theorem own_f40 {Z : State} {h : Heap} {A : Nat → Addr} (W : own_W Z h A) : Sta Z h "com/example/janustile/dicom/Vr" "SL" "Lcom/example/janustile/dicom/Vr;" (.ref (A 20)) := W.2.2.2.2.2.2.2.2.2.2.2.2.2.2.2.2.2.2.2.2.2.2.2.2.2.2.2.2.2.2.2.2.2.2.2.2.2.2.2.2.1
theorem own_f41 {Z : State} {h : Heap} {A : Nat → Addr} (W : own_W Z h A) : Exa Z h (A 20) "com/example/janustile/dicom/Vr" := W.2.2.2.2.2.2.2.2.2.2.2.2.2.2.2.2.2.2.2.2.2.2.2.2.2.2.2.2.2.2.2.2.2.2.2.2.2.2.2.2.2.1
theorem own_f42 {Z : State} {h : Heap} {A : Nat → Addr} (W : own_W Z h A) : Sta Z h "com/example/janustile/dicom/Vr" "SQ" "Lcom/example/janustile/dicom/Vr;" (.ref (A 21)) := W.2.2.2.2.2.2.2.2.2.2.2.2.2.2.2.2.2.2.2.2.2.2.2.2.2.2.2.2.2.2.2.2.2.2.2.2.2.2.2.2.2.2.1
theorem own_f43 {Z : State} {h : Heap} {A : Nat → Addr} (W : own_W Z h A) : Exa Z h (A 21) "com/example/janustile/dicom/Vr" := W.2.2.2.2.2.2.2.2.2.2.2.2.2.2.2.2.2.2.2.2.2.2.2.2.2.2.2.2.2.2.2.2.2.2.2.2.2.2.2.2.2.2.2.1
theorem own_f44 {Z : State} {h : Heap} {A : Nat → Addr} (W : own_W Z h A) : Sta Z h "com/example/janustile/dicom/Vr" "SS" "Lcom/example/janustile/dicom/Vr;" (.ref (A 22)) := W.2.2.2.2.2.2.2.2.2.2.2.2.2.2.2.2.2.2.2.2.2.2.2.2.2.2.2.2.2.2.2.2.2.2.2.2.2.2.2.2.2.2.2.2.1
theorem own_f45 {Z : State} {h : Heap} {A : Nat → Addr} (W : own_W Z h A) : Exa Z h (A 22) "com/example/janustile/dicom/Vr" := W.2.2.2.2.2.2.2.2.2.2.2.2.2.2.2.2.2.2.2.2.2.2.2.2.2.2.2.2.2.2.2.2.2.2.2.2.2.2.2.2.2.2.2.2.2.1
theorem own_f46 {Z : State} {h : Heap} {A : Nat → Addr} (W : own_W Z h A) : Sta Z h "com/example/janustile/dicom/Vr" "ST" "Lcom/example/janustile/dicom/Vr;" (.ref (A 23)) := W.2.2.2.2.2.2.2.2.2.2.2.2.2.2.2.2.2.2.2.2.2.2.2.2.2.2.2.2.2.2.2.2.2.2.2.2.2.2.2.2.2.2.2.2.2.2.1
theorem own_f47 {Z : State} {h : Heap} {A : Nat → Addr} (W : own_W Z h A) : Exa Z h (A 23) "com/example/janustile/dicom/Vr" := W.2.2.2.2.2.2.2.2.2.2.2.2.2.2.2.2.2.2.2.2.2.2.2.2.2.2.2.2.2.2.2.2.2.2.2.2.2.2.2.2.2.2.2.2.2.2.2.1
theorem own_f48 {Z : State} {h : Heap} {A : Nat → Addr} (W : own_W Z h A) : Sta Z h "com/example/janustile/dicom/Vr" "SV" "Lcom/example/janustile/dicom/Vr;" (.ref (A 24)) := W.2.2.2.2.2.2.2.2.2.2.2.2.2.2.2.2.2.2.2.2.2.2.2.2.2.2.2.2.2.2.2.2.2.2.2.2.2.2.2.2.2.2.2.2.2.2.2.2.1
theorem own_f49 {Z : State} {h : Heap} {A : Nat → Addr} (W : own_W Z h A) : Exa Z h (A 24) "com/example/janustile/dicom/Vr" := W.2.2.2.2.2.2.2.2.2.2.2.2.2.2.2.2.2.2.2.2.2.2.2.2.2.2.2.2.2.2.2.2.2.2.2.2.2.2.2.2.2.2.2.2.2.2.2.2.2.1
theorem own_f50 {Z : State} {h : Heap} {A : Nat → Addr} (W : own_W Z h A) : Sta Z h "com/example/janustile/dicom/Vr" "TM" "Lcom/example/janustile/dicom/Vr;" (.ref (A 25)) := W.2.2.2.2.2.2.2.2.2.2.2.2.2.2.2.2.2.2.2.2.2.2.2.2.2.2.2.2.2.2.2.2.2.2.2.2.2.2.2.2.2.2.2.2.2.2.2.2.2.2.1
theorem own_f51 {Z : State} {h : Heap} {A : Nat → Addr} (W : own_W Z h A) : Exa Z h (A 25) "com/example/janustile/dicom/Vr" := W.2.2.2.2.2.2.2.2.2.2.2.2.2.2.2.2.2.2.2.2.2.2.2.2.2.2.2.2.2.2.2.2.2.2.2.2.2.2.2.2.2.2.2.2.2.2.2.2.2.2.2.1
theorem own_f52 {Z : State} {h : Heap} {A : Nat → Addr} (W : own_W Z h A) : Sta Z h "com/example/janustile/dicom/Vr" "UC" "Lcom/example/janustile/dicom/Vr;" (.ref (A 26)) := W.2.2.2.2.2.2.2.2.2.2.2.2.2.2.2.2.2.2.2.2.2.2.2.2.2.2.2.2.2.2.2.2.2.2.2.2.2.2.2.2.2.2.2.2.2.2.2.2.2.2.2.2.1
theorem own_f53 {Z : State} {h : Heap} {A : Nat → Addr} (W : own_W Z h A) : Exa Z h (A 26) "com/example/janustile/dicom/Vr" := W.2.2.2.2.2.2.2.2.2.2.2.2.2.2.2.2.2.2.2.2.2.2.2.2.2.2.2.2.2.2.2.2.2.2.2.2.2.2.2.2.2.2.2.2.2.2.2.2.2.2.2.2.2.1
theorem own_f54 {Z : State} {h : Heap} {A : Nat → Addr} (W : own_W Z h A) : Sta Z h "com/example/janustile/dicom/Vr" "UI" "Lcom/example/janustile/dicom/Vr;" (.ref (A 27)) := W.2.2.2.2.2.2.2.2.2.2.2.2.2.2.2.2.2.2.2.2.2.2.2.2.2.2.2.2.2.2.2.2.2.2.2.2.2.2.2.2.2.2.2.2.2.2.2.2.2.2.2.2.2.2.1
theorem own_f55 {Z : State} {h : Heap} {A : Nat → Addr} (W : own_W Z h A) : Exa Z h (A 27) "com/example/janustile/dicom/Vr" := W.2.2.2.2.2.2.2.2.2.2.2.2.2.2.2.2.2.2.2.2.2.2.2.2.2.2.2.2.2.2.2.2.2.2.2.2.2.2.2.2.2.2.2.2.2.2.2.2.2.2.2.2.2.2.2.1
theorem own_f56 {Z : State} {h : Heap} {A : Nat → Addr} (W : own_W Z h A) : Sta Z h "com/example/janustile/dicom/Vr" "UL" "Lcom/example/janustile/dicom/Vr;" (.ref (A 28)) := W.2.2.2.2.2.2.2.2.2.2.2.2.2.2.2.2.2.2.2.2.2.2.2.2.2.2.2.2.2.2.2.2.2.2.2.2.2.2.2.2.2.2.2.2.2.2.2.2.2.2.2.2.2.2.2.2.1
theorem own_f57 {Z : State} {h : Heap} {A : Nat → Addr} (W : own_W Z h A) : Exa Z h (A 28) "com/example/janustile/dicom/Vr" := W.2.2.2.2.2.2.2.2.2.2.2.2.2.2.2.2.2.2.2.2.2.2.2.2.2.2.2.2.2.2.2.2.2.2.2.2.2.2.2.2.2.2.2.2.2.2.2.2.2.2.2.2.2.2.2.2.2.1
theorem own_f58 {Z : State} {h : Heap} {A : Nat → Addr} (W : own_W Z h A) : Sta Z h "com/example/janustile/dicom/Vr" "UN" "Lcom/example/janustile/dicom/Vr;" (.ref (A 29)) := W.2.2.2.2.2.2.2.2.2.2.2.2.2.2.2.2.2.2.2.2.2.2.2.2.2.2.2.2.2.2.2.2.2.2.2.2.2.2.2.2.2.2.2.2.2.2.2.2.2.2.2.2.2.2.2.2.2.2.1
theorem own_f59 {Z : State} {h : Heap} {A : Nat → Addr} (W : own_W Z h A) : Exa Z h (A 29) "com/example/janustile/dicom/Vr" := W.2.2.2.2.2.2.2.2.2.2.2.2.2.2.2.2.2.2.2.2.2.2.2.2.2.2.2.2.2.2.2.2.2.2.2.2.2.2.2.2.2.2.2.2.2.2.2.2.2.2.2.2.2.2.2.2.2.2.2.1
theorem own_f60 {Z : State} {h : Heap} {A : Nat → Addr} (W : own_W Z h A) : Sta Z h "com/example/janustile/dicom/Vr" "UR" "Lcom/example/janustile/dicom/Vr;" (.ref (A 30)) := W.2.2.2.2.2.2.2.2.2.2.2.2.2.2.2.2.2.2.2.2.2.2.2.2.2.2.2.2.2.2.2.2.2.2.2.2.2.2.2.2.2.2.2.2.2.2.2.2.2.2.2.2.2.2.2.2.2.2.2.2.1
theorem own_f61 {Z : State} {h : Heap} {A : Nat → Addr} (W : own_W Z h A) : Exa Z h (A 30) "com/example/janustile/dicom/Vr" := W.2.2.2.2.2.2.2.2.2.2.2.2.2.2.2.2.2.2.2.2.2.2.2.2.2.2.2.2.2.2.2.2.2.2.2.2.2.2.2.2.2.2.2.2.2.2.2.2.2.2.2.2.2.2.2.2.2.2.2.2.2.1
theorem own_f62 {Z : State} {h : Heap} {A : Nat → Addr} (W : own_W Z h A) : Sta Z h "com/example/janustile/dicom/Vr" "US" "Lcom/example/janustile/dicom/Vr;" (.ref (A 31)) := W.2.2.2.2.2.2.2.2.2.2.2.2.2.2.2.2.2.2.2.2.2.2.2.2.2.2.2.2.2.2.2.2.2.2.2.2.2.2.2.2.2.2.2.2.2.2.2.2.2.2.2.2.2.2.2.2.2.2.2.2.2.2.1
theorem own_f63 {Z : State} {h : Heap} {A : Nat → Addr} (W : own_W Z h A) : Exa Z h (A 31) "com/example/janustile/dicom/Vr" := W.2.2.2.2.2.2.2.2.2.2.2.2.2.2.2.2.2.2.2.2.2.2.2.2.2.2.2.2.2.2.2.2.2.2.2.2.2.2.2.2.2.2.2.2.2.2.2.2.2.2.2.2.2.2.2.2.2.2.2.2.2.2.2.1
theorem own_f64 {Z : State} {h : Heap} {A : Nat → Addr} (W : own_W Z h A) : Sta Z h "com/example/janustile/dicom/Vr" "UT" "Lcom/example/janustile/dicom/Vr;" (.ref (A 32)) := W.2.2.2.2.2.2.2.2.2.2.2.2.2.2.2.2.2.2.2.2.2.2.2.2.2.2.2.2.2.2.2.2.2.2.2.2.2.2.2.2.2.2.2.2.2.2.2.2.2.2.2.2.2.2.2.2.2.2.2.2.2.2.2.2.1
theorem own_f65 {Z : State} {h : Heap} {A : Nat → Addr} (W : own_W Z h A) : Exa Z h (A 32) "com/example/janustile/dicom/Vr" := W.2.2.2.2.2.2.2.2.2.2.2.2.2.2.2.2.2.2.2.2.2.2.2.2.2.2.2.2.2.2.2.2.2.2.2.2.2.2.2.2.2.2.2.2.2.2.2.2.2.2.2.2.2.2.2.2.2.2.2.2.2.2.2.2.2.1
theorem own_f66 {Z : State} {h : Heap} {A : Nat → Addr} (W : own_W Z h A) : Sta Z h "com/example/janustile/dicom/Vr" "UV" "Lcom/example/janustile/dicom/Vr;" (.ref (A 33)) := W.2.2.2.2.2.2.2.2.2.2.2.2.2.2.2.2.2.2.2.2.2.2.2.2.2.2.2.2.2.2.2.2.2.2.2.2.2.2.2.2.2.2.2.2.2.2.2.2.2.2.2.2.2.2.2.2.2.2.2.2.2.2.2.2.2.2.1
theorem own_f67 {Z : State} {h : Heap} {A : Nat → Addr} (W : own_W Z h A) : Exa Z h (A 33) "com/example/janustile/dicom/Vr" := W.2.2.2.2.2.2.2.2.2.2.2.2.2.2.2.2.2.2.2.2.2.2.2.2.2.2.2.2.2.2.2.2.2.2.2.2.2.2.2.2.2.2.2.2.2.2.2.2.2.2.2.2.2.2.2.2.2.2.2.2.2.2.2.2.2.2.2.1
theorem own_f68 {Z : State} {h : Heap} {A : Nat → Addr} (W : own_W Z h A) : Fld Z h (A 0) "java/lang/Enum" "ordinal" "I" (.int (0 : Int32)) := W.2.2.2.2.2.2.2.2.2.2.2.2.2.2.2.2.2.2.2.2.2.2.2.2.2.2.2.2.2.2.2.2.2.2.2.2.2.2.2.2.2.2.2.2.2.2.2.2.2.2.2.2.2.2.2.2.2.2.2.2.2.2.2.2.2.2.2.2.1
theorem own_f69 {Z : State} {h : Heap} {A : Nat → Addr} (W : own_W Z h A) : Fld Z h (A 19) "java/lang/Enum" "ordinal" "I" (.int (19 : Int32)) := W.2.2.2.2.2.2.2.2.2.2.2.2.2.2.2.2.2.2.2.2.2.2.2.2.2.2.2.2.2.2.2.2.2.2.2.2.2.2.2.2.2.2.2.2.2.2.2.2.2.2.2.2.2.2.2.2.2.2.2.2.2.2.2.2.2.2.2.2.2.1
theorem own_f70 {Z : State} {h : Heap} {A : Nat → Addr} (W : own_W Z h A) : Fld Z h (A 10) "java/lang/Enum" "ordinal" "I" (.int (10 : Int32)) := W.2.2.2.2.2.2.2.2.2.2.2.2.2.2.2.2.2.2.2.2.2.2.2.2.2.2.2.2.2.2.2.2.2.2.2.2.2.2.2.2.2.2.2.2.2.2.2.2.2.2.2.2.2.2.2.2.2.2.2.2.2.2.2.2.2.2.2.2.2.2.1
theorem own_f71 {Z : State} {h : Heap} {A : Nat → Addr} (W : own_W Z h A) : Fld Z h (A 26) "java/lang/Enum" "ordinal" "I" (.int (26 : Int32)) := W.2.2.2.2.2.2.2.2.2.2.2.2.2.2.2.2.2.2.2.2.2.2.2.2.2.2.2.2.2.2.2.2.2.2.2.2.2.2.2.2.2.2.2.2.2.2.2.2.2.2.2.2.2.2.2.2.2.2.2.2.2.2.2.2.2.2.2.2.2.2.2.1
theorem own_f72 {Z : State} {h : Heap} {A : Nat → Addr} (W : own_W Z h A) : Fld Z h (A 18) "java/lang/Enum" "ordinal" "I" (.int (18 : Int32)) := W.2.2.2.2.2.2.2.2.2.2.2.2.2.2.2.2.2.2.2.2.2.2.2.2.2.2.2.2.2.2.2.2.2.2.2.2.2.2.2.2.2.2.2.2.2.2.2.2.2.2.2.2.2.2.2.2.2.2.2.2.2.2.2.2.2.2.2.2.2.2.2.2.1
theorem own_f73 {Z : State} {h : Heap} {A : Nat → Addr} (W : own_W Z h A) : Fld Z h (A 23) "java/lang/Enum" "ordinal" "I" (.int (23 : Int32)) := W.2.2.2.2.2.2.2.2.2.2.2.2.2.2.2.2.2.2.2.2.2.2.2.2.2.2.2.2.2.2.2.2.2.2.2.2.2.2.2.2.2.2.2.2.2.2.2.2.2.2.2.2.2.2.2.2.2.2.2.2.2.2.2.2.2.2.2.2.2.2.2.2.2.1
theorem own_f74 {Z : State} {h : Heap} {A : Nat → Addr} (W : own_W Z h A) : Fld Z h (A 11) "java/lang/Enum" "ordinal" "I" (.int (11 : Int32)) := W.2.2.2.2.2.2.2.2.2.2.2.2.2.2.2.2.2.2.2.2.2.2.2.2.2.2.2.2.2.2.2.2.2.2.2.2.2.2.2.2.2.2.2.2.2.2.2.2.2.2.2.2.2.2.2.2.2.2.2.2.2.2.2.2.2.2.2.2.2.2.2.2.2.2.1
theorem own_f75 {Z : State} {h : Heap} {A : Nat → Addr} (W : own_W Z h A) : Fld Z h (A 32) "java/lang/Enum" "ordinal" "I" (.int (32 : Int32)) := W.2.2.2.2.2.2.2.2.2.2.2.2.2.2.2.2.2.2.2.2.2.2.2.2.2.2.2.2.2.2.2.2.2.2.2.2.2.2.2.2.2.2.2.2.2.2.2.2.2.2.2.2.2.2.2.2.2.2.2.2.2.2.2.2.2.2.2.2.2.2.2.2.2.2.2.1
theorem own_f76 {Z : State} {h : Heap} {A : Nat → Addr} (W : own_W Z h A) : Fld Z h (A 3) "java/lang/Enum" "ordinal" "I" (.int (3 : Int32)) := W.2.2.2.2.2.2.2.2.2.2.2.2.2.2.2.2.2.2.2.2.2.2.2.2.2.2.2.2.2.2.2.2.2.2.2.2.2.2.2.2.2.2.2.2.2.2.2.2.2.2.2.2.2.2.2.2.2.2.2.2.2.2.2.2.2.2.2.2.2.2.2.2.2.2.2.2.1
theorem own_f77 {Z : State} {h : Heap} {A : Nat → Addr} (W : own_W Z h A) : Fld Z h (A 8) "java/lang/Enum" "ordinal" "I" (.int (8 : Int32)) := W.2.2.2.2.2.2.2.2.2.2.2.2.2.2.2.2.2.2.2.2.2.2.2.2.2.2.2.2.2.2.2.2.2.2.2.2.2.2.2.2.2.2.2.2.2.2.2.2.2.2.2.2.2.2.2.2.2.2.2.2.2.2.2.2.2.2.2.2.2.2.2.2.2.2.2.2.2.1
theorem own_f78 {Z : State} {h : Heap} {A : Nat → Addr} (W : own_W Z h A) : Fld Z h (A 17) "java/lang/Enum" "ordinal" "I" (.int (17 : Int32)) := W.2.2.2.2.2.2.2.2.2.2.2.2.2.2.2.2.2.2.2.2.2.2.2.2.2.2.2.2.2.2.2.2.2.2.2.2.2.2.2.2.2.2.2.2.2.2.2.2.2.2.2.2.2.2.2.2.2.2.2.2.2.2.2.2.2.2.2.2.2.2.2.2.2.2.2.2.2.2.1
theorem own_f79 {Z : State} {h : Heap} {A : Nat → Addr} (W : own_W Z h A) : Fld Z h (A 9) "java/lang/Enum" "ordinal" "I" (.int (9 : Int32)) := W.2.2.2.2.2.2.2.2.2.2.2.2.2.2.2.2.2.2.2.2.2.2.2.2.2.2.2.2.2.2.2.2.2.2.2.2.2.2.2.2.2.2.2.2.2.2.2.2.2.2.2.2.2.2.2.2.2.2.2.2.2.2.2.2.2.2.2.2.2.2.2.2.2.2.2.2.2.2.2.1
theorem own_f80 {Z : State} {h : Heap} {A : Nat → Addr} (W : own_W Z h A) : Fld Z h (A 6) "java/lang/Enum" "ordinal" "I" (.int (6 : Int32)) := W.2.2.2.2.2.2.2.2.2.2.2.2.2.2.2.2.2.2.2.2.2.2.2.2.2.2.2.2.2.2.2.2.2.2.2.2.2.2.2.2.2.2.2.2.2.2.2.2.2.2.2.2.2.2.2.2.2.2.2.2.2.2.2.2.2.2.2.2.2.2.2.2.2.2.2.2.2.2.2.2.1
theorem own_f81 {Z : State} {h : Heap} {A : Nat → Addr} (W : own_W Z h A) : Fld Z h (A 7) "java/lang/Enum" "ordinal" "I" (.int (7 : Int32)) := W.2.2.2.2.2.2.2.2.2.2.2.2.2.2.2.2.2.2.2.2.2.2.2.2.2.2.2.2.2.2.2.2.2.2.2.2.2.2.2.2.2.2.2.2.2.2.2.2.2.2.2.2.2.2.2.2.2.2.2.2.2.2.2.2.2.2.2.2.2.2.2.2.2.2.2.2.2.2.2.2.2.1
theorem own_f82 {Z : State} {h : Heap} {A : Nat → Addr} (W : own_W Z h A) : Fld Z h (A 2) "java/lang/Enum" "ordinal" "I" (.int (2 : Int32)) := W.2.2.2.2.2.2.2.2.2.2.2.2.2.2.2.2.2.2.2.2.2.2.2.2.2.2.2.2.2.2.2.2.2.2.2.2.2.2.2.2.2.2.2.2.2.2.2.2.2.2.2.2.2.2.2.2.2.2.2.2.2.2.2.2.2.2.2.2.2.2.2.2.2.2.2.2.2.2.2.2.2.2.1
theorem own_f83 {Z : State} {h : Heap} {A : Nat → Addr} (W : own_W Z h A) : Fld Z h (A 1) "java/lang/Enum" "ordinal" "I" (.int (1 : Int32)) := W.2.2.2.2.2.2.2.2.2.2.2.2.2.2.2.2.2.2.2.2.2.2.2.2.2.2.2.2.2.2.2.2.2.2.2.2.2.2.2.2.2.2.2.2.2.2.2.2.2.2.2.2.2.2.2.2.2.2.2.2.2.2.2.2.2.2.2.2.2.2.2.2.2.2.2.2.2.2.2.2.2.2.2.1
theorem own_f84 {Z : State} {h : Heap} {A : Nat → Addr} (W : own_W Z h A) : Fld Z h (A 13) "java/lang/Enum" "ordinal" "I" (.int (13 : Int32)) := W.2.2.2.2.2.2.2.2.2.2.2.2.2.2.2.2.2.2.2.2.2.2.2.2.2.2.2.2.2.2.2.2.2.2.2.2.2.2.2.2.2.2.2.2.2.2.2.2.2.2.2.2.2.2.2.2.2.2.2.2.2.2.2.2.2.2.2.2.2.2.2.2.2.2.2.2.2.2.2.2.2.2.2.2.1
theorem own_f85 {Z : State} {h : Heap} {A : Nat → Addr} (W : own_W Z h A) : Fld Z h (A 4) "java/lang/Enum" "ordinal" "I" (.int (4 : Int32)) := W.2.2.2.2.2.2.2.2.2.2.2.2.2.2.2.2.2.2.2.2.2.2.2.2.2.2.2.2.2.2.2.2.2.2.2.2.2.2.2.2.2.2.2.2.2.2.2.2.2.2.2.2.2.2.2.2.2.2.2.2.2.2.2.2.2.2.2.2.2.2.2.2.2.2.2.2.2.2.2.2.2.2.2.2.2.1
theorem own_f86 {Z : State} {h : Heap} {A : Nat → Addr} (W : own_W Z h A) : Fld Z h (A 16) "java/lang/Enum" "ordinal" "I" (.int (16 : Int32)) := W.2.2.2.2.2.2.2.2.2.2.2.2.2.2.2.2.2.2.2.2.2.2.2.2.2.2.2.2.2.2.2.2.2.2.2.2.2.2.2.2.2.2.2.2.2.2.2.2.2.2.2.2.2.2.2.2.2.2.2.2.2.2.2.2.2.2.2.2.2.2.2.2.2.2.2.2.2.2.2.2.2.2.2.2.2.2.1
theorem own_f87 {Z : State} {h : Heap} {A : Nat → Addr} (W : own_W Z h A) : Fld Z h (A 28) "java/lang/Enum" "ordinal" "I" (.int (28 : Int32)) := W.2.2.2.2.2.2.2.2.2.2.2.2.2.2.2.2.2.2.2.2.2.2.2.2.2.2.2.2.2.2.2.2.2.2.2.2.2.2.2.2.2.2.2.2.2.2.2.2.2.2.2.2.2.2.2.2.2.2.2.2.2.2.2.2.2.2.2.2.2.2.2.2.2.2.2.2.2.2.2.2.2.2.2.2.2.2.2.1
theorem own_f88 {Z : State} {h : Heap} {A : Nat → Addr} (W : own_W Z h A) : Fld Z h (A 15) "java/lang/Enum" "ordinal" "I" (.int (15 : Int32)) := W.2.2.2.2.2.2.2.2.2.2.2.2.2.2.2.2.2.2.2.2.2.2.2.2.2.2.2.2.2.2.2.2.2.2.2.2.2.2.2.2.2.2.2.2.2.2.2.2.2.2.2.2.2.2.2.2.2.2.2.2.2.2.2.2.2.2.2.2.2.2.2.2.2.2.2.2.2.2.2.2.2.2.2.2.2.2.2.2.1
theorem own_f89 {Z : State} {h : Heap} {A : Nat → Addr} (W : own_W Z h A) : Fld Z h (A 24) "java/lang/Enum" "ordinal" "I" (.int (24 : Int32)) := W.2.2.2.2.2.2.2.2.2.2.2.2.2.2.2.2.2.2.2.2.2.2.2.2.2.2.2.2.2.2.2.2.2.2.2.2.2.2.2.2.2.2.2.2.2.2.2.2.2.2.2.2.2.2.2.2.2.2.2.2.2.2.2.2.2.2.2.2.2.2.2.2.2.2.2.2.2.2.2.2.2.2.2.2.2.2.2.2.2.1
theorem own_f90 {Z : State} {h : Heap} {A : Nat → Addr} (W : own_W Z h A) : Fld Z h (A 22) "java/lang/Enum" "ordinal" "I" (.int (22 : Int32)) := W.2.2.2.2.2.2.2.2.2.2.2.2.2.2.2.2.2.2.2.2.2.2.2.2.2.2.2.2.2.2.2.2.2.2.2.2.2.2.2.2.2.2.2.2.2.2.2.2.2.2.2.2.2.2.2.2.2.2.2.2.2.2.2.2.2.2.2.2.2.2.2.2.2.2.2.2.2.2.2.2.2.2.2.2.2.2.2.2.2.2.1
theorem own_f91 {Z : State} {h : Heap} {A : Nat → Addr} (W : own_W Z h A) : Fld Z h (A 5) "java/lang/Enum" "ordinal" "I" (.int (5 : Int32)) := W.2.2.2.2.2.2.2.2.2.2.2.2.2.2.2.2.2.2.2.2.2.2.2.2.2.2.2.2.2.2.2.2.2.2.2.2.2.2.2.2.2.2.2.2.2.2.2.2.2.2.2.2.2.2.2.2.2.2.2.2.2.2.2.2.2.2.2.2.2.2.2.2.2.2.2.2.2.2.2.2.2.2.2.2.2.2.2.2.2.2.2.1
theorem own_f92 {Z : State} {h : Heap} {A : Nat → Addr} (W : own_W Z h A) : Fld Z h (A 14) "java/lang/Enum" "ordinal" "I" (.int (14 : Int32)) := W.2.2.2.2.2.2.2.2.2.2.2.2.2.2.2.2.2.2.2.2.2.2.2.2.2.2.2.2.2.2.2.2.2.2.2.2.2.2.2.2.2.2.2.2.2.2.2.2.2.2.2.2.2.2.2.2.2.2.2.2.2.2.2.2.2.2.2.2.2.2.2.2.2.2.2.2.2.2.2.2.2.2.2.2.2.2.2.2.2.2.2.2.1
theorem own_f93 {Z : State} {h : Heap} {A : Nat → Addr} (W : own_W Z h A) : Fld Z h (A 12) "java/lang/Enum" "ordinal" "I" (.int (12 : Int32)) := W.2.2.2.2.2.2.2.2.2.2.2.2.2.2.2.2.2.2.2.2.2.2.2.2.2.2.2.2.2.2.2.2.2.2.2.2.2.2.2.2.2.2.2.2.2.2.2.2.2.2.2.2.2.2.2.2.2.2.2.2.2.2.2.2.2.2.2.2.2.2.2.2.2.2.2.2.2.2.2.2.2.2.2.2.2.2.2.2.2.2.2.2.2.1
theorem own_f94 {Z : State} {h : Heap} {A : Nat → Addr} (W : own_W Z h A) : Fld Z h (A 33) "java/lang/Enum" "ordinal" "I" (.int (33 : Int32)) := W.2.2.2.2.2.2.2.2.2.2.2.2.2.2.2.2.2.2.2.2.2.2.2.2.2.2.2.2.2.2.2.2.2.2.2.2.2.2.2.2.2.2.2.2.2.2.2.2.2.2.2.2.2.2.2.2.2.2.2.2.2.2.2.2.2.2.2.2.2.2.2.2.2.2.2.2.2.2.2.2.2.2.2.2.2.2.2.2.2.2.2.2.2.2.1
theorem own_f95 {Z : State} {h : Heap} {A : Nat → Addr} (W : own_W Z h A) : Fld Z h (A 20) "java/lang/Enum" "ordinal" "I" (.int (20 : Int32)) := W.2.2.2.2.2.2.2.2.2.2.2.2.2.2.2.2.2.2.2.2.2.2.2.2.2.2.2.2.2.2.2.2.2.2.2.2.2.2.2.2.2.2.2.2.2.2.2.2.2.2.2.2.2.2.2.2.2.2.2.2.2.2.2.2.2.2.2.2.2.2.2.2.2.2.2.2.2.2.2.2.2.2.2.2.2.2.2.2.2.2.2.2.2.2.2.1
theorem own_f96 {Z : State} {h : Heap} {A : Nat → Addr} (W : own_W Z h A) : Fld Z h (A 25) "java/lang/Enum" "ordinal" "I" (.int (25 : Int32)) := W.2.2.2.2.2.2.2.2.2.2.2.2.2.2.2.2.2.2.2.2.2.2.2.2.2.2.2.2.2.2.2.2.2.2.2.2.2.2.2.2.2.2.2.2.2.2.2.2.2.2.2.2.2.2.2.2.2.2.2.2.2.2.2.2.2.2.2.2.2.2.2.2.2.2.2.2.2.2.2.2.2.2.2.2.2.2.2.2.2.2.2.2.2.2.2.2.1
theorem own_f97 {Z : State} {h : Heap} {A : Nat → Addr} (W : own_W Z h A) : Fld Z h (A 30) "java/lang/Enum" "ordinal" "I" (.int (30 : Int32)) := W.2.2.2.2.2.2.2.2.2.2.2.2.2.2.2.2.2.2.2.2.2.2.2.2.2.2.2.2.2.2.2.2.2.2.2.2.2.2.2.2.2.2.2.2.2.2.2.2.2.2.2.2.2.2.2.2.2.2.2.2.2.2.2.2.2.2.2.2.2.2.2.2.2.2.2.2.2.2.2.2.2.2.2.2.2.2.2.2.2.2.2.2.2.2.2.2.2.1
theorem own_f98 {Z : State} {h : Heap} {A : Nat → Addr} (W : own_W Z h A) : Fld Z h (A 27) "java/lang/Enum" "ordinal" "I" (.int (27 : Int32)) := W.2.2.2.2.2.2.2.2.2.2.2.2.2.2.2.2.2.2.2.2.2.2.2.2.2.2.2.2.2.2.2.2.2.2.2.2.2.2.2.2.2.2.2.2.2.2.2.2.2.2.2.2.2.2.2.2.2.2.2.2.2.2.2.2.2.2.2.2.2.2.2.2.2.2.2.2.2.2.2.2.2.2.2.2.2.2.2.2.2.2.2.2.2.2.2.2.2.2.1
theorem own_f99 {Z : State} {h : Heap} {A : Nat → Addr} (W : own_W Z h A) : Fld Z h (A 21) "java/lang/Enum" "ordinal" "I" (.int (21 : Int32)) := W.2.2.2.2.2.2.2.2.2.2.2.2.2.2.2.2.2.2.2.2.2.2.2.2.2.2.2.2.2.2.2.2.2.2.2.2.2.2.2.2.2.2.2.2.2.2.2.2.2.2.2.2.2.2.2.2.2.2.2.2.2.2.2.2.2.2.2.2.2.2.2.2.2.2.2.2.2.2.2.2.2.2.2.2.2.2.2.2.2.2.2.2.2.2.2.2.2.2.2.1
theorem own_f100 {Z : State} {h : Heap} {A : Nat → Addr} (W : own_W Z h A) : Fld Z h (A 31) "java/lang/Enum" "ordinal" "I" (.int (31 : Int32)) := W.2.2.2.2.2.2.2.2.2.2.2.2.2.2.2.2.2.2.2.2.2.2.2.2.2.2.2.2.2.2.2.2.2.2.2.2.2.2.2.2.2.2.2.2.2.2.2.2.2.2.2.2.2.2.2.2.2.2.2.2.2.2.2.2.2.2.2.2.2.2.2.2.2.2.2.2.2.2.2.2.2.2.2.2.2.2.2.2.2.2.2.2.2.2.2.2.2.2.2.2.1
theorem own_f101 {Z : State} {h : Heap} {A : Nat → Addr} (W : own_W Z h A) : Fld Z h (A 29) "java/lang/Enum" "ordinal" "I" (.int (29 : Int32)) := W.2.2.2.2.2.2.2.2.2.2.2.2.2.2.2.2.2.2.2.2.2.2.2.2.2.2.2.2.2.2.2.2.2.2.2.2.2.2.2.2.2.2.2.2.2.2.2.2.2.2.2.2.2.2.2.2.2.2.2.2.2.2.2.2.2.2.2.2.2.2.2.2.2.2.2.2.2.2.2.2.2.2.2.2.2.2.2.2.2.2.2.2.2.2.2.2.2.2.2.2.2
theorem own_Wext {Z : State} {h h' : Heap} {A : Nat → Addr} (W : own_W Z h A) (E : Ext h h') : own_W Z h' A := ⟨(own_f0 W).ext E, (own_f1 W).ext E, (own_f2 W).ext E, (own_f3 W).ext E, (own_f4 W).ext E, (own_f5 W).ext E, (own_f6 W).ext E, (own_f7 W).ext E, (own_f8 W).ext E, (own_f9 W).ext E, (own_f10 W).ext E, (own_f11 W).ext E, (own_f12 W).ext E, (own_f13 W).ext E, (own_f14 W).ext E, (own_f15 W).ext E, (own_f16 W).ext E, (own_f17 W).ext E, (own_f18 W).ext E, (own_f19 W).ext E, (own_f20 W).ext E, (own_f21 W).ext E, (own_f22 W).ext E, (own_f23 W).ext E, (own_f24 W).ext E, (own_f25 W).ext E, (own_f26 W).ext E, (own_f27 W).ext E, (own_f28 W).ext E, (own_f29 W).ext E, (own_f30 W).ext E, (own_f31 W).ext E, (own_f32 W).ext E, (own_f33 W).ext E, (own_f34 W).ext E, (own_f35 W).ext E, (own_f36 W).ext E, (own_f37 W).ext E, (own_f38 W).ext E, (own_f39 W).ext E, (own_f40 W).ext E, (own_f41 W).ext E, (own_f42 W).ext E, (own_f43 W).ext E, (own_f44 W).ext E, (own_f45 W).ext E, (own_f46 W).ext E, (own_f47 W).ext E, (own_f48 W).ext E, (own_f49 W).ext E, (own_f50 W).ext E, (own_f51 W).ext E, (own_f52 W).ext E, (own_f53 W).ext E, (own_f54 W).ext E, (own_f55 W).ext E, (own_f56 W).ext E, (own_f57 W).ext E, (own_f58 W).ext E, (own_f59 W).ext E, (own_f60 W).ext E, (own_f61 W).ext E, (own_f62 W).ext E, (own_f63 W).ext E, (own_f64 W).ext E, (own_f65 W).ext E, (own_f66 W).ext E, (own_f67 W).ext E, (own_f68 W).ext E, (own_f69 W).ext E, (own_f70 W).ext E, (own_f71 W).ext E, (own_f72 W).ext E, (own_f73 W).ext E, (own_f74 W).ext E, (own_f75 W).ext E, (own_f76 W).ext E, (own_f77 W).ext E, (own_f78 W).ext E, (own_f79 W).ext E, (own_f80 W).ext E, (own_f81 W).ext E, (own_f82 W).ext E, (own_f83 W).ext E, (own_f84 W).ext E, (own_f85 W).ext E, (own_f86 W).ext E, (own_f87 W).ext E, (own_f88 W).ext E, (own_f89 W).ext E, (own_f90 W).ext E, (own_f91 W).ext E, (own_f92 W).ext E, (own_f93 W).ext E, (own_f94 W).ext E, (own_f95 W).ext E, (own_f96 W).ext E, (own_f97 W).ext E, (own_f98 W).ext E, (own_f99 W).ext E, (own_f100 W).ext E, (own_f101 W).ext E⟩
theorem own_world {s : State} {args : Array Value} (hw : ∀ d ∈ tables_1, d.before args s = true) (hn : narrow_1.value args s none s [] = some true) : ∃ A : Nat → Addr, own_W s s.heap A := by
  obtain ⟨n0, r0⟩ := and_e hn
  obtain ⟨n1, r1⟩ := and_e r0
  obtain ⟨n2, r2⟩ := and_e r1
  obtain ⟨n3, r3⟩ := and_e r2
  obtain ⟨n4, r4⟩ := and_e r3
  obtain ⟨n5, r5⟩ := and_e r4
  obtain ⟨n6, r6⟩ := and_e r5
  obtain ⟨n7, r7⟩ := and_e r6
  obtain ⟨n8, r8⟩ := and_e r7
  obtain ⟨n9, r9⟩ := and_e r8
  obtain ⟨n10, r10⟩ := and_e r9
  obtain ⟨n11, r11⟩ := and_e r10
  obtain ⟨n12, r12⟩ := and_e r11
  obtain ⟨n13, r13⟩ := and_e r12
  obtain ⟨n14, r14⟩ := and_e r13
  obtain ⟨n15, r15⟩ := and_e r14
  obtain ⟨n16, r16⟩ := and_e r15
  obtain ⟨n17, r17⟩ := and_e r16
  obtain ⟨n18, r18⟩ := and_e r17
  obtain ⟨n19, r19⟩ := and_e r18
  obtain ⟨n20, r20⟩ := and_e r19
  obtain ⟨n21, r21⟩ := and_e r20
  obtain ⟨n22, r22⟩ := and_e r21
  obtain ⟨n23, r23⟩ := and_e r22
  obtain ⟨n24, r24⟩ := and_e r23
  obtain ⟨n25, r25⟩ := and_e r24
  obtain ⟨n26, r26⟩ := and_e r25
  obtain ⟨n27, r27⟩ := and_e r26
  obtain ⟨n28, r28⟩ := and_e r27
  obtain ⟨n29, r29⟩ := and_e r28
  obtain ⟨n30, r30⟩ := and_e r29
  obtain ⟨n31, r31⟩ := and_e r30
  obtain ⟨n32, r32⟩ := and_e r31
  obtain ⟨n33, r33⟩ := and_e r32
  obtain ⟨n34, r34⟩ := and_e r33
  obtain ⟨n35, r35⟩ := and_e r34
  obtain ⟨n36, r36⟩ := and_e r35
  obtain ⟨n37, r37⟩ := and_e r36
  obtain ⟨n38, r38⟩ := and_e r37
  obtain ⟨n39, r39⟩ := and_e r38
  obtain ⟨n40, r40⟩ := and_e r39
  obtain ⟨n41, r41⟩ := and_e r40
  obtain ⟨n42, r42⟩ := and_e r41
  obtain ⟨n43, r43⟩ := and_e r42
  obtain ⟨n44, r44⟩ := and_e r43
  obtain ⟨n45, r45⟩ := and_e r44
  obtain ⟨n46, r46⟩ := and_e r45
  obtain ⟨n47, r47⟩ := and_e r46
  obtain ⟨n48, r48⟩ := and_e r47
  obtain ⟨n49, r49⟩ := and_e r48
  obtain ⟨n50, r50⟩ := and_e r49
  obtain ⟨n51, r51⟩ := and_e r50
  obtain ⟨n52, r52⟩ := and_e r51
  obtain ⟨n53, r53⟩ := and_e r52
  obtain ⟨n54, r54⟩ := and_e r53
  obtain ⟨n55, r55⟩ := and_e r54
  obtain ⟨n56, r56⟩ := and_e r55
  obtain ⟨n57, r57⟩ := and_e r56
  obtain ⟨n58, r58⟩ := and_e r57
  obtain ⟨n59, r59⟩ := and_e r58
  obtain ⟨n60, r60⟩ := and_e r59
  obtain ⟨n61, r61⟩ := and_e r60
  obtain ⟨n62, r62⟩ := and_e r61
  obtain ⟨n63, r63⟩ := and_e r62
  obtain ⟨n64, r64⟩ := and_e r63
  obtain ⟨n65, r65⟩ := and_e r64
  obtain ⟨n66, r66⟩ := and_e r65
  obtain ⟨a0, v0⟩ := exa_v n0
  obtain ⟨a1, v1⟩ := exa_v n1
  obtain ⟨a2, v2⟩ := exa_v n2
  obtain ⟨a3, v3⟩ := exa_v n3
  obtain ⟨a4, v4⟩ := exa_v n4
  obtain ⟨a5, v5⟩ := exa_v n5
  obtain ⟨a6, v6⟩ := exa_v n6
  obtain ⟨a7, v7⟩ := exa_v n7
  obtain ⟨a8, v8⟩ := exa_v n8
  obtain ⟨a9, v9⟩ := exa_v n9
  obtain ⟨a10, v10⟩ := exa_v n10
  obtain ⟨a11, v11⟩ := exa_v n11
  obtain ⟨a12, v12⟩ := exa_v n12
  obtain ⟨a13, v13⟩ := exa_v n13
  obtain ⟨a14, v14⟩ := exa_v n14
  obtain ⟨a15, v15⟩ := exa_v n15
  obtain ⟨a16, v16⟩ := exa_v n16
  obtain ⟨a17, v17⟩ := exa_v n17
  obtain ⟨a18, v18⟩ := exa_v n18
  obtain ⟨a19, v19⟩ := exa_v n19
  obtain ⟨a20, v20⟩ := exa_v n20
  obtain ⟨a21, v21⟩ := exa_v n21
  obtain ⟨a22, v22⟩ := exa_v n22
  obtain ⟨a23, v23⟩ := exa_v n23
  obtain ⟨a24, v24⟩ := exa_v n24
  obtain ⟨a25, v25⟩ := exa_v n25
  obtain ⟨a26, v26⟩ := exa_v n26
  obtain ⟨a27, v27⟩ := exa_v n27
  obtain ⟨a28, v28⟩ := exa_v n28
  obtain ⟨a29, v29⟩ := exa_v n29
  obtain ⟨a30, v30⟩ := exa_v n30
  obtain ⟨a31, v31⟩ := exa_v n31
  obtain ⟨a32, v32⟩ := exa_v n32
  obtain ⟨a33, v33⟩ := exa_v n33
  exact ⟨fun n => [a0, a1, a2, a3, a4, a5, a6, a7, a8, a9, a10, a11, a12, a13, a14, a15, a16, a17, a18, a19, a20, a21, a22, a23, a24, a25, a26, a27, a28, a29, a30, a31, a32, a33].getD n 0, Sta.start v0 (Or.inr ⟨(own_w3 hw), (own_w4 hw)⟩), Exa.start v0 n0, Sta.start v1 (Or.inr ⟨(own_w3 hw), (own_w7 hw)⟩), Exa.start v1 n1, Sta.start v2 (Or.inr ⟨(own_w3 hw), (own_w9 hw)⟩), Exa.start v2 n2, Sta.start v3 (Or.inr ⟨(own_w3 hw), (own_w11 hw)⟩), Exa.start v3 n3, Sta.start v4 (Or.inr ⟨(own_w3 hw), (own_w13 hw)⟩), Exa.start v4 n4, Sta.start v5 (Or.inr ⟨(own_w3 hw), (own_w15 hw)⟩), Exa.start v5 n5, Sta.start v6 (Or.inr ⟨(own_w3 hw), (own_w17 hw)⟩), Exa.start v6 n6, Sta.start v7 (Or.inr ⟨(own_w3 hw), (own_w19 hw)⟩), Exa.start v7 n7, Sta.start v8 (Or.inr ⟨(own_w3 hw), (own_w21 hw)⟩), Exa.start v8 n8, Sta.start v9 (Or.inr ⟨(own_w3 hw), (own_w23 hw)⟩), Exa.start v9 n9, Sta.start v10 (Or.inr ⟨(own_w3 hw), (own_w25 hw)⟩), Exa.start v10 n10, Sta.start v11 (Or.inr ⟨(own_w3 hw), (own_w27 hw)⟩), Exa.start v11 n11, Sta.start v12 (Or.inr ⟨(own_w3 hw), (own_w29 hw)⟩), Exa.start v12 n12, Sta.start v13 (Or.inr ⟨(own_w3 hw), (own_w31 hw)⟩), Exa.start v13 n13, Sta.start v14 (Or.inr ⟨(own_w3 hw), (own_w33 hw)⟩), Exa.start v14 n14, Sta.start v15 (Or.inr ⟨(own_w3 hw), (own_w35 hw)⟩), Exa.start v15 n15, Sta.start v16 (Or.inr ⟨(own_w3 hw), (own_w37 hw)⟩), Exa.start v16 n16, Sta.start v17 (Or.inr ⟨(own_w3 hw), (own_w39 hw)⟩), Exa.start v17 n17, Sta.start v18 (Or.inr ⟨(own_w3 hw), (own_w41 hw)⟩), Exa.start v18 n18, Sta.start v19 (Or.inr ⟨(own_w3 hw), (own_w43 hw)⟩), Exa.start v19 n19, Sta.start v20 (Or.inr ⟨(own_w3 hw), (own_w45 hw)⟩), Exa.start v20 n20, Sta.start v21 (Or.inr ⟨(own_w3 hw), (own_w47 hw)⟩), Exa.start v21 n21, Sta.start v22 (Or.inr ⟨(own_w3 hw), (own_w49 hw)⟩), Exa.start v22 n22, Sta.start v23 (Or.inr ⟨(own_w3 hw), (own_w51 hw)⟩), Exa.start v23 n23, Sta.start v24 (Or.inr ⟨(own_w3 hw), (own_w53 hw)⟩), Exa.start v24 n24, Sta.start v25 (Or.inr ⟨(own_w3 hw), (own_w55 hw)⟩), Exa.start v25 n25, Sta.start v26 (Or.inr ⟨(own_w3 hw), (own_w57 hw)⟩), Exa.start v26 n26, Sta.start v27 (Or.inr ⟨(own_w3 hw), (own_w59 hw)⟩), Exa.start v27 n27, Sta.start v28 (Or.inr ⟨(own_w3 hw), (own_w61 hw)⟩), Exa.start v28 n28, Sta.start v29 (Or.inr ⟨(own_w3 hw), (own_w63 hw)⟩), Exa.start v29 n29, Sta.start v30 (Or.inr ⟨(own_w3 hw), (own_w65 hw)⟩), Exa.start v30 n30, Sta.start v31 (Or.inr ⟨(own_w3 hw), (own_w67 hw)⟩), Exa.start v31 n31, Sta.start v32 (Or.inr ⟨(own_w3 hw), (own_w69 hw)⟩), Exa.start v32 n32, Sta.start v33 (Or.inr ⟨(own_w3 hw), (own_w71 hw)⟩), Exa.start v33 n33, own_fld v0 (own_eqI n34), own_fld v19 (own_eqI n35), own_fld v10 (own_eqI n36), own_fld v26 (own_eqI n37), own_fld v18 (own_eqI n38), own_fld v23 (own_eqI n39), own_fld v11 (own_eqI n40), own_fld v32 (own_eqI n41), own_fld v3 (own_eqI n42), own_fld v8 (own_eqI n43), own_fld v17 (own_eqI n44), own_fld v9 (own_eqI n45), own_fld v6 (own_eqI n46), own_fld v7 (own_eqI n47), own_fld v2 (own_eqI n48), own_fld v1 (own_eqI n49), own_fld v13 (own_eqI n50), own_fld v4 (own_eqI n51), own_fld v16 (own_eqI n52), own_fld v28 (own_eqI n53), own_fld v15 (own_eqI n54), own_fld v24 (own_eqI n55), own_fld v22 (own_eqI n56), own_fld v5 (own_eqI n57), own_fld v14 (own_eqI n58), own_fld v12 (own_eqI n59), own_fld v33 (own_eqI n60), own_fld v20 (own_eqI n61), own_fld v25 (own_eqI n62), own_fld v30 (own_eqI n63), own_fld v27 (own_eqI n64), own_fld v21 (own_eqI n65), own_fld v31 (own_eqI n66), own_fld v29 (own_eqI r66)⟩
theorem own_d1_0 : decode prog_49_method_13_code 0 = .ok (.aload_n 0, 1) := by decide +kernel
theorem own_d1_1 : decode prog_49_method_13_code 1 = .ok (.getstatic 61, 3) := by decide +kernel
theorem own_d1_4 : decode prog_49_method_13_code 4 = .ok (.if_acmp .eq 45, 3) := by decide +kernel
theorem own_d1_7 : decode prog_49_method_13_code 7 = .ok (.aload_n 0, 1) := by decide +kernel
theorem own_d1_8 : decode prog_49_method_13_code 8 = .ok (.getstatic 34, 3) := by decide +kernel
theorem own_d1_11 : decode prog_49_method_13_code 11 = .ok (.if_acmp .eq 38, 3) := by decide +kernel
theorem own_d1_14 : decode prog_49_method_13_code 14 = .ok (.aload_n 0, 1) := by decide +kernel
theorem own_d1_15 : decode prog_49_method_13_code 15 = .ok (.getstatic 82, 3) := by decide +kernel
theorem own_d1_18 : decode prog_49_method_13_code 18 = .ok (.if_acmp .eq 31, 3) := by decide +kernel
theorem own_d1_21 : decode prog_49_method_13_code 21 = .ok (.aload_n 0, 1) := by decide +kernel
theorem own_d1_22 : decode prog_49_method_13_code 22 = .ok (.getstatic 58, 3) := by decide +kernel
theorem own_d1_25 : decode prog_49_method_13_code 25 = .ok (.if_acmp .eq 24, 3) := by decide +kernel
theorem own_d1_28 : decode prog_49_method_13_code 28 = .ok (.aload_n 0, 1) := by decide +kernel
theorem own_d1_29 : decode prog_49_method_13_code 29 = .ok (.getstatic 73, 3) := by decide +kernel
theorem own_d1_32 : decode prog_49_method_13_code 32 = .ok (.if_acmp .eq 17, 3) := by decide +kernel
theorem own_d1_35 : decode prog_49_method_13_code 35 = .ok (.aload_n 0, 1) := by decide +kernel
theorem own_d1_36 : decode prog_49_method_13_code 36 = .ok (.getstatic 37, 3) := by decide +kernel
theorem own_d1_39 : decode prog_49_method_13_code 39 = .ok (.if_acmp .eq 10, 3) := by decide +kernel
theorem own_d1_42 : decode prog_49_method_13_code 42 = .ok (.aload_n 0, 1) := by decide +kernel
theorem own_d1_43 : decode prog_49_method_13_code 43 = .ok (.getstatic 100, 3) := by decide +kernel
theorem own_d1_46 : decode prog_49_method_13_code 46 = .ok (.if_acmp .ne 7, 3) := by decide +kernel
theorem own_d1_49 : decode prog_49_method_13_code 49 = .ok (.iconst 1, 1) := by decide +kernel
theorem own_d1_50 : decode prog_49_method_13_code 50 = .ok (.goto 4, 3) := by decide +kernel
theorem own_d1_53 : decode prog_49_method_13_code 53 = .ok (.iconst 0, 1) := by decide +kernel
theorem own_d1_54 : decode prog_49_method_13_code 54 = .ok (.ireturn, 1) := by decide +kernel
def own_r_takesCharacterSet (A : Nat → Addr) (b : Addr) : Int32 := if b = (A 19) then (1 : Int32) else if b = (A 10) then (1 : Int32) else if b = (A 26) then (1 : Int32) else if b = (A 18) then (1 : Int32) else if b = (A 23) then (1 : Int32) else if b = (A 11) then (1 : Int32) else if b = (A 32) then (1 : Int32) else (0 : Int32)
set_option maxRecDepth 65536 in
set_option maxHeartbeats 40000000 in
theorem rm_takesCharacterSet (l : Launch) {Z : State} {a0 : Array Value} (hw : ∀ d ∈ tables_1, d.before a0 Z = true) {A : Nat → Addr} {h0 : Heap} (W : own_W Z h0 A) (b : Addr)  :
    own_Does l Z (⟨"com/example/janustile/dicom/Vr", "takesCharacterSet", "()Z"⟩ : MethodName) prog_49_method_13_code 1 (some .boolean) [] ({ frames := 0, cells := 0, slots := 0, locals := 0 } : Room) #[(.ref b)] h0 (own_Is (.int (own_r_takesCharacterSet A b)) h0) := by
  refine own_body own_pn0 ?_
  intro p e s m below meth c T0 hx hby hml hret hlk hnm hown hZ X0 e0
  refine own_tr (XT.entry (Ls := #[.val (.ref b)]) rfl) ?_
  show own_Goes p e below _ (T0.setTop (mkF m 0 #[.val (.ref b)] []))
  refine own_by (fun _ zz => XS.aloadN X0.here hx rfl (hb hby own_d1_0) rfl rfl zz) ?_
  show own_Goes p e below _ (T0.setTop (mkF m 1 #[.val (.ref b)] [(.ref b)]))
  refine own_getS X0 hx hZ hown (own_w78 hw) e0 (own_f38 W) (hb hby own_d1_1) fun T1 X1 e1 => ?_
  show own_Goes p e below _ (T1.setTop (mkF m 4 #[.val (.ref b)] [(.ref (A 19)), (.ref b)]))
  by_cases q2 : b = (A 19)
  · refine own_by (fun _ zz => XT.acmpYes X1.here hx rfl (pc0 := 4) (pc' := 49) rfl (hb hby own_d1_4) rfl rfl rfl (XT.aa_eq_t (congrArg Value.ref q2)) (by decide) (by decide) zz) ?_
    show own_Goes p e below _ (T1.setTop (mkF m 49 #[.val (.ref b)] []))
    refine own_by (fun _ zz => XS.iconst X1.here hx rfl (hb hby own_d1_49) zz) ?_
    show own_Goes p e below _ (T1.setTop (mkF m 50 #[.val (.ref b)] [(.int (1 : Int32))]))
    refine own_by (fun _ zz => XS.goto X1.here hx rfl (pc0 := 50) (pc' := 54) rfl (hb hby own_d1_50) (by decide) (by decide) zz) ?_
    show own_Goes p e below _ (T1.setTop (mkF m 54 #[.val (.ref b)] [(.int (1 : Int32))]))
    refine own_retN X1 hx hlk (ty := .boolean) hret (by simp) (hb hby own_d1_54) (by decide) (by decide) ?_
    exact ⟨by unfold own_r_takesCharacterSet; rw [if_pos q2] <;> rfl, rfl, e1⟩
  · refine own_by (fun _ zz => XT.acmpNo X1.here hx rfl (hb hby own_d1_4) rfl rfl rfl (XT.aa_eq_f (fun q => q2 (Value.ref.inj q))) zz) ?_
    show own_Goes p e below _ (T1.setTop (mkF m 7 #[.val (.ref b)] []))
    refine own_by (fun _ zz => XS.aloadN X1.here hx rfl (hb hby own_d1_7) rfl rfl zz) ?_
    show own_Goes p e below _ (T1.setTop (mkF m 8 #[.val (.ref b)] [(.ref b)]))
    refine own_getS X1 hx hZ hown (own_w79 hw) e1 (own_f20 W) (hb hby own_d1_8) fun T3 X3 e3 => ?_
    show own_Goes p e below _ (T3.setTop (mkF m 11 #[.val (.ref b)] [(.ref (A 10)), (.ref b)]))
    by_cases q4 : b = (A 10)
    · refine own_by (fun _ zz => XT.acmpYes X3.here hx rfl (pc0 := 11) (pc' := 49) rfl (hb hby own_d1_11) rfl rfl rfl (XT.aa_eq_t (congrArg Value.ref q4)) (by decide) (by decide) zz) ?_
      show own_Goes p e below _ (T3.setTop (mkF m 49 #[.val (.ref b)] []))
      refine own_by (fun _ zz => XS.iconst X3.here hx rfl (hb hby own_d1_49) zz) ?_
      show own_Goes p e below _ (T3.setTop (mkF m 50 #[.val (.ref b)] [(.int (1 : Int32))]))
      refine own_by (fun _ zz => XS.goto X3.here hx rfl (pc0 := 50) (pc' := 54) rfl (hb hby own_d1_50) (by decide) (by decide) zz) ?_
      show own_Goes p e below _ (T3.setTop (mkF m 54 #[.val (.ref b)] [(.int (1 : Int32))]))
      refine own_retN X3 hx hlk (ty := .boolean) hret (by simp) (hb hby own_d1_54) (by decide) (by decide) ?_
      exact ⟨by unfold own_r_takesCharacterSet; rw [if_neg q2, if_pos q4] <;> rfl, rfl, e3⟩
    · refine own_by (fun _ zz => XT.acmpNo X3.here hx rfl (hb hby own_d1_11) rfl rfl rfl (XT.aa_eq_f (fun q => q4 (Value.ref.inj q))) zz) ?_
      show own_Goes p e below _ (T3.setTop (mkF m 14 #[.val (.ref b)] []))
      refine own_by (fun _ zz => XS.aloadN X3.here hx rfl (hb hby own_d1_14) rfl rfl zz) ?_
      show own_Goes p e below _ (T3.setTop (mkF m 15 #[.val (.ref b)] [(.ref b)]))
      refine own_getS X3 hx hZ hown (own_w80 hw) e3 (own_f52 W) (hb hby own_d1_15) fun T5 X5 e5 => ?_
      show own_Goes p e below _ (T5.setTop (mkF m 18 #[.val (.ref b)] [(.ref (A 26)), (.ref b)]))
      by_cases q6 : b = (A 26)
      · refine own_by (fun _ zz => XT.acmpYes X5.here hx rfl (pc0 := 18) (pc' := 49) rfl (hb hby own_d1_18) rfl rfl rfl (XT.aa_eq_t (congrArg Value.ref q6)) (by decide) (by decide) zz) ?_
        show own_Goes p e below _ (T5.setTop (mkF m 49 #[.val (.ref b)] []))
        refine own_by (fun _ zz => XS.iconst X5.here hx rfl (hb hby own_d1_49) zz) ?_
        show own_Goes p e below _ (T5.setTop (mkF m 50 #[.val (.ref b)] [(.int (1 : Int32))]))
        refine own_by (fun _ zz => XS.goto X5.here hx rfl (pc0 := 50) (pc' := 54) rfl (hb hby own_d1_50) (by decide) (by decide) zz) ?_
        show own_Goes p e below _ (T5.setTop (mkF m 54 #[.val (.ref b)] [(.int (1 : Int32))]))
        refine own_retN X5 hx hlk (ty := .boolean) hret (by simp) (hb hby own_d1_54) (by decide) (by decide) ?_
        exact ⟨by unfold own_r_takesCharacterSet; rw [if_neg q2, if_neg q4, if_pos q6] <;> rfl, rfl, e5⟩
      · refine own_by (fun _ zz => XT.acmpNo X5.here hx rfl (hb hby own_d1_18) rfl rfl rfl (XT.aa_eq_f (fun q => q6 (Value.ref.inj q))) zz) ?_
        show own_Goes p e below _ (T5.setTop (mkF m 21 #[.val (.ref b)] []))
        refine own_by (fun _ zz => XS.aloadN X5.here hx rfl (hb hby own_d1_21) rfl rfl zz) ?_
        show own_Goes p e below _ (T5.setTop (mkF m 22 #[.val (.ref b)] [(.ref b)]))
        refine own_getS X5 hx hZ hown (own_w81 hw) e5 (own_f36 W) (hb hby own_d1_22) fun T7 X7 e7 => ?_
        show own_Goes p e below _ (T7.setTop (mkF m 25 #[.val (.ref b)] [(.ref (A 18)), (.ref b)]))
        by_cases q8 : b = (A 18)
        · refine own_by (fun _ zz => XT.acmpYes X7.here hx rfl (pc0 := 25) (pc' := 49) rfl (hb hby own_d1_25) rfl rfl rfl (XT.aa_eq_t (congrArg Value.ref q8)) (by decide) (by decide) zz) ?_
          show own_Goes p e below _ (T7.setTop (mkF m 49 #[.val (.ref b)] []))
          refine own_by (fun _ zz => XS.iconst X7.here hx rfl (hb hby own_d1_49) zz) ?_
          show own_Goes p e below _ (T7.setTop (mkF m 50 #[.val (.ref b)] [(.int (1 : Int32))]))
          refine own_by (fun _ zz => XS.goto X7.here hx rfl (pc0 := 50) (pc' := 54) rfl (hb hby own_d1_50) (by decide) (by decide) zz) ?_
          show own_Goes p e below _ (T7.setTop (mkF m 54 #[.val (.ref b)] [(.int (1 : Int32))]))
          refine own_retN X7 hx hlk (ty := .boolean) hret (by simp) (hb hby own_d1_54) (by decide) (by decide) ?_
          exact ⟨by unfold own_r_takesCharacterSet; rw [if_neg q2, if_neg q4, if_neg q6, if_pos q8] <;> rfl, rfl, e7⟩
        · refine own_by (fun _ zz => XT.acmpNo X7.here hx rfl (hb hby own_d1_25) rfl rfl rfl (XT.aa_eq_f (fun q => q8 (Value.ref.inj q))) zz) ?_
          show own_Goes p e below _ (T7.setTop (mkF m 28 #[.val (.ref b)] []))
          refine own_by (fun _ zz => XS.aloadN X7.here hx rfl (hb hby own_d1_28) rfl rfl zz) ?_
          show own_Goes p e below _ (T7.setTop (mkF m 29 #[.val (.ref b)] [(.ref b)]))
          refine own_getS X7 hx hZ hown (own_w82 hw) e7 (own_f46 W) (hb hby own_d1_29) fun T9 X9 e9 => ?_
          show own_Goes p e below _ (T9.setTop (mkF m 32 #[.val (.ref b)] [(.ref (A 23)), (.ref b)]))
          by_cases q10 : b = (A 23)
          · refine own_by (fun _ zz => XT.acmpYes X9.here hx rfl (pc0 := 32) (pc' := 49) rfl (hb hby own_d1_32) rfl rfl rfl (XT.aa_eq_t (congrArg Value.ref q10)) (by decide) (by decide) zz) ?_
            show own_Goes p e below _ (T9.setTop (mkF m 49 #[.val (.ref b)] []))
            refine own_by (fun _ zz => XS.iconst X9.here hx rfl (hb hby own_d1_49) zz) ?_
            show own_Goes p e below _ (T9.setTop (mkF m 50 #[.val (.ref b)] [(.int (1 : Int32))]))
            refine own_by (fun _ zz => XS.goto X9.here hx rfl (pc0 := 50) (pc' := 54) rfl (hb hby own_d1_50) (by decide) (by decide) zz) ?_
            show own_Goes p e below _ (T9.setTop (mkF m 54 #[.val (.ref b)] [(.int (1 : Int32))]))
            refine own_retN X9 hx hlk (ty := .boolean) hret (by simp) (hb hby own_d1_54) (by decide) (by decide) ?_
            exact ⟨by unfold own_r_takesCharacterSet; rw [if_neg q2, if_neg q4, if_neg q6, if_neg q8, if_pos q10] <;> rfl, rfl, e9⟩
          · refine own_by (fun _ zz => XT.acmpNo X9.here hx rfl (hb hby own_d1_32) rfl rfl rfl (XT.aa_eq_f (fun q => q10 (Value.ref.inj q))) zz) ?_
            show own_Goes p e below _ (T9.setTop (mkF m 35 #[.val (.ref b)] []))
            refine own_by (fun _ zz => XS.aloadN X9.here hx rfl (hb hby own_d1_35) rfl rfl zz) ?_
            show own_Goes p e below _ (T9.setTop (mkF m 36 #[.val (.ref b)] [(.ref b)]))
            refine own_getS X9 hx hZ hown (own_w83 hw) e9 (own_f22 W) (hb hby own_d1_36) fun T11 X11 e11 => ?_
            show own_Goes p e below _ (T11.setTop (mkF m 39 #[.val (.ref b)] [(.ref (A 11)), (.ref b)]))
            by_cases q12 : b = (A 11)
            · refine own_by (fun _ zz => XT.acmpYes X11.here hx rfl (pc0 := 39) (pc' := 49) rfl (hb hby own_d1_39) rfl rfl rfl (XT.aa_eq_t (congrArg Value.ref q12)) (by decide) (by decide) zz) ?_
              show own_Goes p e below _ (T11.setTop (mkF m 49 #[.val (.ref b)] []))
              refine own_by (fun _ zz => XS.iconst X11.here hx rfl (hb hby own_d1_49) zz) ?_
              show own_Goes p e below _ (T11.setTop (mkF m 50 #[.val (.ref b)] [(.int (1 : Int32))]))
              refine own_by (fun _ zz => XS.goto X11.here hx rfl (pc0 := 50) (pc' := 54) rfl (hb hby own_d1_50) (by decide) (by decide) zz) ?_
              show own_Goes p e below _ (T11.setTop (mkF m 54 #[.val (.ref b)] [(.int (1 : Int32))]))
              refine own_retN X11 hx hlk (ty := .boolean) hret (by simp) (hb hby own_d1_54) (by decide) (by decide) ?_
              exact ⟨by unfold own_r_takesCharacterSet; rw [if_neg q2, if_neg q4, if_neg q6, if_neg q8, if_neg q10, if_pos q12] <;> rfl, rfl, e11⟩
            · refine own_by (fun _ zz => XT.acmpNo X11.here hx rfl (hb hby own_d1_39) rfl rfl rfl (XT.aa_eq_f (fun q => q12 (Value.ref.inj q))) zz) ?_
              show own_Goes p e below _ (T11.setTop (mkF m 42 #[.val (.ref b)] []))
              refine own_by (fun _ zz => XS.aloadN X11.here hx rfl (hb hby own_d1_42) rfl rfl zz) ?_
              show own_Goes p e below _ (T11.setTop (mkF m 43 #[.val (.ref b)] [(.ref b)]))
              refine own_getS X11 hx hZ hown (own_w84 hw) e11 (own_f64 W) (hb hby own_d1_43) fun T13 X13 e13 => ?_
              show own_Goes p e below _ (T13.setTop (mkF m 46 #[.val (.ref b)] [(.ref (A 32)), (.ref b)]))
              by_cases q14 : b = (A 32)
              · refine own_by (fun _ zz => XT.acmpNo X13.here hx rfl (hb hby own_d1_46) rfl rfl rfl (XT.aa_ne_f (congrArg Value.ref q14)) zz) ?_
                show own_Goes p e below _ (T13.setTop (mkF m 49 #[.val (.ref b)] []))
                refine own_by (fun _ zz => XS.iconst X13.here hx rfl (hb hby own_d1_49) zz) ?_
                show own_Goes p e below _ (T13.setTop (mkF m 50 #[.val (.ref b)] [(.int (1 : Int32))]))
                refine own_by (fun _ zz => XS.goto X13.here hx rfl (pc0 := 50) (pc' := 54) rfl (hb hby own_d1_50) (by decide) (by decide) zz) ?_
                show own_Goes p e below _ (T13.setTop (mkF m 54 #[.val (.ref b)] [(.int (1 : Int32))]))
                refine own_retN X13 hx hlk (ty := .boolean) hret (by simp) (hb hby own_d1_54) (by decide) (by decide) ?_
                exact ⟨by unfold own_r_takesCharacterSet; rw [if_neg q2, if_neg q4, if_neg q6, if_neg q8, if_neg q10, if_neg q12, if_pos q14] <;> rfl, rfl, e13⟩
              · refine own_by (fun _ zz => XT.acmpYes X13.here hx rfl (pc0 := 46) (pc' := 53) rfl (hb hby own_d1_46) rfl rfl rfl (XT.aa_ne_t (fun q => q14 (Value.ref.inj q))) (by decide) (by decide) zz) ?_
                show own_Goes p e below _ (T13.setTop (mkF m 53 #[.val (.ref b)] []))
                refine own_by (fun _ zz => XS.iconst X13.here hx rfl (hb hby own_d1_53) zz) ?_
                show own_Goes p e below _ (T13.setTop (mkF m 54 #[.val (.ref b)] [(.int (0 : Int32))]))
                refine own_retN X13 hx hlk (ty := .boolean) hret (by simp) (hb hby own_d1_54) (by decide) (by decide) ?_
                exact ⟨by unfold own_r_takesCharacterSet; rw [if_neg q2, if_neg q4, if_neg q6, if_neg q8, if_neg q10, if_neg q12, if_neg q14] <;> rfl, rfl, e13⟩
theorem own_exa {Z : State} {h : Heap} {A : Nat → Addr} (W : own_W Z h A) {i : Nat} (hi : i < 34) : Exa Z h (A i) "com/example/janustile/dicom/Vr" :=
  match i, hi with | 0, _ => (own_f1 W) | 1, _ => (own_f3 W) | 2, _ => (own_f5 W) | 3, _ => (own_f7 W) | 4, _ => (own_f9 W) | 5, _ => (own_f11 W) | 6, _ => (own_f13 W) | 7, _ => (own_f15 W) | 8, _ => (own_f17 W) | 9, _ => (own_f19 W) | 10, _ => (own_f21 W) | 11, _ => (own_f23 W) | 12, _ => (own_f25 W) | 13, _ => (own_f27 W) | 14, _ => (own_f29 W) | 15, _ => (own_f31 W) | 16, _ => (own_f33 W) | 17, _ => (own_f35 W) | 18, _ => (own_f37 W) | 19, _ => (own_f39 W) | 20, _ => (own_f41 W) | 21, _ => (own_f43 W) | 22, _ => (own_f45 W) | 23, _ => (own_f47 W) | 24, _ => (own_f49 W) | 25, _ => (own_f51 W) | 26, _ => (own_f53 W) | 27, _ => (own_f55 W) | 28, _ => (own_f57 W) | 29, _ => (own_f59 W) | 30, _ => (own_f61 W) | 31, _ => (own_f63 W) | 32, _ => (own_f65 W) | 33, _ => (own_f67 W) | (k + 34), hi => absurd hi (by omega)
theorem own_ord {Z : State} {h : Heap} {A : Nat → Addr} (W : own_W Z h A) {i : Nat} (hi : i < 34) : Fld Z h (A i) "java/lang/Enum" "ordinal" "I" (.int (Int32.ofNat i)) :=
  match i, hi with | 0, _ => (own_f68 W) | 1, _ => (own_f83 W) | 2, _ => (own_f82 W) | 3, _ => (own_f76 W) | 4, _ => (own_f85 W) | 5, _ => (own_f91 W) | 6, _ => (own_f80 W) | 7, _ => (own_f81 W) | 8, _ => (own_f77 W) | 9, _ => (own_f79 W) | 10, _ => (own_f70 W) | 11, _ => (own_f74 W) | 12, _ => (own_f93 W) | 13, _ => (own_f84 W) | 14, _ => (own_f92 W) | 15, _ => (own_f88 W) | 16, _ => (own_f86 W) | 17, _ => (own_f78 W) | 18, _ => (own_f72 W) | 19, _ => (own_f69 W) | 20, _ => (own_f95 W) | 21, _ => (own_f99 W) | 22, _ => (own_f90 W) | 23, _ => (own_f73 W) | 24, _ => (own_f89 W) | 25, _ => (own_f96 W) | 26, _ => (own_f71 W) | 27, _ => (own_f98 W) | 28, _ => (own_f87 W) | 29, _ => (own_f101 W) | 30, _ => (own_f97 W) | 31, _ => (own_f100 W) | 32, _ => (own_f75 W) | 33, _ => (own_f94 W) | (k + 34), hi => absurd hi (by omega)
theorem own_inj {Z : State} {h : Heap} {A : Nat → Addr} (W : own_W Z h A) {i j : Nat} (hi : i < 34) (hj : j < 34) : A i = A j ↔ i = j := by
  constructor
  · intro q
    by_cases z : i = j
    · exact z
    · refine absurd q (own_ne (own_ord W hi) (own_ord W hj) fun y => z ?_)
      have y1 := congrArg Int32.toInt (Value.int.inj y)
      rw [Int32.toInt_ofNat_small (by omega), Int32.toInt_ofNat_small (by omega)] at y1
      omega
  · intro q; rw [q]
theorem own_say {Z : State} {h : Heap} {A : Nat → Addr} (W : own_W Z h A) {i : Nat} (hi : i < 34) : own_r_takesCharacterSet A (A i) = if i = 10 ∨ i = 11 ∨ i = 18 ∨ i = 19 ∨ i = 23 ∨ i = 26 ∨ i = 32 then 1 else 0 := by
  unfold own_r_takesCharacterSet
  simp only [own_inj W hi (by decide : 19 < 34), own_inj W hi (by decide : 10 < 34), own_inj W hi (by decide : 26 < 34), own_inj W hi (by decide : 18 < 34), own_inj W hi (by decide : 23 < 34), own_inj W hi (by decide : 11 < 34), own_inj W hi (by decide : 32 < 34)]
  by_cases z : i = 10 ∨ i = 11 ∨ i = 18 ∨ i = 19 ∨ i = 23 ∨ i = 26 ∨ i = 32
  · rw [if_pos z]
    repeat (first | rfl | (split; · rfl))
    all_goals (exfalso; omega)
  · rw [if_neg z]
    rw [if_neg (show ¬ i = 19 by omega)]
    rw [if_neg (show ¬ i = 10 by omega)]
    rw [if_neg (show ¬ i = 26 by omega)]
    rw [if_neg (show ¬ i = 18 by omega)]
    rw [if_neg (show ¬ i = 23 by omega)]
    rw [if_neg (show ¬ i = 11 by omega)]
    rw [if_neg (show ¬ i = 32 by omega)]
theorem own_c10 : (10 : Int32).toInt = 10 := by decide
theorem own_c11 : (11 : Int32).toInt = 11 := by decide
theorem own_c18 : (18 : Int32).toInt = 18 := by decide
theorem own_c19 : (19 : Int32).toInt = 19 := by decide
theorem own_c23 : (23 : Int32).toInt = 23 := by decide
theorem own_c26 : (26 : Int32).toInt = 26 := by decide
theorem own_c32 : (32 : Int32).toInt = 32 := by decide
def own_Q (h0 : Heap) (v : Option Value) (h : Heap) (L : List Loc) : Prop := v = some (.int 1) ∧ Fr h0.size L
set_option maxRecDepth 65536 in
set_option maxHeartbeats 40000000 in
theorem rm_law (l : Launch) {Z : State} {a0 : Array Value} (hw : ∀ d ∈ tables_1, d.before a0 Z = true) (ws : List Jvm.Cond) {A : Nat → Addr} {h0 : Heap} (W : own_W Z h0 A) (p0 : Int32) :
    own_Does l Z x code maxLocals ret ws room_1 #[(.int p0)] h0 (own_Q h0) := by
  refine own_body own_pn1 ?_
  intro p e s m below meth c T0 hx hby hml hret hlk hnm hown hZ X0 e0
  obtain ⟨i, hi, hj⟩ := own_nat (own_mod p0 34 34 (by decide) (by decide)).1 (own_mod p0 34 34 (by decide) (by decide)).2
  refine own_tr (XT.entry (Ls := #[.val (.int p0), .unset, .unset, .unset, .unset]) rfl) ?_
  show own_Goes p e below _ (T0.setTop (mkF m 0 #[.val (.int p0), .unset, .unset, .unset, .unset] []))
  refine own_by (fun _ zz => XS.bipush X0.here hx rfl (hb hby at_0) zz) ?_
  show own_Goes p e below _ (T0.setTop (mkF m 2 #[.val (.int p0), .unset, .unset, .unset, .unset] [(.int (34 : Int32))]))
  refine own_newRp (fun i => .ref (A i)) X0 hx hZ hown (own_w0 hw) (own_w1 hw) e0 (hb hby at_2) 34 (by decide) (by decide) (by decide) (by decide) fun T1 h1 X1 e1 E1 F1 => ?_
  have EE1 := own_Ext.trans (own_Ext.refl h0) E1
  have W1 := own_Wext W EE1
  show own_Goes p e below _ (T1.setTop (mkF m 5 #[.val (.int p0), .unset, .unset, .unset, .unset] [(.ref h0.size)]))
  refine own_by (fun _ zz => XS.dup X1.here hx rfl (hb hby at_5) rfl rfl zz) ?_
  show own_Goes p e below _ (T1.setTop (mkF m 6 #[.val (.int p0), .unset, .unset, .unset, .unset] [(.ref h0.size), (.ref h0.size)]))
  refine own_by (fun _ zz => XS.iconst X1.here hx rfl (hb hby at_6) zz) ?_
  show own_Goes p e below _ (T1.setTop (mkF m 7 #[.val (.int p0), .unset, .unset, .unset, .unset] [(.int (0 : Int32)), (.ref h0.size), (.ref h0.size)]))
  refine own_getS X1 hx hZ hown (own_w2 hw) e1 (own_f0 W1) (hb hby at_7) fun T2 X2 e2 => ?_
  show own_Goes p e below _ (T2.setTop (mkF m 10 #[.val (.int p0), .unset, .unset, .unset, .unset] [(.ref (A 0)), (.int (0 : Int32)), (.ref h0.size), (.ref h0.size)]))
  refine own_stRp (fun i => .ref (A i)) X2 hx hZ e2 (i := 0) F1 (Or.inr ⟨_, rfl, (own_f1 W1)⟩) rfl (by decide) (by decide) (hb hby at_10) fun T3 h3 X3 e3 Wr3 F3 => ?_
  have EE3 := own_Ext.wr EE1 Wr3 ((own_Ext.refl h0).1)
  have W3 := own_Wext W EE3
  have N3 := Fr.snoc X3 (Fr.nil h0.size) ((own_Ext.refl h0).1)
  show own_Goes p e below _ (T3.setTop (mkF m 11 #[.val (.int p0), .unset, .unset, .unset, .unset] [(.ref h0.size)]))
  refine own_by (fun _ zz => XS.dup X3.here hx rfl (hb hby at_11) rfl rfl zz) ?_
  show own_Goes p e below _ (T3.setTop (mkF m 12 #[.val (.int p0), .unset, .unset, .unset, .unset] [(.ref h0.size), (.ref h0.size)]))
  refine own_by (fun _ zz => XS.iconst X3.here hx rfl (hb hby at_12) zz) ?_
  show own_Goes p e below _ (T3.setTop (mkF m 13 #[.val (.int p0), .unset, .unset, .unset, .unset] [(.int (1 : Int32)), (.ref h0.size), (.ref h0.size)]))
  refine own_getS X3 hx hZ hown (own_w6 hw) e3 (own_f2 W3) (hb hby at_13) fun T5 X5 e5 => ?_
  show own_Goes p e below _ (T5.setTop (mkF m 16 #[.val (.int p0), .unset, .unset, .unset, .unset] [(.ref (A 1)), (.int (1 : Int32)), (.ref h0.size), (.ref h0.size)]))
  refine own_stRp (fun i => .ref (A i)) X5 hx hZ e5 (i := 1) F3 (Or.inr ⟨_, rfl, (own_f3 W3)⟩) rfl (by decide) (by decide) (hb hby at_16) fun T6 h6 X6 e6 Wr6 F6 => ?_
  have EE6 := own_Ext.wr EE3 Wr6 ((own_Ext.refl h0).1)
  have W6 := own_Wext W EE6
  have N6 := Fr.snoc X6 N3 ((own_Ext.refl h0).1)
  show own_Goes p e below _ (T6.setTop (mkF m 17 #[.val (.int p0), .unset, .unset, .unset, .unset] [(.ref h0.size)]))
  refine own_by (fun _ zz => XS.dup X6.here hx rfl (hb hby at_17) rfl rfl zz) ?_
  show own_Goes p e below _ (T6.setTop (mkF m 18 #[.val (.int p0), .unset, .unset, .unset, .unset] [(.ref h0.size), (.ref h0.size)]))
  refine own_by (fun _ zz => XS.iconst X6.here hx rfl (hb hby at_18) zz) ?_
  show own_Goes p e below _ (T6.setTop (mkF m 19 #[.val (.int p0), .unset, .unset, .unset, .unset] [(.int (2 : Int32)), (.ref h0.size), (.ref h0.size)]))
  refine own_getS X6 hx hZ hown (own_w8 hw) e6 (own_f4 W6) (hb hby at_19) fun T8 X8 e8 => ?_
  show own_Goes p e below _ (T8.setTop (mkF m 22 #[.val (.int p0), .unset, .unset, .unset, .unset] [(.ref (A 2)), (.int (2 : Int32)), (.ref h0.size), (.ref h0.size)]))
  refine own_stRp (fun i => .ref (A i)) X8 hx hZ e8 (i := 2) F6 (Or.inr ⟨_, rfl, (own_f5 W6)⟩) rfl (by decide) (by decide) (hb hby at_22) fun T9 h9 X9 e9 Wr9 F9 => ?_
  have EE9 := own_Ext.wr EE6 Wr9 ((own_Ext.refl h0).1)
  have W9 := own_Wext W EE9
  have N9 := Fr.snoc X9 N6 ((own_Ext.refl h0).1)
  show own_Goes p e below _ (T9.setTop (mkF m 23 #[.val (.int p0), .unset, .unset, .unset, .unset] [(.ref h0.size)]))
  refine own_by (fun _ zz => XS.dup X9.here hx rfl (hb hby at_23) rfl rfl zz) ?_
  show own_Goes p e below _ (T9.setTop (mkF m 24 #[.val (.int p0), .unset, .unset, .unset, .unset] [(.ref h0.size), (.ref h0.size)]))
  refine own_by (fun _ zz => XS.iconst X9.here hx rfl (hb hby at_24) zz) ?_
  show own_Goes p e below _ (T9.setTop (mkF m 25 #[.val (.int p0), .unset, .unset, .unset, .unset] [(.int (3 : Int32)), (.ref h0.size), (.ref h0.size)]))
  refine own_getS X9 hx hZ hown (own_w10 hw) e9 (own_f6 W9) (hb hby at_25) fun T11 X11 e11 => ?_
  show own_Goes p e below _ (T11.setTop (mkF m 28 #[.val (.int p0), .unset, .unset, .unset, .unset] [(.ref (A 3)), (.int (3 : Int32)), (.ref h0.size), (.ref h0.size)]))
  refine own_stRp (fun i => .ref (A i)) X11 hx hZ e11 (i := 3) F9 (Or.inr ⟨_, rfl, (own_f7 W9)⟩) rfl (by decide) (by decide) (hb hby at_28) fun T12 h12 X12 e12 Wr12 F12 => ?_
  have EE12 := own_Ext.wr EE9 Wr12 ((own_Ext.refl h0).1)
  have W12 := own_Wext W EE12
  have N12 := Fr.snoc X12 N9 ((own_Ext.refl h0).1)
  show own_Goes p e below _ (T12.setTop (mkF m 29 #[.val (.int p0), .unset, .unset, .unset, .unset] [(.ref h0.size)]))
  refine own_by (fun _ zz => XS.dup X12.here hx rfl (hb hby at_29) rfl rfl zz) ?_
  show own_Goes p e below _ (T12.setTop (mkF m 30 #[.val (.int p0), .unset, .unset, .unset, .unset] [(.ref h0.size), (.ref h0.size)]))
  refine own_by (fun _ zz => XS.iconst X12.here hx rfl (hb hby at_30) zz) ?_
  show own_Goes p e below _ (T12.setTop (mkF m 31 #[.val (.int p0), .unset, .unset, .unset, .unset] [(.int (4 : Int32)), (.ref h0.size), (.ref h0.size)]))
  refine own_getS X12 hx hZ hown (own_w12 hw) e12 (own_f8 W12) (hb hby at_31) fun T14 X14 e14 => ?_
  show own_Goes p e below _ (T14.setTop (mkF m 34 #[.val (.int p0), .unset, .unset, .unset, .unset] [(.ref (A 4)), (.int (4 : Int32)), (.ref h0.size), (.ref h0.size)]))
  refine own_stRp (fun i => .ref (A i)) X14 hx hZ e14 (i := 4) F12 (Or.inr ⟨_, rfl, (own_f9 W12)⟩) rfl (by decide) (by decide) (hb hby at_34) fun T15 h15 X15 e15 Wr15 F15 => ?_
  have EE15 := own_Ext.wr EE12 Wr15 ((own_Ext.refl h0).1)
  have W15 := own_Wext W EE15
  have N15 := Fr.snoc X15 N12 ((own_Ext.refl h0).1)
  show own_Goes p e below _ (T15.setTop (mkF m 35 #[.val (.int p0), .unset, .unset, .unset, .unset] [(.ref h0.size)]))
  refine own_by (fun _ zz => XS.dup X15.here hx rfl (hb hby at_35) rfl rfl zz) ?_
  show own_Goes p e below _ (T15.setTop (mkF m 36 #[.val (.int p0), .unset, .unset, .unset, .unset] [(.ref h0.size), (.ref h0.size)]))
  refine own_by (fun _ zz => XS.iconst X15.here hx rfl (hb hby at_36) zz) ?_
  show own_Goes p e below _ (T15.setTop (mkF m 37 #[.val (.int p0), .unset, .unset, .unset, .unset] [(.int (5 : Int32)), (.ref h0.size), (.ref h0.size)]))
  refine own_getS X15 hx hZ hown (own_w14 hw) e15 (own_f10 W15) (hb hby at_37) fun T17 X17 e17 => ?_
  show own_Goes p e below _ (T17.setTop (mkF m 40 #[.val (.int p0), .unset, .unset, .unset, .unset] [(.ref (A 5)), (.int (5 : Int32)), (.ref h0.size), (.ref h0.size)]))
  refine own_stRp (fun i => .ref (A i)) X17 hx hZ e17 (i := 5) F15 (Or.inr ⟨_, rfl, (own_f11 W15)⟩) rfl (by decide) (by decide) (hb hby at_40) fun T18 h18 X18 e18 Wr18 F18 => ?_
  have EE18 := own_Ext.wr EE15 Wr18 ((own_Ext.refl h0).1)
  have W18 := own_Wext W EE18
  have N18 := Fr.snoc X18 N15 ((own_Ext.refl h0).1)
  show own_Goes p e below _ (T18.setTop (mkF m 41 #[.val (.int p0), .unset, .unset, .unset, .unset] [(.ref h0.size)]))
  refine own_by (fun _ zz => XS.dup X18.here hx rfl (hb hby at_41) rfl rfl zz) ?_
  show own_Goes p e below _ (T18.setTop (mkF m 42 #[.val (.int p0), .unset, .unset, .unset, .unset] [(.ref h0.size), (.ref h0.size)]))
  refine own_by (fun _ zz => XS.bipush X18.here hx rfl (hb hby at_42) zz) ?_
  show own_Goes p e below _ (T18.setTop (mkF m 44 #[.val (.int p0), .unset, .unset, .unset, .unset] [(.int (6 : Int32)), (.ref h0.size), (.ref h0.size)]))
  refine own_getS X18 hx hZ hown (own_w16 hw) e18 (own_f12 W18) (hb hby at_44) fun T20 X20 e20 => ?_
  show own_Goes p e below _ (T20.setTop (mkF m 47 #[.val (.int p0), .unset, .unset, .unset, .unset] [(.ref (A 6)), (.int (6 : Int32)), (.ref h0.size), (.ref h0.size)]))
  refine own_stRp (fun i => .ref (A i)) X20 hx hZ e20 (i := 6) F18 (Or.inr ⟨_, rfl, (own_f13 W18)⟩) rfl (by decide) (by decide) (hb hby at_47) fun T21 h21 X21 e21 Wr21 F21 => ?_
  have EE21 := own_Ext.wr EE18 Wr21 ((own_Ext.refl h0).1)
  have W21 := own_Wext W EE21
  have N21 := Fr.snoc X21 N18 ((own_Ext.refl h0).1)
  show own_Goes p e below _ (T21.setTop (mkF m 48 #[.val (.int p0), .unset, .unset, .unset, .unset] [(.ref h0.size)]))
  refine own_by (fun _ zz => XS.dup X21.here hx rfl (hb hby at_48) rfl rfl zz) ?_
  show own_Goes p e below _ (T21.setTop (mkF m 49 #[.val (.int p0), .unset, .unset, .unset, .unset] [(.ref h0.size), (.ref h0.size)]))
  refine own_by (fun _ zz => XS.bipush X21.here hx rfl (hb hby at_49) zz) ?_
  show own_Goes p e below _ (T21.setTop (mkF m 51 #[.val (.int p0), .unset, .unset, .unset, .unset] [(.int (7 : Int32)), (.ref h0.size), (.ref h0.size)]))
  refine own_getS X21 hx hZ hown (own_w18 hw) e21 (own_f14 W21) (hb hby at_51) fun T23 X23 e23 => ?_
  show own_Goes p e below _ (T23.setTop (mkF m 54 #[.val (.int p0), .unset, .unset, .unset, .unset] [(.ref (A 7)), (.int (7 : Int32)), (.ref h0.size), (.ref h0.size)]))
  refine own_stRp (fun i => .ref (A i)) X23 hx hZ e23 (i := 7) F21 (Or.inr ⟨_, rfl, (own_f15 W21)⟩) rfl (by decide) (by decide) (hb hby at_54) fun T24 h24 X24 e24 Wr24 F24 => ?_
  have EE24 := own_Ext.wr EE21 Wr24 ((own_Ext.refl h0).1)
  have W24 := own_Wext W EE24
  have N24 := Fr.snoc X24 N21 ((own_Ext.refl h0).1)
  show own_Goes p e below _ (T24.setTop (mkF m 55 #[.val (.int p0), .unset, .unset, .unset, .unset] [(.ref h0.size)]))
  refine own_by (fun _ zz => XS.dup X24.here hx rfl (hb hby at_55) rfl rfl zz) ?_
  show own_Goes p e below _ (T24.setTop (mkF m 56 #[.val (.int p0), .unset, .unset, .unset, .unset] [(.ref h0.size), (.ref h0.size)]))
  refine own_by (fun _ zz => XS.bipush X24.here hx rfl (hb hby at_56) zz) ?_
  show own_Goes p e below _ (T24.setTop (mkF m 58 #[.val (.int p0), .unset, .unset, .unset, .unset] [(.int (8 : Int32)), (.ref h0.size), (.ref h0.size)]))
  refine own_getS X24 hx hZ hown (own_w20 hw) e24 (own_f16 W24) (hb hby at_58) fun T26 X26 e26 => ?_
  show own_Goes p e below _ (T26.setTop (mkF m 61 #[.val (.int p0), .unset, .unset, .unset, .unset] [(.ref (A 8)), (.int (8 : Int32)), (.ref h0.size), (.ref h0.size)]))
  refine own_stRp (fun i => .ref (A i)) X26 hx hZ e26 (i := 8) F24 (Or.inr ⟨_, rfl, (own_f17 W24)⟩) rfl (by decide) (by decide) (hb hby at_61) fun T27 h27 X27 e27 Wr27 F27 => ?_
  have EE27 := own_Ext.wr EE24 Wr27 ((own_Ext.refl h0).1)
  have W27 := own_Wext W EE27
  have N27 := Fr.snoc X27 N24 ((own_Ext.refl h0).1)
  show own_Goes p e below _ (T27.setTop (mkF m 62 #[.val (.int p0), .unset, .unset, .unset, .unset] [(.ref h0.size)]))
  refine own_by (fun _ zz => XS.dup X27.here hx rfl (hb hby at_62) rfl rfl zz) ?_
  show own_Goes p e below _ (T27.setTop (mkF m 63 #[.val (.int p0), .unset, .unset, .unset, .unset] [(.ref h0.size), (.ref h0.size)]))
  refine own_by (fun _ zz => XS.bipush X27.here hx rfl (hb hby at_63) zz) ?_
  show own_Goes p e below _ (T27.setTop (mkF m 65 #[.val (.int p0), .unset, .unset, .unset, .unset] [(.int (9 : Int32)), (.ref h0.size), (.ref h0.size)]))
  refine own_getS X27 hx hZ hown (own_w22 hw) e27 (own_f18 W27) (hb hby at_65) fun T29 X29 e29 => ?_
  show own_Goes p e below _ (T29.setTop (mkF m 68 #[.val (.int p0), .unset, .unset, .unset, .unset] [(.ref (A 9)), (.int (9 : Int32)), (.ref h0.size), (.ref h0.size)]))
  refine own_stRp (fun i => .ref (A i)) X29 hx hZ e29 (i := 9) F27 (Or.inr ⟨_, rfl, (own_f19 W27)⟩) rfl (by decide) (by decide) (hb hby at_68) fun T30 h30 X30 e30 Wr30 F30 => ?_
  have EE30 := own_Ext.wr EE27 Wr30 ((own_Ext.refl h0).1)
  have W30 := own_Wext W EE30
  have N30 := Fr.snoc X30 N27 ((own_Ext.refl h0).1)
  show own_Goes p e below _ (T30.setTop (mkF m 69 #[.val (.int p0), .unset, .unset, .unset, .unset] [(.ref h0.size)]))
  refine own_by (fun _ zz => XS.dup X30.here hx rfl (hb hby at_69) rfl rfl zz) ?_
  show own_Goes p e below _ (T30.setTop (mkF m 70 #[.val (.int p0), .unset, .unset, .unset, .unset] [(.ref h0.size), (.ref h0.size)]))
  refine own_by (fun _ zz => XS.bipush X30.here hx rfl (hb hby at_70) zz) ?_
  show own_Goes p e below _ (T30.setTop (mkF m 72 #[.val (.int p0), .unset, .unset, .unset, .unset] [(.int (10 : Int32)), (.ref h0.size), (.ref h0.size)]))
  refine own_getS X30 hx hZ hown (own_w24 hw) e30 (own_f20 W30) (hb hby at_72) fun T32 X32 e32 => ?_
  show own_Goes p e below _ (T32.setTop (mkF m 75 #[.val (.int p0), .unset, .unset, .unset, .unset] [(.ref (A 10)), (.int (10 : Int32)), (.ref h0.size), (.ref h0.size)]))
  refine own_stRp (fun i => .ref (A i)) X32 hx hZ e32 (i := 10) F30 (Or.inr ⟨_, rfl, (own_f21 W30)⟩) rfl (by decide) (by decide) (hb hby at_75) fun T33 h33 X33 e33 Wr33 F33 => ?_
  have EE33 := own_Ext.wr EE30 Wr33 ((own_Ext.refl h0).1)
  have W33 := own_Wext W EE33
  have N33 := Fr.snoc X33 N30 ((own_Ext.refl h0).1)
  show own_Goes p e below _ (T33.setTop (mkF m 76 #[.val (.int p0), .unset, .unset, .unset, .unset] [(.ref h0.size)]))
  refine own_by (fun _ zz => XS.dup X33.here hx rfl (hb hby at_76) rfl rfl zz) ?_
  show own_Goes p e below _ (T33.setTop (mkF m 77 #[.val (.int p0), .unset, .unset, .unset, .unset] [(.ref h0.size), (.ref h0.size)]))
  refine own_by (fun _ zz => XS.bipush X33.here hx rfl (hb hby at_77) zz) ?_
  show own_Goes p e below _ (T33.setTop (mkF m 79 #[.val (.int p0), .unset, .unset, .unset, .unset] [(.int (11 : Int32)), (.ref h0.size), (.ref h0.size)]))
  refine own_getS X33 hx hZ hown (own_w26 hw) e33 (own_f22 W33) (hb hby at_79) fun T35 X35 e35 => ?_
  show own_Goes p e below _ (T35.setTop (mkF m 82 #[.val (.int p0), .unset, .unset, .unset, .unset] [(.ref (A 11)), (.int (11 : Int32)), (.ref h0.size), (.ref h0.size)]))
  refine own_stRp (fun i => .ref (A i)) X35 hx hZ e35 (i := 11) F33 (Or.inr ⟨_, rfl, (own_f23 W33)⟩) rfl (by decide) (by decide) (hb hby at_82) fun T36 h36 X36 e36 Wr36 F36 => ?_
  have EE36 := own_Ext.wr EE33 Wr36 ((own_Ext.refl h0).1)
  have W36 := own_Wext W EE36
  have N36 := Fr.snoc X36 N33 ((own_Ext.refl h0).1)
  show own_Goes p e below _ (T36.setTop (mkF m 83 #[.val (.int p0), .unset, .unset, .unset, .unset] [(.ref h0.size)]))
  refine own_by (fun _ zz => XS.dup X36.here hx rfl (hb hby at_83) rfl rfl zz) ?_
  show own_Goes p e below _ (T36.setTop (mkF m 84 #[.val (.int p0), .unset, .unset, .unset, .unset] [(.ref h0.size), (.ref h0.size)]))
  refine own_by (fun _ zz => XS.bipush X36.here hx rfl (hb hby at_84) zz) ?_
  show own_Goes p e below _ (T36.setTop (mkF m 86 #[.val (.int p0), .unset, .unset, .unset, .unset] [(.int (12 : Int32)), (.ref h0.size), (.ref h0.size)]))
  refine own_getS X36 hx hZ hown (own_w28 hw) e36 (own_f24 W36) (hb hby at_86) fun T38 X38 e38 => ?_
  show own_Goes p e below _ (T38.setTop (mkF m 89 #[.val (.int p0), .unset, .unset, .unset, .unset] [(.ref (A 12)), (.int (12 : Int32)), (.ref h0.size), (.ref h0.size)]))
  refine own_stRp (fun i => .ref (A i)) X38 hx hZ e38 (i := 12) F36 (Or.inr ⟨_, rfl, (own_f25 W36)⟩) rfl (by decide) (by decide) (hb hby at_89) fun T39 h39 X39 e39 Wr39 F39 => ?_
  have EE39 := own_Ext.wr EE36 Wr39 ((own_Ext.refl h0).1)
  have W39 := own_Wext W EE39
  have N39 := Fr.snoc X39 N36 ((own_Ext.refl h0).1)
  show own_Goes p e below _ (T39.setTop (mkF m 90 #[.val (.int p0), .unset, .unset, .unset, .unset] [(.ref h0.size)]))
  refine own_by (fun _ zz => XS.dup X39.here hx rfl (hb hby at_90) rfl rfl zz) ?_
  show own_Goes p e below _ (T39.setTop (mkF m 91 #[.val (.int p0), .unset, .unset, .unset, .unset] [(.ref h0.size), (.ref h0.size)]))
  refine own_by (fun _ zz => XS.bipush X39.here hx rfl (hb hby at_91) zz) ?_
  show own_Goes p e below _ (T39.setTop (mkF m 93 #[.val (.int p0), .unset, .unset, .unset, .unset] [(.int (13 : Int32)), (.ref h0.size), (.ref h0.size)]))
  refine own_getS X39 hx hZ hown (own_w30 hw) e39 (own_f26 W39) (hb hby at_93) fun T41 X41 e41 => ?_
  show own_Goes p e below _ (T41.setTop (mkF m 96 #[.val (.int p0), .unset, .unset, .unset, .unset] [(.ref (A 13)), (.int (13 : Int32)), (.ref h0.size), (.ref h0.size)]))
  refine own_stRp (fun i => .ref (A i)) X41 hx hZ e41 (i := 13) F39 (Or.inr ⟨_, rfl, (own_f27 W39)⟩) rfl (by decide) (by decide) (hb hby at_96) fun T42 h42 X42 e42 Wr42 F42 => ?_
  have EE42 := own_Ext.wr EE39 Wr42 ((own_Ext.refl h0).1)
  have W42 := own_Wext W EE42
  have N42 := Fr.snoc X42 N39 ((own_Ext.refl h0).1)
  show own_Goes p e below _ (T42.setTop (mkF m 97 #[.val (.int p0), .unset, .unset, .unset, .unset] [(.ref h0.size)]))
  refine own_by (fun _ zz => XS.dup X42.here hx rfl (hb hby at_97) rfl rfl zz) ?_
  show own_Goes p e below _ (T42.setTop (mkF m 98 #[.val (.int p0), .unset, .unset, .unset, .unset] [(.ref h0.size), (.ref h0.size)]))
  refine own_by (fun _ zz => XS.bipush X42.here hx rfl (hb hby at_98) zz) ?_
  show own_Goes p e below _ (T42.setTop (mkF m 100 #[.val (.int p0), .unset, .unset, .unset, .unset] [(.int (14 : Int32)), (.ref h0.size), (.ref h0.size)]))
  refine own_getS X42 hx hZ hown (own_w32 hw) e42 (own_f28 W42) (hb hby at_100) fun T44 X44 e44 => ?_
  show own_Goes p e below _ (T44.setTop (mkF m 103 #[.val (.int p0), .unset, .unset, .unset, .unset] [(.ref (A 14)), (.int (14 : Int32)), (.ref h0.size), (.ref h0.size)]))
  refine own_stRp (fun i => .ref (A i)) X44 hx hZ e44 (i := 14) F42 (Or.inr ⟨_, rfl, (own_f29 W42)⟩) rfl (by decide) (by decide) (hb hby at_103) fun T45 h45 X45 e45 Wr45 F45 => ?_
  have EE45 := own_Ext.wr EE42 Wr45 ((own_Ext.refl h0).1)
  have W45 := own_Wext W EE45
  have N45 := Fr.snoc X45 N42 ((own_Ext.refl h0).1)
  show own_Goes p e below _ (T45.setTop (mkF m 104 #[.val (.int p0), .unset, .unset, .unset, .unset] [(.ref h0.size)]))
  refine own_by (fun _ zz => XS.dup X45.here hx rfl (hb hby at_104) rfl rfl zz) ?_
  show own_Goes p e below _ (T45.setTop (mkF m 105 #[.val (.int p0), .unset, .unset, .unset, .unset] [(.ref h0.size), (.ref h0.size)]))
  refine own_by (fun _ zz => XS.bipush X45.here hx rfl (hb hby at_105) zz) ?_
  show own_Goes p e below _ (T45.setTop (mkF m 107 #[.val (.int p0), .unset, .unset, .unset, .unset] [(.int (15 : Int32)), (.ref h0.size), (.ref h0.size)]))
  refine own_getS X45 hx hZ hown (own_w34 hw) e45 (own_f30 W45) (hb hby at_107) fun T47 X47 e47 => ?_
  show own_Goes p e below _ (T47.setTop (mkF m 110 #[.val (.int p0), .unset, .unset, .unset, .unset] [(.ref (A 15)), (.int (15 : Int32)), (.ref h0.size), (.ref h0.size)]))
  refine own_stRp (fun i => .ref (A i)) X47 hx hZ e47 (i := 15) F45 (Or.inr ⟨_, rfl, (own_f31 W45)⟩) rfl (by decide) (by decide) (hb hby at_110) fun T48 h48 X48 e48 Wr48 F48 => ?_
  have EE48 := own_Ext.wr EE45 Wr48 ((own_Ext.refl h0).1)
  have W48 := own_Wext W EE48
  have N48 := Fr.snoc X48 N45 ((own_Ext.refl h0).1)
  show own_Goes p e below _ (T48.setTop (mkF m 111 #[.val (.int p0), .unset, .unset, .unset, .unset] [(.ref h0.size)]))
  refine own_by (fun _ zz => XS.dup X48.here hx rfl (hb hby at_111) rfl rfl zz) ?_
  show own_Goes p e below _ (T48.setTop (mkF m 112 #[.val (.int p0), .unset, .unset, .unset, .unset] [(.ref h0.size), (.ref h0.size)]))
  refine own_by (fun _ zz => XS.bipush X48.here hx rfl (hb hby at_112) zz) ?_
  show own_Goes p e below _ (T48.setTop (mkF m 114 #[.val (.int p0), .unset, .unset, .unset, .unset] [(.int (16 : Int32)), (.ref h0.size), (.ref h0.size)]))
  refine own_getS X48 hx hZ hown (own_w36 hw) e48 (own_f32 W48) (hb hby at_114) fun T50 X50 e50 => ?_
  show own_Goes p e below _ (T50.setTop (mkF m 117 #[.val (.int p0), .unset, .unset, .unset, .unset] [(.ref (A 16)), (.int (16 : Int32)), (.ref h0.size), (.ref h0.size)]))
  refine own_stRp (fun i => .ref (A i)) X50 hx hZ e50 (i := 16) F48 (Or.inr ⟨_, rfl, (own_f33 W48)⟩) rfl (by decide) (by decide) (hb hby at_117) fun T51 h51 X51 e51 Wr51 F51 => ?_
  have EE51 := own_Ext.wr EE48 Wr51 ((own_Ext.refl h0).1)
  have W51 := own_Wext W EE51
  have N51 := Fr.snoc X51 N48 ((own_Ext.refl h0).1)
  show own_Goes p e below _ (T51.setTop (mkF m 118 #[.val (.int p0), .unset, .unset, .unset, .unset] [(.ref h0.size)]))
  refine own_by (fun _ zz => XS.dup X51.here hx rfl (hb hby at_118) rfl rfl zz) ?_
  show own_Goes p e below _ (T51.setTop (mkF m 119 #[.val (.int p0), .unset, .unset, .unset, .unset] [(.ref h0.size), (.ref h0.size)]))
  refine own_by (fun _ zz => XS.bipush X51.here hx rfl (hb hby at_119) zz) ?_
  show own_Goes p e below _ (T51.setTop (mkF m 121 #[.val (.int p0), .unset, .unset, .unset, .unset] [(.int (17 : Int32)), (.ref h0.size), (.ref h0.size)]))
  refine own_getS X51 hx hZ hown (own_w38 hw) e51 (own_f34 W51) (hb hby at_121) fun T53 X53 e53 => ?_
  show own_Goes p e below _ (T53.setTop (mkF m 124 #[.val (.int p0), .unset, .unset, .unset, .unset] [(.ref (A 17)), (.int (17 : Int32)), (.ref h0.size), (.ref h0.size)]))
  refine own_stRp (fun i => .ref (A i)) X53 hx hZ e53 (i := 17) F51 (Or.inr ⟨_, rfl, (own_f35 W51)⟩) rfl (by decide) (by decide) (hb hby at_124) fun T54 h54 X54 e54 Wr54 F54 => ?_
  have EE54 := own_Ext.wr EE51 Wr54 ((own_Ext.refl h0).1)
  have W54 := own_Wext W EE54
  have N54 := Fr.snoc X54 N51 ((own_Ext.refl h0).1)
  show own_Goes p e below _ (T54.setTop (mkF m 125 #[.val (.int p0), .unset, .unset, .unset, .unset] [(.ref h0.size)]))
  refine own_by (fun _ zz => XS.dup X54.here hx rfl (hb hby at_125) rfl rfl zz) ?_
  show own_Goes p e below _ (T54.setTop (mkF m 126 #[.val (.int p0), .unset, .unset, .unset, .unset] [(.ref h0.size), (.ref h0.size)]))
  refine own_by (fun _ zz => XS.bipush X54.here hx rfl (hb hby at_126) zz) ?_
  show own_Goes p e below _ (T54.setTop (mkF m 128 #[.val (.int p0), .unset, .unset, .unset, .unset] [(.int (18 : Int32)), (.ref h0.size), (.ref h0.size)]))
  refine own_getS X54 hx hZ hown (own_w40 hw) e54 (own_f36 W54) (hb hby at_128) fun T56 X56 e56 => ?_
  show own_Goes p e below _ (T56.setTop (mkF m 131 #[.val (.int p0), .unset, .unset, .unset, .unset] [(.ref (A 18)), (.int (18 : Int32)), (.ref h0.size), (.ref h0.size)]))
  refine own_stRp (fun i => .ref (A i)) X56 hx hZ e56 (i := 18) F54 (Or.inr ⟨_, rfl, (own_f37 W54)⟩) rfl (by decide) (by decide) (hb hby at_131) fun T57 h57 X57 e57 Wr57 F57 => ?_
  have EE57 := own_Ext.wr EE54 Wr57 ((own_Ext.refl h0).1)
  have W57 := own_Wext W EE57
  have N57 := Fr.snoc X57 N54 ((own_Ext.refl h0).1)
  show own_Goes p e below _ (T57.setTop (mkF m 132 #[.val (.int p0), .unset, .unset, .unset, .unset] [(.ref h0.size)]))
  refine own_by (fun _ zz => XS.dup X57.here hx rfl (hb hby at_132) rfl rfl zz) ?_
  show own_Goes p e below _ (T57.setTop (mkF m 133 #[.val (.int p0), .unset, .unset, .unset, .unset] [(.ref h0.size), (.ref h0.size)]))
  refine own_by (fun _ zz => XS.bipush X57.here hx rfl (hb hby at_133) zz) ?_
  show own_Goes p e below _ (T57.setTop (mkF m 135 #[.val (.int p0), .unset, .unset, .unset, .unset] [(.int (19 : Int32)), (.ref h0.size), (.ref h0.size)]))
  refine own_getS X57 hx hZ hown (own_w42 hw) e57 (own_f38 W57) (hb hby at_135) fun T59 X59 e59 => ?_
  show own_Goes p e below _ (T59.setTop (mkF m 138 #[.val (.int p0), .unset, .unset, .unset, .unset] [(.ref (A 19)), (.int (19 : Int32)), (.ref h0.size), (.ref h0.size)]))
  refine own_stRp (fun i => .ref (A i)) X59 hx hZ e59 (i := 19) F57 (Or.inr ⟨_, rfl, (own_f39 W57)⟩) rfl (by decide) (by decide) (hb hby at_138) fun T60 h60 X60 e60 Wr60 F60 => ?_
  have EE60 := own_Ext.wr EE57 Wr60 ((own_Ext.refl h0).1)
  have W60 := own_Wext W EE60
  have N60 := Fr.snoc X60 N57 ((own_Ext.refl h0).1)
  show own_Goes p e below _ (T60.setTop (mkF m 139 #[.val (.int p0), .unset, .unset, .unset, .unset] [(.ref h0.size)]))
  refine own_by (fun _ zz => XS.dup X60.here hx rfl (hb hby at_139) rfl rfl zz) ?_
  show own_Goes p e below _ (T60.setTop (mkF m 140 #[.val (.int p0), .unset, .unset, .unset, .unset] [(.ref h0.size), (.ref h0.size)]))
  refine own_by (fun _ zz => XS.bipush X60.here hx rfl (hb hby at_140) zz) ?_
  show own_Goes p e below _ (T60.setTop (mkF m 142 #[.val (.int p0), .unset, .unset, .unset, .unset] [(.int (20 : Int32)), (.ref h0.size), (.ref h0.size)]))
  refine own_getS X60 hx hZ hown (own_w44 hw) e60 (own_f40 W60) (hb hby at_142) fun T62 X62 e62 => ?_
  show own_Goes p e below _ (T62.setTop (mkF m 145 #[.val (.int p0), .unset, .unset, .unset, .unset] [(.ref (A 20)), (.int (20 : Int32)), (.ref h0.size), (.ref h0.size)]))
  refine own_stRp (fun i => .ref (A i)) X62 hx hZ e62 (i := 20) F60 (Or.inr ⟨_, rfl, (own_f41 W60)⟩) rfl (by decide) (by decide) (hb hby at_145) fun T63 h63 X63 e63 Wr63 F63 => ?_
  have EE63 := own_Ext.wr EE60 Wr63 ((own_Ext.refl h0).1)
  have W63 := own_Wext W EE63
  have N63 := Fr.snoc X63 N60 ((own_Ext.refl h0).1)
  show own_Goes p e below _ (T63.setTop (mkF m 146 #[.val (.int p0), .unset, .unset, .unset, .unset] [(.ref h0.size)]))
  refine own_by (fun _ zz => XS.dup X63.here hx rfl (hb hby at_146) rfl rfl zz) ?_
  show own_Goes p e below _ (T63.setTop (mkF m 147 #[.val (.int p0), .unset, .unset, .unset, .unset] [(.ref h0.size), (.ref h0.size)]))
  refine own_by (fun _ zz => XS.bipush X63.here hx rfl (hb hby at_147) zz) ?_
  show own_Goes p e below _ (T63.setTop (mkF m 149 #[.val (.int p0), .unset, .unset, .unset, .unset] [(.int (21 : Int32)), (.ref h0.size), (.ref h0.size)]))
  refine own_getS X63 hx hZ hown (own_w46 hw) e63 (own_f42 W63) (hb hby at_149) fun T65 X65 e65 => ?_
  show own_Goes p e below _ (T65.setTop (mkF m 152 #[.val (.int p0), .unset, .unset, .unset, .unset] [(.ref (A 21)), (.int (21 : Int32)), (.ref h0.size), (.ref h0.size)]))
  refine own_stRp (fun i => .ref (A i)) X65 hx hZ e65 (i := 21) F63 (Or.inr ⟨_, rfl, (own_f43 W63)⟩) rfl (by decide) (by decide) (hb hby at_152) fun T66 h66 X66 e66 Wr66 F66 => ?_
  have EE66 := own_Ext.wr EE63 Wr66 ((own_Ext.refl h0).1)
  have W66 := own_Wext W EE66
  have N66 := Fr.snoc X66 N63 ((own_Ext.refl h0).1)
  show own_Goes p e below _ (T66.setTop (mkF m 153 #[.val (.int p0), .unset, .unset, .unset, .unset] [(.ref h0.size)]))
  refine own_by (fun _ zz => XS.dup X66.here hx rfl (hb hby at_153) rfl rfl zz) ?_
  show own_Goes p e below _ (T66.setTop (mkF m 154 #[.val (.int p0), .unset, .unset, .unset, .unset] [(.ref h0.size), (.ref h0.size)]))
  refine own_by (fun _ zz => XS.bipush X66.here hx rfl (hb hby at_154) zz) ?_
  show own_Goes p e below _ (T66.setTop (mkF m 156 #[.val (.int p0), .unset, .unset, .unset, .unset] [(.int (22 : Int32)), (.ref h0.size), (.ref h0.size)]))
  refine own_getS X66 hx hZ hown (own_w48 hw) e66 (own_f44 W66) (hb hby at_156) fun T68 X68 e68 => ?_
  show own_Goes p e below _ (T68.setTop (mkF m 159 #[.val (.int p0), .unset, .unset, .unset, .unset] [(.ref (A 22)), (.int (22 : Int32)), (.ref h0.size), (.ref h0.size)]))
  refine own_stRp (fun i => .ref (A i)) X68 hx hZ e68 (i := 22) F66 (Or.inr ⟨_, rfl, (own_f45 W66)⟩) rfl (by decide) (by decide) (hb hby at_159) fun T69 h69 X69 e69 Wr69 F69 => ?_
  have EE69 := own_Ext.wr EE66 Wr69 ((own_Ext.refl h0).1)
  have W69 := own_Wext W EE69
  have N69 := Fr.snoc X69 N66 ((own_Ext.refl h0).1)
  show own_Goes p e below _ (T69.setTop (mkF m 160 #[.val (.int p0), .unset, .unset, .unset, .unset] [(.ref h0.size)]))
  refine own_by (fun _ zz => XS.dup X69.here hx rfl (hb hby at_160) rfl rfl zz) ?_
  show own_Goes p e below _ (T69.setTop (mkF m 161 #[.val (.int p0), .unset, .unset, .unset, .unset] [(.ref h0.size), (.ref h0.size)]))
  refine own_by (fun _ zz => XS.bipush X69.here hx rfl (hb hby at_161) zz) ?_
  show own_Goes p e below _ (T69.setTop (mkF m 163 #[.val (.int p0), .unset, .unset, .unset, .unset] [(.int (23 : Int32)), (.ref h0.size), (.ref h0.size)]))
  refine own_getS X69 hx hZ hown (own_w50 hw) e69 (own_f46 W69) (hb hby at_163) fun T71 X71 e71 => ?_
  show own_Goes p e below _ (T71.setTop (mkF m 166 #[.val (.int p0), .unset, .unset, .unset, .unset] [(.ref (A 23)), (.int (23 : Int32)), (.ref h0.size), (.ref h0.size)]))
  refine own_stRp (fun i => .ref (A i)) X71 hx hZ e71 (i := 23) F69 (Or.inr ⟨_, rfl, (own_f47 W69)⟩) rfl (by decide) (by decide) (hb hby at_166) fun T72 h72 X72 e72 Wr72 F72 => ?_
  have EE72 := own_Ext.wr EE69 Wr72 ((own_Ext.refl h0).1)
  have W72 := own_Wext W EE72
  have N72 := Fr.snoc X72 N69 ((own_Ext.refl h0).1)
  show own_Goes p e below _ (T72.setTop (mkF m 167 #[.val (.int p0), .unset, .unset, .unset, .unset] [(.ref h0.size)]))
  refine own_by (fun _ zz => XS.dup X72.here hx rfl (hb hby at_167) rfl rfl zz) ?_
  show own_Goes p e below _ (T72.setTop (mkF m 168 #[.val (.int p0), .unset, .unset, .unset, .unset] [(.ref h0.size), (.ref h0.size)]))
  refine own_by (fun _ zz => XS.bipush X72.here hx rfl (hb hby at_168) zz) ?_
  show own_Goes p e below _ (T72.setTop (mkF m 170 #[.val (.int p0), .unset, .unset, .unset, .unset] [(.int (24 : Int32)), (.ref h0.size), (.ref h0.size)]))
  refine own_getS X72 hx hZ hown (own_w52 hw) e72 (own_f48 W72) (hb hby at_170) fun T74 X74 e74 => ?_
  show own_Goes p e below _ (T74.setTop (mkF m 173 #[.val (.int p0), .unset, .unset, .unset, .unset] [(.ref (A 24)), (.int (24 : Int32)), (.ref h0.size), (.ref h0.size)]))
  refine own_stRp (fun i => .ref (A i)) X74 hx hZ e74 (i := 24) F72 (Or.inr ⟨_, rfl, (own_f49 W72)⟩) rfl (by decide) (by decide) (hb hby at_173) fun T75 h75 X75 e75 Wr75 F75 => ?_
  have EE75 := own_Ext.wr EE72 Wr75 ((own_Ext.refl h0).1)
  have W75 := own_Wext W EE75
  have N75 := Fr.snoc X75 N72 ((own_Ext.refl h0).1)
  show own_Goes p e below _ (T75.setTop (mkF m 174 #[.val (.int p0), .unset, .unset, .unset, .unset] [(.ref h0.size)]))
  refine own_by (fun _ zz => XS.dup X75.here hx rfl (hb hby at_174) rfl rfl zz) ?_
  show own_Goes p e below _ (T75.setTop (mkF m 175 #[.val (.int p0), .unset, .unset, .unset, .unset] [(.ref h0.size), (.ref h0.size)]))
  refine own_by (fun _ zz => XS.bipush X75.here hx rfl (hb hby at_175) zz) ?_
  show own_Goes p e below _ (T75.setTop (mkF m 177 #[.val (.int p0), .unset, .unset, .unset, .unset] [(.int (25 : Int32)), (.ref h0.size), (.ref h0.size)]))
  refine own_getS X75 hx hZ hown (own_w54 hw) e75 (own_f50 W75) (hb hby at_177) fun T77 X77 e77 => ?_
  show own_Goes p e below _ (T77.setTop (mkF m 180 #[.val (.int p0), .unset, .unset, .unset, .unset] [(.ref (A 25)), (.int (25 : Int32)), (.ref h0.size), (.ref h0.size)]))
  refine own_stRp (fun i => .ref (A i)) X77 hx hZ e77 (i := 25) F75 (Or.inr ⟨_, rfl, (own_f51 W75)⟩) rfl (by decide) (by decide) (hb hby at_180) fun T78 h78 X78 e78 Wr78 F78 => ?_
  have EE78 := own_Ext.wr EE75 Wr78 ((own_Ext.refl h0).1)
  have W78 := own_Wext W EE78
  have N78 := Fr.snoc X78 N75 ((own_Ext.refl h0).1)
  show own_Goes p e below _ (T78.setTop (mkF m 181 #[.val (.int p0), .unset, .unset, .unset, .unset] [(.ref h0.size)]))
  refine own_by (fun _ zz => XS.dup X78.here hx rfl (hb hby at_181) rfl rfl zz) ?_
  show own_Goes p e below _ (T78.setTop (mkF m 182 #[.val (.int p0), .unset, .unset, .unset, .unset] [(.ref h0.size), (.ref h0.size)]))
  refine own_by (fun _ zz => XS.bipush X78.here hx rfl (hb hby at_182) zz) ?_
  show own_Goes p e below _ (T78.setTop (mkF m 184 #[.val (.int p0), .unset, .unset, .unset, .unset] [(.int (26 : Int32)), (.ref h0.size), (.ref h0.size)]))
  refine own_getS X78 hx hZ hown (own_w56 hw) e78 (own_f52 W78) (hb hby at_184) fun T80 X80 e80 => ?_
  show own_Goes p e below _ (T80.setTop (mkF m 187 #[.val (.int p0), .unset, .unset, .unset, .unset] [(.ref (A 26)), (.int (26 : Int32)), (.ref h0.size), (.ref h0.size)]))
  refine own_stRp (fun i => .ref (A i)) X80 hx hZ e80 (i := 26) F78 (Or.inr ⟨_, rfl, (own_f53 W78)⟩) rfl (by decide) (by decide) (hb hby at_187) fun T81 h81 X81 e81 Wr81 F81 => ?_
  have EE81 := own_Ext.wr EE78 Wr81 ((own_Ext.refl h0).1)
  have W81 := own_Wext W EE81
  have N81 := Fr.snoc X81 N78 ((own_Ext.refl h0).1)
  show own_Goes p e below _ (T81.setTop (mkF m 188 #[.val (.int p0), .unset, .unset, .unset, .unset] [(.ref h0.size)]))
  refine own_by (fun _ zz => XS.dup X81.here hx rfl (hb hby at_188) rfl rfl zz) ?_
  show own_Goes p e below _ (T81.setTop (mkF m 189 #[.val (.int p0), .unset, .unset, .unset, .unset] [(.ref h0.size), (.ref h0.size)]))
  refine own_by (fun _ zz => XS.bipush X81.here hx rfl (hb hby at_189) zz) ?_
  show own_Goes p e below _ (T81.setTop (mkF m 191 #[.val (.int p0), .unset, .unset, .unset, .unset] [(.int (27 : Int32)), (.ref h0.size), (.ref h0.size)]))
  refine own_getS X81 hx hZ hown (own_w58 hw) e81 (own_f54 W81) (hb hby at_191) fun T83 X83 e83 => ?_
  show own_Goes p e below _ (T83.setTop (mkF m 194 #[.val (.int p0), .unset, .unset, .unset, .unset] [(.ref (A 27)), (.int (27 : Int32)), (.ref h0.size), (.ref h0.size)]))
  refine own_stRp (fun i => .ref (A i)) X83 hx hZ e83 (i := 27) F81 (Or.inr ⟨_, rfl, (own_f55 W81)⟩) rfl (by decide) (by decide) (hb hby at_194) fun T84 h84 X84 e84 Wr84 F84 => ?_
  have EE84 := own_Ext.wr EE81 Wr84 ((own_Ext.refl h0).1)
  have W84 := own_Wext W EE84
  have N84 := Fr.snoc X84 N81 ((own_Ext.refl h0).1)
  show own_Goes p e below _ (T84.setTop (mkF m 195 #[.val (.int p0), .unset, .unset, .unset, .unset] [(.ref h0.size)]))
  refine own_by (fun _ zz => XS.dup X84.here hx rfl (hb hby at_195) rfl rfl zz) ?_
  show own_Goes p e below _ (T84.setTop (mkF m 196 #[.val (.int p0), .unset, .unset, .unset, .unset] [(.ref h0.size), (.ref h0.size)]))
  refine own_by (fun _ zz => XS.bipush X84.here hx rfl (hb hby at_196) zz) ?_
  show own_Goes p e below _ (T84.setTop (mkF m 198 #[.val (.int p0), .unset, .unset, .unset, .unset] [(.int (28 : Int32)), (.ref h0.size), (.ref h0.size)]))
  refine own_getS X84 hx hZ hown (own_w60 hw) e84 (own_f56 W84) (hb hby at_198) fun T86 X86 e86 => ?_
  show own_Goes p e below _ (T86.setTop (mkF m 201 #[.val (.int p0), .unset, .unset, .unset, .unset] [(.ref (A 28)), (.int (28 : Int32)), (.ref h0.size), (.ref h0.size)]))
  refine own_stRp (fun i => .ref (A i)) X86 hx hZ e86 (i := 28) F84 (Or.inr ⟨_, rfl, (own_f57 W84)⟩) rfl (by decide) (by decide) (hb hby at_201) fun T87 h87 X87 e87 Wr87 F87 => ?_
  have EE87 := own_Ext.wr EE84 Wr87 ((own_Ext.refl h0).1)
  have W87 := own_Wext W EE87
  have N87 := Fr.snoc X87 N84 ((own_Ext.refl h0).1)
  show own_Goes p e below _ (T87.setTop (mkF m 202 #[.val (.int p0), .unset, .unset, .unset, .unset] [(.ref h0.size)]))
  refine own_by (fun _ zz => XS.dup X87.here hx rfl (hb hby at_202) rfl rfl zz) ?_
  show own_Goes p e below _ (T87.setTop (mkF m 203 #[.val (.int p0), .unset, .unset, .unset, .unset] [(.ref h0.size), (.ref h0.size)]))
  refine own_by (fun _ zz => XS.bipush X87.here hx rfl (hb hby at_203) zz) ?_
  show own_Goes p e below _ (T87.setTop (mkF m 205 #[.val (.int p0), .unset, .unset, .unset, .unset] [(.int (29 : Int32)), (.ref h0.size), (.ref h0.size)]))
  refine own_getS X87 hx hZ hown (own_w62 hw) e87 (own_f58 W87) (hb hby at_205) fun T89 X89 e89 => ?_
  show own_Goes p e below _ (T89.setTop (mkF m 208 #[.val (.int p0), .unset, .unset, .unset, .unset] [(.ref (A 29)), (.int (29 : Int32)), (.ref h0.size), (.ref h0.size)]))
  refine own_stRp (fun i => .ref (A i)) X89 hx hZ e89 (i := 29) F87 (Or.inr ⟨_, rfl, (own_f59 W87)⟩) rfl (by decide) (by decide) (hb hby at_208) fun T90 h90 X90 e90 Wr90 F90 => ?_
  have EE90 := own_Ext.wr EE87 Wr90 ((own_Ext.refl h0).1)
  have W90 := own_Wext W EE90
  have N90 := Fr.snoc X90 N87 ((own_Ext.refl h0).1)
  show own_Goes p e below _ (T90.setTop (mkF m 209 #[.val (.int p0), .unset, .unset, .unset, .unset] [(.ref h0.size)]))
  refine own_by (fun _ zz => XS.dup X90.here hx rfl (hb hby at_209) rfl rfl zz) ?_
  show own_Goes p e below _ (T90.setTop (mkF m 210 #[.val (.int p0), .unset, .unset, .unset, .unset] [(.ref h0.size), (.ref h0.size)]))
  refine own_by (fun _ zz => XS.bipush X90.here hx rfl (hb hby at_210) zz) ?_
  show own_Goes p e below _ (T90.setTop (mkF m 212 #[.val (.int p0), .unset, .unset, .unset, .unset] [(.int (30 : Int32)), (.ref h0.size), (.ref h0.size)]))
  refine own_getS X90 hx hZ hown (own_w64 hw) e90 (own_f60 W90) (hb hby at_212) fun T92 X92 e92 => ?_
  show own_Goes p e below _ (T92.setTop (mkF m 215 #[.val (.int p0), .unset, .unset, .unset, .unset] [(.ref (A 30)), (.int (30 : Int32)), (.ref h0.size), (.ref h0.size)]))
  refine own_stRp (fun i => .ref (A i)) X92 hx hZ e92 (i := 30) F90 (Or.inr ⟨_, rfl, (own_f61 W90)⟩) rfl (by decide) (by decide) (hb hby at_215) fun T93 h93 X93 e93 Wr93 F93 => ?_
  have EE93 := own_Ext.wr EE90 Wr93 ((own_Ext.refl h0).1)
  have W93 := own_Wext W EE93
  have N93 := Fr.snoc X93 N90 ((own_Ext.refl h0).1)
  show own_Goes p e below _ (T93.setTop (mkF m 216 #[.val (.int p0), .unset, .unset, .unset, .unset] [(.ref h0.size)]))
  refine own_by (fun _ zz => XS.dup X93.here hx rfl (hb hby at_216) rfl rfl zz) ?_
  show own_Goes p e below _ (T93.setTop (mkF m 217 #[.val (.int p0), .unset, .unset, .unset, .unset] [(.ref h0.size), (.ref h0.size)]))
  refine own_by (fun _ zz => XS.bipush X93.here hx rfl (hb hby at_217) zz) ?_
  show own_Goes p e below _ (T93.setTop (mkF m 219 #[.val (.int p0), .unset, .unset, .unset, .unset] [(.int (31 : Int32)), (.ref h0.size), (.ref h0.size)]))
  refine own_getS X93 hx hZ hown (own_w66 hw) e93 (own_f62 W93) (hb hby at_219) fun T95 X95 e95 => ?_
  show own_Goes p e below _ (T95.setTop (mkF m 222 #[.val (.int p0), .unset, .unset, .unset, .unset] [(.ref (A 31)), (.int (31 : Int32)), (.ref h0.size), (.ref h0.size)]))
  refine own_stRp (fun i => .ref (A i)) X95 hx hZ e95 (i := 31) F93 (Or.inr ⟨_, rfl, (own_f63 W93)⟩) rfl (by decide) (by decide) (hb hby at_222) fun T96 h96 X96 e96 Wr96 F96 => ?_
  have EE96 := own_Ext.wr EE93 Wr96 ((own_Ext.refl h0).1)
  have W96 := own_Wext W EE96
  have N96 := Fr.snoc X96 N93 ((own_Ext.refl h0).1)
  show own_Goes p e below _ (T96.setTop (mkF m 223 #[.val (.int p0), .unset, .unset, .unset, .unset] [(.ref h0.size)]))
  refine own_by (fun _ zz => XS.dup X96.here hx rfl (hb hby at_223) rfl rfl zz) ?_
  show own_Goes p e below _ (T96.setTop (mkF m 224 #[.val (.int p0), .unset, .unset, .unset, .unset] [(.ref h0.size), (.ref h0.size)]))
  refine own_by (fun _ zz => XS.bipush X96.here hx rfl (hb hby at_224) zz) ?_
  show own_Goes p e below _ (T96.setTop (mkF m 226 #[.val (.int p0), .unset, .unset, .unset, .unset] [(.int (32 : Int32)), (.ref h0.size), (.ref h0.size)]))
  refine own_getS X96 hx hZ hown (own_w68 hw) e96 (own_f64 W96) (hb hby at_226) fun T98 X98 e98 => ?_
  show own_Goes p e below _ (T98.setTop (mkF m 229 #[.val (.int p0), .unset, .unset, .unset, .unset] [(.ref (A 32)), (.int (32 : Int32)), (.ref h0.size), (.ref h0.size)]))
  refine own_stRp (fun i => .ref (A i)) X98 hx hZ e98 (i := 32) F96 (Or.inr ⟨_, rfl, (own_f65 W96)⟩) rfl (by decide) (by decide) (hb hby at_229) fun T99 h99 X99 e99 Wr99 F99 => ?_
  have EE99 := own_Ext.wr EE96 Wr99 ((own_Ext.refl h0).1)
  have W99 := own_Wext W EE99
  have N99 := Fr.snoc X99 N96 ((own_Ext.refl h0).1)
  show own_Goes p e below _ (T99.setTop (mkF m 230 #[.val (.int p0), .unset, .unset, .unset, .unset] [(.ref h0.size)]))
  refine own_by (fun _ zz => XS.dup X99.here hx rfl (hb hby at_230) rfl rfl zz) ?_
  show own_Goes p e below _ (T99.setTop (mkF m 231 #[.val (.int p0), .unset, .unset, .unset, .unset] [(.ref h0.size), (.ref h0.size)]))
  refine own_by (fun _ zz => XS.bipush X99.here hx rfl (hb hby at_231) zz) ?_
  show own_Goes p e below _ (T99.setTop (mkF m 233 #[.val (.int p0), .unset, .unset, .unset, .unset] [(.int (33 : Int32)), (.ref h0.size), (.ref h0.size)]))
  refine own_getS X99 hx hZ hown (own_w70 hw) e99 (own_f66 W99) (hb hby at_233) fun T101 X101 e101 => ?_
  show own_Goes p e below _ (T101.setTop (mkF m 236 #[.val (.int p0), .unset, .unset, .unset, .unset] [(.ref (A 33)), (.int (33 : Int32)), (.ref h0.size), (.ref h0.size)]))
  refine own_stRp (fun i => .ref (A i)) X101 hx hZ e101 (i := 33) F99 (Or.inr ⟨_, rfl, (own_f67 W99)⟩) rfl (by decide) (by decide) (hb hby at_236) fun T102 h102 X102 e102 Wr102 F102 => ?_
  have EE102 := own_Ext.wr EE99 Wr102 ((own_Ext.refl h0).1)
  have W102 := own_Wext W EE102
  have N102 := Fr.snoc X102 N99 ((own_Ext.refl h0).1)
  show own_Goes p e below _ (T102.setTop (mkF m 237 #[.val (.int p0), .unset, .unset, .unset, .unset] [(.ref h0.size)]))
  refine own_by (fun _ zz => XS.astoreN X102.here hx rfl (hb hby at_237) rfl rfl (l' := #[.val (.int p0), .val (.ref h0.size), .unset, .unset, .unset]) rfl zz) ?_
  show own_Goes p e below _ (T102.setTop (mkF m 238 #[.val (.int p0), .val (.ref h0.size), .unset, .unset, .unset] []))
  refine own_by (fun _ zz => XS.iloadN X102.here hx rfl (hb hby at_238) rfl zz) ?_
  show own_Goes p e below _ (T102.setTop (mkF m 239 #[.val (.int p0), .val (.ref h0.size), .unset, .unset, .unset] [(.int p0)]))
  refine own_by (fun _ zz => X102.ldcI hx hown (mvT hZ (own_w72 hw)) rfl (hb hby at_239) zz) ?_
  show own_Goes p e below _ (T102.setTop (mkF m 241 #[.val (.int p0), .val (.ref h0.size), .unset, .unset, .unset] [(.int (2147483647 : Int32)), (.int p0)]))
  refine own_by (fun _ zz => XS.iand X102.here hx rfl (hb hby at_241) rfl zz) ?_
  show own_Goes p e below _ (T102.setTop (mkF m 242 #[.val (.int p0), .val (.ref h0.size), .unset, .unset, .unset] [(.int (p0 &&& (2147483647 : Int32)))]))
  refine own_by (fun _ zz => XS.bipush X102.here hx rfl (hb hby at_242) zz) ?_
  show own_Goes p e below _ (T102.setTop (mkF m 244 #[.val (.int p0), .val (.ref h0.size), .unset, .unset, .unset] [(.int (34 : Int32)), (.int (p0 &&& (2147483647 : Int32)))]))
  refine own_by (fun _ zz => iremM X102 hx rfl (hb hby at_244) rfl (by decide) zz) ?_
  show own_Goes p e below _ (T102.setTop (mkF m 245 #[.val (.int p0), .val (.ref h0.size), .unset, .unset, .unset] [(.int ((p0 &&& (2147483647 : Int32)) % (34 : Int32)))]))
  refine own_by (fun _ zz => XS.istoreN X102.here hx rfl (hb hby at_245) rfl (l' := #[.val (.int p0), .val (.ref h0.size), .val (.int ((p0 &&& (2147483647 : Int32)) % (34 : Int32))), .unset, .unset]) rfl zz) ?_
  show own_Goes p e below _ (T102.setTop (mkF m 246 #[.val (.int p0), .val (.ref h0.size), .val (.int ((p0 &&& (2147483647 : Int32)) % (34 : Int32))), .unset, .unset] []))
  refine own_by (fun _ zz => XS.aloadN X102.here hx rfl (hb hby at_246) rfl rfl zz) ?_
  show own_Goes p e below _ (T102.setTop (mkF m 247 #[.val (.int p0), .val (.ref h0.size), .val (.int ((p0 &&& (2147483647 : Int32)) % (34 : Int32))), .unset, .unset] [(.ref h0.size)]))
  refine own_by (fun _ zz => XS.iloadN X102.here hx rfl (hb hby at_247) rfl zz) ?_
  show own_Goes p e below _ (T102.setTop (mkF m 248 #[.val (.int p0), .val (.ref h0.size), .val (.int ((p0 &&& (2147483647 : Int32)) % (34 : Int32))), .unset, .unset] [(.int ((p0 &&& (2147483647 : Int32)) % (34 : Int32))), (.ref h0.size)]))
  refine own_aaload X102 hx hZ e102 F102.toF rfl i hj hi (v := (.ref (A i))) (own_pre_all hi) (hb hby at_248) ?_
  show own_Goes p e below _ (T102.setTop (mkF m 249 #[.val (.int p0), .val (.ref h0.size), .val (.int ((p0 &&& (2147483647 : Int32)) % (34 : Int32))), .unset, .unset] [(.ref (A i))]))
  refine own_by (fun _ zz => XS.astoreN X102.here hx rfl (hb hby at_249) rfl rfl (l' := #[.val (.int p0), .val (.ref h0.size), .val (.int ((p0 &&& (2147483647 : Int32)) % (34 : Int32))), .val (.ref (A i)), .unset]) rfl zz) ?_
  show own_Goes p e below _ (T102.setTop (mkF m 250 #[.val (.int p0), .val (.ref h0.size), .val (.int ((p0 &&& (2147483647 : Int32)) % (34 : Int32))), .val (.ref (A i)), .unset] []))
  refine own_by (fun _ zz => XS.iloadN X102.here hx rfl (hb hby at_250) rfl zz) ?_
  show own_Goes p e below _ (T102.setTop (mkF m 251 #[.val (.int p0), .val (.ref h0.size), .val (.int ((p0 &&& (2147483647 : Int32)) % (34 : Int32))), .val (.ref (A i)), .unset] [(.int ((p0 &&& (2147483647 : Int32)) % (34 : Int32)))]))
  refine own_by (fun _ zz => XS.bipush X102.here hx rfl (hb hby at_251) zz) ?_
  show own_Goes p e below _ (T102.setTop (mkF m 253 #[.val (.int p0), .val (.ref h0.size), .val (.int ((p0 &&& (2147483647 : Int32)) % (34 : Int32))), .val (.ref (A i)), .unset] [(.int (10 : Int32)), (.int ((p0 &&& (2147483647 : Int32)) % (34 : Int32)))]))
  by_cases q104 : ((p0 &&& (2147483647 : Int32)) % (34 : Int32)) = (10 : Int32)
  · refine own_by (fun _ zz => XS.icmpYes X102.here hx rfl (pc0 := 253) (pc' := 292) rfl (hb hby at_253) rfl (XT.ii_eq_t q104) (by decide) (by decide) zz) ?_
    show own_Goes p e below _ (T102.setTop (mkF m 292 #[.val (.int p0), .val (.ref h0.size), .val (.int ((p0 &&& (2147483647 : Int32)) % (34 : Int32))), .val (.ref (A i)), .unset] []))
    refine own_by (fun _ zz => XS.iconst X102.here hx rfl (hb hby at_292) zz) ?_
    show own_Goes p e below _ (T102.setTop (mkF m 293 #[.val (.int p0), .val (.ref h0.size), .val (.int ((p0 &&& (2147483647 : Int32)) % (34 : Int32))), .val (.ref (A i)), .unset] [(.int (1 : Int32))]))
    refine own_by (fun _ zz => XS.goto X102.here hx rfl (pc0 := 293) (pc' := 297) rfl (hb hby at_293) (by decide) (by decide) zz) ?_
    show own_Goes p e below _ (T102.setTop (mkF m 297 #[.val (.int p0), .val (.ref h0.size), .val (.int ((p0 &&& (2147483647 : Int32)) % (34 : Int32))), .val (.ref (A i)), .unset] [(.int (1 : Int32))]))
    refine own_by (fun _ zz => XS.istore X102.here hx rfl (hb hby at_297) rfl (l' := #[.val (.int p0), .val (.ref h0.size), .val (.int ((p0 &&& (2147483647 : Int32)) % (34 : Int32))), .val (.ref (A i)), .val (.int (1 : Int32))]) rfl zz) ?_
    show own_Goes p e below _ (T102.setTop (mkF m 299 #[.val (.int p0), .val (.ref h0.size), .val (.int ((p0 &&& (2147483647 : Int32)) % (34 : Int32))), .val (.ref (A i)), .val (.int (1 : Int32))] []))
    refine own_by (fun _ zz => XS.aloadN X102.here hx rfl (hb hby at_299) rfl rfl zz) ?_
    show own_Goes p e below _ (T102.setTop (mkF m 300 #[.val (.int p0), .val (.ref h0.size), .val (.int ((p0 &&& (2147483647 : Int32)) % (34 : Int32))), .val (.ref (A i)), .val (.int (1 : Int32))] [(.ref (A i))]))
    refine own_callV0 X102 hx hZ (W := 0) (K := "com/example/janustile/dicom/Vr") (argsL := []) (rest := []) hown (own_w73 hw) (own_w74 hw) (own_w76 hw) (own_w75 hw) (own_w77 hw) (own_w3 hw) (by decide) e102 (own_exa W102 hi) (rm_takesCharacterSet l hw W102 (A i)) (by decide) (by decide) (by decide) (by decide) (by rw [hml]; rfl) (lenOf own_pd0 rfl) rfl (Nat.le_of_ble_eq_true rfl) (hb hby at_300) fun T105 X105 e105 => ?_
    show own_Goes p e below _ (T105.setTop (mkF m 303 #[.val (.int p0), .val (.ref h0.size), .val (.int ((p0 &&& (2147483647 : Int32)) % (34 : Int32))), .val (.ref (A i)), .val (.int (1 : Int32))] [(.int (own_r_takesCharacterSet A (A i)))]))
    refine own_by (fun _ zz => XS.iload X105.here hx rfl (hb hby at_303) rfl zz) ?_
    show own_Goes p e below _ (T105.setTop (mkF m 305 #[.val (.int p0), .val (.ref h0.size), .val (.int ((p0 &&& (2147483647 : Int32)) % (34 : Int32))), .val (.ref (A i)), .val (.int (1 : Int32))] [(.int (1 : Int32)), (.int (own_r_takesCharacterSet A (A i)))]))
    refine own_by (fun _ zz => XS.icmpNo X105.here hx rfl (hb hby at_305) rfl (XT.ii_ne_f (by rw [own_say W hi]; simp only [Int32.lt_iff_toInt_lt, ← Int32.toInt_inj, hj, own_c10, own_c11, own_c18, own_c19, own_c23, own_c26, own_c32] at q104; exact if_pos (by omega))) zz) ?_
    show own_Goes p e below _ (T105.setTop (mkF m 308 #[.val (.int p0), .val (.ref h0.size), .val (.int ((p0 &&& (2147483647 : Int32)) % (34 : Int32))), .val (.ref (A i)), .val (.int (1 : Int32))] []))
    refine own_by (fun _ zz => XS.iconst X105.here hx rfl (hb hby at_308) zz) ?_
    show own_Goes p e below _ (T105.setTop (mkF m 309 #[.val (.int p0), .val (.ref h0.size), .val (.int ((p0 &&& (2147483647 : Int32)) % (34 : Int32))), .val (.ref (A i)), .val (.int (1 : Int32))] [(.int (1 : Int32))]))
    refine own_by (fun _ zz => XS.goto X105.here hx rfl (pc0 := 309) (pc' := 313) rfl (hb hby at_309) (by decide) (by decide) zz) ?_
    show own_Goes p e below _ (T105.setTop (mkF m 313 #[.val (.int p0), .val (.ref h0.size), .val (.int ((p0 &&& (2147483647 : Int32)) % (34 : Int32))), .val (.ref (A i)), .val (.int (1 : Int32))] [(.int (1 : Int32))]))
    refine own_retN X105 hx hlk (ty := .boolean) hret (by simp) (hb hby at_313) (by decide) (by decide) ?_
    exact ⟨rfl, N102⟩
  · refine own_by (fun _ zz => XS.icmpNo X102.here hx rfl (hb hby at_253) rfl (XT.ii_eq_f q104) zz) ?_
    show own_Goes p e below _ (T102.setTop (mkF m 256 #[.val (.int p0), .val (.ref h0.size), .val (.int ((p0 &&& (2147483647 : Int32)) % (34 : Int32))), .val (.ref (A i)), .unset] []))
    refine own_by (fun _ zz => XS.iloadN X102.here hx rfl (hb hby at_256) rfl zz) ?_
    show own_Goes p e below _ (T102.setTop (mkF m 257 #[.val (.int p0), .val (.ref h0.size), .val (.int ((p0 &&& (2147483647 : Int32)) % (34 : Int32))), .val (.ref (A i)), .unset] [(.int ((p0 &&& (2147483647 : Int32)) % (34 : Int32)))]))
    refine own_by (fun _ zz => XS.bipush X102.here hx rfl (hb hby at_257) zz) ?_
    show own_Goes p e below _ (T102.setTop (mkF m 259 #[.val (.int p0), .val (.ref h0.size), .val (.int ((p0 &&& (2147483647 : Int32)) % (34 : Int32))), .val (.ref (A i)), .unset] [(.int (11 : Int32)), (.int ((p0 &&& (2147483647 : Int32)) % (34 : Int32)))]))
    by_cases q106 : ((p0 &&& (2147483647 : Int32)) % (34 : Int32)) = (11 : Int32)
    · refine own_by (fun _ zz => XS.icmpYes X102.here hx rfl (pc0 := 259) (pc' := 292) rfl (hb hby at_259) rfl (XT.ii_eq_t q106) (by decide) (by decide) zz) ?_
      show own_Goes p e below _ (T102.setTop (mkF m 292 #[.val (.int p0), .val (.ref h0.size), .val (.int ((p0 &&& (2147483647 : Int32)) % (34 : Int32))), .val (.ref (A i)), .unset] []))
      refine own_by (fun _ zz => XS.iconst X102.here hx rfl (hb hby at_292) zz) ?_
      show own_Goes p e below _ (T102.setTop (mkF m 293 #[.val (.int p0), .val (.ref h0.size), .val (.int ((p0 &&& (2147483647 : Int32)) % (34 : Int32))), .val (.ref (A i)), .unset] [(.int (1 : Int32))]))
      refine own_by (fun _ zz => XS.goto X102.here hx rfl (pc0 := 293) (pc' := 297) rfl (hb hby at_293) (by decide) (by decide) zz) ?_
      show own_Goes p e below _ (T102.setTop (mkF m 297 #[.val (.int p0), .val (.ref h0.size), .val (.int ((p0 &&& (2147483647 : Int32)) % (34 : Int32))), .val (.ref (A i)), .unset] [(.int (1 : Int32))]))
      refine own_by (fun _ zz => XS.istore X102.here hx rfl (hb hby at_297) rfl (l' := #[.val (.int p0), .val (.ref h0.size), .val (.int ((p0 &&& (2147483647 : Int32)) % (34 : Int32))), .val (.ref (A i)), .val (.int (1 : Int32))]) rfl zz) ?_
      show own_Goes p e below _ (T102.setTop (mkF m 299 #[.val (.int p0), .val (.ref h0.size), .val (.int ((p0 &&& (2147483647 : Int32)) % (34 : Int32))), .val (.ref (A i)), .val (.int (1 : Int32))] []))
      refine own_by (fun _ zz => XS.aloadN X102.here hx rfl (hb hby at_299) rfl rfl zz) ?_
      show own_Goes p e below _ (T102.setTop (mkF m 300 #[.val (.int p0), .val (.ref h0.size), .val (.int ((p0 &&& (2147483647 : Int32)) % (34 : Int32))), .val (.ref (A i)), .val (.int (1 : Int32))] [(.ref (A i))]))
      refine own_callV0 X102 hx hZ (W := 0) (K := "com/example/janustile/dicom/Vr") (argsL := []) (rest := []) hown (own_w73 hw) (own_w74 hw) (own_w76 hw) (own_w75 hw) (own_w77 hw) (own_w3 hw) (by decide) e102 (own_exa W102 hi) (rm_takesCharacterSet l hw W102 (A i)) (by decide) (by decide) (by decide) (by decide) (by rw [hml]; rfl) (lenOf own_pd0 rfl) rfl (Nat.le_of_ble_eq_true rfl) (hb hby at_300) fun T107 X107 e107 => ?_
      show own_Goes p e below _ (T107.setTop (mkF m 303 #[.val (.int p0), .val (.ref h0.size), .val (.int ((p0 &&& (2147483647 : Int32)) % (34 : Int32))), .val (.ref (A i)), .val (.int (1 : Int32))] [(.int (own_r_takesCharacterSet A (A i)))]))
      refine own_by (fun _ zz => XS.iload X107.here hx rfl (hb hby at_303) rfl zz) ?_
      show own_Goes p e below _ (T107.setTop (mkF m 305 #[.val (.int p0), .val (.ref h0.size), .val (.int ((p0 &&& (2147483647 : Int32)) % (34 : Int32))), .val (.ref (A i)), .val (.int (1 : Int32))] [(.int (1 : Int32)), (.int (own_r_takesCharacterSet A (A i)))]))
      refine own_by (fun _ zz => XS.icmpNo X107.here hx rfl (hb hby at_305) rfl (XT.ii_ne_f (by rw [own_say W hi]; simp only [Int32.lt_iff_toInt_lt, ← Int32.toInt_inj, hj, own_c10, own_c11, own_c18, own_c19, own_c23, own_c26, own_c32] at q104 q106; exact if_pos (by omega))) zz) ?_
      show own_Goes p e below _ (T107.setTop (mkF m 308 #[.val (.int p0), .val (.ref h0.size), .val (.int ((p0 &&& (2147483647 : Int32)) % (34 : Int32))), .val (.ref (A i)), .val (.int (1 : Int32))] []))
      refine own_by (fun _ zz => XS.iconst X107.here hx rfl (hb hby at_308) zz) ?_
      show own_Goes p e below _ (T107.setTop (mkF m 309 #[.val (.int p0), .val (.ref h0.size), .val (.int ((p0 &&& (2147483647 : Int32)) % (34 : Int32))), .val (.ref (A i)), .val (.int (1 : Int32))] [(.int (1 : Int32))]))
      refine own_by (fun _ zz => XS.goto X107.here hx rfl (pc0 := 309) (pc' := 313) rfl (hb hby at_309) (by decide) (by decide) zz) ?_
      show own_Goes p e below _ (T107.setTop (mkF m 313 #[.val (.int p0), .val (.ref h0.size), .val (.int ((p0 &&& (2147483647 : Int32)) % (34 : Int32))), .val (.ref (A i)), .val (.int (1 : Int32))] [(.int (1 : Int32))]))
      refine own_retN X107 hx hlk (ty := .boolean) hret (by simp) (hb hby at_313) (by decide) (by decide) ?_
      exact ⟨rfl, N102⟩
    · refine own_by (fun _ zz => XS.icmpNo X102.here hx rfl (hb hby at_259) rfl (XT.ii_eq_f q106) zz) ?_
      show own_Goes p e below _ (T102.setTop (mkF m 262 #[.val (.int p0), .val (.ref h0.size), .val (.int ((p0 &&& (2147483647 : Int32)) % (34 : Int32))), .val (.ref (A i)), .unset] []))
      refine own_by (fun _ zz => XS.iloadN X102.here hx rfl (hb hby at_262) rfl zz) ?_
      show own_Goes p e below _ (T102.setTop (mkF m 263 #[.val (.int p0), .val (.ref h0.size), .val (.int ((p0 &&& (2147483647 : Int32)) % (34 : Int32))), .val (.ref (A i)), .unset] [(.int ((p0 &&& (2147483647 : Int32)) % (34 : Int32)))]))
      refine own_by (fun _ zz => XS.bipush X102.here hx rfl (hb hby at_263) zz) ?_
      show own_Goes p e below _ (T102.setTop (mkF m 265 #[.val (.int p0), .val (.ref h0.size), .val (.int ((p0 &&& (2147483647 : Int32)) % (34 : Int32))), .val (.ref (A i)), .unset] [(.int (18 : Int32)), (.int ((p0 &&& (2147483647 : Int32)) % (34 : Int32)))]))
      by_cases q108 : ((p0 &&& (2147483647 : Int32)) % (34 : Int32)) = (18 : Int32)
      · refine own_by (fun _ zz => XS.icmpYes X102.here hx rfl (pc0 := 265) (pc' := 292) rfl (hb hby at_265) rfl (XT.ii_eq_t q108) (by decide) (by decide) zz) ?_
        show own_Goes p e below _ (T102.setTop (mkF m 292 #[.val (.int p0), .val (.ref h0.size), .val (.int ((p0 &&& (2147483647 : Int32)) % (34 : Int32))), .val (.ref (A i)), .unset] []))
        refine own_by (fun _ zz => XS.iconst X102.here hx rfl (hb hby at_292) zz) ?_
        show own_Goes p e below _ (T102.setTop (mkF m 293 #[.val (.int p0), .val (.ref h0.size), .val (.int ((p0 &&& (2147483647 : Int32)) % (34 : Int32))), .val (.ref (A i)), .unset] [(.int (1 : Int32))]))
        refine own_by (fun _ zz => XS.goto X102.here hx rfl (pc0 := 293) (pc' := 297) rfl (hb hby at_293) (by decide) (by decide) zz) ?_
        show own_Goes p e below _ (T102.setTop (mkF m 297 #[.val (.int p0), .val (.ref h0.size), .val (.int ((p0 &&& (2147483647 : Int32)) % (34 : Int32))), .val (.ref (A i)), .unset] [(.int (1 : Int32))]))
        refine own_by (fun _ zz => XS.istore X102.here hx rfl (hb hby at_297) rfl (l' := #[.val (.int p0), .val (.ref h0.size), .val (.int ((p0 &&& (2147483647 : Int32)) % (34 : Int32))), .val (.ref (A i)), .val (.int (1 : Int32))]) rfl zz) ?_
        show own_Goes p e below _ (T102.setTop (mkF m 299 #[.val (.int p0), .val (.ref h0.size), .val (.int ((p0 &&& (2147483647 : Int32)) % (34 : Int32))), .val (.ref (A i)), .val (.int (1 : Int32))] []))
        refine own_by (fun _ zz => XS.aloadN X102.here hx rfl (hb hby at_299) rfl rfl zz) ?_
        show own_Goes p e below _ (T102.setTop (mkF m 300 #[.val (.int p0), .val (.ref h0.size), .val (.int ((p0 &&& (2147483647 : Int32)) % (34 : Int32))), .val (.ref (A i)), .val (.int (1 : Int32))] [(.ref (A i))]))
        refine own_callV0 X102 hx hZ (W := 0) (K := "com/example/janustile/dicom/Vr") (argsL := []) (rest := []) hown (own_w73 hw) (own_w74 hw) (own_w76 hw) (own_w75 hw) (own_w77 hw) (own_w3 hw) (by decide) e102 (own_exa W102 hi) (rm_takesCharacterSet l hw W102 (A i)) (by decide) (by decide) (by decide) (by decide) (by rw [hml]; rfl) (lenOf own_pd0 rfl) rfl (Nat.le_of_ble_eq_true rfl) (hb hby at_300) fun T109 X109 e109 => ?_
        show own_Goes p e below _ (T109.setTop (mkF m 303 #[.val (.int p0), .val (.ref h0.size), .val (.int ((p0 &&& (2147483647 : Int32)) % (34 : Int32))), .val (.ref (A i)), .val (.int (1 : Int32))] [(.int (own_r_takesCharacterSet A (A i)))]))
        refine own_by (fun _ zz => XS.iload X109.here hx rfl (hb hby at_303) rfl zz) ?_
        show own_Goes p e below _ (T109.setTop (mkF m 305 #[.val (.int p0), .val (.ref h0.size), .val (.int ((p0 &&& (2147483647 : Int32)) % (34 : Int32))), .val (.ref (A i)), .val (.int (1 : Int32))] [(.int (1 : Int32)), (.int (own_r_takesCharacterSet A (A i)))]))
        refine own_by (fun _ zz => XS.icmpNo X109.here hx rfl (hb hby at_305) rfl (XT.ii_ne_f (by rw [own_say W hi]; simp only [Int32.lt_iff_toInt_lt, ← Int32.toInt_inj, hj, own_c10, own_c11, own_c18, own_c19, own_c23, own_c26, own_c32] at q104 q106 q108; exact if_pos (by omega))) zz) ?_
        show own_Goes p e below _ (T109.setTop (mkF m 308 #[.val (.int p0), .val (.ref h0.size), .val (.int ((p0 &&& (2147483647 : Int32)) % (34 : Int32))), .val (.ref (A i)), .val (.int (1 : Int32))] []))
        refine own_by (fun _ zz => XS.iconst X109.here hx rfl (hb hby at_308) zz) ?_
        show own_Goes p e below _ (T109.setTop (mkF m 309 #[.val (.int p0), .val (.ref h0.size), .val (.int ((p0 &&& (2147483647 : Int32)) % (34 : Int32))), .val (.ref (A i)), .val (.int (1 : Int32))] [(.int (1 : Int32))]))
        refine own_by (fun _ zz => XS.goto X109.here hx rfl (pc0 := 309) (pc' := 313) rfl (hb hby at_309) (by decide) (by decide) zz) ?_
        show own_Goes p e below _ (T109.setTop (mkF m 313 #[.val (.int p0), .val (.ref h0.size), .val (.int ((p0 &&& (2147483647 : Int32)) % (34 : Int32))), .val (.ref (A i)), .val (.int (1 : Int32))] [(.int (1 : Int32))]))
        refine own_retN X109 hx hlk (ty := .boolean) hret (by simp) (hb hby at_313) (by decide) (by decide) ?_
        exact ⟨rfl, N102⟩
      · refine own_by (fun _ zz => XS.icmpNo X102.here hx rfl (hb hby at_265) rfl (XT.ii_eq_f q108) zz) ?_
        show own_Goes p e below _ (T102.setTop (mkF m 268 #[.val (.int p0), .val (.ref h0.size), .val (.int ((p0 &&& (2147483647 : Int32)) % (34 : Int32))), .val (.ref (A i)), .unset] []))
        refine own_by (fun _ zz => XS.iloadN X102.here hx rfl (hb hby at_268) rfl zz) ?_
        show own_Goes p e below _ (T102.setTop (mkF m 269 #[.val (.int p0), .val (.ref h0.size), .val (.int ((p0 &&& (2147483647 : Int32)) % (34 : Int32))), .val (.ref (A i)), .unset] [(.int ((p0 &&& (2147483647 : Int32)) % (34 : Int32)))]))
        refine own_by (fun _ zz => XS.bipush X102.here hx rfl (hb hby at_269) zz) ?_
        show own_Goes p e below _ (T102.setTop (mkF m 271 #[.val (.int p0), .val (.ref h0.size), .val (.int ((p0 &&& (2147483647 : Int32)) % (34 : Int32))), .val (.ref (A i)), .unset] [(.int (19 : Int32)), (.int ((p0 &&& (2147483647 : Int32)) % (34 : Int32)))]))
        by_cases q110 : ((p0 &&& (2147483647 : Int32)) % (34 : Int32)) = (19 : Int32)
        · refine own_by (fun _ zz => XS.icmpYes X102.here hx rfl (pc0 := 271) (pc' := 292) rfl (hb hby at_271) rfl (XT.ii_eq_t q110) (by decide) (by decide) zz) ?_
          show own_Goes p e below _ (T102.setTop (mkF m 292 #[.val (.int p0), .val (.ref h0.size), .val (.int ((p0 &&& (2147483647 : Int32)) % (34 : Int32))), .val (.ref (A i)), .unset] []))
          refine own_by (fun _ zz => XS.iconst X102.here hx rfl (hb hby at_292) zz) ?_
          show own_Goes p e below _ (T102.setTop (mkF m 293 #[.val (.int p0), .val (.ref h0.size), .val (.int ((p0 &&& (2147483647 : Int32)) % (34 : Int32))), .val (.ref (A i)), .unset] [(.int (1 : Int32))]))
          refine own_by (fun _ zz => XS.goto X102.here hx rfl (pc0 := 293) (pc' := 297) rfl (hb hby at_293) (by decide) (by decide) zz) ?_
          show own_Goes p e below _ (T102.setTop (mkF m 297 #[.val (.int p0), .val (.ref h0.size), .val (.int ((p0 &&& (2147483647 : Int32)) % (34 : Int32))), .val (.ref (A i)), .unset] [(.int (1 : Int32))]))
          refine own_by (fun _ zz => XS.istore X102.here hx rfl (hb hby at_297) rfl (l' := #[.val (.int p0), .val (.ref h0.size), .val (.int ((p0 &&& (2147483647 : Int32)) % (34 : Int32))), .val (.ref (A i)), .val (.int (1 : Int32))]) rfl zz) ?_
          show own_Goes p e below _ (T102.setTop (mkF m 299 #[.val (.int p0), .val (.ref h0.size), .val (.int ((p0 &&& (2147483647 : Int32)) % (34 : Int32))), .val (.ref (A i)), .val (.int (1 : Int32))] []))
          refine own_by (fun _ zz => XS.aloadN X102.here hx rfl (hb hby at_299) rfl rfl zz) ?_
          show own_Goes p e below _ (T102.setTop (mkF m 300 #[.val (.int p0), .val (.ref h0.size), .val (.int ((p0 &&& (2147483647 : Int32)) % (34 : Int32))), .val (.ref (A i)), .val (.int (1 : Int32))] [(.ref (A i))]))
          refine own_callV0 X102 hx hZ (W := 0) (K := "com/example/janustile/dicom/Vr") (argsL := []) (rest := []) hown (own_w73 hw) (own_w74 hw) (own_w76 hw) (own_w75 hw) (own_w77 hw) (own_w3 hw) (by decide) e102 (own_exa W102 hi) (rm_takesCharacterSet l hw W102 (A i)) (by decide) (by decide) (by decide) (by decide) (by rw [hml]; rfl) (lenOf own_pd0 rfl) rfl (Nat.le_of_ble_eq_true rfl) (hb hby at_300) fun T111 X111 e111 => ?_
          show own_Goes p e below _ (T111.setTop (mkF m 303 #[.val (.int p0), .val (.ref h0.size), .val (.int ((p0 &&& (2147483647 : Int32)) % (34 : Int32))), .val (.ref (A i)), .val (.int (1 : Int32))] [(.int (own_r_takesCharacterSet A (A i)))]))
          refine own_by (fun _ zz => XS.iload X111.here hx rfl (hb hby at_303) rfl zz) ?_
          show own_Goes p e below _ (T111.setTop (mkF m 305 #[.val (.int p0), .val (.ref h0.size), .val (.int ((p0 &&& (2147483647 : Int32)) % (34 : Int32))), .val (.ref (A i)), .val (.int (1 : Int32))] [(.int (1 : Int32)), (.int (own_r_takesCharacterSet A (A i)))]))
          refine own_by (fun _ zz => XS.icmpNo X111.here hx rfl (hb hby at_305) rfl (XT.ii_ne_f (by rw [own_say W hi]; simp only [Int32.lt_iff_toInt_lt, ← Int32.toInt_inj, hj, own_c10, own_c11, own_c18, own_c19, own_c23, own_c26, own_c32] at q104 q106 q108 q110; exact if_pos (by omega))) zz) ?_
          show own_Goes p e below _ (T111.setTop (mkF m 308 #[.val (.int p0), .val (.ref h0.size), .val (.int ((p0 &&& (2147483647 : Int32)) % (34 : Int32))), .val (.ref (A i)), .val (.int (1 : Int32))] []))
          refine own_by (fun _ zz => XS.iconst X111.here hx rfl (hb hby at_308) zz) ?_
          show own_Goes p e below _ (T111.setTop (mkF m 309 #[.val (.int p0), .val (.ref h0.size), .val (.int ((p0 &&& (2147483647 : Int32)) % (34 : Int32))), .val (.ref (A i)), .val (.int (1 : Int32))] [(.int (1 : Int32))]))
          refine own_by (fun _ zz => XS.goto X111.here hx rfl (pc0 := 309) (pc' := 313) rfl (hb hby at_309) (by decide) (by decide) zz) ?_
          show own_Goes p e below _ (T111.setTop (mkF m 313 #[.val (.int p0), .val (.ref h0.size), .val (.int ((p0 &&& (2147483647 : Int32)) % (34 : Int32))), .val (.ref (A i)), .val (.int (1 : Int32))] [(.int (1 : Int32))]))
          refine own_retN X111 hx hlk (ty := .boolean) hret (by simp) (hb hby at_313) (by decide) (by decide) ?_
          exact ⟨rfl, N102⟩
        · refine own_by (fun _ zz => XS.icmpNo X102.here hx rfl (hb hby at_271) rfl (XT.ii_eq_f q110) zz) ?_
          show own_Goes p e below _ (T102.setTop (mkF m 274 #[.val (.int p0), .val (.ref h0.size), .val (.int ((p0 &&& (2147483647 : Int32)) % (34 : Int32))), .val (.ref (A i)), .unset] []))
          refine own_by (fun _ zz => XS.iloadN X102.here hx rfl (hb hby at_274) rfl zz) ?_
          show own_Goes p e below _ (T102.setTop (mkF m 275 #[.val (.int p0), .val (.ref h0.size), .val (.int ((p0 &&& (2147483647 : Int32)) % (34 : Int32))), .val (.ref (A i)), .unset] [(.int ((p0 &&& (2147483647 : Int32)) % (34 : Int32)))]))
          refine own_by (fun _ zz => XS.bipush X102.here hx rfl (hb hby at_275) zz) ?_
          show own_Goes p e below _ (T102.setTop (mkF m 277 #[.val (.int p0), .val (.ref h0.size), .val (.int ((p0 &&& (2147483647 : Int32)) % (34 : Int32))), .val (.ref (A i)), .unset] [(.int (23 : Int32)), (.int ((p0 &&& (2147483647 : Int32)) % (34 : Int32)))]))
          by_cases q112 : ((p0 &&& (2147483647 : Int32)) % (34 : Int32)) = (23 : Int32)
          · refine own_by (fun _ zz => XS.icmpYes X102.here hx rfl (pc0 := 277) (pc' := 292) rfl (hb hby at_277) rfl (XT.ii_eq_t q112) (by decide) (by decide) zz) ?_
            show own_Goes p e below _ (T102.setTop (mkF m 292 #[.val (.int p0), .val (.ref h0.size), .val (.int ((p0 &&& (2147483647 : Int32)) % (34 : Int32))), .val (.ref (A i)), .unset] []))
            refine own_by (fun _ zz => XS.iconst X102.here hx rfl (hb hby at_292) zz) ?_
            show own_Goes p e below _ (T102.setTop (mkF m 293 #[.val (.int p0), .val (.ref h0.size), .val (.int ((p0 &&& (2147483647 : Int32)) % (34 : Int32))), .val (.ref (A i)), .unset] [(.int (1 : Int32))]))
            refine own_by (fun _ zz => XS.goto X102.here hx rfl (pc0 := 293) (pc' := 297) rfl (hb hby at_293) (by decide) (by decide) zz) ?_
            show own_Goes p e below _ (T102.setTop (mkF m 297 #[.val (.int p0), .val (.ref h0.size), .val (.int ((p0 &&& (2147483647 : Int32)) % (34 : Int32))), .val (.ref (A i)), .unset] [(.int (1 : Int32))]))
            refine own_by (fun _ zz => XS.istore X102.here hx rfl (hb hby at_297) rfl (l' := #[.val (.int p0), .val (.ref h0.size), .val (.int ((p0 &&& (2147483647 : Int32)) % (34 : Int32))), .val (.ref (A i)), .val (.int (1 : Int32))]) rfl zz) ?_
            show own_Goes p e below _ (T102.setTop (mkF m 299 #[.val (.int p0), .val (.ref h0.size), .val (.int ((p0 &&& (2147483647 : Int32)) % (34 : Int32))), .val (.ref (A i)), .val (.int (1 : Int32))] []))
            refine own_by (fun _ zz => XS.aloadN X102.here hx rfl (hb hby at_299) rfl rfl zz) ?_
            show own_Goes p e below _ (T102.setTop (mkF m 300 #[.val (.int p0), .val (.ref h0.size), .val (.int ((p0 &&& (2147483647 : Int32)) % (34 : Int32))), .val (.ref (A i)), .val (.int (1 : Int32))] [(.ref (A i))]))
            refine own_callV0 X102 hx hZ (W := 0) (K := "com/example/janustile/dicom/Vr") (argsL := []) (rest := []) hown (own_w73 hw) (own_w74 hw) (own_w76 hw) (own_w75 hw) (own_w77 hw) (own_w3 hw) (by decide) e102 (own_exa W102 hi) (rm_takesCharacterSet l hw W102 (A i)) (by decide) (by decide) (by decide) (by decide) (by rw [hml]; rfl) (lenOf own_pd0 rfl) rfl (Nat.le_of_ble_eq_true rfl) (hb hby at_300) fun T113 X113 e113 => ?_
            show own_Goes p e below _ (T113.setTop (mkF m 303 #[.val (.int p0), .val (.ref h0.size), .val (.int ((p0 &&& (2147483647 : Int32)) % (34 : Int32))), .val (.ref (A i)), .val (.int (1 : Int32))] [(.int (own_r_takesCharacterSet A (A i)))]))
            refine own_by (fun _ zz => XS.iload X113.here hx rfl (hb hby at_303) rfl zz) ?_
            show own_Goes p e below _ (T113.setTop (mkF m 305 #[.val (.int p0), .val (.ref h0.size), .val (.int ((p0 &&& (2147483647 : Int32)) % (34 : Int32))), .val (.ref (A i)), .val (.int (1 : Int32))] [(.int (1 : Int32)), (.int (own_r_takesCharacterSet A (A i)))]))
            refine own_by (fun _ zz => XS.icmpNo X113.here hx rfl (hb hby at_305) rfl (XT.ii_ne_f (by rw [own_say W hi]; simp only [Int32.lt_iff_toInt_lt, ← Int32.toInt_inj, hj, own_c10, own_c11, own_c18, own_c19, own_c23, own_c26, own_c32] at q104 q106 q108 q110 q112; exact if_pos (by omega))) zz) ?_
            show own_Goes p e below _ (T113.setTop (mkF m 308 #[.val (.int p0), .val (.ref h0.size), .val (.int ((p0 &&& (2147483647 : Int32)) % (34 : Int32))), .val (.ref (A i)), .val (.int (1 : Int32))] []))
            refine own_by (fun _ zz => XS.iconst X113.here hx rfl (hb hby at_308) zz) ?_
            show own_Goes p e below _ (T113.setTop (mkF m 309 #[.val (.int p0), .val (.ref h0.size), .val (.int ((p0 &&& (2147483647 : Int32)) % (34 : Int32))), .val (.ref (A i)), .val (.int (1 : Int32))] [(.int (1 : Int32))]))
            refine own_by (fun _ zz => XS.goto X113.here hx rfl (pc0 := 309) (pc' := 313) rfl (hb hby at_309) (by decide) (by decide) zz) ?_
            show own_Goes p e below _ (T113.setTop (mkF m 313 #[.val (.int p0), .val (.ref h0.size), .val (.int ((p0 &&& (2147483647 : Int32)) % (34 : Int32))), .val (.ref (A i)), .val (.int (1 : Int32))] [(.int (1 : Int32))]))
            refine own_retN X113 hx hlk (ty := .boolean) hret (by simp) (hb hby at_313) (by decide) (by decide) ?_
            exact ⟨rfl, N102⟩
          · refine own_by (fun _ zz => XS.icmpNo X102.here hx rfl (hb hby at_277) rfl (XT.ii_eq_f q112) zz) ?_
            show own_Goes p e below _ (T102.setTop (mkF m 280 #[.val (.int p0), .val (.ref h0.size), .val (.int ((p0 &&& (2147483647 : Int32)) % (34 : Int32))), .val (.ref (A i)), .unset] []))
            refine own_by (fun _ zz => XS.iloadN X102.here hx rfl (hb hby at_280) rfl zz) ?_
            show own_Goes p e below _ (T102.setTop (mkF m 281 #[.val (.int p0), .val (.ref h0.size), .val (.int ((p0 &&& (2147483647 : Int32)) % (34 : Int32))), .val (.ref (A i)), .unset] [(.int ((p0 &&& (2147483647 : Int32)) % (34 : Int32)))]))
            refine own_by (fun _ zz => XS.bipush X102.here hx rfl (hb hby at_281) zz) ?_
            show own_Goes p e below _ (T102.setTop (mkF m 283 #[.val (.int p0), .val (.ref h0.size), .val (.int ((p0 &&& (2147483647 : Int32)) % (34 : Int32))), .val (.ref (A i)), .unset] [(.int (26 : Int32)), (.int ((p0 &&& (2147483647 : Int32)) % (34 : Int32)))]))
            by_cases q114 : ((p0 &&& (2147483647 : Int32)) % (34 : Int32)) = (26 : Int32)
            · refine own_by (fun _ zz => XS.icmpYes X102.here hx rfl (pc0 := 283) (pc' := 292) rfl (hb hby at_283) rfl (XT.ii_eq_t q114) (by decide) (by decide) zz) ?_
              show own_Goes p e below _ (T102.setTop (mkF m 292 #[.val (.int p0), .val (.ref h0.size), .val (.int ((p0 &&& (2147483647 : Int32)) % (34 : Int32))), .val (.ref (A i)), .unset] []))
              refine own_by (fun _ zz => XS.iconst X102.here hx rfl (hb hby at_292) zz) ?_
              show own_Goes p e below _ (T102.setTop (mkF m 293 #[.val (.int p0), .val (.ref h0.size), .val (.int ((p0 &&& (2147483647 : Int32)) % (34 : Int32))), .val (.ref (A i)), .unset] [(.int (1 : Int32))]))
              refine own_by (fun _ zz => XS.goto X102.here hx rfl (pc0 := 293) (pc' := 297) rfl (hb hby at_293) (by decide) (by decide) zz) ?_
              show own_Goes p e below _ (T102.setTop (mkF m 297 #[.val (.int p0), .val (.ref h0.size), .val (.int ((p0 &&& (2147483647 : Int32)) % (34 : Int32))), .val (.ref (A i)), .unset] [(.int (1 : Int32))]))
              refine own_by (fun _ zz => XS.istore X102.here hx rfl (hb hby at_297) rfl (l' := #[.val (.int p0), .val (.ref h0.size), .val (.int ((p0 &&& (2147483647 : Int32)) % (34 : Int32))), .val (.ref (A i)), .val (.int (1 : Int32))]) rfl zz) ?_
              show own_Goes p e below _ (T102.setTop (mkF m 299 #[.val (.int p0), .val (.ref h0.size), .val (.int ((p0 &&& (2147483647 : Int32)) % (34 : Int32))), .val (.ref (A i)), .val (.int (1 : Int32))] []))
              refine own_by (fun _ zz => XS.aloadN X102.here hx rfl (hb hby at_299) rfl rfl zz) ?_
              show own_Goes p e below _ (T102.setTop (mkF m 300 #[.val (.int p0), .val (.ref h0.size), .val (.int ((p0 &&& (2147483647 : Int32)) % (34 : Int32))), .val (.ref (A i)), .val (.int (1 : Int32))] [(.ref (A i))]))
              refine own_callV0 X102 hx hZ (W := 0) (K := "com/example/janustile/dicom/Vr") (argsL := []) (rest := []) hown (own_w73 hw) (own_w74 hw) (own_w76 hw) (own_w75 hw) (own_w77 hw) (own_w3 hw) (by decide) e102 (own_exa W102 hi) (rm_takesCharacterSet l hw W102 (A i)) (by decide) (by decide) (by decide) (by decide) (by rw [hml]; rfl) (lenOf own_pd0 rfl) rfl (Nat.le_of_ble_eq_true rfl) (hb hby at_300) fun T115 X115 e115 => ?_
              show own_Goes p e below _ (T115.setTop (mkF m 303 #[.val (.int p0), .val (.ref h0.size), .val (.int ((p0 &&& (2147483647 : Int32)) % (34 : Int32))), .val (.ref (A i)), .val (.int (1 : Int32))] [(.int (own_r_takesCharacterSet A (A i)))]))
              refine own_by (fun _ zz => XS.iload X115.here hx rfl (hb hby at_303) rfl zz) ?_
              show own_Goes p e below _ (T115.setTop (mkF m 305 #[.val (.int p0), .val (.ref h0.size), .val (.int ((p0 &&& (2147483647 : Int32)) % (34 : Int32))), .val (.ref (A i)), .val (.int (1 : Int32))] [(.int (1 : Int32)), (.int (own_r_takesCharacterSet A (A i)))]))
              refine own_by (fun _ zz => XS.icmpNo X115.here hx rfl (hb hby at_305) rfl (XT.ii_ne_f (by rw [own_say W hi]; simp only [Int32.lt_iff_toInt_lt, ← Int32.toInt_inj, hj, own_c10, own_c11, own_c18, own_c19, own_c23, own_c26, own_c32] at q104 q106 q108 q110 q112 q114; exact if_pos (by omega))) zz) ?_
              show own_Goes p e below _ (T115.setTop (mkF m 308 #[.val (.int p0), .val (.ref h0.size), .val (.int ((p0 &&& (2147483647 : Int32)) % (34 : Int32))), .val (.ref (A i)), .val (.int (1 : Int32))] []))
              refine own_by (fun _ zz => XS.iconst X115.here hx rfl (hb hby at_308) zz) ?_
              show own_Goes p e below _ (T115.setTop (mkF m 309 #[.val (.int p0), .val (.ref h0.size), .val (.int ((p0 &&& (2147483647 : Int32)) % (34 : Int32))), .val (.ref (A i)), .val (.int (1 : Int32))] [(.int (1 : Int32))]))
              refine own_by (fun _ zz => XS.goto X115.here hx rfl (pc0 := 309) (pc' := 313) rfl (hb hby at_309) (by decide) (by decide) zz) ?_
              show own_Goes p e below _ (T115.setTop (mkF m 313 #[.val (.int p0), .val (.ref h0.size), .val (.int ((p0 &&& (2147483647 : Int32)) % (34 : Int32))), .val (.ref (A i)), .val (.int (1 : Int32))] [(.int (1 : Int32))]))
              refine own_retN X115 hx hlk (ty := .boolean) hret (by simp) (hb hby at_313) (by decide) (by decide) ?_
              exact ⟨rfl, N102⟩
            · refine own_by (fun _ zz => XS.icmpNo X102.here hx rfl (hb hby at_283) rfl (XT.ii_eq_f q114) zz) ?_
              show own_Goes p e below _ (T102.setTop (mkF m 286 #[.val (.int p0), .val (.ref h0.size), .val (.int ((p0 &&& (2147483647 : Int32)) % (34 : Int32))), .val (.ref (A i)), .unset] []))
              refine own_by (fun _ zz => XS.iloadN X102.here hx rfl (hb hby at_286) rfl zz) ?_
              show own_Goes p e below _ (T102.setTop (mkF m 287 #[.val (.int p0), .val (.ref h0.size), .val (.int ((p0 &&& (2147483647 : Int32)) % (34 : Int32))), .val (.ref (A i)), .unset] [(.int ((p0 &&& (2147483647 : Int32)) % (34 : Int32)))]))
              refine own_by (fun _ zz => XS.bipush X102.here hx rfl (hb hby at_287) zz) ?_
              show own_Goes p e below _ (T102.setTop (mkF m 289 #[.val (.int p0), .val (.ref h0.size), .val (.int ((p0 &&& (2147483647 : Int32)) % (34 : Int32))), .val (.ref (A i)), .unset] [(.int (32 : Int32)), (.int ((p0 &&& (2147483647 : Int32)) % (34 : Int32)))]))
              by_cases q116 : ((p0 &&& (2147483647 : Int32)) % (34 : Int32)) = (32 : Int32)
              · refine own_by (fun _ zz => XS.icmpNo X102.here hx rfl (hb hby at_289) rfl (XT.ii_ne_f q116) zz) ?_
                show own_Goes p e below _ (T102.setTop (mkF m 292 #[.val (.int p0), .val (.ref h0.size), .val (.int ((p0 &&& (2147483647 : Int32)) % (34 : Int32))), .val (.ref (A i)), .unset] []))
                refine own_by (fun _ zz => XS.iconst X102.here hx rfl (hb hby at_292) zz) ?_
                show own_Goes p e below _ (T102.setTop (mkF m 293 #[.val (.int p0), .val (.ref h0.size), .val (.int ((p0 &&& (2147483647 : Int32)) % (34 : Int32))), .val (.ref (A i)), .unset] [(.int (1 : Int32))]))
                refine own_by (fun _ zz => XS.goto X102.here hx rfl (pc0 := 293) (pc' := 297) rfl (hb hby at_293) (by decide) (by decide) zz) ?_
                show own_Goes p e below _ (T102.setTop (mkF m 297 #[.val (.int p0), .val (.ref h0.size), .val (.int ((p0 &&& (2147483647 : Int32)) % (34 : Int32))), .val (.ref (A i)), .unset] [(.int (1 : Int32))]))
                refine own_by (fun _ zz => XS.istore X102.here hx rfl (hb hby at_297) rfl (l' := #[.val (.int p0), .val (.ref h0.size), .val (.int ((p0 &&& (2147483647 : Int32)) % (34 : Int32))), .val (.ref (A i)), .val (.int (1 : Int32))]) rfl zz) ?_
                show own_Goes p e below _ (T102.setTop (mkF m 299 #[.val (.int p0), .val (.ref h0.size), .val (.int ((p0 &&& (2147483647 : Int32)) % (34 : Int32))), .val (.ref (A i)), .val (.int (1 : Int32))] []))
                refine own_by (fun _ zz => XS.aloadN X102.here hx rfl (hb hby at_299) rfl rfl zz) ?_
                show own_Goes p e below _ (T102.setTop (mkF m 300 #[.val (.int p0), .val (.ref h0.size), .val (.int ((p0 &&& (2147483647 : Int32)) % (34 : Int32))), .val (.ref (A i)), .val (.int (1 : Int32))] [(.ref (A i))]))
                refine own_callV0 X102 hx hZ (W := 0) (K := "com/example/janustile/dicom/Vr") (argsL := []) (rest := []) hown (own_w73 hw) (own_w74 hw) (own_w76 hw) (own_w75 hw) (own_w77 hw) (own_w3 hw) (by decide) e102 (own_exa W102 hi) (rm_takesCharacterSet l hw W102 (A i)) (by decide) (by decide) (by decide) (by decide) (by rw [hml]; rfl) (lenOf own_pd0 rfl) rfl (Nat.le_of_ble_eq_true rfl) (hb hby at_300) fun T117 X117 e117 => ?_
                show own_Goes p e below _ (T117.setTop (mkF m 303 #[.val (.int p0), .val (.ref h0.size), .val (.int ((p0 &&& (2147483647 : Int32)) % (34 : Int32))), .val (.ref (A i)), .val (.int (1 : Int32))] [(.int (own_r_takesCharacterSet A (A i)))]))
                refine own_by (fun _ zz => XS.iload X117.here hx rfl (hb hby at_303) rfl zz) ?_
                show own_Goes p e below _ (T117.setTop (mkF m 305 #[.val (.int p0), .val (.ref h0.size), .val (.int ((p0 &&& (2147483647 : Int32)) % (34 : Int32))), .val (.ref (A i)), .val (.int (1 : Int32))] [(.int (1 : Int32)), (.int (own_r_takesCharacterSet A (A i)))]))
                refine own_by (fun _ zz => XS.icmpNo X117.here hx rfl (hb hby at_305) rfl (XT.ii_ne_f (by rw [own_say W hi]; simp only [Int32.lt_iff_toInt_lt, ← Int32.toInt_inj, hj, own_c10, own_c11, own_c18, own_c19, own_c23, own_c26, own_c32] at q104 q106 q108 q110 q112 q114 q116; exact if_pos (by omega))) zz) ?_
                show own_Goes p e below _ (T117.setTop (mkF m 308 #[.val (.int p0), .val (.ref h0.size), .val (.int ((p0 &&& (2147483647 : Int32)) % (34 : Int32))), .val (.ref (A i)), .val (.int (1 : Int32))] []))
                refine own_by (fun _ zz => XS.iconst X117.here hx rfl (hb hby at_308) zz) ?_
                show own_Goes p e below _ (T117.setTop (mkF m 309 #[.val (.int p0), .val (.ref h0.size), .val (.int ((p0 &&& (2147483647 : Int32)) % (34 : Int32))), .val (.ref (A i)), .val (.int (1 : Int32))] [(.int (1 : Int32))]))
                refine own_by (fun _ zz => XS.goto X117.here hx rfl (pc0 := 309) (pc' := 313) rfl (hb hby at_309) (by decide) (by decide) zz) ?_
                show own_Goes p e below _ (T117.setTop (mkF m 313 #[.val (.int p0), .val (.ref h0.size), .val (.int ((p0 &&& (2147483647 : Int32)) % (34 : Int32))), .val (.ref (A i)), .val (.int (1 : Int32))] [(.int (1 : Int32))]))
                refine own_retN X117 hx hlk (ty := .boolean) hret (by simp) (hb hby at_313) (by decide) (by decide) ?_
                exact ⟨rfl, N102⟩
              · refine own_by (fun _ zz => XS.icmpYes X102.here hx rfl (pc0 := 289) (pc' := 296) rfl (hb hby at_289) rfl (XT.ii_ne_t q116) (by decide) (by decide) zz) ?_
                show own_Goes p e below _ (T102.setTop (mkF m 296 #[.val (.int p0), .val (.ref h0.size), .val (.int ((p0 &&& (2147483647 : Int32)) % (34 : Int32))), .val (.ref (A i)), .unset] []))
                refine own_by (fun _ zz => XS.iconst X102.here hx rfl (hb hby at_296) zz) ?_
                show own_Goes p e below _ (T102.setTop (mkF m 297 #[.val (.int p0), .val (.ref h0.size), .val (.int ((p0 &&& (2147483647 : Int32)) % (34 : Int32))), .val (.ref (A i)), .unset] [(.int (0 : Int32))]))
                refine own_by (fun _ zz => XS.istore X102.here hx rfl (hb hby at_297) rfl (l' := #[.val (.int p0), .val (.ref h0.size), .val (.int ((p0 &&& (2147483647 : Int32)) % (34 : Int32))), .val (.ref (A i)), .val (.int (0 : Int32))]) rfl zz) ?_
                show own_Goes p e below _ (T102.setTop (mkF m 299 #[.val (.int p0), .val (.ref h0.size), .val (.int ((p0 &&& (2147483647 : Int32)) % (34 : Int32))), .val (.ref (A i)), .val (.int (0 : Int32))] []))
                refine own_by (fun _ zz => XS.aloadN X102.here hx rfl (hb hby at_299) rfl rfl zz) ?_
                show own_Goes p e below _ (T102.setTop (mkF m 300 #[.val (.int p0), .val (.ref h0.size), .val (.int ((p0 &&& (2147483647 : Int32)) % (34 : Int32))), .val (.ref (A i)), .val (.int (0 : Int32))] [(.ref (A i))]))
                refine own_callV0 X102 hx hZ (W := 0) (K := "com/example/janustile/dicom/Vr") (argsL := []) (rest := []) hown (own_w73 hw) (own_w74 hw) (own_w76 hw) (own_w75 hw) (own_w77 hw) (own_w3 hw) (by decide) e102 (own_exa W102 hi) (rm_takesCharacterSet l hw W102 (A i)) (by decide) (by decide) (by decide) (by decide) (by rw [hml]; rfl) (lenOf own_pd0 rfl) rfl (Nat.le_of_ble_eq_true rfl) (hb hby at_300) fun T118 X118 e118 => ?_
                show own_Goes p e below _ (T118.setTop (mkF m 303 #[.val (.int p0), .val (.ref h0.size), .val (.int ((p0 &&& (2147483647 : Int32)) % (34 : Int32))), .val (.ref (A i)), .val (.int (0 : Int32))] [(.int (own_r_takesCharacterSet A (A i)))]))
                refine own_by (fun _ zz => XS.iload X118.here hx rfl (hb hby at_303) rfl zz) ?_
                show own_Goes p e below _ (T118.setTop (mkF m 305 #[.val (.int p0), .val (.ref h0.size), .val (.int ((p0 &&& (2147483647 : Int32)) % (34 : Int32))), .val (.ref (A i)), .val (.int (0 : Int32))] [(.int (0 : Int32)), (.int (own_r_takesCharacterSet A (A i)))]))
                refine own_by (fun _ zz => XS.icmpNo X118.here hx rfl (hb hby at_305) rfl (XT.ii_ne_f (by rw [own_say W hi]; simp only [Int32.lt_iff_toInt_lt, ← Int32.toInt_inj, hj, own_c10, own_c11, own_c18, own_c19, own_c23, own_c26, own_c32] at q104 q106 q108 q110 q112 q114 q116; exact if_neg (by omega))) zz) ?_
                show own_Goes p e below _ (T118.setTop (mkF m 308 #[.val (.int p0), .val (.ref h0.size), .val (.int ((p0 &&& (2147483647 : Int32)) % (34 : Int32))), .val (.ref (A i)), .val (.int (0 : Int32))] []))
                refine own_by (fun _ zz => XS.iconst X118.here hx rfl (hb hby at_308) zz) ?_
                show own_Goes p e below _ (T118.setTop (mkF m 309 #[.val (.int p0), .val (.ref h0.size), .val (.int ((p0 &&& (2147483647 : Int32)) % (34 : Int32))), .val (.ref (A i)), .val (.int (0 : Int32))] [(.int (1 : Int32))]))
                refine own_by (fun _ zz => XS.goto X118.here hx rfl (pc0 := 309) (pc' := 313) rfl (hb hby at_309) (by decide) (by decide) zz) ?_
                show own_Goes p e below _ (T118.setTop (mkF m 313 #[.val (.int p0), .val (.ref h0.size), .val (.int ((p0 &&& (2147483647 : Int32)) % (34 : Int32))), .val (.ref (A i)), .val (.int (0 : Int32))] [(.int (1 : Int32))]))
                refine own_retN X118 hx hlk (ty := .boolean) hret (by simp) (hb hby at_313) (by decide) (by decide) ?_
                exact ⟨rfl, N102⟩
set_option maxRecDepth 65536 in
set_option maxHeartbeats 40000000 in
theorem comes_1 {Post : Tables → Env → Array Value → State → Outcome → State → Prop} (hpost : ∀ tb e args s v u, (limb_1_1.after args s (.returned v) u = true ∧ limb_1_2.after args s (.returned v) u = true ∧ True) → FrameEnd s (.returned v) u (Jvm.fieldLocs frame_1_writes args s ++ Jvm.arrayLocs frame_1_arrays args s ++ Jvm.staticLocs frame_1_statics s) 16 192 → Post tb e args s (.returned v) u) :
    ArmFor flags0 classFile x code maxLocals ret World_1 tables_1 room_1 Calls_1 rest_1 Pre_1 Post := by
  intro l hfl _ _ p e ha hc hk s m args below hf hA hF happ hP
  obtain ⟨hcalls, hrest, hpre⟩ := hP
  obtain ⟨-, -, -, hnamed, -, -, -, hat⟩ := (Spec.applies_iff hf).mp happ
  obtain ⟨hg, hn⟩ := and_e (Cond.before_iff.mp (show (Jvm.Cond.and given_1 narrow_1).before args s = true from hpre))
  obtain ⟨g0, hg0⟩ := and_e hg
  obtain ⟨w0, rfl⟩ : ∃ w0 : Value, args = #[w0] := by
    have hs : args.size = 1 := by simpa [Cond.value, given_1] using g0
    obtain ⟨L⟩ := args
    match L, hs with
    | [w0], _ => exact ⟨w0, rfl⟩
  have hw := fun d (hd : d ∈ tables_1) => atoms_spec (ws := Jvm.Cond.code x code maxLocals ret :: tables_1) hat d (List.mem_cons_of_mem _ hd)
  obtain ⟨j0, y0⟩ := is_v hg0
  obtain rfl : w0 = (.int j0) := Option.some.inj y0
  obtain ⟨A, W⟩ := own_world hw hn
  obtain ⟨n, o, h1, h2, h3, _, L, rfl, ⟨rfl, NN⟩, hq⟩ := rm_law l hw tables_1 W j0 p e ha hc hk s m _ below hf ((Spec.applies_iff_loose hf).mp happ).1 ⟨rfl, State.Warmed39.refl s, rfl⟩ trivial
  refine ⟨n, _, h1, h2, h3, hpost _ _ _ _ _ _ ⟨Cond.after_iff.mpr rfl, Cond.after_iff.mpr (eq_i res_at (Term.int_eval (1)) rfl), trivial⟩ ⟨hq.1, hq.2.1, (hq.2.2.sift fun y hy => Or.inr (NN y hy)).mono (by decide) (by decide)⟩⟩
theorem main_1_1 : Claimed_1_1 := comes_1 fun _ _ _ _ _ _ h hF => ⟨h.1, hF⟩
theorem main_1_2 : Claimed_1_2 := comes_1 fun _ _ _ _ _ _ h hF => ⟨h.2.1, hF⟩
end Jvm.Pilot.@@N@@
namespace Jvm.Pilot.@@N@@
open Jvm Jvm.ClassFile Sem Op Lib Jvm.Free Jvm.Stand Jvm.Pilot.@@N@@.Jvm.D
/-! MADE BY PROGRAM (witnessworld.py) out of the Statement's table words and the real class files: 13 classes; the members and pool entries that the words name. The judged class is class 1, her method 1. -/
namespace start1
open Jvm.ClassFile
def u (s : String) : CpInfo := .utf8 (stringToUtf16 s)
/-- a pool by its gaps: so many unusable entries, then the entry; so many at the end -/
def gap : Nat → List CpInfo → List CpInfo
  | 0, r => r
  | n + 1, r => .unusable :: gap n r
def poolList (es : List (Nat × CpInfo)) (last : Nat) : List CpInfo := es.foldr (fun e r => gap e.1 (e.2 :: r)) (gap last [])
def pool (es : List (Nat × CpInfo)) (last : Nat) : Array CpInfo := ⟨poolList es last⟩
def fileOf (pool : Array CpInfo) (this : Nat) (attrs : Array Attribute := #[]) (ms : Array MethodInfo := #[]) (fl : Nat := 33) (sup : Nat := 0) (ifs : Array Nat := #[]) (fds : Array FieldInfo := #[]) : ClassFile where
  minorVersion := 0
  majorVersion := 65
  constantPool := pool
  accessFlags := fl
  thisClass := this
  superClass := sup
  interfaces := ifs
  fields := fds
  methods := ms
  attributes := attrs
def plain (name : String) (sup : Option ClassId) : Class where
  name := name
  kind := .ordinary
  loader := none
  accessFlags := 33
  super := sup
  interfaces := #[]
  cf := none
  fields := #[]
  methods := #[]
  instanceTypes := #[]
  staticTypes := #[]
  resolved := #[]
  callSites := []
  init := .initialized
  statics := none
  mirror := none

def pool0 : Array CpInfo := pool [(5, u "<init>"), (0, u "()V"), (1, .class_ 10), (1, u "java/lang/Object")] 113

def k0m0 : Method := { name := "<init>", desc := "()V", sig := { parameters := [], returnType := none }, accessFlags := 1, code := none }
/-- java/lang/Object -/
def k0 : Class := { plain "java/lang/Object" none with
  accessFlags := 33
  interfaces := #[]
  cf := some (fileOf pool0 8 #[] #[{ accessFlags := 1, nameIndex := 5, descriptorIndex := 6, attributes := #[] }] 33 0 #[] #[])
  fields := #[]
  methods := #[k0m0]
  instanceTypes := #[]
  staticTypes := #[]
  resolved := Array.replicate 124 none
  statics := none }

def pool1 : Array CpInfo := pool [(2, .class_ 4), (1, u "java/lang/Object"), (0, u "<init>"), (0, u "()V"), (0, .class_ 8), (0, u "com/example/janustile/dicom/Vr"), (0, .fieldref 7 10), (0, .nameAndType 11 12), (0, u "AE"), (0, u "Lcom/example/janustile/dicom/Vr;"), (0, .fieldref 7 14), (0, .nameAndType 15 12), (0, u "AS"), (0, .fieldref 7 17), (0, .nameAndType 18 12), (0, u "AT"), (0, .fieldref 7 20), (0, .nameAndType 21 12), (0, u "CS"), (0, .fieldref 7 23), (0, .nameAndType 24 12), (0, u "DA"), (0, .fieldref 7 26), (0, .nameAndType 27 12), (0, u "DS"), (0, .fieldref 7 29), (0, .nameAndType 30 12), (0, u "DT"), (0, .fieldref 7 32), (0, .nameAndType 33 12), (0, u "FD"), (0, .fieldref 7 35), (0, .nameAndType 36 12), (0, u "FL"), (0, .fieldref 7 38), (0, .nameAndType 39 12), (0, u "IS"), (0, .fieldref 7 41), (0, .nameAndType 42 12), (0, u "LO"), (0, .fieldref 7 44), (0, .nameAndType 45 12), (0, u "LT"), (0, .fieldref 7 47), (0, .nameAndType 48 12), (0, u "OB"), (0, .fieldref 7 50), (0, .nameAndType 51 12), (0, u "OD"), (0, .fieldref 7 53), (0, .nameAndType 54 12), (0, u "OF"), (0, .fieldref 7 56), (0, .nameAndType 57 12), (0, u "OL"), (0, .fieldref 7 59), (0, .nameAndType 60 12), (0, u "OV"), (0, .fieldref 7 62), (0, .nameAndType 63 12), (0, u "OW"), (0, .fieldref 7 65), (0, .nameAndType 66 12), (0, u "PN"), (0, .fieldref 7 68), (0, .nameAndType 69 12), (0, u "SH"), (0, .fieldref 7 71), (0, .nameAndType 72 12), (0, u "SL"), (0, .fieldref 7 74), (0, .nameAndType 75 12), (0, u "SQ"), (0, .fieldref 7 77), (0, .nameAndType 78 12), (0, u "SS"), (0, .fieldref 7 80), (0, .nameAndType 81 12), (0, u "ST"), (0, .fieldref 7 83), (0, .nameAndType 84 12), (0, u "SV"), (0, .fieldref 7 86), (0, .nameAndType 87 12), (0, u "TM"), (0, .fieldref 7 89), (0, .nameAndType 90 12), (0, u "UC"), (0, .fieldref 7 92), (0, .nameAndType 93 12), (0, u "UI"), (0, .fieldref 7 95), (0, .nameAndType 96 12), (0, u "UL"), (0, .fieldref 7 98), (0, .nameAndType 99 12), (0, u "UN"), (0, .fieldref 7 101), (0, .nameAndType 102 12), (0, u "UR"), (0, .fieldref 7 104), (0, .nameAndType 105 12), (0, u "US"), (0, .fieldref 7 107), (0, .nameAndType 108 12), (0, u "UT"), (0, .fieldref 7 110), (0, .nameAndType 111 12), (0, u "UV"), (0, .integer 2147483647), (0, .methodref 7 114), (0, .nameAndType 115 116), (0, u "takesCharacterSet"), (0, u "()Z"), (0, .class_ 118), (0, u "com/example/janustile/dicom/VrTakesCharacterSetPinLaw"), (2, u "law"), (0, u "(I)Z")] 5

def k1m0 : Method := { name := "<init>", desc := "()V", sig := { parameters := [], returnType := none }, accessFlags := 1, code := none }
def k1c1 : Code := { maxStack := 4, maxLocals := 5, code := code, exceptionTable := #[], attributes := #[] }
def k1m1 : Method := { name := "law", desc := "(I)Z", sig := { parameters := [.int], returnType := some .boolean }, accessFlags := 9, code := some k1c1 }
/-- com/example/janustile/dicom/VrTakesCharacterSetPinLaw -/
def k1 : Class := { plain "com/example/janustile/dicom/VrTakesCharacterSetPinLaw" (some 0) with
  accessFlags := 49
  interfaces := #[]
  cf := some (fileOf pool1 117 #[] #[{ accessFlags := 1, nameIndex := 5, descriptorIndex := 6, attributes := #[] }, { accessFlags := 9, nameIndex := 121, descriptorIndex := 122, attributes := #[] }] 49 2 #[] #[])
  fields := #[]
  methods := #[k1m0, k1m1]
  instanceTypes := #[]
  staticTypes := #[]
  resolved := Array.replicate 128 none
  statics := none }

def pool2 : Array CpInfo := pool [(1, .class_ 2), (0, u "java/lang/constant/Constable"), (0, .class_ 4), (0, u "java/lang/Object")] 6

/-- java/lang/constant/Constable -/
def k2 : Class := { plain "java/lang/constant/Constable" (some 0) with
  accessFlags := 1537
  interfaces := #[]
  cf := some (fileOf pool2 1 #[] #[] 1537 3 #[] #[])
  fields := #[]
  methods := #[]
  instanceTypes := #[]
  staticTypes := #[]
  resolved := Array.replicate 11 none
  statics := none }

def pool3 : Array CpInfo := pool [(1, .class_ 2), (0, u "java/lang/Comparable"), (0, .class_ 4), (0, u "java/lang/Object")] 7

/-- java/lang/Comparable -/
def k3 : Class := { plain "java/lang/Comparable" (some 0) with
  accessFlags := 1537
  interfaces := #[]
  cf := some (fileOf pool3 1 #[] #[] 1537 3 #[] #[])
  fields := #[]
  methods := #[]
  instanceTypes := #[]
  staticTypes := #[]
  resolved := Array.replicate 12 none
  statics := none }

def pool4 : Array CpInfo := pool [(1, .class_ 2), (0, u "java/io/Serializable"), (0, .class_ 4), (0, u "java/lang/Object")] 2

/-- java/io/Serializable -/
def k4 : Class := { plain "java/io/Serializable" (some 0) with
  accessFlags := 1537
  interfaces := #[]
  cf := some (fileOf pool4 1 #[] #[] 1537 3 #[] #[])
  fields := #[]
  methods := #[]
  instanceTypes := #[]
  staticTypes := #[]
  resolved := Array.replicate 7 none
  statics := none }

def pool5 : Array CpInfo := pool [(2, .class_ 4), (1, u "java/lang/Enum"), (0, u "name"), (0, u "Ljava/lang/String;"), (2, u "ordinal"), (0, u "I"), (1, .class_ 14), (1, u "java/lang/Object"), (4, u "hash"), (86, .class_ 108), (1, u "java/lang/Enum$EnumDesc"), (2, .class_ 112), (0, u "java/lang/constant/Constable"), (0, .class_ 114), (0, u "java/lang/Comparable"), (0, .class_ 116), (0, u "java/io/Serializable")] 87

/-- java/lang/Enum -/
def k5 : Class := { plain "java/lang/Enum" (some 0) with
  accessFlags := 1057
  interfaces := #[2, 3, 4]
  cf := some (fileOf pool5 2 #[.nestMembers #[106]] #[] 1057 12 #[111, 113, 115] #[{ accessFlags := 18, nameIndex := 5, descriptorIndex := 6, attributes := #[] }, { accessFlags := 18, nameIndex := 9, descriptorIndex := 10, attributes := #[] }, { accessFlags := 2, nameIndex := 19, descriptorIndex := 10, attributes := #[] }])
  fields := #[{ name := "name", type := (.object "java/lang/String"), accessFlags := 18, slot := 0, constantValue := 0 }, { name := "ordinal", type := .int, accessFlags := 18, slot := 1, constantValue := 0 }, { name := "hash", type := .int, accessFlags := 2, slot := 2, constantValue := 0 }]
  methods := #[]
  instanceTypes := #[(.object "java/lang/String"), .int, .int]
  staticTypes := #[]
  resolved := Array.replicate 204 none
  statics := none }

def pool6 : Array CpInfo := pool [(1, .class_ 2), (0, u "com/example/janustile/dicom/Vr"), (2, u "AE"), (0, u "Lcom/example/janustile/dicom/Vr;"), (2, u "AS"), (2, u "AT"), (2, u "CS"), (2, u "DA"), (2, u "DS"), (2, u "DT"), (2, u "FD"), (2, u "FL"), (2, u "IS"), (0, .fieldref 1 35), (0, .nameAndType 36 6), (0, u "LO"), (0, .fieldref 1 38), (0, .nameAndType 39 6), (0, u "LT"), (2, u "OB"), (2, u "OD"), (2, u "OF"), (2, u "OL"), (2, u "OV"), (2, u "OW"), (0, .fieldref 1 59), (0, .nameAndType 60 6), (0, u "PN"), (0, .fieldref 1 62), (0, .nameAndType 63 6), (0, u "SH"), (2, u "SL"), (2, u "SQ"), (2, u "SS"), (0, .fieldref 1 74), (0, .nameAndType 75 6), (0, u "ST"), (2, u "SV"), (2, u "TM"), (0, .fieldref 1 83), (0, .nameAndType 84 6), (0, u "UC"), (2, u "UI"), (2, u "UL"), (2, u "UN"), (2, u "UR"), (2, u "US"), (0, .fieldref 1 101), (0, .nameAndType 102 6), (0, u "UT"), (2, u "UV"), (2, u "$VALUES"), (0, u "[Lcom/example/janustile/dicom/Vr;"), (6, .class_ 118), (1, u "java/lang/Enum"), (8, u "maxLength"), (0, u "I"), (2, u "padding"), (0, u "B"), (2, u "longLength"), (0, u "Z"), (2, u "width"), (22, u "takesCharacterSet"), (0, u "()Z"), (7, u "LEADING_AND_TRAILING_SPACES"), (0, u "Ljava/util/regex/Pattern;"), (16, u "TRAILING_SPACES"), (7, u "AGE"), (5, u "DATE"), (9, u "DECIMAL"), (2, u "DATE_TIME"), (7, u "TIME"), (3, u "UID"), (78, u "WHOLE_NUMBER"), (95, u "NAME_GROUPS"), (0, u "Ljava/util/List;"), (24, u "TIME_PARTS"), (0, u "Ljava/lang/String;"), (1, u "MONTHS"), (1, u "LAST_HOUR"), (1, u "LAST_MINUTE"), (1, u "LAST_SECOND"), (1, u "WESTMOST_OFFSET"), (1, u "EASTMOST_OFFSET")] 55

def k6c0 : Code := { maxStack := 2, maxLocals := 1, code := prog_49_method_13_code, exceptionTable := #[], attributes := #[] }
def k6m0 : Method := { name := "takesCharacterSet", desc := "()Z", sig := { parameters := [], returnType := some .boolean }, accessFlags := 0, code := some k6c0 }
/-- com/example/janustile/dicom/Vr -/
def k6 : Class := { plain "com/example/janustile/dicom/Vr" (some 5) with
  accessFlags := 16432
  interfaces := #[]
  cf := some (fileOf pool6 1 #[] #[{ accessFlags := 0, nameIndex := 162, descriptorIndex := 163, attributes := #[] }] 16432 116 #[] #[{ accessFlags := 16409, nameIndex := 5, descriptorIndex := 6, attributes := #[] }, { accessFlags := 16409, nameIndex := 9, descriptorIndex := 6, attributes := #[] }, { accessFlags := 16409, nameIndex := 12, descriptorIndex := 6, attributes := #[] }, { accessFlags := 16409, nameIndex := 15, descriptorIndex := 6, attributes := #[] }, { accessFlags := 16409, nameIndex := 18, descriptorIndex := 6, attributes := #[] }, { accessFlags := 16409, nameIndex := 21, descriptorIndex := 6, attributes := #[] }, { accessFlags := 16409, nameIndex := 24, descriptorIndex := 6, attributes := #[] }, { accessFlags := 16409, nameIndex := 27, descriptorIndex := 6, attributes := #[] }, { accessFlags := 16409, nameIndex := 30, descriptorIndex := 6, attributes := #[] }, { accessFlags := 16409, nameIndex := 33, descriptorIndex := 6, attributes := #[] }, { accessFlags := 16409, nameIndex := 36, descriptorIndex := 6, attributes := #[] }, { accessFlags := 16409, nameIndex := 39, descriptorIndex := 6, attributes := #[] }, { accessFlags := 16409, nameIndex := 42, descriptorIndex := 6, attributes := #[] }, { accessFlags := 16409, nameIndex := 45, descriptorIndex := 6, attributes := #[] }, { accessFlags := 16409, nameIndex := 48, descriptorIndex := 6, attributes := #[] }, { accessFlags := 16409, nameIndex := 51, descriptorIndex := 6, attributes := #[] }, { accessFlags := 16409, nameIndex := 54, descriptorIndex := 6, attributes := #[] }, { accessFlags := 16409, nameIndex := 57, descriptorIndex := 6, attributes := #[] }, { accessFlags := 16409, nameIndex := 60, descriptorIndex := 6, attributes := #[] }, { accessFlags := 16409, nameIndex := 63, descriptorIndex := 6, attributes := #[] }, { accessFlags := 16409, nameIndex := 66, descriptorIndex := 6, attributes := #[] }, { accessFlags := 16409, nameIndex := 69, descriptorIndex := 6, attributes := #[] }, { accessFlags := 16409, nameIndex := 72, descriptorIndex := 6, attributes := #[] }, { accessFlags := 16409, nameIndex := 75, descriptorIndex := 6, attributes := #[] }, { accessFlags := 16409, nameIndex := 78, descriptorIndex := 6, attributes := #[] }, { accessFlags := 16409, nameIndex := 81, descriptorIndex := 6, attributes := #[] }, { accessFlags := 16409, nameIndex := 84, descriptorIndex := 6, attributes := #[] }, { accessFlags := 16409, nameIndex := 87, descriptorIndex := 6, attributes := #[] }, { accessFlags := 16409, nameIndex := 90, descriptorIndex := 6, attributes := #[] }, { accessFlags := 16409, nameIndex := 93, descriptorIndex := 6, attributes := #[] }, { accessFlags := 16409, nameIndex := 96, descriptorIndex := 6, attributes := #[] }, { accessFlags := 16409, nameIndex := 99, descriptorIndex := 6, attributes := #[] }, { accessFlags := 16409, nameIndex := 102, descriptorIndex := 6, attributes := #[] }, { accessFlags := 16409, nameIndex := 105, descriptorIndex := 6, attributes := #[] }, { accessFlags := 24, nameIndex := 403, descriptorIndex := 404, attributes := #[] }, { accessFlags := 26, nameIndex := 429, descriptorIndex := 430, attributes := #[] }, { accessFlags := 26, nameIndex := 203, descriptorIndex := 172, attributes := #[] }, { accessFlags := 26, nameIndex := 224, descriptorIndex := 172, attributes := #[] }, { accessFlags := 26, nameIndex := 216, descriptorIndex := 172, attributes := #[] }, { accessFlags := 26, nameIndex := 197, descriptorIndex := 172, attributes := #[] }, { accessFlags := 26, nameIndex := 213, descriptorIndex := 172, attributes := #[] }, { accessFlags := 26, nameIndex := 307, descriptorIndex := 172, attributes := #[] }, { accessFlags := 26, nameIndex := 228, descriptorIndex := 172, attributes := #[] }, { accessFlags := 26, nameIndex := 171, descriptorIndex := 172, attributes := #[] }, { accessFlags := 26, nameIndex := 189, descriptorIndex := 172, attributes := #[] }, { accessFlags := 26, nameIndex := 432, descriptorIndex := 128, attributes := #[] }, { accessFlags := 26, nameIndex := 434, descriptorIndex := 128, attributes := #[] }, { accessFlags := 26, nameIndex := 436, descriptorIndex := 128, attributes := #[] }, { accessFlags := 26, nameIndex := 438, descriptorIndex := 128, attributes := #[] }, { accessFlags := 26, nameIndex := 440, descriptorIndex := 128, attributes := #[] }, { accessFlags := 26, nameIndex := 442, descriptorIndex := 128, attributes := #[] }, { accessFlags := 18, nameIndex := 127, descriptorIndex := 128, attributes := #[] }, { accessFlags := 18, nameIndex := 131, descriptorIndex := 132, attributes := #[] }, { accessFlags := 18, nameIndex := 135, descriptorIndex := 136, attributes := #[] }, { accessFlags := 18, nameIndex := 139, descriptorIndex := 128, attributes := #[] }, { accessFlags := 4122, nameIndex := 108, descriptorIndex := 109, attributes := #[] }])
  fields := #[{ name := "AE", type := (.object "com/example/janustile/dicom/Vr"), accessFlags := 16409, slot := 0, constantValue := 0 }, { name := "AS", type := (.object "com/example/janustile/dicom/Vr"), accessFlags := 16409, slot := 1, constantValue := 0 }, { name := "AT", type := (.object "com/example/janustile/dicom/Vr"), accessFlags := 16409, slot := 2, constantValue := 0 }, { name := "CS", type := (.object "com/example/janustile/dicom/Vr"), accessFlags := 16409, slot := 3, constantValue := 0 }, { name := "DA", type := (.object "com/example/janustile/dicom/Vr"), accessFlags := 16409, slot := 4, constantValue := 0 }, { name := "DS", type := (.object "com/example/janustile/dicom/Vr"), accessFlags := 16409, slot := 5, constantValue := 0 }, { name := "DT", type := (.object "com/example/janustile/dicom/Vr"), accessFlags := 16409, slot := 6, constantValue := 0 }, { name := "FD", type := (.object "com/example/janustile/dicom/Vr"), accessFlags := 16409, slot := 7, constantValue := 0 }, { name := "FL", type := (.object "com/example/janustile/dicom/Vr"), accessFlags := 16409, slot := 8, constantValue := 0 }, { name := "IS", type := (.object "com/example/janustile/dicom/Vr"), accessFlags := 16409, slot := 9, constantValue := 0 }, { name := "LO", type := (.object "com/example/janustile/dicom/Vr"), accessFlags := 16409, slot := 10, constantValue := 0 }, { name := "LT", type := (.object "com/example/janustile/dicom/Vr"), accessFlags := 16409, slot := 11, constantValue := 0 }, { name := "OB", type := (.object "com/example/janustile/dicom/Vr"), accessFlags := 16409, slot := 12, constantValue := 0 }, { name := "OD", type := (.object "com/example/janustile/dicom/Vr"), accessFlags := 16409, slot := 13, constantValue := 0 }, { name := "OF", type := (.object "com/example/janustile/dicom/Vr"), accessFlags := 16409, slot := 14, constantValue := 0 }, { name := "OL", type := (.object "com/example/janustile/dicom/Vr"), accessFlags := 16409, slot := 15, constantValue := 0 }, { name := "OV", type := (.object "com/example/janustile/dicom/Vr"), accessFlags := 16409, slot := 16, constantValue := 0 }, { name := "OW", type := (.object "com/example/janustile/dicom/Vr"), accessFlags := 16409, slot := 17, constantValue := 0 }, { name := "PN", type := (.object "com/example/janustile/dicom/Vr"), accessFlags := 16409, slot := 18, constantValue := 0 }, { name := "SH", type := (.object "com/example/janustile/dicom/Vr"), accessFlags := 16409, slot := 19, constantValue := 0 }, { name := "SL", type := (.object "com/example/janustile/dicom/Vr"), accessFlags := 16409, slot := 20, constantValue := 0 }, { name := "SQ", type := (.object "com/example/janustile/dicom/Vr"), accessFlags := 16409, slot := 21, constantValue := 0 }, { name := "SS", type := (.object "com/example/janustile/dicom/Vr"), accessFlags := 16409, slot := 22, constantValue := 0 }, { name := "ST", type := (.object "com/example/janustile/dicom/Vr"), accessFlags := 16409, slot := 23, constantValue := 0 }, { name := "SV", type := (.object "com/example/janustile/dicom/Vr"), accessFlags := 16409, slot := 24, constantValue := 0 }, { name := "TM", type := (.object "com/example/janustile/dicom/Vr"), accessFlags := 16409, slot := 25, constantValue := 0 }, { name := "UC", type := (.object "com/example/janustile/dicom/Vr"), accessFlags := 16409, slot := 26, constantValue := 0 }, { name := "UI", type := (.object "com/example/janustile/dicom/Vr"), accessFlags := 16409, slot := 27, constantValue := 0 }, { name := "UL", type := (.object "com/example/janustile/dicom/Vr"), accessFlags := 16409, slot := 28, constantValue := 0 }, { name := "UN", type := (.object "com/example/janustile/dicom/Vr"), accessFlags := 16409, slot := 29, constantValue := 0 }, { name := "UR", type := (.object "com/example/janustile/dicom/Vr"), accessFlags := 16409, slot := 30, constantValue := 0 }, { name := "US", type := (.object "com/example/janustile/dicom/Vr"), accessFlags := 16409, slot := 31, constantValue := 0 }, { name := "UT", type := (.object "com/example/janustile/dicom/Vr"), accessFlags := 16409, slot := 32, constantValue := 0 }, { name := "UV", type := (.object "com/example/janustile/dicom/Vr"), accessFlags := 16409, slot := 33, constantValue := 0 }, { name := "NAME_GROUPS", type := (.object "java/util/List"), accessFlags := 24, slot := 34, constantValue := 0 }, { name := "TIME_PARTS", type := (.object "java/lang/String"), accessFlags := 26, slot := 35, constantValue := 0 }, { name := "DATE", type := (.object "java/util/regex/Pattern"), accessFlags := 26, slot := 36, constantValue := 0 }, { name := "TIME", type := (.object "java/util/regex/Pattern"), accessFlags := 26, slot := 37, constantValue := 0 }, { name := "DATE_TIME", type := (.object "java/util/regex/Pattern"), accessFlags := 26, slot := 38, constantValue := 0 }, { name := "AGE", type := (.object "java/util/regex/Pattern"), accessFlags := 26, slot := 39, constantValue := 0 }, { name := "DECIMAL", type := (.object "java/util/regex/Pattern"), accessFlags := 26, slot := 40, constantValue := 0 }, { name := "WHOLE_NUMBER", type := (.object "java/util/regex/Pattern"), accessFlags := 26, slot := 41, constantValue := 0 }, { name := "UID", type := (.object "java/util/regex/Pattern"), accessFlags := 26, slot := 42, constantValue := 0 }, { name := "LEADING_AND_TRAILING_SPACES", type := (.object "java/util/regex/Pattern"), accessFlags := 26, slot := 43, constantValue := 0 }, { name := "TRAILING_SPACES", type := (.object "java/util/regex/Pattern"), accessFlags := 26, slot := 44, constantValue := 0 }, { name := "MONTHS", type := .int, accessFlags := 26, slot := 45, constantValue := 0 }, { name := "LAST_HOUR", type := .int, accessFlags := 26, slot := 46, constantValue := 0 }, { name := "LAST_MINUTE", type := .int, accessFlags := 26, slot := 47, constantValue := 0 }, { name := "LAST_SECOND", type := .int, accessFlags := 26, slot := 48, constantValue := 0 }, { name := "WESTMOST_OFFSET", type := .int, accessFlags := 26, slot := 49, constantValue := 0 }, { name := "EASTMOST_OFFSET", type := .int, accessFlags := 26, slot := 50, constantValue := 0 }, { name := "maxLength", type := .int, accessFlags := 18, slot := 3, constantValue := 0 }, { name := "padding", type := .byte, accessFlags := 18, slot := 4, constantValue := 0 }, { name := "longLength", type := .boolean, accessFlags := 18, slot := 5, constantValue := 0 }, { name := "width", type := .int, accessFlags := 18, slot := 6, constantValue := 0 }, { name := "$VALUES", type := (.array (.object "com/example/janustile/dicom/Vr")), accessFlags := 4122, slot := 51, constantValue := 0 }]
  methods := #[k6m0]
  instanceTypes := #[(.object "java/lang/String"), .int, .int, .int, .byte, .boolean, .int]
  staticTypes := #[(.object "com/example/janustile/dicom/Vr"), (.object "com/example/janustile/dicom/Vr"), (.object "com/example/janustile/dicom/Vr"), (.object "com/example/janustile/dicom/Vr"), (.object "com/example/janustile/dicom/Vr"), (.object "com/example/janustile/dicom/Vr"), (.object "com/example/janustile/dicom/Vr"), (.object "com/example/janustile/dicom/Vr"), (.object "com/example/janustile/dicom/Vr"), (.object "com/example/janustile/dicom/Vr"), (.object "com/example/janustile/dicom/Vr"), (.object "com/example/janustile/dicom/Vr"), (.object "com/example/janustile/dicom/Vr"), (.object "com/example/janustile/dicom/Vr"), (.object "com/example/janustile/dicom/Vr"), (.object "com/example/janustile/dicom/Vr"), (.object "com/example/janustile/dicom/Vr"), (.object "com/example/janustile/dicom/Vr"), (.object "com/example/janustile/dicom/Vr"), (.object "com/example/janustile/dicom/Vr"), (.object "com/example/janustile/dicom/Vr"), (.object "com/example/janustile/dicom/Vr"), (.object "com/example/janustile/dicom/Vr"), (.object "com/example/janustile/dicom/Vr"), (.object "com/example/janustile/dicom/Vr"), (.object "com/example/janustile/dicom/Vr"), (.object "com/example/janustile/dicom/Vr"), (.object "com/example/janustile/dicom/Vr"), (.object "com/example/janustile/dicom/Vr"), (.object "com/example/janustile/dicom/Vr"), (.object "com/example/janustile/dicom/Vr"), (.object "com/example/janustile/dicom/Vr"), (.object "com/example/janustile/dicom/Vr"), (.object "com/example/janustile/dicom/Vr"), (.object "java/util/List"), (.object "java/lang/String"), (.object "java/util/regex/Pattern"), (.object "java/util/regex/Pattern"), (.object "java/util/regex/Pattern"), (.object "java/util/regex/Pattern"), (.object "java/util/regex/Pattern"), (.object "java/util/regex/Pattern"), (.object "java/util/regex/Pattern"), (.object "java/util/regex/Pattern"), (.object "java/util/regex/Pattern"), .int, .int, .int, .int, .int, .int, (.array (.object "com/example/janustile/dicom/Vr"))]
  resolved := Array.replicate 498 none
  statics := some 0 }

def pool7 : Array CpInfo := pool [(1, u "java/lang/Cloneable"), (0, .class_ 1), (0, u "java/lang/Object"), (0, .class_ 3)] 3

/-- java/lang/Cloneable -/
def k7 : Class := { plain "java/lang/Cloneable" (some 0) with
  accessFlags := 1537
  interfaces := #[]
  cf := some (fileOf pool7 2 #[] #[] 1537 4 #[] #[])
  fields := #[]
  methods := #[]
  instanceTypes := #[]
  staticTypes := #[]
  resolved := Array.replicate 8 none
  statics := none }

/-- the primitive byte -/
def k8 : Class := { plain "byte" none with kind := .primitive 'B', accessFlags := 0x411 }
/-- [B -/
def k9 : Class := { plain "[B" (some 0) with kind := .array 8 .byte, interfaces := #[7, 4], accessFlags := 1041 }

/-- the primitive int -/
def k10 : Class := { plain "int" none with kind := .primitive 'I', accessFlags := 0x411 }
/-- [I -/
def k11 : Class := { plain "[I" (some 0) with kind := .array 10 .int, interfaces := #[7, 4], accessFlags := 1041 }

/-- [Lcom/example/janustile/dicom/Vr; -/
def k12 : Class := { plain "[Lcom/example/janustile/dicom/Vr;" (some 0) with kind := .array 6 (.object "com/example/janustile/dicom/Vr"), interfaces := #[7, 4], accessFlags := 1041 }

def heap : Heap := #[{ cls := 6, slots := #[.ref 1, .ref 2, .ref 3, .ref 4, .ref 5, .ref 6, .ref 7, .ref 8, .ref 9, .ref 10, .ref 11, .ref 12, .ref 13, .ref 14, .ref 15, .ref 16, .ref 17, .ref 18, .ref 19, .ref 20, .ref 21, .ref 22, .ref 23, .ref 24, .ref 25, .ref 26, .ref 27, .ref 28, .ref 29, .ref 30, .ref 31, .ref 32, .ref 33, .ref 34, .null, .null, .null, .null, .null, .null, .null, .null, .null, .null, .null, .int 0, .int 0, .int 0, .int 0, .int 0, .int 0, .null], vm := .statics 6 },
  { cls := 6, slots := #[.null, .int 0, .int 0, .int 0, .int 0, .int 0, .int 0], vm := .none },
  { cls := 6, slots := #[.null, .int 1, .int 0, .int 0, .int 0, .int 0, .int 0], vm := .none },
  { cls := 6, slots := #[.null, .int 2, .int 0, .int 0, .int 0, .int 0, .int 0], vm := .none },
  { cls := 6, slots := #[.null, .int 3, .int 0, .int 0, .int 0, .int 0, .int 0], vm := .none },
  { cls := 6, slots := #[.null, .int 4, .int 0, .int 0, .int 0, .int 0, .int 0], vm := .none },
  { cls := 6, slots := #[.null, .int 5, .int 0, .int 0, .int 0, .int 0, .int 0], vm := .none },
  { cls := 6, slots := #[.null, .int 6, .int 0, .int 0, .int 0, .int 0, .int 0], vm := .none },
  { cls := 6, slots := #[.null, .int 7, .int 0, .int 0, .int 0, .int 0, .int 0], vm := .none },
  { cls := 6, slots := #[.null, .int 8, .int 0, .int 0, .int 0, .int 0, .int 0], vm := .none },
  { cls := 6, slots := #[.null, .int 9, .int 0, .int 0, .int 0, .int 0, .int 0], vm := .none },
  { cls := 6, slots := #[.null, .int 10, .int 0, .int 0, .int 0, .int 0, .int 0], vm := .none },
  { cls := 6, slots := #[.null, .int 11, .int 0, .int 0, .int 0, .int 0, .int 0], vm := .none },
  { cls := 6, slots := #[.null, .int 12, .int 0, .int 0, .int 0, .int 0, .int 0], vm := .none },
  { cls := 6, slots := #[.null, .int 13, .int 0, .int 0, .int 0, .int 0, .int 0], vm := .none },
  { cls := 6, slots := #[.null, .int 14, .int 0, .int 0, .int 0, .int 0, .int 0], vm := .none },
  { cls := 6, slots := #[.null, .int 15, .int 0, .int 0, .int 0, .int 0, .int 0], vm := .none },
  { cls := 6, slots := #[.null, .int 16, .int 0, .int 0, .int 0, .int 0, .int 0], vm := .none },
  { cls := 6, slots := #[.null, .int 17, .int 0, .int 0, .int 0, .int 0, .int 0], vm := .none },
  { cls := 6, slots := #[.null, .int 18, .int 0, .int 0, .int 0, .int 0, .int 0], vm := .none },
  { cls := 6, slots := #[.null, .int 19, .int 0, .int 0, .int 0, .int 0, .int 0], vm := .none },
  { cls := 6, slots := #[.null, .int 20, .int 0, .int 0, .int 0, .int 0, .int 0], vm := .none },
  { cls := 6, slots := #[.null, .int 21, .int 0, .int 0, .int 0, .int 0, .int 0], vm := .none },
  { cls := 6, slots := #[.null, .int 22, .int 0, .int 0, .int 0, .int 0, .int 0], vm := .none },
  { cls := 6, slots := #[.null, .int 23, .int 0, .int 0, .int 0, .int 0, .int 0], vm := .none },
  { cls := 6, slots := #[.null, .int 24, .int 0, .int 0, .int 0, .int 0, .int 0], vm := .none },
  { cls := 6, slots := #[.null, .int 25, .int 0, .int 0, .int 0, .int 0, .int 0], vm := .none },
  { cls := 6, slots := #[.null, .int 26, .int 0, .int 0, .int 0, .int 0, .int 0], vm := .none },
  { cls := 6, slots := #[.null, .int 27, .int 0, .int 0, .int 0, .int 0, .int 0], vm := .none },
  { cls := 6, slots := #[.null, .int 28, .int 0, .int 0, .int 0, .int 0, .int 0], vm := .none },
  { cls := 6, slots := #[.null, .int 29, .int 0, .int 0, .int 0, .int 0, .int 0], vm := .none },
  { cls := 6, slots := #[.null, .int 30, .int 0, .int 0, .int 0, .int 0, .int 0], vm := .none },
  { cls := 6, slots := #[.null, .int 31, .int 0, .int 0, .int 0, .int 0, .int 0], vm := .none },
  { cls := 6, slots := #[.null, .int 32, .int 0, .int 0, .int 0, .int 0, .int 0], vm := .none },
  { cls := 6, slots := #[.null, .int 33, .int 0, .int 0, .int 0, .int 0, .int 0], vm := .none }]
def classes : Array Class := #[k0, k1, k2, k3, k4, k5, k6, k7, k8, k9, k10, k11, k12]
def interned : List (Array UInt16 × Addr) := []
def slotsUsed : Nat := 290
def theMethod : MethodId := ⟨1, 1⟩
def args0 : Array Value := #[.int 5]
def aboutOver (below : List Frame) : State where
  vm := { classes := classes, interned := interned.toArray }
  heap := heap
  slotsUsed := slotsUsed
  threads := #[{ frames := .invoking theMethod args0 :: below }]
def below0 : List Frame := [.native { method := ⟨0, 0⟩, args := #[] }]
def about1 : State := aboutOver below0
def p0 : Program := .bare "" "" ""
def e0 : Env := launch0.env 0 0 0
theorem w_frames : about1.frames = Frame.invoking theMethod args0 :: below0 := rfl
set_option maxRecDepth 65536 in
theorem w_args : argsFit about1.vm theMethod args0 = true := by decide +kernel
set_option maxRecDepth 65536 in
theorem w_heap : heapFits about1 = true := by decide +kernel
set_option maxRecDepth 65536 in
theorem w_runnable : about1.curStatus? = some .runnable := by decide +kernel
set_option maxRecDepth 65536 in
theorem w_alone : about1.alone = true := by decide +kernel
set_option maxRecDepth 65536 in
theorem w_named : about1.methodNamed? x = some theMethod := by decide +kernel
set_option maxRecDepth 65536 in
theorem w_hears : about1.hears theMethod below0 = true := by decide +kernel
set_option maxRecDepth 65536 in
theorem w_ripe : about1.ripe theMethod args0 below0 = true := by decide +kernel
theorem w_running : about1.status = .running := rfl
set_option maxRecDepth 65536 in
theorem w_room : about1.hasRoom e0.platform room_1 = true :=
  launch0.hasRoom_least _ room_1 (by decide +kernel) (by decide +kernel) (by decide +kernel) (by decide +kernel) (by decide +kernel) (by decide +kernel)
theorem allAtoms_all (ts : List Jvm.Cond) (a : Array Jvm.Value) (st : Jvm.State) : (allAtoms ts).before a st = ts.all (fun c => c.before a st) := by
  induction ts with
  | nil => rfl
  | cons c t ih =>
    show (Jvm.Cond.and c (allAtoms t)).before a st = _
    rw [Jvm.Cond.before_and, ih, List.all_cons]
def words1 : List Jvm.Cond := Jvm.Cond.code x code maxLocals ret :: tables_1
/-- a 'code' word, met by the world's own term for the bytes: nothing is compared byte by byte -/
theorem code_word {y : MethodName} {bytes : ByteArray} {mx : Nat} {rt : Option FieldType} {a : Array Value} {s : State} {m : MethodId} {meth : Method} {c : Code} (h1 : s.methodNamed? y = some m) (h2 : s.vm.method? m = some meth) (h3 : meth.code = some c) (h4 : c.code = bytes)
    (h5 : (c.maxLocals == mx && c.exceptionTable.isEmpty && decide (c.maxStack ≤ mostOperands) && decide (meth.sig.returnType = rt) && !meth.locks && decide (parseMethodDescriptor y.desc = some meth.sig)) = true) : (Jvm.Cond.code y bytes mx rt).before a s = true := by
  simp only [Bool.and_eq_true, beq_iff_eq, Bool.not_eq_true', decide_eq_true_eq] at h5
  obtain ⟨⟨⟨⟨⟨g1, g2⟩, g3⟩, g4⟩, g5⟩, g6⟩ := h5
  simp [Cond.before, Cond.holds, Cond.value, h1, h2, h3, h4, g1, g2, g3, g4, g5, g6]
def isCode : Jvm.Cond → Bool
  | .code _ _ _ _ => true
  | _ => false
theorem all_split {L : List Jvm.Cond} {P : Jvm.Cond → Bool} (h1 : L.all (fun c => isCode c || P c) = true) (h2 : ∀ c ∈ L.filter isCode, P c = true) : L.all P = true := by
  refine List.all_eq_true.mpr fun c hc => ?_
  have h := List.all_eq_true.mp h1 c hc
  rcases Bool.eq_false_or_eq_true (isCode c) with hi | hi
  · exact h2 c (List.mem_filter.mpr ⟨hc, hi⟩)
  · simpa [hi] using h
set_option maxRecDepth 65536 in
theorem w_c0 : (Jvm.Cond.code x code maxLocals ret).before args0 about1 = true := code_word (m := ⟨1, 1⟩) (meth := k1m1) (c := k1c1) (by decide +kernel) rfl rfl rfl (by decide +kernel)
set_option maxRecDepth 65536 in
theorem w_c1 : (Jvm.Cond.code ({ cls := "com/example/janustile/dicom/Vr", name := "takesCharacterSet", desc := "()Z" } : Jvm.MethodName) prog_49_method_13_code (1 : Nat) (Option.some Jvm.ClassFile.FieldType.boolean)).before args0 about1 = true := code_word (m := ⟨6, 0⟩) (meth := k6m0) (c := k6c0) (by decide +kernel) rfl rfl rfl (by decide +kernel)
def codes1 : List Jvm.Cond := [Jvm.Cond.code x code maxLocals ret, Jvm.Cond.code ({ cls := "com/example/janustile/dicom/Vr", name := "takesCharacterSet", desc := "()Z" } : Jvm.MethodName) prog_49_method_13_code (1 : Nat) (Option.some Jvm.ClassFile.FieldType.boolean)]
set_option maxRecDepth 65536 in
theorem codes_eq : words1.filter isCode = codes1 := rfl
theorem w_codes : ∀ c ∈ words1.filter isCode, c.before args0 about1 = true := by
  rw [codes_eq]
  intro c hc
  simp only [codes1, List.mem_cons, List.not_mem_nil, or_false] at hc
  rcases hc with rfl | rfl
  · exact w_c0
  · exact w_c1
set_option maxRecDepth 65536 in
theorem w_t1 : (words1.take 24).all (fun c => isCode c || c.before args0 about1) = true := by decide +kernel
set_option maxRecDepth 65536 in
theorem w_t2 : ((words1.drop 24).take 24).all (fun c => isCode c || c.before args0 about1) = true := by decide +kernel
set_option maxRecDepth 65536 in
theorem w_t3 : (((words1.drop 24).drop 24).take 24).all (fun c => isCode c || c.before args0 about1) = true := by decide +kernel
set_option maxRecDepth 65536 in
theorem w_t4 : (((words1.drop 24).drop 24).drop 24).all (fun c => isCode c || c.before args0 about1) = true := by decide +kernel
theorem w_tables : (allAtoms (Jvm.Cond.code x code maxLocals ret :: tables_1)).before args0 about1 = true := by
  rw [allAtoms_all]
  show words1.all (fun c => c.before args0 about1) = true
  refine all_split ?_ w_codes
  rw [← List.take_append_drop 24 words1, List.all_append, w_t1, ← List.take_append_drop 24 (words1.drop 24), List.all_append, w_t2, ← List.take_append_drop 24 ((words1.drop 24).drop 24), List.all_append, w_t3, w_t4]
  rfl
set_option maxRecDepth 65536 in
theorem w_case : (Jvm.Cond.and given_1 narrow_1).before args0 about1 = true := by decide +kernel
theorem w_applies : (headSpec (Jvm.Cond.code x code maxLocals ret :: tables_1) room_1).applies x e0.platform about1 = true :=
  (Spec.applies_iff w_frames).mpr ⟨w_running, w_runnable, w_alone, w_named, w_hears, w_ripe, w_room, w_tables⟩
theorem atStart : AtStart classFile x code maxLocals ret World_1 tables_1 room_1 Calls_1 rest_1 Pre_1 launch0 p0 e0 about1 theMethod args0 below0 :=
  ⟨lists_1, trivial, launch0.admits_env _ _ _, launch0.least_env, fairChoices_fair.cas, fairChoices_fair.clock, w_frames, w_args, w_heap, w_applies, trivial, trivial, w_case⟩
end start1
theorem witness_1 : WitnessClaimed_1 := ⟨start1.p0, start1.e0, start1.about1, start1.theMethod, start1.args0, start1.below0, start1.atStart⟩
end Jvm.Pilot.@@N@@
