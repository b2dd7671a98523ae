import JvmDerived
import JvmDerived.Pilot.@@N@@Statement
import JvmDerived.Pilot.@@N@@Code
set_option linter.unusedVariables false
set_option linter.unusedSimpArgs false
namespace Jvm.JW
open Sem ClassFile Op Lib Jvm.Stand Jvm.Free Jvm.LawKit Jvm.RoadKit
/-! The walk in continuation form: D holds of a machine state if the run from it ends as the contract says. -/
def Dn (p : Program) (e : Env) (below : List Frame) (s : State) (Q : Option Value → Heap → List Loc → Prop) (k n : Nat) (S : State) : Prop :=
  ∃ s₂ o, Steps p.tables e below S s₂ ∧ s₂.status = .running ∧ Ended s₂ below o ∧ ∃ v L, o = .returned v ∧ Q v s₂.heap L ∧ FrameEnd s o s₂ L k n
def Adv (p : Program) (e : Env) (below : List Frame) (D : State → Prop) : Prop :=
  ∀ {S S' : State}, (∀ {t : State}, Steps p.tables e below S' t → Steps p.tables e below S t) → D S' → D S
theorem Adv.dn {p : Program} {e : Env} {below : List Frame} {s : State} {Q : Option Value → Heap → List Loc → Prop} {k n : Nat} : Adv p e below (Dn p e below s Q k n) := by
  intro S S' h d
  obtain ⟨s2, o, h1, h2⟩ := d
  exact ⟨s2, o, h h1, h2⟩
theorem Adv.tr {p : Program} {e : Env} {below : List Frame} {D : State → Prop} (A : Adv p e below D) {S S' : State} (h : Steps p.tables e below S S') (d : D S') : D S := A (fun k => h.trans k) d
abbrev JMet (l : Launch) (Z : State) (y : MethodName) (bytes : ByteArray) (maxL : Nat) (ret : Option FieldType) (ws : List Cond) (rm : Room) (as' : Array Value) (h0 : Heap) (Q : Option Value → Heap → List Loc → Prop) : Prop :=
  MetFree l y (head1 (Cond.code y bytes maxL ret :: ws) rm) (fun a U => a = as' ∧ Z.Warmed39 U.vm ∧ U.heap = h0) (fun _ _ _ _ _ => True) (fun _ U o U' => ∃ v L, o = .returned v ∧ Q v U'.heap L ∧ FrameEnd U o U' L rm.cells rm.slots)
/-- a body that returns r and leaves the heap as it was -/
def QP (r : Value) (h0 : Heap) (n0 : Nat) (v : Option Value) (h : Heap) (L : List Loc) : Prop := v = some r ∧ Fr n0 L ∧ h = h0
/-- the law: it returns 1; nothing that stood at the start is written -/
def QL (n0 : Nat) (v : Option Value) (h : Heap) (L : List Loc) : Prop := v = some (.int 1) ∧ Fr n0 L
section Kit
variable {p : Program} {l : Launch} {e : Env} {R : Room} {s : State} {m : MethodId} {args : Array Value} {below : List Frame} {meth : Method} {c : Code} {T : State} {locs : List Loc} {cells slots : Nat} {Z : State} {a0 : Array Value} {h : Heap} {D : State → Prop}
theorem ret (X : Stand p l e R s m args below meth c T locs cells slots) (hlk : meth.locks = false) {Q : Option Value → Heap → List Loc → Prop} {k n : Nat} {S : State} {v : Option Value} (hv : meth.sig.returnType = none → v = none)
    (hst : ∀ fs, (∀ (f : JFrame) (acts : List Action), f.method = m → f.locked = none → f.entered = [] → (doReturn e (T.setTop f) acts v).1 = T.setFrames fs) → Steps p.tables e below S (T.setFrames fs))
    {hh : Heap} (eT : T.heap = hh) (hq : Q v hh locs) (hk : cells ≤ k) (hn : slots ≤ n) : Dn p e below s Q k n S := by
  subst eT
  obtain ⟨fs, hr, hrun, hended, hW, hsame⟩ := X.leave (v := v) hv hlk
  exact ⟨_, _, hst fs hr, hrun, hended, _, _, rfl, hq, ⟨_, rfl⟩, hW, hsame.mono hk hn⟩
theorem body {y : MethodName} {bytes : ByteArray} {maxL : Nat} {rt : Option FieldType} {ws : List Cond} {rm : Room} {as' : Array Value} {h0 : Heap} {Q : Option Value → Heap → List Loc → Prop} (Ls : Array Slot) (hpl : plainFor y = true) (hef : ∀ m, entryFrame m as' maxL = mkF m 0 Ls [])
    (bd : ∀ (p : Program) (e : Env) (s : State) (m : MethodId) (below : List Frame) (meth : Method) (c : Code) (T0 : State) (D : State → Prop), Adv p e below D → (∀ S, Dn p e below s Q rm.cells rm.slots S → D S) → Stand p l e rm s m as' below meth c T0 [] 0 0 → p.tables.exec = Jvm.exec → Z.Warmed39 s.vm → c.code = bytes → c.maxLocals = maxL → s.vm.findClass y.cls = some m.cls → meth.name = y.name → meth.sig.returnType = rt → meth.locks = false → T0.heap = h0 → D (T0.setTop (mkF m 0 Ls []))) :
    JMet l Z y bytes maxL rt ws rm as' h0 Q := by
  refine MetFree.of_bodySF hpl hisR ?_
  intro p e s m args below meth c s₁ Bd hml hP hK
  obtain ⟨rfl, hZ, hh⟩ := hP
  have q := bd p e s m below meth c s₁ (Dn p e below s Q rm.cells rm.slots) Adv.dn (fun _ d => d) (Stand.of_body Bd) Bd.exec hZ Bd.bytes hml (findClass_of_methodNamed Bd.named) (name_of_methodNamed Bd.named Bd.method).1 Bd.returns Bd.notSynchronized (by rw [← hh, Bd.state]; rfl)
  rw [← hef m] at q
  exact q
theorem Adv.callS (A : Adv p e below D) (X : Stand p l e R s m args below meth c T locs cells slots) (hx : p.tables.exec = Jvm.exec) (hZ : Z.Warmed39 s.vm) {own : String} {index : Nat} {y : MethodName} {bytes : ByteArray} {maxL : Nat} {rt : Option FieldType} {rm : Room} {as' : Array Value} {Q : Option Value → Heap → List Loc → Prop}
    (hown : s.vm.findClass own = some m.cls) (w1 : (Cond.methodLink own index y).before a0 Z = true) (w2 : (Cond.static y).before a0 Z = true) (w3 : (Cond.initialized y.cls).before a0 Z = true) (w4 : (Cond.code y bytes maxL rt).before a0 Z = true) (eT : T.heap = h)
    (hM : JMet l Z y bytes maxL rt [] rm as' h Q) (W : Nat) {g : JFrame} (hg : g.method = m) (hsz : g.locals.size = c.maxLocals) (argsL rest : List Value) (has : as' = argsL.toArray)
    (hlen : ∀ sig, parseMethodDescriptor y.desc = some sig → argsL.length = sig.parameters.length) (hstack : g.stack = argsL.reverse ++ rest) (hW : 2 * g.monitorRoom + (rest.map fun v => v.category).sum ≤ W)
    (hd : decode c.code g.pc = .ok (.invokestatic index, 3)) (hy : y.cls ≠ "java/lang/invoke/MethodHandle" ∧ y.cls ≠ "java/lang/invoke/VarHandle") (hf : rm.frames + 1 ≤ R.frames) (hl : W + (maxL + 11) + rm.locals ≤ R.locals) (hc : cells + rm.cells ≤ R.cells) (hs : slots + rm.slots ≤ R.slots)
    (k : ∀ (T' : State) (L' : List Loc) (v : Option Value), Stand p l e R s m args below meth c T' (locs ++ L') (cells + rm.cells) (slots + rm.slots) → Q v T'.heap L' → D (T'.setTop { g with pc := g.pc + 3, stack := v.toList ++ rest })) : D (T.setTop g) := by
  subst has
  obtain ⟨v, _, ⟨T', L, k', n'⟩, -, X', ⟨Lc, hQ, l', y', z'⟩, st⟩ := Jvm.LawKit.callS X hx (y := y) hown (mvT hZ w1) (mvT hZ w2) (mvT hZ w3) (mvT hZ w4) hy (backOf (W := W) hM hZ w4 w3 hf hl) (g := g) hg hsz (argsL := argsL) (rest := rest) hlen hstack hW hd (fun _ _ => ⟨rfl, eT, hc, hs⟩)
  dsimp only [Pt.U, Pt.locs, Pt.cells, Pt.slots] at X' l' y' z' st hQ
  subst l' y' z'
  exact A (fun q => st _ q) (k T' Lc v X' hQ)
theorem Adv.callI (A : Adv p e below D) (X : Stand p l e R s m args below meth c T locs cells slots) (hx : p.tables.exec = Jvm.exec) (hZ : Z.Warmed39 s.vm) {own : String} {index : Nat} {y : MethodName} {bytes : ByteArray} {maxL : Nat} {rm : Room} {as' : Array Value} {Q : Option Value → Heap → List Loc → Prop}
    (hown : s.vm.findClass own = some m.cls) (hi : y.name = "<init>") (w1 : (Cond.methodLink own index y).before a0 Z = true) (w2 : (Cond.instanceMethod y).before a0 Z = true) (w3 : (Cond.initialized y.cls).before a0 Z = true) (w4 : (Cond.code y bytes maxL none).before a0 Z = true) (eT : T.heap = h)
    (hM : JMet l Z y bytes maxL none [] rm as' h Q) (W : Nat) {g : JFrame} (hg : g.method = m) (hsz : g.locals.size = c.maxLocals) (a : Addr) (argsL rest : List Value) (has : as' = (.ref a :: argsL).toArray)
    (hlen : ∀ sig, parseMethodDescriptor y.desc = some sig → argsL.length = sig.parameters.length) (hstack : g.stack = argsL.reverse ++ .ref a :: rest) (hW : 2 * g.monitorRoom + (rest.map fun v => v.category).sum ≤ W)
    (hd : decode c.code g.pc = .ok (.invokespecial index, 3)) (hy : y.cls ≠ "java/lang/invoke/MethodHandle" ∧ y.cls ≠ "java/lang/invoke/VarHandle") (hf : rm.frames + 1 ≤ R.frames) (hl : W + (maxL + 11) + rm.locals ≤ R.locals) (hc : cells + rm.cells ≤ R.cells) (hs : slots + rm.slots ≤ R.slots)
    (k : ∀ (T' : State) (L' : List Loc) (v : Option Value), Stand p l e R s m args below meth c T' (locs ++ L') (cells + rm.cells) (slots + rm.slots) → Q v T'.heap L' → D (T'.setTop { g with pc := g.pc + 3, stack := v.toList ++ rest })) : D (T.setTop g) := by
  subst has
  obtain ⟨v, _, ⟨T', L, k', n'⟩, -, X', ⟨Lc, hQ, l', y', z'⟩, st⟩ := X.specialBack hx (y := y) hi hown (mvT hZ w1) (mvT hZ w2) (mvT hZ w4) hy (backOf (W := W) hM hZ w4 w3 hf hl) (g := g) hg hsz (Steps.refl _) (a := a) (argsL := argsL) (rest := rest) hlen hstack hW hd (fun _ _ => ⟨rfl, eT, hc, hs⟩)
  dsimp only [Pt.U, Pt.locs, Pt.cells, Pt.slots] at X' l' y' z' st hQ
  subst l' y' z'
  exact A.tr st (k T' Lc v X' hQ)
theorem Adv.callV (A : Adv p e below D) (X : Stand p l e R s m args below meth c T locs cells slots) (hx : p.tables.exec = Jvm.exec) (hZ : Z.Warmed39 s.vm) {own C : String} {index : Nat} {y z : MethodName} {bytes : ByteArray} {maxL : Nat} {rt : Option FieldType} {rm : Room} {as' : Array Value} {Q : Option Value → Heap → List Loc → Prop} {a : Addr}
    (hown : s.vm.findClass own = some m.cls) (w1 : (Cond.methodLink own index y).before a0 Z = true) (w2 : (Cond.declares y).before a0 Z = true) (nf : NotFace s y) (w5 : (Cond.selects C y z).before a0 Z = true) (w6 : (Cond.instanceMethod z).before a0 Z = true) (w3 : (Cond.initialized z.cls).before a0 Z = true) (w4 : (Cond.code z bytes maxL rt).before a0 Z = true) (eT : T.heap = h) (E : Exa Z h a C)
    (hM : JMet l Z z bytes maxL rt [] rm as' h Q) (W : Nat) {g : JFrame} (hg : g.method = m) (hsz : g.locals.size = c.maxLocals) (argsL rest : List Value) (has : as' = (.ref a :: argsL).toArray)
    (hlen : ∀ sig, parseMethodDescriptor y.desc = some sig → argsL.length = sig.parameters.length) (hstack : g.stack = argsL.reverse ++ .ref a :: rest) (hW : 2 * g.monitorRoom + (rest.map fun v => v.category).sum ≤ W)
    (hd : decode c.code g.pc = .ok (.invokevirtual index, 3)) (hy : y.cls ≠ "java/lang/invoke/MethodHandle" ∧ y.cls ≠ "java/lang/invoke/VarHandle") (hf : rm.frames + 1 ≤ R.frames) (hl : W + (maxL + 11) + rm.locals ≤ R.locals) (hc : cells + rm.cells ≤ R.cells) (hs : slots + rm.slots ≤ R.slots)
    (k : ∀ (T' : State) (L' : List Loc) (v : Option Value), Stand p l e R s m args below meth c T' (locs ++ L') (cells + rm.cells) (slots + rm.slots) → Q v T'.heap L' → D (T'.setTop { g with pc := g.pc + 3, stack := v.toList ++ rest })) : D (T.setTop g) := by
  subst has
  obtain ⟨cq, kq, qa, qb, qc⟩ := isOf hZ eT E
  obtain ⟨v, _, ⟨T', L, k', n'⟩, -, X', ⟨Lc, hQ, l', y', z'⟩, st⟩ := X.virtualBack hx (y := y) (z := z) hown (mvT hZ w1) (mvT hZ w2) nf (mvT hZ w5) (mvT hZ w6) hy (backOf (W := W) hM hZ w4 w3 hf hl) qa qc (g := g) hg hsz (Steps.refl _) (argsL := argsL) (rest := rest) hlen hstack hW hd (fun _ _ => ⟨rfl, eT, hc, hs⟩)
  dsimp only [Pt.U, Pt.locs, Pt.cells, Pt.slots] at X' l' y' z' st hQ
  subst l' y' z'
  exact A.tr st (k T' Lc v X' hQ)
theorem Adv.callU (A : Adv p e below D) (X : Stand p l e R s m args below meth c T locs cells slots) (hx : p.tables.exec = Jvm.exec) (hZ : Z.Warmed39 s.vm) {own C owner : String} {index : Nat} {y z : MethodName} {bytes : ByteArray} {maxL : Nat} {rt : Option FieldType} {rm : Room} {as' : Array Value} {Q : Option Value → Heap → List Loc → Prop} {a : Addr}
    (hown : s.vm.findClass own = some m.cls) (w1 : (Cond.methodLink own index y).before a0 Z = true) (w7 : (Cond.sameMethod y.cls owner y.name y.desc).before a0 Z = true) (w2 : (Cond.declares ⟨owner, y.name, y.desc⟩).before a0 Z = true) (w5 : (Cond.selects C y z).before a0 Z = true) (w6 : (Cond.instanceMethod z).before a0 Z = true) (w3 : (Cond.initialized z.cls).before a0 Z = true) (w4 : (Cond.code z bytes maxL rt).before a0 Z = true) (eT : T.heap = h) (E : Exa Z h a C)
    (hM : JMet l Z z bytes maxL rt [] rm as' h Q) (W : Nat) {g : JFrame} (hg : g.method = m) (hsz : g.locals.size = c.maxLocals) (argsL rest : List Value) (has : as' = (.ref a :: argsL).toArray)
    (hlen : ∀ sig, parseMethodDescriptor y.desc = some sig → argsL.length = sig.parameters.length) (hstack : g.stack = argsL.reverse ++ .ref a :: rest) (hW : 2 * g.monitorRoom + (rest.map fun v => v.category).sum ≤ W)
    (hd : decode c.code g.pc = .ok (.invokevirtual index, 3)) (hy : owner ≠ "java/lang/invoke/MethodHandle" ∧ owner ≠ "java/lang/invoke/VarHandle") (hf : rm.frames + 1 ≤ R.frames) (hl : W + (maxL + 11) + rm.locals ≤ R.locals) (hc : cells + rm.cells ≤ R.cells) (hs : slots + rm.slots ≤ R.slots)
    (k : ∀ (T' : State) (L' : List Loc) (v : Option Value), Stand p l e R s m args below meth c T' (locs ++ L') (cells + rm.cells) (slots + rm.slots) → Q v T'.heap L' → D (T'.setTop { g with pc := g.pc + 3, stack := v.toList ++ rest })) : D (T.setTop g) := by
  subst has
  obtain ⟨cq, kq, qa, qb, qc⟩ := isOf hZ eT E
  obtain ⟨v, _, ⟨T', L, k', n'⟩, -, X', ⟨Lc, hQ, l', y', z'⟩, st⟩ := X.virtualBackUp hx (x := y) (y := z) (owner := owner) hown (mvT hZ w1) (mvT hZ w7) (mvT hZ w2) hy (mvT hZ w5) (mvT hZ w6) (backOf (W := W) hM hZ w4 w3 hf hl) qa qc (g := g) hg hsz (Steps.refl _) (argsL := argsL) (rest := rest) hlen hstack hW hd (fun _ _ => ⟨rfl, eT, hc, hs⟩)
  dsimp only [Pt.U, Pt.locs, Pt.cells, Pt.slots] at X' l' y' z' st hQ
  subst l' y' z'
  exact A.tr st (k T' Lc v X' hQ)
theorem Adv.callP (A : Adv p e below D) (X : Stand p l e R s m args below meth c T locs cells slots) (hx : p.tables.exec = Jvm.exec) (hZ : Z.Warmed39 s.vm) {own C : String} {index kn : Nat} {y : MethodName} {bytes : ByteArray} {maxL : Nat} {rt : Option FieldType} {rm : Room} {as' : Array Value} {Q : Option Value → Heap → List Loc → Prop} {a : Addr}
    (hown : s.vm.findClass own = some m.cls) (w1 : (Cond.methodLink own index y).before a0 Z = true) (w2 : (Cond.instanceMethod y).before a0 Z = true) (wi : (Cond.instantiable y.cls kn).before a0 Z = true) (w5 : (Cond.privateMethod y).before a0 Z = true) (w3 : (Cond.initialized y.cls).before a0 Z = true) (w4 : (Cond.code y bytes maxL rt).before a0 Z = true) (eT : T.heap = h) (E : Exa Z h a C)
    (hM : JMet l Z y bytes maxL rt [] rm as' h Q) (W : Nat) {g : JFrame} (hg : g.method = m) (hsz : g.locals.size = c.maxLocals) (argsL rest : List Value) (has : as' = (.ref a :: argsL).toArray)
    (hlen : ∀ sig, parseMethodDescriptor y.desc = some sig → argsL.length = sig.parameters.length) (hstack : g.stack = argsL.reverse ++ .ref a :: rest) (hW : 2 * g.monitorRoom + (rest.map fun v => v.category).sum ≤ W)
    (hd : decode c.code g.pc = .ok (.invokevirtual index, 3)) (hy : y.cls ≠ "java/lang/invoke/MethodHandle" ∧ y.cls ≠ "java/lang/invoke/VarHandle") (hf : rm.frames + 1 ≤ R.frames) (hl : W + (maxL + 11) + rm.locals ≤ R.locals) (hc : cells + rm.cells ≤ R.cells) (hs : slots + rm.slots ≤ R.slots)
    (k : ∀ (T' : State) (L' : List Loc) (v : Option Value), Stand p l e R s m args below meth c T' (locs ++ L') (cells + rm.cells) (slots + rm.slots) → Q v T'.heap L' → D (T'.setTop { g with pc := g.pc + 3, stack := v.toList ++ rest })) : D (T.setTop g) := by
  subst has
  obtain ⟨ce, hce, hob⟩ := E.cell
  have hpriv : s.PrivateAt y := Cond.privateMethod_at (mvP hZ w5 (args := #[]))
  have hins : (Cond.instanceMethod y).before args s = true := mvT hZ w2
  have hwi : (Cond.instantiable y.cls kn).before args s = true := mvT hZ wi
  obtain ⟨ck, kk, c1, c2, -, c4, -⟩ := Cond.instantiable_spec hwi
  have hsel := selects_self_of_private c1 c2 (Bool.or_eq_false_iff.mp c4).1 hpriv hins hy
  obtain ⟨v, _, ⟨T', L, k', n'⟩, -, X', ⟨Lc, hQ, l', y', z'⟩, st⟩ := X.privateBack hx (y := y) hown (mvT hZ w1) hins hsel hpriv (mvT hZ w4) hy (backOf (W := W) hM hZ w4 w3 hf hl) (g := g) hg hsz (Steps.refl _) (a := a) (cell := ce) (by rw [eT]; exact hce) hob (argsL := argsL) (rest := rest) hlen hstack hW hd (fun _ _ => ⟨rfl, eT, hc, hs⟩)
  dsimp only [Pt.U, Pt.locs, Pt.cells, Pt.slots] at X' l' y' z' st hQ
  subst l' y' z'
  exact A.tr st (k T' Lc v X' hQ)
end Kit
/-! ### arrays by a function of the place -/
section Arrays
variable {p : Program} {l : Launch} {e : Env} {R : Room} {s : State} {m : MethodId} {args : Array Value} {below : List Frame} {meth : Method} {c : Code} {T : State} {locs : List Loc} {cells slots : Nat} {Z : State} {a0 : Array Value} {h h' : Heap} {D : State → Prop} {a b : Addr} {ty : FieldType} {n : Nat} {f : Nat → Int32} {fJ : Nat → Int64} {sl : Nat} {v : Value} {ws : List Addr}
def ArI (Z : State) (h : Heap) (a : Addr) (ty : FieldType) (n : Nat) (f : Nat → Int32) : Prop :=
  n < 2147483648 ∧ ∃ c : Cell, Arr Z h a c ty ∧ c.slots.size = n ∧ ∀ i, i < n → c.slots[i]? = some (.int (f i))
def ArJ (Z : State) (h : Heap) (a : Addr) (n : Nat) (f : Nat → Int64) : Prop :=
  n < 2147483648 ∧ ∃ c : Cell, Arr Z h a c .long ∧ c.slots.size = n ∧ ∀ i, i < n → c.slots[i]? = some (.long (f i))
theorem ArI.lt (F : ArI Z h a ty n f) : a < h.size := by obtain ⟨-, c, A, -⟩ := F; exact A.lt
theorem ArI.ext (F : ArI Z h a ty n f) (E : Ext h h') : ArI Z h' a ty n f := by obtain ⟨q, c, A, r⟩ := F; exact ⟨q, c, A.ext E, r⟩
theorem ArI.other (F : ArI Z h b ty n f) (W : Wr h h' a sl v) (q : b ≠ a) : ArI Z h' b ty n f := by obtain ⟨z, c, A, r⟩ := F; exact ⟨z, c, A.other W q, r⟩
theorem ArI.keep (F : ArI Z h a ty n f) (K : Keep h h' ws) (q : a ∉ ws) : ArI Z h' a ty n f := by obtain ⟨z, c, A, r⟩ := F; exact ⟨z, c, ⟨K.2.1 a c A.1 q, A.2⟩, r⟩
theorem ArI.eqf {g : Nat → Int32} (F : ArI Z h a ty n f) (q : ∀ i, i < n → f i = g i) : ArI Z h a ty n g := by
  obtain ⟨z, c, A, r, H⟩ := F; exact ⟨z, c, A, r, fun i hi => by rw [← q i hi]; exact H i hi⟩
theorem ArJ.lt (F : ArJ Z h a n fJ) : a < h.size := by obtain ⟨-, c, A, -⟩ := F; exact A.lt
theorem ArJ.ext (F : ArJ Z h a n fJ) (E : Ext h h') : ArJ Z h' a n fJ := by obtain ⟨q, c, A, r⟩ := F; exact ⟨q, c, A.ext E, r⟩
theorem ArJ.other (F : ArJ Z h b n fJ) (W : Wr h h' a sl v) (q : b ≠ a) : ArJ Z h' b n fJ := by obtain ⟨z, c, A, r⟩ := F; exact ⟨z, c, A.other W q, r⟩
theorem ArJ.keep (F : ArJ Z h a n fJ) (K : Keep h h' ws) (q : a ∉ ws) : ArJ Z h' a n fJ := by obtain ⟨z, c, A, r⟩ := F; exact ⟨z, c, ⟨K.2.1 a c A.1 q, A.2⟩, r⟩
theorem ArJ.eqf {g : Nat → Int64} (F : ArJ Z h a n fJ) (q : ∀ i, i < n → fJ i = g i) : ArJ Z h a n g := by
  obtain ⟨z, c, A, r, H⟩ := F; exact ⟨z, c, A, r, fun i hi => by rw [← q i hi]; exact H i hi⟩
theorem ne_ari {C : String} {k : Nat} (F : Exa Z h a C) (wi : (Cond.instantiable C k).before a0 Z = true) (G : ArI Z h b ty n f) : a ≠ b := by obtain ⟨-, c, A, -⟩ := G; exact ne_arr F wi A
theorem ne_arj {C : String} {k : Nat} (F : Exa Z h a C) (wi : (Cond.instantiable C k).before a0 Z = true) (G : ArJ Z h b n fJ) : a ≠ b := by obtain ⟨-, c, A, -⟩ := G; exact ne_arr F wi A
theorem ne_arr2 {c1 c2 : Cell} {t1 t2 : FieldType} (F : Arr Z h a c1 t1) (G : Arr Z h b c2 t2) (hn : t1 ≠ t2) : a ≠ b := fun q => by
  subst q
  cases F.1.symm.trans G.1
  obtain ⟨-, k1, j1, comp1, j2⟩ := F.2.1
  obtain ⟨-, k2, i1, comp2, i2⟩ := G.2.1
  cases j1.symm.trans i1
  rw [j2] at i2
  injection i2 with _ q2
  exact hn q2
theorem ne_aij {n' : Nat} (F : ArI Z h a ty n f) (G : ArJ Z h b n' fJ) (hn : ty ≠ .long) : a ≠ b := by obtain ⟨-, c, A, -⟩ := F; obtain ⟨-, c', A', -⟩ := G; exact ne_arr2 A A' hn
theorem to_nat {j : Int32} {k : Nat} (hk : j.toInt = k) : j.toNatClampNeg = k := by simp only [Int32.toNatClampNeg, hk, Int.toNat_natCast]
theorem inb {cl : Cell} {j : Int32} {k : Nat} (hk : j.toInt = k) (hkn : k < n) (hs : cl.slots.size = n) : ¬ (j < 0 ∨ cl.slots.size ≤ j.toNatClampNeg) := by
  rw [to_nat hk, hs, Int32.lt_iff_toInt_lt, hk, show (0 : Int32).toInt = 0 from rfl]; omega
theorem ixadd {x d : Int32} {k j : Nat} (hx : x.toInt = k) (hd : d.toInt = j) (h : k + j < 2147483648) : (x + d).toInt = ((k + j : Nat) : Int) := by
  have h2 := c_iadd x d
  have h3 := rng32 (x + d)
  omega
theorem ArI.mk {k : ClassId} {z : Int32} (A : Arr Z h a (newA k ty z) ty) (hn : z.toInt = n) (hd : defaultValue ty = .int 0) : ArI Z h a ty n (fun _ => 0) := by
  have hz := to_nat hn
  refine ⟨?_, _, A, by rw [sz_new, hz], fun i hi => ?_⟩
  · have := Int32.toInt_lt z; omega
  · simp [newA, hz, hi, hd]
theorem ArJ.mk {k : ClassId} {z : Int32} (A : Arr Z h a (newA k .long z) .long) (hn : z.toInt = n) : ArJ Z h a n (fun _ => 0) := by
  have hz := to_nat hn
  refine ⟨?_, _, A, by rw [sz_new, hz], fun i hi => ?_⟩
  · have := Int32.toInt_lt z; omega
  · simp [newA, hz, hi, defaultValue]
theorem set_at {cl : Cell} {i k : Nat} (hk : k < cl.slots.size) : (cl.setSlot k v).slots[i]? = if i = k then some v else cl.slots[i]? := by
  simp only [Cell.setSlot, Array.getElem?_setIfInBounds]
  by_cases q : i = k
  · subst q; simp [hk]
  · simp [q, Ne.symm q]
theorem ArI.set {x : Int32} {k : Nat} (F : ArI Z h a ty n f) (W : Wr h h' a k (.int x)) (hk : k < n) : ArI Z h' a ty n (fun i => if i = k then x else f i) := by
  obtain ⟨z, c, A, r, H⟩ := F
  refine ⟨z, _, A.same W, by rw [sz_set, r], fun i hi => ?_⟩
  rw [set_at (by omega)]
  by_cases q : i = k
  · simp [q]
  · simp [q, H i hi]
theorem ArJ.set {x : Int64} {k : Nat} (F : ArJ Z h a n fJ) (W : Wr h h' a k (.long x)) (hk : k < n) : ArJ Z h' a n (fun i => if i = k then x else fJ i) := by
  obtain ⟨z, c, A, r, H⟩ := F
  refine ⟨z, _, A.same W, by rw [sz_set, r], fun i hi => ?_⟩
  rw [set_at (by omega)]
  by_cases q : i = k
  · simp [q]
  · simp [q, H i hi]
theorem Adv.ldI (A : Adv p e below D) (X : Stand p l e R s m args below meth c T locs cells slots) (hx : p.tables.exec = Jvm.exec) (hZ : Z.Warmed39 s.vm) (eT : T.heap = h) (F : ArI Z h a .int n f) {j : Int32} {k : Nat} (hk : j.toInt = k) (hkn : k < n) {g : JFrame} (hg : g.method = m) {rest : List Value} (hs : g.stack = .int j :: .ref a :: rest) (hd : decode c.code g.pc = .ok (.iaload, 1))
    (kk : D (T.setTop { g with pc := g.pc + 1, stack := .int (f k) :: rest })) : D (T.setTop g) := by
  obtain ⟨-, cl, Ar, r, H⟩ := F
  exact A (X.iaload hx (j := j) (v := .int (f k)) (by rw [eT]; exact Ar.1) (State.isArrayOf_alike hZ.alike Ar.2.1) Ar.2.2 (inb hk hkn r) (by rw [to_nat hk]; exact H k hkn) (g := g) hg hs hd _) kk
theorem Adv.ldB (A : Adv p e below D) (X : Stand p l e R s m args below meth c T locs cells slots) (hx : p.tables.exec = Jvm.exec) (hZ : Z.Warmed39 s.vm) (eT : T.heap = h) (F : ArI Z h a .byte n f) {j : Int32} {k : Nat} (hk : j.toInt = k) (hkn : k < n) {g : JFrame} (hg : g.method = m) {rest : List Value} (hs : g.stack = .int j :: .ref a :: rest) (hd : decode c.code g.pc = .ok (.baload, 1))
    (kk : D (T.setTop { g with pc := g.pc + 1, stack := .int (f k) :: rest })) : D (T.setTop g) := by
  obtain ⟨-, cl, Ar, r, H⟩ := F
  exact A (X.baloadBytes hx (j := j) (v := .int (f k)) (by rw [eT]; exact Ar.1) (State.isArrayOf_alike hZ.alike Ar.2.1) Ar.2.2 (inb hk hkn r) (by rw [to_nat hk]; exact H k hkn) (g := g) hg hs hd _) kk
theorem Adv.ldJ (A : Adv p e below D) (X : Stand p l e R s m args below meth c T locs cells slots) (hx : p.tables.exec = Jvm.exec) (hZ : Z.Warmed39 s.vm) (eT : T.heap = h) (F : ArJ Z h a n fJ) {j : Int32} {k : Nat} (hk : j.toInt = k) (hkn : k < n) {g : JFrame} (hg : g.method = m) {rest : List Value} (hs : g.stack = .int j :: .ref a :: rest) (hd : decode c.code g.pc = .ok (.laload, 1))
    (kk : D (T.setTop { g with pc := g.pc + 1, stack := .long (fJ k) :: rest })) : D (T.setTop g) := by
  obtain ⟨-, cl, Ar, r, H⟩ := F
  exact A (X.laload hx (j := j) (v := .long (fJ k)) (by rw [eT]; exact Ar.1) (State.isArrayOf_alike hZ.alike Ar.2.1) Ar.2.2 (inb hk hkn r) (by rw [to_nat hk]; exact H k hkn) (g := g) hg hs hd _) kk
theorem len32 {cl : Cell} (z : n < 2147483648) (r : cl.slots.size = n) : cl.slots.size.toInt32 = Int32.ofNat n   := by rw [r]
theorem Adv.lenI (A : Adv p e below D) (X : Stand p l e R s m args below meth c T locs cells slots) (hx : p.tables.exec = Jvm.exec) (hZ : Z.Warmed39 s.vm) (eT : T.heap = h) (F : ArI Z h a ty n f) {g : JFrame} (hg : g.method = m) {rest : List Value} (hs : g.stack = .ref a :: rest) (hd : decode c.code g.pc = .ok (.arraylength, 1))
    (kk : D (T.setTop { g with pc := g.pc + 1, stack := .int (Int32.ofNat n) :: rest })) : D (T.setTop g) := by
  obtain ⟨z, cl, Ar, r, H⟩ := F
  rw [← len32 z r] at kk
  exact A (X.arraylength hx (by rw [eT]; exact Ar.1) (State.isArrayOf_alike hZ.alike Ar.2.1) (g := g) hg hs hd _) kk
theorem Adv.lenJ (A : Adv p e below D) (X : Stand p l e R s m args below meth c T locs cells slots) (hx : p.tables.exec = Jvm.exec) (hZ : Z.Warmed39 s.vm) (eT : T.heap = h) (F : ArJ Z h a n fJ) {g : JFrame} (hg : g.method = m) {rest : List Value} (hs : g.stack = .ref a :: rest) (hd : decode c.code g.pc = .ok (.arraylength, 1))
    (kk : D (T.setTop { g with pc := g.pc + 1, stack := .int (Int32.ofNat n) :: rest })) : D (T.setTop g) := by
  obtain ⟨z, cl, Ar, r, H⟩ := F
  rw [← len32 z r] at kk
  exact A (X.arraylength hx (by rw [eT]; exact Ar.1) (State.isArrayOf_alike hZ.alike Ar.2.1) (g := g) hg hs hd _) kk
theorem Adv.stI (A : Adv p e below D) (X : Stand p l e R s m args below meth c T locs cells slots) (hx : p.tables.exec = Jvm.exec) (hZ : Z.Warmed39 s.vm) (eT : T.heap = h) (F : ArI Z h a .int n f) {j x : Int32} {k : Nat} (hk : j.toInt = k) (hkn : k < n) {g : JFrame} (hg : g.method = m) {rest : List Value} (hs : g.stack = .int x :: .int j :: .ref a :: rest) (hd : decode c.code g.pc = .ok (.iastore, 1))
    (kk : ∀ T' h', Stand p l e R s m args below meth c T' (locs ++ [⟨a, k⟩]) cells slots → T'.heap = h' → Wr h h' a k (.int x) → ArI Z h' a .int n (fun i => if i = k then x else f i) → D (T'.setTop { g with pc := g.pc + 1, stack := rest })) : D (T.setTop g) := by
  obtain ⟨cl, Ar, r, H⟩ := F.2
  obtain ⟨T', h', X', e', W, st⟩ := Jvm.RoadKit.stI X hx hZ eT Ar (j := j) (x := x) (inb hk hkn r) hg hs hd
  rw [to_nat hk] at X' W
  exact A (fun q => st _ q) (kk T' h' X' e' W (F.set W hkn))
theorem Adv.stB (A : Adv p e below D) (X : Stand p l e R s m args below meth c T locs cells slots) (hx : p.tables.exec = Jvm.exec) (hZ : Z.Warmed39 s.vm) (eT : T.heap = h) (F : ArI Z h a .byte n f) {j x : Int32} {k : Nat} (hk : j.toInt = k) (hkn : k < n) {g : JFrame} (hg : g.method = m) {rest : List Value} (hs : g.stack = .int x :: .int j :: .ref a :: rest) (hd : decode c.code g.pc = .ok (.bastore, 1))
    (kk : ∀ T' h', Stand p l e R s m args below meth c T' (locs ++ [⟨a, k⟩]) cells slots → T'.heap = h' → Wr h h' a k (.int x.toInt8.toInt32) → ArI Z h' a .byte n (fun i => if i = k then x.toInt8.toInt32 else f i) → D (T'.setTop { g with pc := g.pc + 1, stack := rest })) : D (T.setTop g) := by
  obtain ⟨cl, Ar, r, H⟩ := F.2
  obtain ⟨T', h', X', e', W, st⟩ := Jvm.RoadKit.stB X hx hZ eT Ar (j := j) (x := x) (inb hk hkn r) hg hs hd
  rw [to_nat hk] at X' W
  exact A (fun q => st _ q) (kk T' h' X' e' W (F.set W hkn))
theorem Adv.stJ (A : Adv p e below D) (X : Stand p l e R s m args below meth c T locs cells slots) (hx : p.tables.exec = Jvm.exec) (hZ : Z.Warmed39 s.vm) (eT : T.heap = h) (F : ArJ Z h a n fJ) {j : Int32} {x : Int64} {k : Nat} (hk : j.toInt = k) (hkn : k < n) {g : JFrame} (hg : g.method = m) {rest : List Value} (hs : g.stack = .long x :: .int j :: .ref a :: rest) (hd : decode c.code g.pc = .ok (.lastore, 1))
    (kk : ∀ T' h', Stand p l e R s m args below meth c T' (locs ++ [⟨a, k⟩]) cells slots → T'.heap = h' → Wr h h' a k (.long x) → ArJ Z h' a n (fun i => if i = k then x else fJ i) → D (T'.setTop { g with pc := g.pc + 1, stack := rest })) : D (T.setTop g) := by
  obtain ⟨cl, Ar, r, H⟩ := F.2
  obtain ⟨T', h', X', e', W, st⟩ := Jvm.RoadKit.stJ X hx hZ eT Ar (j := j) (x := x) (inb hk hkn r) hg hs hd
  rw [to_nat hk] at X' W
  exact A (fun q => st _ q) (kk T' h' X' e' W (F.set W hkn))
theorem Adv.newI (A : Adv p e below D) (X : Stand p l e R s m args below meth c T locs cells slots) (hx : p.tables.exec = Jvm.exec) (hZ : Z.Warmed39 s.vm) {aty : ArrayType} (w : (Cond.arrayClass (newarray.typeOf aty)).before a0 Z = true) (eT : T.heap = h) {z : Int32} (hz : z.toInt = n) (cap : Nat) (hcap : n ≤ cap) (hb : cap * 8 ≤ 536870912) (hdv : defaultValue (newarray.typeOf aty) = .int 0) {ad : String} (had : "[" ++ (newarray.typeOf aty).toString = ad) (hc : cells + 1 ≤ R.cells) (hl : slots + cap ≤ R.slots) {g : JFrame} (hg : g.method = m) {rest : List Value} (hs : g.stack = .int z :: rest) (hd : decode c.code g.pc = .ok (.newarray aty, 2))
    (kk : ∀ T' h' a, a = h.size → Stand p l e R s m args below meth c T' locs (cells + 1) (slots + cap) → T'.heap = h' → Ext h h' → ArI Z h' a (newarray.typeOf aty) n (fun _ => 0) → Exa Z h' a ad → D (T'.setTop { g with pc := g.pc + 2, stack := .ref a :: rest })) : D (T.setTop g) := by
  have q0 : ¬ z < 0 := by rw [Int32.lt_iff_toInt_lt, hz, show (0 : Int32).toInt = 0 from rfl]; omega
  obtain ⟨T', h', k, X', e', E, Ar, Ex, st⟩ := newPE X hx hZ w eT hg hd hs q0 (cap := cap) (by rw [to_nat hz]; exact hcap) hb hc hl had
  exact A (fun q => st _ q) (kk T' h' _ rfl X' e' E (ArI.mk Ar hz hdv) Ex)
theorem Adv.newJ (A : Adv p e below D) (X : Stand p l e R s m args below meth c T locs cells slots) (hx : p.tables.exec = Jvm.exec) (hZ : Z.Warmed39 s.vm) (w : (Cond.arrayClass .long).before a0 Z = true) (eT : T.heap = h) {z : Int32} (hz : z.toInt = n) (cap : Nat) (hcap : n ≤ cap) (hb : cap * 8 ≤ 536870912) (hc : cells + 1 ≤ R.cells) (hl : slots + cap ≤ R.slots) {g : JFrame} (hg : g.method = m) {rest : List Value} (hs : g.stack = .int z :: rest) (hd : decode c.code g.pc = .ok (.newarray .long, 2))
    (kk : ∀ T' h' a, a = h.size → Stand p l e R s m args below meth c T' locs (cells + 1) (slots + cap) → T'.heap = h' → Ext h h' → ArJ Z h' a n (fun _ => 0) → D (T'.setTop { g with pc := g.pc + 2, stack := .ref a :: rest })) : D (T.setTop g) := by
  have q0 : ¬ z < 0 := by rw [Int32.lt_iff_toInt_lt, hz, show (0 : Int32).toInt = 0 from rfl]; omega
  obtain ⟨T', h', k, X', e', E, Ar, st⟩   := newP (aty := .long) X hx hZ w eT hg hd hs q0 (cap := cap) (by rw [to_nat hz]; exact hcap) hb hc hl
  exact A (fun q => st _ q) (kk T' h' _ rfl X' e' E (ArJ.mk Ar hz))
theorem Adv.cloneI (A : Adv p e below D) (X : Stand p l e R s m args below meth c T locs cells slots) (hx : p.tables.exec = Jvm.exec) (hZ : Z.Warmed39 s.vm) {own ad : String} {index : Nat} (hown : s.vm.findClass own = some m.cls)
    (w1 : (Cond.methodLink own index ⟨ad, "clone", "()Ljava/lang/Object;"⟩).before a0 Z = true) (w2 : (Cond.sameMethod ad "java/lang/Object" "clone" "()Ljava/lang/Object;").before a0 Z = true) (w3 : (Cond.native ⟨"java/lang/Object", "clone", "()Ljava/lang/Object;"⟩).before a0 Z = true)
    (w4 : (Cond.instanceMethod ⟨"java/lang/Object", "clone", "()Ljava/lang/Object;"⟩).before a0 Z = true) (w5 : (Cond.selects ad ⟨ad, "clone", "()Ljava/lang/Object;"⟩ ⟨"java/lang/Object", "clone", "()Ljava/lang/Object;"⟩).before a0 Z = true) (w6 : (Cond.castable ad "java/lang/Cloneable").before a0 Z = true)
    (eT : T.heap = h) (F : ArI Z h a ty n f) (hfit : ∀ i, i < n → fits ty (.int (f i)) = true) (E : Exa Z h a ad) (W cap : Nat) (hcap : n ≤ cap) {g : JFrame} (hg : g.method = m) (hsz : g.locals.size = c.maxLocals) {rest : List Value} (hs : g.stack = .ref a :: rest) (hd : decode c.code g.pc = .ok (.invokevirtual index, 3))
    (hW : 2 * g.monitorRoom + (rest.map fun v => v.category).sum ≤ W) (hf : 1 ≤ R.frames) (hl : W + 14 ≤ R.locals) (hc : cells + 1 ≤ R.cells) (hsl : slots + cap ≤ R.slots)
    (kk : ∀ T' h' b, b = h.size → Stand p l e R s m args below meth c T' locs (cells + 1) (slots + cap) → T'.heap = h' → Ext h h' → ArI Z h' b ty n f → Exa Z h' b ad → D (T'.setTop { g with pc := g.pc + 3, stack := .ref b :: rest })) : D (T.setTop g) := by
  obtain ⟨z, cl, Ar, r, H⟩ := F
  have FC : FitC Z cl := fitC_of Ar fun i hi v hv => by rw [H i (by omega)] at hv; cases hv; exact hfit i (by omega)
  obtain ⟨T', h', X', e', Ex, Ar', E', st⟩ := cloneA X hx hZ hown w1 w2 w3 w4 w5 w6 eT Ar E FC hg hsz hs hd hf hW hl (by rw [r]; exact hcap) hc hsl
  exact A (fun q => st _ q) (kk T' h' _ rfl X' e' Ex ⟨z, _, Ar', r, H⟩ E')
theorem ofNat32 (hn : n < 2147483648) : (Int32.ofNat n).toInt = (n : Int) := Int32.toInt_ofNat_of_lt (by omega)
theorem getD_map (vs : Nat → Value) (d : Value) {i : Nat} (hi : i < n) : (((List.range n).map vs).getD i d) = vs i := by
  simp [List.getD, hi]
theorem ArI.arv (F : ArI Z h a ty n f) (hfit : ∀ i, i < n → fits ty (.int (f i)) = true) : ∃ k, Arv Z h a k ty (Int32.ofNat n) ((List.range n).map fun i => .int (f i)) (.int 0) := by
  obtain ⟨z, cl, Ar, r, H⟩ := F
  have e : (Int32.ofNat n).toNatClampNeg = n := to_nat (ofNat32 z)
  refine ⟨cl.cls, cl, Ar, rfl, by rw [r, e], ?_, fun i hi => ?_, fun i hi => ?_⟩
  · rw [Int32.lt_iff_toInt_lt, ofNat32 z, show (0 : Int32).toInt = 0 from rfl]; omega
  · rw [getD_map _ _ (by omega)]; exact H i (by omega)
  · rw [getD_map _ _ (by omega)]; exact hfit i (by omega)
def intOf : Value → Int32
  | .int x => x
  | _ => 0
theorem Arv.toI {k : ClassId} {vs : List Value} {dv : Value} (F : Arv Z h a k ty (Int32.ofNat n) vs dv) (hn : n < 2147483648) (ht : ty = .int ∨ ty = .boolean ∨ ty = .byte ∨ ty = .char ∨ ty = .short) : ArI Z h a ty n (fun i => intOf (vs.getD i dv)) ∧ ∀ i, i < n → fits ty (.int (intOf (vs.getD i dv))) = true := by
  obtain ⟨cl, Ar, -, S, -, H, G⟩ := F
  rw [to_nat (ofNat32 hn)] at S
  have q : ∀ i, i < n → vs.getD i dv = .int (intOf (vs.getD i dv)) := fun i hi => by
    obtain ⟨x, hx⟩ := fit_I (G i (by omega)) ht
    rw [hx]; rfl
  refine ⟨⟨hn, cl, Ar, S, fun i hi => ?_⟩, fun i hi => ?_⟩
  · rw [← q i hi]; exact H i (by omega)
  · rw [← q i hi]; exact G i (by omega)
theorem Adv.copyI (A : Adv p e below D) (X : Stand p l e R s m args below meth c T locs cells slots) (hx : p.tables.exec = Jvm.exec) (hZ : Z.Warmed39 s.vm) {own : String} {index : Nat} (hown : s.vm.findClass own = some m.cls)
    (w1 : (Cond.methodLink own index Jvm.Stand.acN).before a0 Z = true) (w2 : (Cond.native Jvm.Stand.acN).before a0 Z = true) (w3 : (Cond.static Jvm.Stand.acN).before a0 Z = true) (w4 : (Cond.initialized "java/lang/System").before a0 Z = true) (eT : T.heap = h)
    {f' : Nat → Int32} {n' : Nat} (F : ArI Z h a ty n f) (G : ArI Z h b ty n' f') (ff : ∀ i, i < n → fits ty (.int (f i)) = true) (fg : ∀ i, i < n' → fits ty (.int (f' i)) = true) (hty : ty = .int ∨ ty = .byte) {sp dp nn : Int32} (s1 : 0 ≤ sp.toInt) (s2 : 0 ≤ dp.toInt) (s3 : 0 ≤ nn.toInt) (s4 : sp.toInt + nn.toInt ≤ n) (s5 : dp.toInt + nn.toInt ≤ n')
    {n0 : Nat} (N : Fr n0 locs) (ge : n0 ≤ b) {g : JFrame} (hg : g.method = m) (hsz : g.locals.size = c.maxLocals) {rest : List Value} (hs : g.stack = .int nn :: .int dp :: .ref b :: .int sp :: .ref a :: rest) (hd : decode c.code g.pc = .ok (.invokestatic index, 3))
    (W : Nat) (hW : 2 * g.monitorRoom + (rest.map fun v => v.category).sum ≤ W) (hf : 1 ≤ R.frames) (hlo : W + (nativeFrameWords "java/lang/System" "arraycopy" 5 + 11) ≤ R.locals)
    (kk : ∀ T' h' L f'', Stand p l e R s m args below meth c T' L cells slots → T'.heap = h' → Fr n0 L → Keep h h' [b] → ArI Z h' b ty n' f'' → (∀ i, i < n' → fits ty (.int (f'' i)) = true) → D (T'.setTop { g with pc := g.pc + 3, stack := rest })) : D (T.setTop g) := by
  obtain ⟨k1, Av⟩ := F.arv ff
  obtain ⟨k2, Bv⟩ := G.arv fg
  have z0 : (0 : Int32).toInt = 0 := rfl
  have hn1 := F.1
  have hn2 := G.1
  have e1 := to_nat (ofNat32 hn1)
  have e2 := to_nat (ofNat32 hn2)
  obtain ⟨T', h', L, X', e', N', K, Cv, st⟩ := cpA X hx hZ hown w1 w2 w3 w4 eT Av Bv (us := _) (Or.inl ⟨rfl, by rcases hty with rfl | rfl <;> rfl⟩) (sp := sp) (dp := dp) (nn := nn)
    (by rw [Int32.lt_iff_toInt_lt]; omega) (by rw [Int32.lt_iff_toInt_lt]; omega) (by rw [Int32.lt_iff_toInt_lt]; omega) (by rw [e1]; simp only [Int32.toNatClampNeg]; omega) (by rw [e2]; simp only [Int32.toNatClampNeg]; omega) rfl (by rw [List.length_map, List.length_range]; simp only [Int32.toNatClampNeg]; omega) N ge hg hsz hs hd hf hW hlo
  obtain ⟨I1, I2⟩ := Arv.toI Cv hn2 (by rcases hty with rfl | rfl <;> simp)
  exact A (fun q => st _ q) (kk T' h' L _ X' e' N' K I1 I2)
end Arrays
end Jvm.JW
namespace Jvm.JW
open Sem ClassFile Op Lib Jvm.Stand Jvm.Free Jvm.LawKit Jvm.RoadKit
/-! the wide end, for laws and for callees: String constants may have been interned on the way -/
def DnW (p : Program) (e : Env) (below : List Frame) (s : State) (Q : Option Value → Heap → List Loc → Prop) (k n : Nat) (S : State) : Prop :=
  ∃ s₂ o, Steps p.tables e below S s₂ ∧ s₂.status = .running ∧ Ended s₂ below o ∧ ∃ v L, o = .returned v ∧ Q v s₂.heap L ∧ ReturnedEndW s o s₂ L k n
theorem Adv.dnW {p : Program} {e : Env} {below : List Frame} {s : State} {Q : Option Value → Heap → List Loc → Prop} {k n : Nat} : Adv p e below (DnW p e below s Q k n) := by
  intro S S' h d
  obtain ⟨s2, o, h1, h2⟩ := d
  exact ⟨s2, o, h h1, h2⟩
abbrev JMetW (l : Launch) (Z : State) (y : MethodName) (bytes : ByteArray) (maxL : Nat) (ret : Option FieldType) (ws : List Cond) (rm : Room) (as' : Array Value) (h0 : Heap) (Q : Option Value → Heap → List Loc → Prop) : Prop :=
  MetFree l y (head1 (Cond.code y bytes maxL ret :: ws) rm) (fun a U => a = as' ∧ Z.Warmed39 U.vm ∧ U.heap = h0) (fun _ _ _ _ _ => True) (fun _ U o U' => ∃ v L, o = .returned v ∧ Q v U'.heap L ∧ ReturnedEndW U o U' L rm.cells rm.slots)
section KitW
variable {p : Program} {l : Launch} {e : Env} {R : Room} {s : State} {m : MethodId} {args : Array Value} {below : List Frame} {meth : Method} {c : Code} {T : State} {locs : List Loc} {cells slots : Nat} {Z : State} {a0 : Array Value} {h : Heap} {D : State → Prop} {vm0 : Vm}
theorem retW (X : Stand p l e R (s.setVm vm0) m args below meth c T locs cells slots) {k1 : Nat} (hS : s.Since vm0 k1) (hlk : meth.locks = false) {Q : Option Value → Heap → List Loc → Prop} {k n : Nat} {S : State} {v : Option Value} (hv : meth.sig.returnType = none → v = none)
    (hst : ∀ fs, (∀ (f : JFrame) (acts : List Action), f.method = m → f.locked = none → f.entered = [] → (doReturn e (T.setTop f) acts v).1 = T.setFrames fs) → Steps p.tables e below S (T.setFrames fs))
    {hh : Heap} (eT : T.heap = hh) (hk1 : k1 ≤ hh.size) (hq : Q v hh locs) (hk : cells ≤ k) (hn : slots ≤ n) : DnW p e below s Q k n S := by
  subst eT
  obtain ⟨fs, hr, hrun, hended, r1, r2, r3, r4⟩ := X.leaveW hS hk1 (v := v) hv hlk
  exact ⟨_, _, hst fs hr, hrun, hended, _, _, rfl, hq, r1, r2, r3, r4.mono hk hn⟩
theorem bodyW {y : MethodName} {bytes : ByteArray} {maxL : Nat} {rt : Option FieldType} {ws : List Cond} {rm : Room} {as' : Array Value} {h0 : Heap} {Q : Option Value → Heap → List Loc → Prop} (Ls : Array Slot) (hpl : plainFor y = true) (hef : ∀ m, entryFrame m as' maxL = mkF m 0 Ls [])
    (bd : ∀ (p : Program) (e : Env) (s : State) (m : MethodId) (below : List Frame) (meth : Method) (c : Code) (T0 : State) (D : State → Prop), Adv p e below D → (∀ S, DnW p e below s Q rm.cells rm.slots S → D S) → Stand p l e rm (s.setVm s.vm) m as' below meth c T0 [] 0 0 → p.tables.exec = Jvm.exec → s.Since s.vm 0 → Z.Warmed39 (s.setVm s.vm).vm → c.code = bytes → c.maxLocals = maxL → (s.setVm s.vm).vm.findClass y.cls = some m.cls → meth.name = y.name → meth.sig.returnType = rt → meth.locks = false → T0.heap = h0 → D (T0.setTop (mkF m 0 Ls []))) :
    JMetW l Z y bytes maxL rt ws rm as' h0 Q := by
  refine MetFree.of_bodySF hpl hisR ?_
  intro p e s m args below meth c s₁ Bd hml hP hK
  obtain ⟨rfl, hZ, hh⟩ := hP
  have q := bd p e s m below meth c s₁ (DnW p e below s Q rm.cells rm.slots) Adv.dnW (fun _ d => d) (Stand.of_body Bd) Bd.exec ((State.WarmedH.refl s).since 0) hZ Bd.bytes hml (findClass_of_methodNamed Bd.named) (name_of_methodNamed Bd.named Bd.method).1 Bd.returns Bd.notSynchronized (by rw [← hh, Bd.state]; rfl)
  rw [← hef m] at q
  exact q
theorem Adv.callSW (A : Adv p e below D) (X : Stand p l e R (s.setVm vm0) m args below meth c T locs cells slots) (hx : p.tables.exec = Jvm.exec) (hZ : Z.Warmed39 (s.setVm vm0).vm) {own : String} {index : Nat} {y : MethodName} {bytes : ByteArray} {maxL : Nat} {rt : Option FieldType} {rm : Room} {as' : Array Value} {Q : Option Value → Heap → List Loc → Prop}
    (hown : (s.setVm vm0).vm.findClass own = some m.cls) (w1 : (Cond.methodLink own index y).before a0 Z = true) (w2 : (Cond.static y).before a0 Z = true) (w3 : (Cond.initialized y.cls).before a0 Z = true) (w4 : (Cond.code y bytes maxL rt).before a0 Z = true) (eT : T.heap = h) {k0 : Nat} (hS : s.Since vm0 k0) (hk : k0 ≤ h.size)
    (hM : JMetW l Z y bytes maxL rt [] rm as' h Q) (W : Nat) {g : JFrame} (hg : g.method = m) (hsz : g.locals.size = c.maxLocals) (argsL rest : List Value) (has : as' = argsL.toArray)
    (hlen : ∀ sig, parseMethodDescriptor y.desc = some sig → argsL.length = sig.parameters.length) (hstack : g.stack = argsL.reverse ++ rest) (hW : 2 * g.monitorRoom + (rest.map fun v => v.category).sum ≤ W)
    (hd : decode c.code g.pc = .ok (.invokestatic index, 3)) (hy : y.cls ≠ "java/lang/invoke/MethodHandle" ∧ y.cls ≠ "java/lang/invoke/VarHandle") (hf : rm.frames + 1 ≤ R.frames) (hl : W + (maxL + 11) + rm.locals ≤ R.locals) (hc : cells + rm.cells ≤ R.cells) (hs : slots + rm.slots ≤ R.slots)
    (k : ∀ (T' : State) (L' : List Loc) (v : Option Value), Stand p l e R (s.setVm T'.vm) m args below meth c T' (locs ++ L') (cells + rm.cells) (slots + rm.slots) → s.Since T'.vm T'.heap.size → Z.Warmed39 (s.setVm T'.vm).vm → (s.setVm T'.vm).vm.findClass own = some m.cls → Q v T'.heap L' → D (T'.setTop { g with pc := g.pc + 3, stack := v.toList ++ rest })) : D (T.setTop g) := by
  subst has
  obtain ⟨v, _, ⟨T', L, k', n'⟩, -, X', h2, gr, ⟨Lc, hQ, l', y', z'⟩, st⟩ := callSS X hx (y := y) hown (mvT hZ w1) (mvT hZ w2) (mvT hZ w3) (mvT hZ w4) hy (backOfS (W := W) hM hZ w4 w3 hf hl) (g := g) hg hsz (argsL := argsL) (rest := rest) hlen hstack hW hd (fun _ _ => ⟨rfl, eT, hc, hs⟩)
  dsimp only [Pt.U, Pt.locs, Pt.cells, Pt.slots] at X' l' y' z' st hQ h2 gr
  subst l' y' z'
  obtain ⟨X2, S2, Z2, O2⟩ := rebS hS (eT ▸ hk) X' h2 gr hZ hown
  exact A.tr st (k T' Lc v X2 S2 Z2 O2 hQ)
theorem Adv.callVW (A : Adv p e below D) (X : Stand p l e R (s.setVm vm0) m args below meth c T locs cells slots) (hx : p.tables.exec = Jvm.exec) (hZ : Z.Warmed39 (s.setVm vm0).vm) {own C : String} {index : Nat} {y z : MethodName} {bytes : ByteArray} {maxL : Nat} {rt : Option FieldType} {rm : Room} {as' : Array Value} {Q : Option Value → Heap → List Loc → Prop} {a : Addr}
    (hown : (s.setVm vm0).vm.findClass own = some m.cls) (w1 : (Cond.methodLink own index y).before a0 Z = true) (w2 : (Cond.declares y).before a0 Z = true) (nf : NotFace (s.setVm vm0) y) (w5 : (Cond.selects C y z).before a0 Z = true) (w6 : (Cond.instanceMethod z).before a0 Z = true) (w3 : (Cond.initialized z.cls).before a0 Z = true) (w4 : (Cond.code z bytes maxL rt).before a0 Z = true) (eT : T.heap = h) (E : Exa Z h a C) {k0 : Nat} (hS : s.Since vm0 k0) (hk : k0 ≤ h.size)
    (hM : JMetW l Z z bytes maxL rt [] rm as' h Q) (W : Nat) {g : JFrame} (hg : g.method = m) (hsz : g.locals.size = c.maxLocals) (argsL rest : List Value) (has : as' = (.ref a :: argsL).toArray)
    (hlen : ∀ sig, parseMethodDescriptor y.desc = some sig → argsL.length = sig.parameters.length) (hstack : g.stack = argsL.reverse ++ .ref a :: rest) (hW : 2 * g.monitorRoom + (rest.map fun v => v.category).sum ≤ W)
    (hd : decode c.code g.pc = .ok (.invokevirtual index, 3)) (hy : y.cls ≠ "java/lang/invoke/MethodHandle" ∧ y.cls ≠ "java/lang/invoke/VarHandle") (hf : rm.frames + 1 ≤ R.frames) (hl : W + (maxL + 11) + rm.locals ≤ R.locals) (hc : cells + rm.cells ≤ R.cells) (hs : slots + rm.slots ≤ R.slots)
    (k : ∀ (T' : State) (L' : List Loc) (v : Option Value), Stand p l e R (s.setVm T'.vm) m args below meth c T' (locs ++ L') (cells + rm.cells) (slots + rm.slots) → s.Since T'.vm T'.heap.size → Z.Warmed39 (s.setVm T'.vm).vm → (s.setVm T'.vm).vm.findClass own = some m.cls → Q v T'.heap L' → D (T'.setTop { g with pc := g.pc + 3, stack := v.toList ++ rest })) : D (T.setTop g) := by
  subst has
  obtain ⟨cq, kq, qa, qb, qc⟩ := isOf hZ eT E
  obtain ⟨v, _, ⟨T', L, k', n'⟩, -, X', h2, gr, ⟨Lc, hQ, l', y', z'⟩, st⟩ := X.virtualBackS hx (y := y) (z := z) hown (mvT hZ w1) (mvT hZ w2) nf (mvT hZ w5) (mvT hZ w6) hy (backOfS (W := W) hM hZ w4 w3 hf hl) qa qc (g := g) hg hsz (Steps.refl _) (argsL := argsL) (rest := rest) hlen hstack hW hd (fun _ _ => ⟨rfl, eT, hc, hs⟩)
  dsimp only [Pt.U, Pt.locs, Pt.cells, Pt.slots] at X' l' y' z' st hQ h2 gr
  subst l' y' z'
  obtain ⟨X2, S2, Z2, O2⟩ := rebS hS (eT ▸ hk) X' h2 gr hZ hown
  exact A.tr st (k T' Lc v X2 S2 Z2 O2 hQ)
theorem Adv.callF (A : Adv p e below D) (X : Stand p l e R s m args below meth c T locs cells slots) (hx : p.tables.exec = Jvm.exec) (hZ : Z.Warmed39 s.vm) {own C : String} {index count : Nat} {xi y : MethodName} {bytes : ByteArray} {maxL : Nat} {rt : Option FieldType} {rm : Room} {as' : Array Value} {Q : Option Value → Heap → List Loc → Prop} {a : Addr}
    (hown : s.vm.findClass own = some m.cls) (w1 : (Cond.methodLink own index xi).before a0 Z = true) (w2 : (Cond.declares xi).before a0 Z = true) (w5 : (Cond.interfaceMethod xi.cls xi.cls xi.name xi.desc).before args s = true) (w6 : (Cond.selects C xi y).before a0 Z = true) (w7 : (Cond.instanceMethod y).before a0 Z = true) (w8 : (Cond.publicMethod y).before a0 Z = true) (w9 : (Cond.unhidden C xi.name xi.desc).before a0 Z = true) (w10 : (Cond.castable C xi.cls).before a0 Z = true) (w3 : (Cond.initialized y.cls).before a0 Z = true) (w4 : (Cond.code y bytes maxL rt).before a0 Z = true) (eT : T.heap = h) (E : Exa Z h a C)
    (hM : JMet l Z y bytes maxL rt [] rm as' h Q) (W : Nat) {g : JFrame} (hg : g.method = m) (hsz : g.locals.size = c.maxLocals) (argsL rest : List Value) (has : as' = (.ref a :: argsL).toArray)
    (hlen : ∀ sig, parseMethodDescriptor xi.desc = some sig → argsL.length = sig.parameters.length) (hstack : g.stack = argsL.reverse ++ .ref a :: rest) (hW : 2 * g.monitorRoom + (rest.map fun v => v.category).sum ≤ W)
    (hd : decode c.code g.pc = .ok (.invokeinterface index count, 5)) (hy : xi.cls ≠ "java/lang/invoke/MethodHandle" ∧ xi.cls ≠ "java/lang/invoke/VarHandle") (hf : rm.frames + 1 ≤ R.frames) (hl : W + (maxL + 11) + rm.locals ≤ R.locals) (hc : cells + rm.cells ≤ R.cells) (hs : slots + rm.slots ≤ R.slots)
    (k : ∀ (T' : State) (L' : List Loc) (v : Option Value), Stand p l e R s m args below meth c T' (locs ++ L') (cells + rm.cells) (slots + rm.slots) → Q v T'.heap L' → D (T'.setTop { g with pc := g.pc + 5, stack := v.toList ++ rest })) : D (T.setTop g) := by
  subst has
  obtain ⟨cq, kq, qa, qb, qc⟩ := isOf hZ eT E
  obtain ⟨v, _, ⟨T', L, k', n'⟩, -, X', ⟨Lc, hQ, l', y', z'⟩, st⟩ := X.interfaceBack hx (xi := xi) (y := y) hown (mvT hZ w1) (mvT hZ w2) w5 (mvT hZ w6) (mvT hZ w7) (mvT hZ w8) (mvT hZ w9) (mvT hZ w10) hy (backOf (W := W) hM hZ w4 w3 hf hl) qa qb qc (g := g) hg hsz (Steps.refl _) (argsL := argsL) (rest := rest) hlen hstack hW hd (fun _ _ => ⟨rfl, eT, hc, hs⟩)
  dsimp only [Pt.U, Pt.locs, Pt.cells, Pt.slots] at X' l' y' z' st hQ
  subst l' y' z'
  exact A.tr st (k T' Lc v X' hQ)
theorem Adv.ldC {n : Nat} {f : Nat → Int32} {a : Addr} (A : Adv p e below D) (X : Stand p l e R s m args below meth c T locs cells slots) (hx : p.tables.exec = Jvm.exec) (hZ : Z.Warmed39 s.vm) (eT : T.heap = h) (F : ArI Z h a .char n f) {j : Int32} {k : Nat} (hk : j.toInt = k) (hkn : k < n) {g : JFrame} (hg : g.method = m) {rest : List Value} (hs : g.stack = .int j :: .ref a :: rest) (hd : decode c.code g.pc = .ok (.caload, 1))
    (kk : D (T.setTop { g with pc := g.pc + 1, stack := .int (f k) :: rest })) : D (T.setTop g) := by
  obtain ⟨-, cl, Ar, r, H⟩ := F
  exact A (X.caload hx (j := j) (v := .int (f k)) (by rw [eT]; exact Ar.1) (State.isArrayOf_alike hZ.alike Ar.2.1) Ar.2.2 (inb hk hkn r) (by rw [to_nat hk]; exact H k hkn) (g := g) hg hs hd _) kk
theorem Adv.stC {n : Nat} {f : Nat → Int32} {a : Addr} (A : Adv p e below D) (X : Stand p l e R s m args below meth c T locs cells slots) (hx : p.tables.exec = Jvm.exec) (hZ : Z.Warmed39 s.vm) (eT : T.heap = h) (F : ArI Z h a .char n f) {j x : Int32} {k : Nat} (hk : j.toInt = k) (hkn : k < n) {g : JFrame} (hg : g.method = m) {rest : List Value} (hs : g.stack = .int x :: .int j :: .ref a :: rest) (hd : decode c.code g.pc = .ok (.castore, 1))
    (kk : ∀ T' h', Stand p l e R s m args below meth c T' (locs ++ [⟨a, k⟩]) cells slots → T'.heap = h' → Wr h h' a k (.int x.toUInt32.toUInt16.toUInt32.toInt32) → ArI Z h' a .char n (fun i => if i = k then x.toUInt32.toUInt16.toUInt32.toInt32 else f i) → D (T'.setTop { g with pc := g.pc + 1, stack := rest })) : D (T.setTop g) := by
  obtain ⟨cl, Ar, r, H⟩ := F.2
  obtain ⟨T', h', X', e', W, st⟩ := Jvm.RoadKit.stC X hx hZ eT Ar (j := j) (x := x) (inb hk hkn r) hg hs hd
  rw [to_nat hk] at X' W
  exact A (fun q => st _ q) (kk T' h' X' e' W (F.set W hkn))
end KitW
end Jvm.JW
namespace Jvm.Pilot.@@N@@
open Jvm Jvm.ClassFile Sem Op Lib Jvm.Free Jvm.Stand Jvm.LawKit Jvm.RoadKit Bundle Jvm.JW Jvm.Pilot.@@N@@.Jvm.D
theorem own_stk {Z : State} {h h' : Heap} {C n d : String} {v : Value} {ws : List Addr} (F : Sta Z h C n d v) (K : Keep h h' ws) (hws : ∀ w ∈ ws, ∀ c : Cell, h[w]? = some c → c.vm.isStatics = false) : Sta Z h' C n d v := by
  obtain ⟨cf, i, k, f, st, cell, h1, h2, h3, h4, h5, h6, r⟩ := F
  exact ⟨cf, i, k, f, st, cell, h1, h2, h3, h4, K.2.1 _ _ h5 (fun q => by rw [hws st q cell h5] at h6; cases h6), h6, r⟩
theorem own_nsn {h : Heap} : ∀ w ∈ ([] : List Addr), ∀ c : Cell, h[w]? = some c → c.vm.isStatics = false := fun w hw => by cases hw
theorem own_nsc {h : Heap} {a : Addr} {ws : List Addr} (h1 : ∀ c : Cell, h[a]? = some c → c.vm.isStatics = false) (h2 : ∀ w ∈ ws, ∀ c : Cell, h[w]? = some c → c.vm.isStatics = false) : ∀ w ∈ a :: ws, ∀ c : Cell, h[w]? = some c → c.vm.isStatics = false := by
  intro w hw
  rcases List.mem_cons.mp hw with rfl | hw
  · exact h1
  · exact h2 w hw
theorem own_nsI {Z : State} {h : Heap} {a : Addr} {ty : FieldType} {n : Nat} {f : Nat → Int32} (F : ArI Z h a ty n f) : ∀ c : Cell, h[a]? = some c → c.vm.isStatics = false := by
  intro c hc
  obtain ⟨-, cl, Ar, -⟩ := F
  cases hc.symm.trans Ar.1
  have q := Ar.2.1.1
  cases hv : c.vm <;> first | rfl | exact absurd hv (q _)
theorem own_nsE {Z : State} {h : Heap} {a : Addr} {C : String} (F : Exa Z h a C) : ∀ c : Cell, h[a]? = some c → c.vm.isStatics = false := by
  intro c hc
  obtain ⟨cl, k, h1, -, -, h4, -⟩ := F
  cases hc.symm.trans h1
  exact h4
def own_i2c (x : Int32) : Int32 := x.toUInt32.toUInt16.toUInt32.toInt32
theorem own_nc (x : Int32) : narrow .char (.int (x.toUInt32.toUInt16.toUInt32.toInt32)) = .int (x.toUInt32.toUInt16.toUInt32.toInt32) := by
  have q : x.toUInt32 % 65536 % 65536 = x.toUInt32 % 65536 := UInt32.toNat_inj.mp (by simp [UInt32.toNat_mod])
  simp [narrow, q]
def own_ch (x : Int32) : Int32 := own_i2c (x &&& (255 : Int32))
def own_b (x : Int32) : Int32 := (x.toInt8.toInt32).toInt8.toInt32
def own_b0 (x : Int32) : Int32 := own_b (x >>> ((0 : Int32) &&& 31))
def own_b1 (x : Int32) : Int32 := own_b (x >>> ((8 : Int32) &&& 31))
def own_u (x y : Int32) : Int32 := own_i2c (((x &&& (255 : Int32)) <<< ((0 : Int32) &&& 31)) ||| ((y &&& (255 : Int32)) <<< ((8 : Int32) &&& 31)))
theorem own_sh {x : Int32} {k : Nat} (h : x.toInt = k) (hk : k < 2) : (x <<< ((1 : Int32) &&& 31)).toInt = ((2 * k : Nat) : Int) := by
  have a := c_ishl x 1 1 (by decide)
  have r := rng32 (x <<< ((1 : Int32) &&& 31))
  omega
theorem own_neg {x : Int32} {k : Nat} (h : x.toInt = k) : ¬ x < (0 : Int32) := by rw [Int32.lt_iff_toInt_lt, show (0 : Int32).toInt = 0 from rfl]; omega
theorem own_l2 {x : Int32} {k : Nat} (h : x.toInt = k) (hk : k < 2) : x < (2 : Int32) := by rw [Int32.lt_iff_toInt_lt, show (2 : Int32).toInt = 2 from rfl]; omega
theorem d32_0 : decode jdk_52_method_3_code 0 = .ok (.iload_n 0, 1) := by decide +kernel
theorem d32_1 : decode jdk_52_method_3_code 1 = .ok (.ifCond .ge 11, 3) := by decide +kernel
theorem d32_12 : decode jdk_52_method_3_code 12 = .ok (.iload_n 0, 1) := by decide +kernel
theorem d32_13 : decode jdk_52_method_3_code 13 = .ok (.ldc 20, 2) := by decide +kernel
theorem d32_15 : decode jdk_52_method_3_code 15 = .ok (.if_icmp .lt 40, 3) := by decide +kernel
theorem d32_55 : decode jdk_52_method_3_code 55 = .ok (.iload_n 0, 1) := by decide +kernel
theorem d32_56 : decode jdk_52_method_3_code 56 = .ok (.iconst 1, 1) := by decide +kernel
theorem d32_57 : decode jdk_52_method_3_code 57 = .ok (.ishl, 1) := by decide +kernel
theorem d32_58 : decode jdk_52_method_3_code 58 = .ok (.ireturn, 1) := by decide +kernel
theorem pn32 : plainFor (⟨"java/lang/StringUTF16", "newBytesLength", "(I)I"⟩ : MethodName) = true := by decide +kernel
theorem ef32_2  (m : MethodId) : entryFrame m #[(.int (2 : Int32))] 1 = mkF m 0 #[.val (.int (2 : Int32))] [] := by first | (simp [entryFrame, mkF, argsToLocals, Value.category]; done) | rfl
set_option maxRecDepth 65536 in
set_option maxHeartbeats 40000000 in
theorem rm32 (l : Launch) (Z : State) (a0 : Array Value) (hw : ∀ d ∈ tables_1, d.before a0 Z = true) (ws : List Jvm.Cond)  (h0 : Heap) (n0 : Nat) :
    JMet l Z (⟨"java/lang/StringUTF16", "newBytesLength", "(I)I"⟩ : MethodName) jdk_52_method_3_code 1 (some .int) ws ({ frames := 0, cells := 0, slots := 0, locals := 0 } : Room) #[(.int (2 : Int32))] h0 (QP (.int (4 : Int32)) h0 n0) := by
  refine Jvm.JW.body #[.val (.int (2 : Int32))] pn32 (ef32_2 ) ?_
  intro p e s m below meth c T0 D A F X0 hx hZ hby hml hown hnm hrt hlk e0
  refine A (XS.iloadN X0.here hx rfl (hb hby d32_0) rfl) ?_
  show D (T0.setTop (mkF m 1 #[.val (.int (2 : Int32))] [(.int (2 : Int32))]))
  refine A (XS.ifYes X0.here hx rfl (pc0 := 1) (pc' := 12) rfl (hb hby d32_1) rfl ((if0 _ _).trans (flt (by decide : ¬ ((2 : Int32) < (0 : Int32)))).2.1) (by decide) (by decide)) ?_
  show D (T0.setTop (mkF m 12 #[.val (.int (2 : Int32))] []))
  refine A (XS.iloadN X0.here hx rfl (hb hby d32_12) rfl) ?_
  show D (T0.setTop (mkF m 13 #[.val (.int (2 : Int32))] [(.int (2 : Int32))]))
  refine A (X0.ldcInt hx hown (mvT hZ (hw _ (List.mem_of_getElem? (i := 189) rfl))) (g := (mkF m 13 #[.val (.int (2 : Int32))] [(.int (2 : Int32))])) rfl (hb hby d32_13) _) ?_
  show D (T0.setTop (mkF m 15 #[.val (.int (2 : Int32))] [(.int (1073741823 : Int32)), (.int (2 : Int32))]))
  refine A (XS.icmpYes X0.here hx rfl (pc0 := 15) (pc' := 55) rfl (hb hby d32_15) rfl (tlt (by decide : (2 : Int32) < (1073741823 : Int32))).1 (by decide) (by decide)) ?_
  show D (T0.setTop (mkF m 55 #[.val (.int (2 : Int32))] []))
  refine A (XS.iloadN X0.here hx rfl (hb hby d32_55) rfl) ?_
  show D (T0.setTop (mkF m 56 #[.val (.int (2 : Int32))] [(.int (2 : Int32))]))
  refine A (XS.iconst X0.here hx rfl (hb hby d32_56)) ?_
  show D (T0.setTop (mkF m 57 #[.val (.int (2 : Int32))] [(.int (1 : Int32)), (.int (2 : Int32))]))
  refine A (XS.ishl X0.here hx rfl (hb hby d32_57) rfl) ?_
  show D (T0.setTop (mkF m 58 #[.val (.int (2 : Int32))] [(.int ((2 : Int32) <<< ((1 : Int32) &&& 31)))]))
  refine F _ (Jvm.JW.ret X0 hlk (v := some (.int ((2 : Int32) <<< ((1 : Int32) &&& 31)))) (fun h => by rw [hrt] at h; cases h) (fun fs hr => retOut X0 hx hrt rfl (Or.inl ⟨rfl, Or.inl rfl, _, rfl⟩) (hb hby d32_58) hr) rfl ?_ (by decide) (by decide))
  exact ⟨congrArg (fun z => some (Value.int z)) (by decide), (Fr.nil n0), e0⟩
theorem d31_0 : decode jdk_52_method_2_code 0 = .ok (.iload_n 0, 1) := by decide +kernel
theorem d31_1 : decode jdk_52_method_2_code 1 = .ok (.invokestatic 11, 3) := by decide +kernel
theorem d31_4 : decode jdk_52_method_2_code 4 = .ok (.newarray .byte, 2) := by decide +kernel
theorem d31_6 : decode jdk_52_method_2_code 6 = .ok (.areturn, 1) := by decide +kernel
theorem pn31 : plainFor (⟨"java/lang/StringUTF16", "newBytesFor", "(I)[B"⟩ : MethodName) = true := by decide +kernel
theorem pd31_0 : parseMethodDescriptor "(I)I" = some ⟨[.int], some .int⟩ := by decide +kernel
theorem ef31_2  (m : MethodId) : entryFrame m #[(.int (2 : Int32))] 1 = mkF m 0 #[.val (.int (2 : Int32))] [] := by first | (simp [entryFrame, mkF, argsToLocals, Value.category]; done) | rfl
set_option maxRecDepth 65536 in
set_option maxHeartbeats 40000000 in
theorem rm31 (l : Launch) (Z : State) (a0 : Array Value) (hw : ∀ d ∈ tables_1, d.before a0 Z = true) (ws : List Jvm.Cond)  (h0 : Heap) (n0 : Nat) (Z0 : n0 ≤ h0.size) :
    JMet l Z (⟨"java/lang/StringUTF16", "newBytesFor", "(I)[B"⟩ : MethodName) jdk_52_method_2_code 1 (some (.array .byte)) ws ({ frames := 1, cells := 1, slots := 4, locals := 12 } : Room) #[(.int (2 : Int32))] h0 (fun v h L => ∃ b : Addr, v = some (.ref b) ∧ Fr n0 L ∧ Keep h0 h [] ∧ ArI Z h b .byte 4 (fun _ => 0) ∧ h0.size ≤ b) := by
  refine Jvm.JW.body #[.val (.int (2 : Int32))] pn31 (ef31_2 ) ?_
  intro p e s m below meth c T0 D A F X0 hx hZ hby hml hown hnm hrt hlk e0
  refine A (XS.iloadN X0.here hx rfl (hb hby d31_0) rfl) ?_
  show D (T0.setTop (mkF m 1 #[.val (.int (2 : Int32))] [(.int (2 : Int32))]))
  refine Adv.callS A X0 hx hZ hown (hw _ (List.mem_of_getElem? (i := 186) rfl)) (hw _ (List.mem_of_getElem? (i := 187) rfl)) (hw _ (List.mem_of_getElem? (i := 18) rfl)) (hw _ (List.mem_of_getElem? (i := 188) rfl)) e0 (rm32 l Z a0 hw [] h0 n0) 0 (g := (mkF m 1 #[.val (.int (2 : Int32))] [(.int (2 : Int32))])) rfl (by rw [hml]; rfl) [(.int (2 : Int32))] [] rfl (lenOf pd31_0 rfl) rfl (by show 2 * 0 + _ ≤ _; exact Nat.le_of_eq rfl) (hb hby d31_1) (by decide) (by decide) (by decide) (by decide) (by decide) ?_
  rintro T1 L1 _ X1 ⟨rfl, N1_q, e1⟩
  have N1 := Fr.app (Fr.nil n0) N1_q
  show D (T1.setTop (mkF m 4 #[.val (.int (2 : Int32))] [(.int (4 : Int32))]))
  refine Adv.newI A X1 hx hZ (aty := .byte) (hw _ (List.mem_of_getElem? (i := 20) rfl)) e1 (n := 4) (by decide) 4 (by decide) (by decide) rfl (ad := "[B") (by decide) (by decide) (by decide) (g := (mkF m 4 #[.val (.int (2 : Int32))] [(.int (4 : Int32))])) rfl rfl (hb hby d31_4) ?_
  intro T2 h2 b2 q_b2 X2 e2 E2 V_b2 EA_b2
  have g_b2 : n0 ≤ b2 := Nat.le_trans Z0 (Nat.le_of_eq q_b2.symm)
  have sz_b2 : h0.size ≤ b2 := Nat.le_trans (Keep.refl h0 []).1 (Nat.le_of_eq q_b2.symm)
  have Z_2 : n0 ≤ h2.size := Nat.le_trans Z0 E2.1
  have KK_2 : Keep h0 h2 [] := (Keep.refl h0 []).ext E2
  show D (T2.setTop (mkF m 6 #[.val (.int (2 : Int32))] [(.ref b2)]))
  refine F _ (Jvm.JW.ret X2 hlk (v := some (.ref b2)) (fun h => by rw [hrt] at h; cases h) (fun fs hr => retOut X2 hx hrt rfl (Or.inr (Or.inr (Or.inr (Or.inr ⟨rfl, rfl, rfl⟩)))) (hb hby d31_6) hr) e2 ?_ (by decide) (by decide))
  exact ⟨b2, rfl, N1, KK_2, V_b2, sz_b2⟩
theorem d33_0 : decode jdk_52_method_4_code 0 = .ok (.getstatic 44, 3) := by decide +kernel
theorem d33_3 : decode jdk_52_method_4_code 3 = .ok (.ifCond .ne 25, 3) := by decide +kernel
theorem d33_28 : decode jdk_52_method_4_code 28 = .ok (.iload_n 1, 1) := by decide +kernel
theorem d33_29 : decode jdk_52_method_4_code 29 = .ok (.iconst 1, 1) := by decide +kernel
theorem d33_30 : decode jdk_52_method_4_code 30 = .ok (.ishl, 1) := by decide +kernel
theorem d33_31 : decode jdk_52_method_4_code 31 = .ok (.istore_n 1, 1) := by decide +kernel
theorem d33_32 : decode jdk_52_method_4_code 32 = .ok (.aload_n 0, 1) := by decide +kernel
theorem d33_33 : decode jdk_52_method_4_code 33 = .ok (.iload_n 1, 1) := by decide +kernel
theorem d33_34 : decode jdk_52_method_4_code 34 = .ok (.iinc 1 1, 3) := by decide +kernel
theorem d33_37 : decode jdk_52_method_4_code 37 = .ok (.iload_n 2, 1) := by decide +kernel
theorem d33_38 : decode jdk_52_method_4_code 38 = .ok (.getstatic 59, 3) := by decide +kernel
theorem d33_41 : decode jdk_52_method_4_code 41 = .ok (.ishr, 1) := by decide +kernel
theorem d33_42 : decode jdk_52_method_4_code 42 = .ok (.i2b, 1) := by decide +kernel
theorem d33_43 : decode jdk_52_method_4_code 43 = .ok (.bastore, 1) := by decide +kernel
theorem d33_44 : decode jdk_52_method_4_code 44 = .ok (.aload_n 0, 1) := by decide +kernel
theorem d33_45 : decode jdk_52_method_4_code 45 = .ok (.iload_n 1, 1) := by decide +kernel
theorem d33_46 : decode jdk_52_method_4_code 46 = .ok (.iload_n 2, 1) := by decide +kernel
theorem d33_47 : decode jdk_52_method_4_code 47 = .ok (.getstatic 63, 3) := by decide +kernel
theorem d33_50 : decode jdk_52_method_4_code 50 = .ok (.ishr, 1) := by decide +kernel
theorem d33_51 : decode jdk_52_method_4_code 51 = .ok (.i2b, 1) := by decide +kernel
theorem d33_52 : decode jdk_52_method_4_code 52 = .ok (.bastore, 1) := by decide +kernel
theorem d33_53 : decode jdk_52_method_4_code 53 = .ok (.return_, 1) := by decide +kernel
theorem pn33 : plainFor (⟨"java/lang/StringUTF16", "putChar", "([BII)V"⟩ : MethodName) = true := by decide +kernel
theorem ef33_0 (p1 : Addr) (p3 : Int32) (m : MethodId) : entryFrame m #[(.ref p1), (.int (0 : Int32)), (.int p3)] 3 = mkF m 0 #[.val (.ref p1), .val (.int (0 : Int32)), .val (.int p3)] [] := by first | (simp [entryFrame, mkF, argsToLocals, Value.category]; done) | rfl
set_option maxRecDepth 65536 in
set_option maxHeartbeats 40000000 in
theorem rm33_0 (l : Launch) (Z : State) (a0 : Array Value) (hw : ∀ d ∈ tables_1, d.before a0 Z = true) (ws : List Jvm.Cond) (p1 : Addr) (p3 : Int32) (h0 : Heap) (n0 : Nat) (f : Nat → Int32) (Z0 : n0 ≤ h0.size) (g_p1 : n0 ≤ p1) (V_p1 : ArI Z h0 p1 .byte 4 f) (S_ad : Sta Z h0 "java/lang/StringUTF16" "$assertionsDisabled" "Z" (.int (1 : Int32))) (S_hi : Sta Z h0 "java/lang/StringUTF16" "HI_BYTE_SHIFT" "I" (.int (0 : Int32))) (S_lo : Sta Z h0 "java/lang/StringUTF16" "LO_BYTE_SHIFT" "I" (.int (8 : Int32))) :
    JMet l Z (⟨"java/lang/StringUTF16", "putChar", "([BII)V"⟩ : MethodName) jdk_52_method_4_code 3 none ws ({ frames := 0, cells := 0, slots := 0, locals := 0 } : Room) #[(.ref p1), (.int (0 : Int32)), (.int p3)] h0 (fun v h L => v = none ∧ ∃ f' : Nat → Int32, Fr n0 L ∧ Keep h0 h [p1] ∧ ArI Z h p1 .byte 4 f' ∧ f' 0 = own_b0 p3 ∧ f' 1 = own_b1 p3 ∧ ∀ j, j ≠ 0 → j ≠ 1 → f' j = f j) := by
  refine Jvm.JW.body #[.val (.ref p1), .val (.int (0 : Int32)), .val (.int p3)] pn33 (ef33_0 p1 p3) ?_
  intro p e s m below meth c T0 D A F X0 hx hZ hby hml hown hnm hrt hlk e0
  obtain ⟨T1, X1, e1, st1⟩ := getS X0 hx hZ hown (host := "") (hw _ (List.mem_of_getElem? (i := 193) rfl)) Via.refl e0 S_ad (g := (mkF m 0 #[.val (.ref p1), .val (.int (0 : Int32)), .val (.int p3)] [])) rfl (hb hby d33_0)
  refine A (st1 _) ?_
  show D (T1.setTop (mkF m 3 #[.val (.ref p1), .val (.int (0 : Int32)), .val (.int p3)] [(.int (1 : Int32))]))
  refine A (XS.ifYes X1.here hx rfl (pc0 := 3) (pc' := 28) rfl (hb hby d33_3) rfl ((if0 _ _).trans (feq (by decide : ¬ ((1 : Int32) = (0 : Int32)))).2) (by decide) (by decide)) ?_
  show D (T1.setTop (mkF m 28 #[.val (.ref p1), .val (.int (0 : Int32)), .val (.int p3)] []))
  refine A (XS.iloadN X1.here hx rfl (hb hby d33_28) rfl) ?_
  show D (T1.setTop (mkF m 29 #[.val (.ref p1), .val (.int (0 : Int32)), .val (.int p3)] [(.int (0 : Int32))]))
  refine A (XS.iconst X1.here hx rfl (hb hby d33_29)) ?_
  show D (T1.setTop (mkF m 30 #[.val (.ref p1), .val (.int (0 : Int32)), .val (.int p3)] [(.int (1 : Int32)), (.int (0 : Int32))]))
  refine A (XS.ishl X1.here hx rfl (hb hby d33_30) rfl) ?_
  show D (T1.setTop (mkF m 31 #[.val (.ref p1), .val (.int (0 : Int32)), .val (.int p3)] [(.int ((0 : Int32) <<< ((1 : Int32) &&& 31)))]))
  refine A (XS.istoreN X1.here hx rfl (hb hby d33_31) rfl (l' := #[.val (.ref p1), .val (.int ((0 : Int32) <<< ((1 : Int32) &&& 31))), .val (.int p3)]) rfl) ?_
  show D (T1.setTop (mkF m 32 #[.val (.ref p1), .val (.int ((0 : Int32) <<< ((1 : Int32) &&& 31))), .val (.int p3)] []))
  refine A (XS.aloadN X1.here hx rfl (hb hby d33_32) rfl rfl) ?_
  show D (T1.setTop (mkF m 33 #[.val (.ref p1), .val (.int ((0 : Int32) <<< ((1 : Int32) &&& 31))), .val (.int p3)] [(.ref p1)]))
  refine A (XS.iloadN X1.here hx rfl (hb hby d33_33) rfl) ?_
  show D (T1.setTop (mkF m 34 #[.val (.ref p1), .val (.int ((0 : Int32) <<< ((1 : Int32) &&& 31))), .val (.int p3)] [(.int ((0 : Int32) <<< ((1 : Int32) &&& 31))), (.ref p1)]))
  refine A (XS.iinc X1.here hx rfl (hb hby d33_34) rfl (l' := #[.val (.ref p1), .val (.int (((0 : Int32) <<< ((1 : Int32) &&& 31)) + (1 : Int32))), .val (.int p3)]) rfl) ?_
  show D (T1.setTop (mkF m 37 #[.val (.ref p1), .val (.int (((0 : Int32) <<< ((1 : Int32) &&& 31)) + (1 : Int32))), .val (.int p3)] [(.int ((0 : Int32) <<< ((1 : Int32) &&& 31))), (.ref p1)]))
  refine A (XS.iloadN X1.here hx rfl (hb hby d33_37) rfl) ?_
  show D (T1.setTop (mkF m 38 #[.val (.ref p1), .val (.int (((0 : Int32) <<< ((1 : Int32) &&& 31)) + (1 : Int32))), .val (.int p3)] [(.int p3), (.int ((0 : Int32) <<< ((1 : Int32) &&& 31))), (.ref p1)]))
  obtain ⟨T2, X2, e2, st2⟩ := getS X1 hx hZ hown (host := "") (hw _ (List.mem_of_getElem? (i := 194) rfl)) Via.refl e1 S_hi (g := (mkF m 38 #[.val (.ref p1), .val (.int (((0 : Int32) <<< ((1 : Int32) &&& 31)) + (1 : Int32))), .val (.int p3)] [(.int p3), (.int ((0 : Int32) <<< ((1 : Int32) &&& 31))), (.ref p1)])) rfl (hb hby d33_38)
  refine A (st2 _) ?_
  show D (T2.setTop (mkF m 41 #[.val (.ref p1), .val (.int (((0 : Int32) <<< ((1 : Int32) &&& 31)) + (1 : Int32))), .val (.int p3)] [(.int (0 : Int32)), (.int p3), (.int ((0 : Int32) <<< ((1 : Int32) &&& 31))), (.ref p1)]))
  refine A (XS.ishr X2.here hx rfl (hb hby d33_41) rfl) ?_
  show D (T2.setTop (mkF m 42 #[.val (.ref p1), .val (.int (((0 : Int32) <<< ((1 : Int32) &&& 31)) + (1 : Int32))), .val (.int p3)] [(.int (p3 >>> ((0 : Int32) &&& 31))), (.int ((0 : Int32) <<< ((1 : Int32) &&& 31))), (.ref p1)]))
  refine A (XS.i2b X2.here hx rfl (hb hby d33_42) rfl) ?_
  show D (T2.setTop (mkF m 43 #[.val (.ref p1), .val (.int (((0 : Int32) <<< ((1 : Int32) &&& 31)) + (1 : Int32))), .val (.int p3)] [(.int ((p3 >>> ((0 : Int32) &&& 31)).toInt8.toInt32)), (.int ((0 : Int32) <<< ((1 : Int32) &&& 31))), (.ref p1)]))
  refine Adv.stB A X2 hx hZ e2 V_p1 (k := 0) (by decide) (by decide) (g := (mkF m 43 #[.val (.ref p1), .val (.int (((0 : Int32) <<< ((1 : Int32) &&& 31)) + (1 : Int32))), .val (.int p3)] [(.int ((p3 >>> ((0 : Int32) &&& 31)).toInt8.toInt32)), (.int ((0 : Int32) <<< ((1 : Int32) &&& 31))), (.ref p1)])) rfl rfl (hb hby d33_43) ?_
  intro T3 h3 X3 e3 W3 Vp1_3
  have N3 := Fr.snoc X3 (Fr.nil n0) g_p1
  have S_ad_3 := Sta.wr W3 S_ad
  have S_hi_3 := Sta.wr W3 S_hi
  have S_lo_3 := Sta.wr W3 S_lo
  have Z_3 : n0 ≤ h3.size := Nat.le_trans Z0 (Nat.le_of_eq W3.size.symm)
  have KK_3 : Keep h0 h3 [p1] := (Keep.refl h0 [p1]).wr W3 (Or.inl (List.mem_of_getElem? (i := 0) rfl))
  show D (T3.setTop (mkF m 44 #[.val (.ref p1), .val (.int (((0 : Int32) <<< ((1 : Int32) &&& 31)) + (1 : Int32))), .val (.int p3)] []))
  refine A (XS.aloadN X3.here hx rfl (hb hby d33_44) rfl rfl) ?_
  show D (T3.setTop (mkF m 45 #[.val (.ref p1), .val (.int (((0 : Int32) <<< ((1 : Int32) &&& 31)) + (1 : Int32))), .val (.int p3)] [(.ref p1)]))
  refine A (XS.iloadN X3.here hx rfl (hb hby d33_45) rfl) ?_
  show D (T3.setTop (mkF m 46 #[.val (.ref p1), .val (.int (((0 : Int32) <<< ((1 : Int32) &&& 31)) + (1 : Int32))), .val (.int p3)] [(.int (((0 : Int32) <<< ((1 : Int32) &&& 31)) + (1 : Int32))), (.ref p1)]))
  refine A (XS.iloadN X3.here hx rfl (hb hby d33_46) rfl) ?_
  show D (T3.setTop (mkF m 47 #[.val (.ref p1), .val (.int (((0 : Int32) <<< ((1 : Int32) &&& 31)) + (1 : Int32))), .val (.int p3)] [(.int p3), (.int (((0 : Int32) <<< ((1 : Int32) &&& 31)) + (1 : Int32))), (.ref p1)]))
  obtain ⟨T4, X4, e4, st4⟩ := getS X3 hx hZ hown (host := "") (hw _ (List.mem_of_getElem? (i := 195) rfl)) Via.refl e3 S_lo_3 (g := (mkF m 47 #[.val (.ref p1), .val (.int (((0 : Int32) <<< ((1 : Int32) &&& 31)) + (1 : Int32))), .val (.int p3)] [(.int p3), (.int (((0 : Int32) <<< ((1 : Int32) &&& 31)) + (1 : Int32))), (.ref p1)])) rfl (hb hby d33_47)
  refine A (st4 _) ?_
  show D (T4.setTop (mkF m 50 #[.val (.ref p1), .val (.int (((0 : Int32) <<< ((1 : Int32) &&& 31)) + (1 : Int32))), .val (.int p3)] [(.int (8 : Int32)), (.int p3), (.int (((0 : Int32) <<< ((1 : Int32) &&& 31)) + (1 : Int32))), (.ref p1)]))
  refine A (XS.ishr X4.here hx rfl (hb hby d33_50) rfl) ?_
  show D (T4.setTop (mkF m 51 #[.val (.ref p1), .val (.int (((0 : Int32) <<< ((1 : Int32) &&& 31)) + (1 : Int32))), .val (.int p3)] [(.int (p3 >>> ((8 : Int32) &&& 31))), (.int (((0 : Int32) <<< ((1 : Int32) &&& 31)) + (1 : Int32))), (.ref p1)]))
  refine A (XS.i2b X4.here hx rfl (hb hby d33_51) rfl) ?_
  show D (T4.setTop (mkF m 52 #[.val (.ref p1), .val (.int (((0 : Int32) <<< ((1 : Int32) &&& 31)) + (1 : Int32))), .val (.int p3)] [(.int ((p3 >>> ((8 : Int32) &&& 31)).toInt8.toInt32)), (.int (((0 : Int32) <<< ((1 : Int32) &&& 31)) + (1 : Int32))), (.ref p1)]))
  refine Adv.stB A X4 hx hZ e4 Vp1_3 (k := 1) (by decide) (by decide) (g := (mkF m 52 #[.val (.ref p1), .val (.int (((0 : Int32) <<< ((1 : Int32) &&& 31)) + (1 : Int32))), .val (.int p3)] [(.int ((p3 >>> ((8 : Int32) &&& 31)).toInt8.toInt32)), (.int (((0 : Int32) <<< ((1 : Int32) &&& 31)) + (1 : Int32))), (.ref p1)])) rfl rfl (hb hby d33_52) ?_
  intro T5 h5 X5 e5 W5 Vp1_5
  have N5 := Fr.snoc X5 N3 g_p1
  have S_ad_5 := Sta.wr W5 S_ad_3
  have S_hi_5 := Sta.wr W5 S_hi_3
  have S_lo_5 := Sta.wr W5 S_lo_3
  have Z_5 : n0 ≤ h5.size := Nat.le_trans Z_3 (Nat.le_of_eq W5.size.symm)
  have KK_5 : Keep h0 h5 [p1] := KK_3.wr W5 (Or.inl (List.mem_of_getElem? (i := 0) rfl))
  show D (T5.setTop (mkF m 53 #[.val (.ref p1), .val (.int (((0 : Int32) <<< ((1 : Int32) &&& 31)) + (1 : Int32))), .val (.int p3)] []))
  exact F _ (Jvm.JW.ret X5 hlk (v := none) (fun _ => rfl) (fun fs hr => X5.returnOut hx hrt (hb hby d33_53) hr) e5 ⟨rfl, _, N5, KK_5, Vp1_5, by simp [own_b0, own_b], by simp [own_b1, own_b], fun j h1 h2 => by simp [h1, h2]⟩ (by decide) (by decide))
theorem ef33_1 (p1 : Addr) (p3 : Int32) (m : MethodId) : entryFrame m #[(.ref p1), (.int (1 : Int32)), (.int p3)] 3 = mkF m 0 #[.val (.ref p1), .val (.int (1 : Int32)), .val (.int p3)] [] := by first | (simp [entryFrame, mkF, argsToLocals, Value.category]; done) | rfl
set_option maxRecDepth 65536 in
set_option maxHeartbeats 40000000 in
theorem rm33_1 (l : Launch) (Z : State) (a0 : Array Value) (hw : ∀ d ∈ tables_1, d.before a0 Z = true) (ws : List Jvm.Cond) (p1 : Addr) (p3 : Int32) (h0 : Heap) (n0 : Nat) (f : Nat → Int32) (Z0 : n0 ≤ h0.size) (g_p1 : n0 ≤ p1) (V_p1 : ArI Z h0 p1 .byte 4 f) (S_ad : Sta Z h0 "java/lang/StringUTF16" "$assertionsDisabled" "Z" (.int (1 : Int32))) (S_hi : Sta Z h0 "java/lang/StringUTF16" "HI_BYTE_SHIFT" "I" (.int (0 : Int32))) (S_lo : Sta Z h0 "java/lang/StringUTF16" "LO_BYTE_SHIFT" "I" (.int (8 : Int32))) :
    JMet l Z (⟨"java/lang/StringUTF16", "putChar", "([BII)V"⟩ : MethodName) jdk_52_method_4_code 3 none ws ({ frames := 0, cells := 0, slots := 0, locals := 0 } : Room) #[(.ref p1), (.int (1 : Int32)), (.int p3)] h0 (fun v h L => v = none ∧ ∃ f' : Nat → Int32, Fr n0 L ∧ Keep h0 h [p1] ∧ ArI Z h p1 .byte 4 f' ∧ f' 2 = own_b0 p3 ∧ f' 3 = own_b1 p3 ∧ ∀ j, j ≠ 2 → j ≠ 3 → f' j = f j) := by
  refine Jvm.JW.body #[.val (.ref p1), .val (.int (1 : Int32)), .val (.int p3)] pn33 (ef33_1 p1 p3) ?_
  intro p e s m below meth c T0 D A F X0 hx hZ hby hml hown hnm hrt hlk e0
  obtain ⟨T1, X1, e1, st1⟩ := getS X0 hx hZ hown (host := "") (hw _ (List.mem_of_getElem? (i := 193) rfl)) Via.refl e0 S_ad (g := (mkF m 0 #[.val (.ref p1), .val (.int (1 : Int32)), .val (.int p3)] [])) rfl (hb hby d33_0)
  refine A (st1 _) ?_
  show D (T1.setTop (mkF m 3 #[.val (.ref p1), .val (.int (1 : Int32)), .val (.int p3)] [(.int (1 : Int32))]))
  refine A (XS.ifYes X1.here hx rfl (pc0 := 3) (pc' := 28) rfl (hb hby d33_3) rfl ((if0 _ _).trans (feq (by decide : ¬ ((1 : Int32) = (0 : Int32)))).2) (by decide) (by decide)) ?_
  show D (T1.setTop (mkF m 28 #[.val (.ref p1), .val (.int (1 : Int32)), .val (.int p3)] []))
  refine A (XS.iloadN X1.here hx rfl (hb hby d33_28) rfl) ?_
  show D (T1.setTop (mkF m 29 #[.val (.ref p1), .val (.int (1 : Int32)), .val (.int p3)] [(.int (1 : Int32))]))
  refine A (XS.iconst X1.here hx rfl (hb hby d33_29)) ?_
  show D (T1.setTop (mkF m 30 #[.val (.ref p1), .val (.int (1 : Int32)), .val (.int p3)] [(.int (1 : Int32)), (.int (1 : Int32))]))
  refine A (XS.ishl X1.here hx rfl (hb hby d33_30) rfl) ?_
  show D (T1.setTop (mkF m 31 #[.val (.ref p1), .val (.int (1 : Int32)), .val (.int p3)] [(.int ((1 : Int32) <<< ((1 : Int32) &&& 31)))]))
  refine A (XS.istoreN X1.here hx rfl (hb hby d33_31) rfl (l' := #[.val (.ref p1), .val (.int ((1 : Int32) <<< ((1 : Int32) &&& 31))), .val (.int p3)]) rfl) ?_
  show D (T1.setTop (mkF m 32 #[.val (.ref p1), .val (.int ((1 : Int32) <<< ((1 : Int32) &&& 31))), .val (.int p3)] []))
  refine A (XS.aloadN X1.here hx rfl (hb hby d33_32) rfl rfl) ?_
  show D (T1.setTop (mkF m 33 #[.val (.ref p1), .val (.int ((1 : Int32) <<< ((1 : Int32) &&& 31))), .val (.int p3)] [(.ref p1)]))
  refine A (XS.iloadN X1.here hx rfl (hb hby d33_33) rfl) ?_
  show D (T1.setTop (mkF m 34 #[.val (.ref p1), .val (.int ((1 : Int32) <<< ((1 : Int32) &&& 31))), .val (.int p3)] [(.int ((1 : Int32) <<< ((1 : Int32) &&& 31))), (.ref p1)]))
  refine A (XS.iinc X1.here hx rfl (hb hby d33_34) rfl (l' := #[.val (.ref p1), .val (.int (((1 : Int32) <<< ((1 : Int32) &&& 31)) + (1 : Int32))), .val (.int p3)]) rfl) ?_
  show D (T1.setTop (mkF m 37 #[.val (.ref p1), .val (.int (((1 : Int32) <<< ((1 : Int32) &&& 31)) + (1 : Int32))), .val (.int p3)] [(.int ((1 : Int32) <<< ((1 : Int32) &&& 31))), (.ref p1)]))
  refine A (XS.iloadN X1.here hx rfl (hb hby d33_37) rfl) ?_
  show D (T1.setTop (mkF m 38 #[.val (.ref p1), .val (.int (((1 : Int32) <<< ((1 : Int32) &&& 31)) + (1 : Int32))), .val (.int p3)] [(.int p3), (.int ((1 : Int32) <<< ((1 : Int32) &&& 31))), (.ref p1)]))
  obtain ⟨T2, X2, e2, st2⟩ := getS X1 hx hZ hown (host := "") (hw _ (List.mem_of_getElem? (i := 194) rfl)) Via.refl e1 S_hi (g := (mkF m 38 #[.val (.ref p1), .val (.int (((1 : Int32) <<< ((1 : Int32) &&& 31)) + (1 : Int32))), .val (.int p3)] [(.int p3), (.int ((1 : Int32) <<< ((1 : Int32) &&& 31))), (.ref p1)])) rfl (hb hby d33_38)
  refine A (st2 _) ?_
  show D (T2.setTop (mkF m 41 #[.val (.ref p1), .val (.int (((1 : Int32) <<< ((1 : Int32) &&& 31)) + (1 : Int32))), .val (.int p3)] [(.int (0 : Int32)), (.int p3), (.int ((1 : Int32) <<< ((1 : Int32) &&& 31))), (.ref p1)]))
  refine A (XS.ishr X2.here hx rfl (hb hby d33_41) rfl) ?_
  show D (T2.setTop (mkF m 42 #[.val (.ref p1), .val (.int (((1 : Int32) <<< ((1 : Int32) &&& 31)) + (1 : Int32))), .val (.int p3)] [(.int (p3 >>> ((0 : Int32) &&& 31))), (.int ((1 : Int32) <<< ((1 : Int32) &&& 31))), (.ref p1)]))
  refine A (XS.i2b X2.here hx rfl (hb hby d33_42) rfl) ?_
  show D (T2.setTop (mkF m 43 #[.val (.ref p1), .val (.int (((1 : Int32) <<< ((1 : Int32) &&& 31)) + (1 : Int32))), .val (.int p3)] [(.int ((p3 >>> ((0 : Int32) &&& 31)).toInt8.toInt32)), (.int ((1 : Int32) <<< ((1 : Int32) &&& 31))), (.ref p1)]))
  refine Adv.stB A X2 hx hZ e2 V_p1 (k := 2) (by decide) (by decide) (g := (mkF m 43 #[.val (.ref p1), .val (.int (((1 : Int32) <<< ((1 : Int32) &&& 31)) + (1 : Int32))), .val (.int p3)] [(.int ((p3 >>> ((0 : Int32) &&& 31)).toInt8.toInt32)), (.int ((1 : Int32) <<< ((1 : Int32) &&& 31))), (.ref p1)])) rfl rfl (hb hby d33_43) ?_
  intro T3 h3 X3 e3 W3 Vp1_3
  have N3 := Fr.snoc X3 (Fr.nil n0) g_p1
  have S_ad_3 := Sta.wr W3 S_ad
  have S_hi_3 := Sta.wr W3 S_hi
  have S_lo_3 := Sta.wr W3 S_lo
  have Z_3 : n0 ≤ h3.size := Nat.le_trans Z0 (Nat.le_of_eq W3.size.symm)
  have KK_3 : Keep h0 h3 [p1] := (Keep.refl h0 [p1]).wr W3 (Or.inl (List.mem_of_getElem? (i := 0) rfl))
  show D (T3.setTop (mkF m 44 #[.val (.ref p1), .val (.int (((1 : Int32) <<< ((1 : Int32) &&& 31)) + (1 : Int32))), .val (.int p3)] []))
  refine A (XS.aloadN X3.here hx rfl (hb hby d33_44) rfl rfl) ?_
  show D (T3.setTop (mkF m 45 #[.val (.ref p1), .val (.int (((1 : Int32) <<< ((1 : Int32) &&& 31)) + (1 : Int32))), .val (.int p3)] [(.ref p1)]))
  refine A (XS.iloadN X3.here hx rfl (hb hby d33_45) rfl) ?_
  show D (T3.setTop (mkF m 46 #[.val (.ref p1), .val (.int (((1 : Int32) <<< ((1 : Int32) &&& 31)) + (1 : Int32))), .val (.int p3)] [(.int (((1 : Int32) <<< ((1 : Int32) &&& 31)) + (1 : Int32))), (.ref p1)]))
  refine A (XS.iloadN X3.here hx rfl (hb hby d33_46) rfl) ?_
  show D (T3.setTop (mkF m 47 #[.val (.ref p1), .val (.int (((1 : Int32) <<< ((1 : Int32) &&& 31)) + (1 : Int32))), .val (.int p3)] [(.int p3), (.int (((1 : Int32) <<< ((1 : Int32) &&& 31)) + (1 : Int32))), (.ref p1)]))
  obtain ⟨T4, X4, e4, st4⟩ := getS X3 hx hZ hown (host := "") (hw _ (List.mem_of_getElem? (i := 195) rfl)) Via.refl e3 S_lo_3 (g := (mkF m 47 #[.val (.ref p1), .val (.int (((1 : Int32) <<< ((1 : Int32) &&& 31)) + (1 : Int32))), .val (.int p3)] [(.int p3), (.int (((1 : Int32) <<< ((1 : Int32) &&& 31)) + (1 : Int32))), (.ref p1)])) rfl (hb hby d33_47)
  refine A (st4 _) ?_
  show D (T4.setTop (mkF m 50 #[.val (.ref p1), .val (.int (((1 : Int32) <<< ((1 : Int32) &&& 31)) + (1 : Int32))), .val (.int p3)] [(.int (8 : Int32)), (.int p3), (.int (((1 : Int32) <<< ((1 : Int32) &&& 31)) + (1 : Int32))), (.ref p1)]))
  refine A (XS.ishr X4.here hx rfl (hb hby d33_50) rfl) ?_
  show D (T4.setTop (mkF m 51 #[.val (.ref p1), .val (.int (((1 : Int32) <<< ((1 : Int32) &&& 31)) + (1 : Int32))), .val (.int p3)] [(.int (p3 >>> ((8 : Int32) &&& 31))), (.int (((1 : Int32) <<< ((1 : Int32) &&& 31)) + (1 : Int32))), (.ref p1)]))
  refine A (XS.i2b X4.here hx rfl (hb hby d33_51) rfl) ?_
  show D (T4.setTop (mkF m 52 #[.val (.ref p1), .val (.int (((1 : Int32) <<< ((1 : Int32) &&& 31)) + (1 : Int32))), .val (.int p3)] [(.int ((p3 >>> ((8 : Int32) &&& 31)).toInt8.toInt32)), (.int (((1 : Int32) <<< ((1 : Int32) &&& 31)) + (1 : Int32))), (.ref p1)]))
  refine Adv.stB A X4 hx hZ e4 Vp1_3 (k := 3) (by decide) (by decide) (g := (mkF m 52 #[.val (.ref p1), .val (.int (((1 : Int32) <<< ((1 : Int32) &&& 31)) + (1 : Int32))), .val (.int p3)] [(.int ((p3 >>> ((8 : Int32) &&& 31)).toInt8.toInt32)), (.int (((1 : Int32) <<< ((1 : Int32) &&& 31)) + (1 : Int32))), (.ref p1)])) rfl rfl (hb hby d33_52) ?_
  intro T5 h5 X5 e5 W5 Vp1_5
  have N5 := Fr.snoc X5 N3 g_p1
  have S_ad_5 := Sta.wr W5 S_ad_3
  have S_hi_5 := Sta.wr W5 S_hi_3
  have S_lo_5 := Sta.wr W5 S_lo_3
  have Z_5 : n0 ≤ h5.size := Nat.le_trans Z_3 (Nat.le_of_eq W5.size.symm)
  have KK_5 : Keep h0 h5 [p1] := KK_3.wr W5 (Or.inl (List.mem_of_getElem? (i := 0) rfl))
  show D (T5.setTop (mkF m 53 #[.val (.ref p1), .val (.int (((1 : Int32) <<< ((1 : Int32) &&& 31)) + (1 : Int32))), .val (.int p3)] []))
  exact F _ (Jvm.JW.ret X5 hlk (v := none) (fun _ => rfl) (fun fs hr => X5.returnOut hx hrt (hb hby d33_53) hr) e5 ⟨rfl, _, N5, KK_5, Vp1_5, by simp [own_b0, own_b], by simp [own_b1, own_b], fun j h1 h2 => by simp [h1, h2]⟩ (by decide) (by decide))
theorem d30_0 : decode jdk_52_method_14_code 0 = .ok (.iload_n 2, 1) := by decide +kernel
theorem d30_1 : decode jdk_52_method_14_code 1 = .ok (.invokestatic 107, 3) := by decide +kernel
theorem d30_4 : decode jdk_52_method_14_code 4 = .ok (.astore_n 3, 1) := by decide +kernel
theorem d30_5 : decode jdk_52_method_14_code 5 = .ok (.iconst 0, 1) := by decide +kernel
theorem d30_6 : decode jdk_52_method_14_code 6 = .ok (.istore 4, 2) := by decide +kernel
theorem d30_8 : decode jdk_52_method_14_code 8 = .ok (.iload 4, 2) := by decide +kernel
theorem d30_10 : decode jdk_52_method_14_code 10 = .ok (.iload_n 2, 1) := by decide +kernel
theorem d30_11 : decode jdk_52_method_14_code 11 = .ok (.if_icmp .ge 21, 3) := by decide +kernel
theorem d30_14 : decode jdk_52_method_14_code 14 = .ok (.aload_n 3, 1) := by decide +kernel
theorem d30_15 : decode jdk_52_method_14_code 15 = .ok (.iload 4, 2) := by decide +kernel
theorem d30_17 : decode jdk_52_method_14_code 17 = .ok (.aload_n 0, 1) := by decide +kernel
theorem d30_18 : decode jdk_52_method_14_code 18 = .ok (.iload_n 1, 1) := by decide +kernel
theorem d30_19 : decode jdk_52_method_14_code 19 = .ok (.caload, 1) := by decide +kernel
theorem d30_20 : decode jdk_52_method_14_code 20 = .ok (.invokestatic 111, 3) := by decide +kernel
theorem d30_23 : decode jdk_52_method_14_code 23 = .ok (.iinc 1 1, 3) := by decide +kernel
theorem d30_26 : decode jdk_52_method_14_code 26 = .ok (.iinc 4 1, 3) := by decide +kernel
theorem d30_29 : decode jdk_52_method_14_code 29 = .ok (.goto (-21), 3) := by decide +kernel
theorem d30_32 : decode jdk_52_method_14_code 32 = .ok (.aload_n 3, 1) := by decide +kernel
theorem d30_33 : decode jdk_52_method_14_code 33 = .ok (.areturn, 1) := by decide +kernel
theorem pn30 : plainFor (⟨"java/lang/StringUTF16", "toBytes", "([CII)[B"⟩ : MethodName) = true := by decide +kernel
theorem pd30_0 : parseMethodDescriptor "(I)[B" = some ⟨[.int], some (.array .byte)⟩ := by decide +kernel
theorem pd30_1 : parseMethodDescriptor "([BII)V" = some ⟨[(.array .byte), .int, .int], none⟩ := by decide +kernel
theorem ef30_0_2 (p1 : Addr) (m : MethodId) : entryFrame m #[(.ref p1), (.int (0 : Int32)), (.int (2 : Int32))] 5 = mkF m 0 #[.val (.ref p1), .val (.int (0 : Int32)), .val (.int (2 : Int32)), .unset, .unset] [] := by first | (simp [entryFrame, mkF, argsToLocals, Value.category]; done) | rfl
set_option maxRecDepth 65536 in
set_option maxHeartbeats 40000000 in
theorem rm30 (l : Launch) (Z : State) (a0 : Array Value) (hw : ∀ d ∈ tables_1, d.before a0 Z = true) (ws : List Jvm.Cond) (p1 : Addr) (h0 : Heap) (n0 : Nat) (f : Nat → Int32) (Z0 : n0 ≤ h0.size) (V_p1 : ArI Z h0 p1 .char 2 f) (S_ad : Sta Z h0 "java/lang/StringUTF16" "$assertionsDisabled" "Z" (.int (1 : Int32))) (S_hi : Sta Z h0 "java/lang/StringUTF16" "HI_BYTE_SHIFT" "I" (.int (0 : Int32))) (S_lo : Sta Z h0 "java/lang/StringUTF16" "LO_BYTE_SHIFT" "I" (.int (8 : Int32))) :
    JMet l Z (⟨"java/lang/StringUTF16", "toBytes", "([CII)[B"⟩ : MethodName) jdk_52_method_14_code 5 (some (.array .byte)) ws ({ frames := 2, cells := 1, slots := 4, locals := 24 } : Room) #[(.ref p1), (.int (0 : Int32)), (.int (2 : Int32))] h0 (fun v h L => ∃ (b : Addr) (fb : Nat → Int32), v = some (.ref b) ∧ Fr n0 L ∧ Keep h0 h [] ∧ ArI Z h b .byte 4 fb ∧ h0.size ≤ b ∧ fb 0 = own_b0 (f 0) ∧ fb 1 = own_b1 (f 0) ∧ fb 2 = own_b0 (f 1) ∧ fb 3 = own_b1 (f 1)) := by
  refine Jvm.JW.body #[.val (.ref p1), .val (.int (0 : Int32)), .val (.int (2 : Int32)), .unset, .unset] pn30 (ef30_0_2 p1) ?_
  intro p e s m below meth c T0 D A F X0 hx hZ hby hml hown hnm hrt hlk e0
  refine A (XS.iloadN X0.here hx rfl (hb hby d30_0) rfl) ?_
  show D (T0.setTop (mkF m 1 #[.val (.ref p1), .val (.int (0 : Int32)), .val (.int (2 : Int32)), .unset, .unset] [(.int (2 : Int32))]))
  refine Adv.callS A X0 hx hZ hown (hw _ (List.mem_of_getElem? (i := 183) rfl)) (hw _ (List.mem_of_getElem? (i := 184) rfl)) (hw _ (List.mem_of_getElem? (i := 18) rfl)) (hw _ (List.mem_of_getElem? (i := 185) rfl)) e0 (rm31 l Z a0 hw [] h0 n0 Z0) 0 (g := (mkF m 1 #[.val (.ref p1), .val (.int (0 : Int32)), .val (.int (2 : Int32)), .unset, .unset] [(.int (2 : Int32))])) rfl (by rw [hml]; rfl) [(.int (2 : Int32))] [] rfl (lenOf pd30_0 rfl) rfl (by show 2 * 0 + _ ≤ _; exact Nat.le_of_eq rfl) (hb hby d30_1) (by decide) (by decide) (by decide) (by decide) (by decide) ?_
  rintro T1 L1 _ X1 ⟨b1, rfl, N1_q, K1, V1_q, szq_b1⟩
  have N1 := Fr.app (Fr.nil n0) N1_q
  have ne_p1_b1 : p1 ≠ b1 := Nat.ne_of_lt (Nat.lt_of_lt_of_le V_p1.lt szq_b1)
  have g_b1 : n0 ≤ b1 := Nat.le_trans Z0 szq_b1
  have sz_b1 : h0.size ≤ b1 := Nat.le_trans (Keep.refl h0 []).1 szq_b1
  have V_p1_1 := V_p1.keep K1 nin0
  have S_ad_1 := own_stk S_ad K1 own_nsn
  have S_hi_1 := own_stk S_hi K1 own_nsn
  have S_lo_1 := own_stk S_lo K1 own_nsn
  have Z_1 : n0 ≤ T1.heap.size := Nat.le_trans Z0 K1.1
  have KK_1 : Keep h0 T1.heap [] := (Keep.refl h0 []).trans K1 all0
  show D (T1.setTop (mkF m 4 #[.val (.ref p1), .val (.int (0 : Int32)), .val (.int (2 : Int32)), .unset, .unset] [(.ref b1)]))
  refine A (XS.astoreN X1.here hx rfl (hb hby d30_4) rfl rfl (l' := #[.val (.ref p1), .val (.int (0 : Int32)), .val (.int (2 : Int32)), .val (.ref b1), .unset]) rfl) ?_
  show D (T1.setTop (mkF m 5 #[.val (.ref p1), .val (.int (0 : Int32)), .val (.int (2 : Int32)), .val (.ref b1), .unset] []))
  refine A (XS.iconst X1.here hx rfl (hb hby d30_5)) ?_
  show D (T1.setTop (mkF m 6 #[.val (.ref p1), .val (.int (0 : Int32)), .val (.int (2 : Int32)), .val (.ref b1), .unset] [(.int (0 : Int32))]))
  refine A (XS.istore X1.here hx rfl (hb hby d30_6) rfl (l' := #[.val (.ref p1), .val (.int (0 : Int32)), .val (.int (2 : Int32)), .val (.ref b1), .val (.int (0 : Int32))]) rfl) ?_
  show D (T1.setTop (mkF m 8 #[.val (.ref p1), .val (.int (0 : Int32)), .val (.int (2 : Int32)), .val (.ref b1), .val (.int (0 : Int32))] []))
  refine A (XS.iload X1.here hx rfl (hb hby d30_8) rfl) ?_
  show D (T1.setTop (mkF m 10 #[.val (.ref p1), .val (.int (0 : Int32)), .val (.int (2 : Int32)), .val (.ref b1), .val (.int (0 : Int32))] [(.int (0 : Int32))]))
  refine A (XS.iloadN X1.here hx rfl (hb hby d30_10) rfl) ?_
  show D (T1.setTop (mkF m 11 #[.val (.ref p1), .val (.int (0 : Int32)), .val (.int (2 : Int32)), .val (.ref b1), .val (.int (0 : Int32))] [(.int (2 : Int32)), (.int (0 : Int32))]))
  refine A (XS.icmpNo X1.here hx rfl (hb hby d30_11) rfl (tlt (by decide : (0 : Int32) < (2 : Int32))).2.1) ?_
  show D (T1.setTop (mkF m 14 #[.val (.ref p1), .val (.int (0 : Int32)), .val (.int (2 : Int32)), .val (.ref b1), .val (.int (0 : Int32))] []))
  refine A (XS.aloadN X1.here hx rfl (hb hby d30_14) rfl rfl) ?_
  show D (T1.setTop (mkF m 15 #[.val (.ref p1), .val (.int (0 : Int32)), .val (.int (2 : Int32)), .val (.ref b1), .val (.int (0 : Int32))] [(.ref b1)]))
  refine A (XS.iload X1.here hx rfl (hb hby d30_15) rfl) ?_
  show D (T1.setTop (mkF m 17 #[.val (.ref p1), .val (.int (0 : Int32)), .val (.int (2 : Int32)), .val (.ref b1), .val (.int (0 : Int32))] [(.int (0 : Int32)), (.ref b1)]))
  refine A (XS.aloadN X1.here hx rfl (hb hby d30_17) rfl rfl) ?_
  show D (T1.setTop (mkF m 18 #[.val (.ref p1), .val (.int (0 : Int32)), .val (.int (2 : Int32)), .val (.ref b1), .val (.int (0 : Int32))] [(.ref p1), (.int (0 : Int32)), (.ref b1)]))
  refine A (XS.iloadN X1.here hx rfl (hb hby d30_18) rfl) ?_
  show D (T1.setTop (mkF m 19 #[.val (.ref p1), .val (.int (0 : Int32)), .val (.int (2 : Int32)), .val (.ref b1), .val (.int (0 : Int32))] [(.int (0 : Int32)), (.ref p1), (.int (0 : Int32)), (.ref b1)]))
  refine Adv.ldC A X1 hx hZ rfl V_p1_1 (k := 0) (by decide) (by decide) (g := (mkF m 19 #[.val (.ref p1), .val (.int (0 : Int32)), .val (.int (2 : Int32)), .val (.ref b1), .val (.int (0 : Int32))] [(.int (0 : Int32)), (.ref p1), (.int (0 : Int32)), (.ref b1)])) rfl rfl (hb hby d30_19) ?_
  show D (T1.setTop (mkF m 20 #[.val (.ref p1), .val (.int (0 : Int32)), .val (.int (2 : Int32)), .val (.ref b1), .val (.int (0 : Int32))] [(.int (f 0)), (.int (0 : Int32)), (.ref b1)]))
  refine Adv.callS A X1 hx hZ hown (hw _ (List.mem_of_getElem? (i := 190) rfl)) (hw _ (List.mem_of_getElem? (i := 191) rfl)) (hw _ (List.mem_of_getElem? (i := 18) rfl)) (hw _ (List.mem_of_getElem? (i := 192) rfl)) rfl (rm33_0 l Z a0 hw [] b1 (f 0) T1.heap n0 (fun _ => 0) Z_1 g_b1 V1_q S_ad_1 S_hi_1 S_lo_1) 0 (g := (mkF m 20 #[.val (.ref p1), .val (.int (0 : Int32)), .val (.int (2 : Int32)), .val (.ref b1), .val (.int (0 : Int32))] [(.int (f 0)), (.int (0 : Int32)), (.ref b1)])) rfl (by rw [hml]; rfl) [(.ref b1), (.int (0 : Int32)), (.int (f 0))] [] rfl (lenOf pd30_1 rfl) rfl (by show 2 * 0 + _ ≤ _; exact Nat.le_of_eq rfl) (hb hby d30_20) (by decide) (by decide) (by decide) (by decide) (by decide) ?_
  rintro T2 L2 _ X2 ⟨rfl, fp2, N2_q, K2, V2_q, hp2_0, hp2_1, hp2_r⟩
  have N2 := Fr.app N1 N2_q
  have V_p1_2 := V_p1_1.keep K2 (ninS ne_p1_b1 nin0)
  have S_ad_2 := own_stk S_ad_1 K2 (own_nsc (own_nsI V1_q) own_nsn)
  have S_hi_2 := own_stk S_hi_1 K2 (own_nsc (own_nsI V1_q) own_nsn)
  have S_lo_2 := own_stk S_lo_1 K2 (own_nsc (own_nsI V1_q) own_nsn)
  have Z_2 : n0 ≤ T2.heap.size := Nat.le_trans Z_1 K2.1
  have KK_2 : Keep h0 T2.heap [] := KK_1.trans K2 (allS (Or.inr sz_b1) all0)
  show D (T2.setTop (mkF m 23 #[.val (.ref p1), .val (.int (0 : Int32)), .val (.int (2 : Int32)), .val (.ref b1), .val (.int (0 : Int32))] []))
  refine A (XS.iinc X2.here hx rfl (hb hby d30_23) rfl (l' := #[.val (.ref p1), .val (.int ((0 : Int32) + (1 : Int32))), .val (.int (2 : Int32)), .val (.ref b1), .val (.int (0 : Int32))]) rfl) ?_
  show D (T2.setTop (mkF m 26 #[.val (.ref p1), .val (.int ((0 : Int32) + (1 : Int32))), .val (.int (2 : Int32)), .val (.ref b1), .val (.int (0 : Int32))] []))
  suffices Kq3 : ∀ q3 : Int32, q3 = (1 : Int32) → D (T2.setTop (mkF m 26 #[.val (.ref p1), .val (.int q3), .val (.int (2 : Int32)), .val (.ref b1), .val (.int (0 : Int32))] [])) from Kq3 _ (by decide)
  rintro _ rfl
  show D (T2.setTop (mkF m 26 #[.val (.ref p1), .val (.int (1 : Int32)), .val (.int (2 : Int32)), .val (.ref b1), .val (.int (0 : Int32))] []))
  refine A (XS.iinc X2.here hx rfl (hb hby d30_26) rfl (l' := #[.val (.ref p1), .val (.int (1 : Int32)), .val (.int (2 : Int32)), .val (.ref b1), .val (.int ((0 : Int32) + (1 : Int32)))]) rfl) ?_
  show D (T2.setTop (mkF m 29 #[.val (.ref p1), .val (.int (1 : Int32)), .val (.int (2 : Int32)), .val (.ref b1), .val (.int ((0 : Int32) + (1 : Int32)))] []))
  suffices Kq4 : ∀ q4 : Int32, q4 = (1 : Int32) → D (T2.setTop (mkF m 29 #[.val (.ref p1), .val (.int (1 : Int32)), .val (.int (2 : Int32)), .val (.ref b1), .val (.int q4)] [])) from Kq4 _ (by decide)
  rintro _ rfl
  show D (T2.setTop (mkF m 29 #[.val (.ref p1), .val (.int (1 : Int32)), .val (.int (2 : Int32)), .val (.ref b1), .val (.int (1 : Int32))] []))
  refine A (XS.goto X2.here hx rfl (pc0 := 29) (pc' := 8) rfl (hb hby d30_29) (by decide) (by decide)) ?_
  show D (T2.setTop (mkF m 8 #[.val (.ref p1), .val (.int (1 : Int32)), .val (.int (2 : Int32)), .val (.ref b1), .val (.int (1 : Int32))] []))
  refine A (XS.iload X2.here hx rfl (hb hby d30_8) rfl) ?_
  show D (T2.setTop (mkF m 10 #[.val (.ref p1), .val (.int (1 : Int32)), .val (.int (2 : Int32)), .val (.ref b1), .val (.int (1 : Int32))] [(.int (1 : Int32))]))
  refine A (XS.iloadN X2.here hx rfl (hb hby d30_10) rfl) ?_
  show D (T2.setTop (mkF m 11 #[.val (.ref p1), .val (.int (1 : Int32)), .val (.int (2 : Int32)), .val (.ref b1), .val (.int (1 : Int32))] [(.int (2 : Int32)), (.int (1 : Int32))]))
  refine A (XS.icmpNo X2.here hx rfl (hb hby d30_11) rfl (tlt (by decide : (1 : Int32) < (2 : Int32))).2.1) ?_
  show D (T2.setTop (mkF m 14 #[.val (.ref p1), .val (.int (1 : Int32)), .val (.int (2 : Int32)), .val (.ref b1), .val (.int (1 : Int32))] []))
  refine A (XS.aloadN X2.here hx rfl (hb hby d30_14) rfl rfl) ?_
  show D (T2.setTop (mkF m 15 #[.val (.ref p1), .val (.int (1 : Int32)), .val (.int (2 : Int32)), .val (.ref b1), .val (.int (1 : Int32))] [(.ref b1)]))
  refine A (XS.iload X2.here hx rfl (hb hby d30_15) rfl) ?_
  show D (T2.setTop (mkF m 17 #[.val (.ref p1), .val (.int (1 : Int32)), .val (.int (2 : Int32)), .val (.ref b1), .val (.int (1 : Int32))] [(.int (1 : Int32)), (.ref b1)]))
  refine A (XS.aloadN X2.here hx rfl (hb hby d30_17) rfl rfl) ?_
  show D (T2.setTop (mkF m 18 #[.val (.ref p1), .val (.int (1 : Int32)), .val (.int (2 : Int32)), .val (.ref b1), .val (.int (1 : Int32))] [(.ref p1), (.int (1 : Int32)), (.ref b1)]))
  refine A (XS.iloadN X2.here hx rfl (hb hby d30_18) rfl) ?_
  show D (T2.setTop (mkF m 19 #[.val (.ref p1), .val (.int (1 : Int32)), .val (.int (2 : Int32)), .val (.ref b1), .val (.int (1 : Int32))] [(.int (1 : Int32)), (.ref p1), (.int (1 : Int32)), (.ref b1)]))
  refine Adv.ldC A X2 hx hZ rfl V_p1_2 (k := 1) (by decide) (by decide) (g := (mkF m 19 #[.val (.ref p1), .val (.int (1 : Int32)), .val (.int (2 : Int32)), .val (.ref b1), .val (.int (1 : Int32))] [(.int (1 : Int32)), (.ref p1), (.int (1 : Int32)), (.ref b1)])) rfl rfl (hb hby d30_19) ?_
  show D (T2.setTop (mkF m 20 #[.val (.ref p1), .val (.int (1 : Int32)), .val (.int (2 : Int32)), .val (.ref b1), .val (.int (1 : Int32))] [(.int (f 1)), (.int (1 : Int32)), (.ref b1)]))
  refine Adv.callS A X2 hx hZ hown (hw _ (List.mem_of_getElem? (i := 190) rfl)) (hw _ (List.mem_of_getElem? (i := 191) rfl)) (hw _ (List.mem_of_getElem? (i := 18) rfl)) (hw _ (List.mem_of_getElem? (i := 192) rfl)) rfl (rm33_1 l Z a0 hw [] b1 (f 1) T2.heap n0 fp2 Z_2 g_b1 V2_q S_ad_2 S_hi_2 S_lo_2) 0 (g := (mkF m 20 #[.val (.ref p1), .val (.int (1 : Int32)), .val (.int (2 : Int32)), .val (.ref b1), .val (.int (1 : Int32))] [(.int (f 1)), (.int (1 : Int32)), (.ref b1)])) rfl (by rw [hml]; rfl) [(.ref b1), (.int (1 : Int32)), (.int (f 1))] [] rfl (lenOf pd30_1 rfl) rfl (by show 2 * 0 + _ ≤ _; exact Nat.le_of_eq rfl) (hb hby d30_20) (by decide) (by decide) (by decide) (by decide) (by decide) ?_
  rintro T5 L5 _ X5 ⟨rfl, fp5, N5_q, K5, V5_q, hp5_0, hp5_1, hp5_r⟩
  have N5 := Fr.app N2 N5_q
  have V_p1_5 := V_p1_2.keep K5 (ninS ne_p1_b1 nin0)
  have S_ad_5 := own_stk S_ad_2 K5 (own_nsc (own_nsI V2_q) own_nsn)
  have S_hi_5 := own_stk S_hi_2 K5 (own_nsc (own_nsI V2_q) own_nsn)
  have S_lo_5 := own_stk S_lo_2 K5 (own_nsc (own_nsI V2_q) own_nsn)
  have Z_5 : n0 ≤ T5.heap.size := Nat.le_trans Z_2 K5.1
  have KK_5 : Keep h0 T5.heap [] := KK_2.trans K5 (allS (Or.inr sz_b1) all0)
  show D (T5.setTop (mkF m 23 #[.val (.ref p1), .val (.int (1 : Int32)), .val (.int (2 : Int32)), .val (.ref b1), .val (.int (1 : Int32))] []))
  refine A (XS.iinc X5.here hx rfl (hb hby d30_23) rfl (l' := #[.val (.ref p1), .val (.int ((1 : Int32) + (1 : Int32))), .val (.int (2 : Int32)), .val (.ref b1), .val (.int (1 : Int32))]) rfl) ?_
  show D (T5.setTop (mkF m 26 #[.val (.ref p1), .val (.int ((1 : Int32) + (1 : Int32))), .val (.int (2 : Int32)), .val (.ref b1), .val (.int (1 : Int32))] []))
  suffices Kq6 : ∀ q6 : Int32, q6 = (2 : Int32) → D (T5.setTop (mkF m 26 #[.val (.ref p1), .val (.int q6), .val (.int (2 : Int32)), .val (.ref b1), .val (.int (1 : Int32))] [])) from Kq6 _ (by decide)
  rintro _ rfl
  show D (T5.setTop (mkF m 26 #[.val (.ref p1), .val (.int (2 : Int32)), .val (.int (2 : Int32)), .val (.ref b1), .val (.int (1 : Int32))] []))
  refine A (XS.iinc X5.here hx rfl (hb hby d30_26) rfl (l' := #[.val (.ref p1), .val (.int (2 : Int32)), .val (.int (2 : Int32)), .val (.ref b1), .val (.int ((1 : Int32) + (1 : Int32)))]) rfl) ?_
  show D (T5.setTop (mkF m 29 #[.val (.ref p1), .val (.int (2 : Int32)), .val (.int (2 : Int32)), .val (.ref b1), .val (.int ((1 : Int32) + (1 : Int32)))] []))
  suffices Kq7 : ∀ q7 : Int32, q7 = (2 : Int32) → D (T5.setTop (mkF m 29 #[.val (.ref p1), .val (.int (2 : Int32)), .val (.int (2 : Int32)), .val (.ref b1), .val (.int q7)] [])) from Kq7 _ (by decide)
  rintro _ rfl
  show D (T5.setTop (mkF m 29 #[.val (.ref p1), .val (.int (2 : Int32)), .val (.int (2 : Int32)), .val (.ref b1), .val (.int (2 : Int32))] []))
  refine A (XS.goto X5.here hx rfl (pc0 := 29) (pc' := 8) rfl (hb hby d30_29) (by decide) (by decide)) ?_
  show D (T5.setTop (mkF m 8 #[.val (.ref p1), .val (.int (2 : Int32)), .val (.int (2 : Int32)), .val (.ref b1), .val (.int (2 : Int32))] []))
  refine A (XS.iload X5.here hx rfl (hb hby d30_8) rfl) ?_
  show D (T5.setTop (mkF m 10 #[.val (.ref p1), .val (.int (2 : Int32)), .val (.int (2 : Int32)), .val (.ref b1), .val (.int (2 : Int32))] [(.int (2 : Int32))]))
  refine A (XS.iloadN X5.here hx rfl (hb hby d30_10) rfl) ?_
  show D (T5.setTop (mkF m 11 #[.val (.ref p1), .val (.int (2 : Int32)), .val (.int (2 : Int32)), .val (.ref b1), .val (.int (2 : Int32))] [(.int (2 : Int32)), (.int (2 : Int32))]))
  refine A (XS.icmpYes X5.here hx rfl (pc0 := 11) (pc' := 32) rfl (hb hby d30_11) rfl (flt (by decide : ¬ ((2 : Int32) < (2 : Int32)))).2.1 (by decide) (by decide)) ?_
  show D (T5.setTop (mkF m 32 #[.val (.ref p1), .val (.int (2 : Int32)), .val (.int (2 : Int32)), .val (.ref b1), .val (.int (2 : Int32))] []))
  refine A (XS.aloadN X5.here hx rfl (hb hby d30_32) rfl rfl) ?_
  show D (T5.setTop (mkF m 33 #[.val (.ref p1), .val (.int (2 : Int32)), .val (.int (2 : Int32)), .val (.ref b1), .val (.int (2 : Int32))] [(.ref b1)]))
  refine F _ (Jvm.JW.ret X5 hlk (v := some (.ref b1)) (fun h => by rw [hrt] at h; cases h) (fun fs hr => retOut X5 hx hrt rfl (Or.inr (Or.inr (Or.inr (Or.inr ⟨rfl, rfl, rfl⟩)))) (hb hby d30_33) hr) rfl ?_ (by decide) (by decide))
  exact ⟨b1, _, rfl, N5, KK_5, V5_q, sz_b1, (hp5_r 0 (by decide) (by decide)).trans hp2_0, (hp5_r 1 (by decide) (by decide)).trans hp2_1, hp5_0, hp5_1⟩
theorem d34_0 : decode jdk_52_method_5_code 0 = .ok (.getstatic 44, 3) := by decide +kernel
theorem d34_3 : decode jdk_52_method_5_code 3 = .ok (.ifCond .ne 25, 3) := by decide +kernel
theorem d34_28 : decode jdk_52_method_5_code 28 = .ok (.iload_n 1, 1) := by decide +kernel
theorem d34_29 : decode jdk_52_method_5_code 29 = .ok (.iconst 1, 1) := by decide +kernel
theorem d34_30 : decode jdk_52_method_5_code 30 = .ok (.ishl, 1) := by decide +kernel
theorem d34_31 : decode jdk_52_method_5_code 31 = .ok (.istore_n 1, 1) := by decide +kernel
theorem d34_32 : decode jdk_52_method_5_code 32 = .ok (.aload_n 0, 1) := by decide +kernel
theorem d34_33 : decode jdk_52_method_5_code 33 = .ok (.iload_n 1, 1) := by decide +kernel
theorem d34_34 : decode jdk_52_method_5_code 34 = .ok (.iinc 1 1, 3) := by decide +kernel
theorem d34_37 : decode jdk_52_method_5_code 37 = .ok (.baload, 1) := by decide +kernel
theorem d34_38 : decode jdk_52_method_5_code 38 = .ok (.sipush 255, 3) := by decide +kernel
theorem d34_41 : decode jdk_52_method_5_code 41 = .ok (.iand, 1) := by decide +kernel
theorem d34_42 : decode jdk_52_method_5_code 42 = .ok (.getstatic 59, 3) := by decide +kernel
theorem d34_45 : decode jdk_52_method_5_code 45 = .ok (.ishl, 1) := by decide +kernel
theorem d34_46 : decode jdk_52_method_5_code 46 = .ok (.aload_n 0, 1) := by decide +kernel
theorem d34_47 : decode jdk_52_method_5_code 47 = .ok (.iload_n 1, 1) := by decide +kernel
theorem d34_48 : decode jdk_52_method_5_code 48 = .ok (.baload, 1) := by decide +kernel
theorem d34_49 : decode jdk_52_method_5_code 49 = .ok (.sipush 255, 3) := by decide +kernel
theorem d34_52 : decode jdk_52_method_5_code 52 = .ok (.iand, 1) := by decide +kernel
theorem d34_53 : decode jdk_52_method_5_code 53 = .ok (.getstatic 63, 3) := by decide +kernel
theorem d34_56 : decode jdk_52_method_5_code 56 = .ok (.ishl, 1) := by decide +kernel
theorem d34_57 : decode jdk_52_method_5_code 57 = .ok (.ior, 1) := by decide +kernel
theorem d34_58 : decode jdk_52_method_5_code 58 = .ok (.i2c, 1) := by decide +kernel
theorem d34_59 : decode jdk_52_method_5_code 59 = .ok (.ireturn, 1) := by decide +kernel
theorem pn34 : plainFor (⟨"java/lang/StringUTF16", "getChar", "([BI)C"⟩ : MethodName) = true := by decide +kernel
theorem ef34 (p1 : Addr) (p2 : Int32) (m : MethodId) : entryFrame m #[(.ref p1), (.int p2)] 2 = mkF m 0 #[.val (.ref p1), .val (.int p2)] [] := by first | (simp [entryFrame, mkF, argsToLocals, Value.category]; done) | rfl
set_option maxRecDepth 65536 in
set_option maxHeartbeats 40000000 in
theorem rm34 (l : Launch) (Z : State) (a0 : Array Value) (hw : ∀ d ∈ tables_1, d.before a0 Z = true) (ws : List Jvm.Cond) (p1 : Addr) (p2 : Int32) (h0 : Heap) (n0 : Nat) (f : Nat → Int32) (kk : Nat) (hk : p2.toInt = kk) (hk2 : kk < 2) (V_p1 : ArI Z h0 p1 .byte 4 f) (S_ad : Sta Z h0 "java/lang/StringUTF16" "$assertionsDisabled" "Z" (.int (1 : Int32))) (S_hi : Sta Z h0 "java/lang/StringUTF16" "HI_BYTE_SHIFT" "I" (.int (0 : Int32))) (S_lo : Sta Z h0 "java/lang/StringUTF16" "LO_BYTE_SHIFT" "I" (.int (8 : Int32))) :
    JMet l Z (⟨"java/lang/StringUTF16", "getChar", "([BI)C"⟩ : MethodName) jdk_52_method_5_code 2 (some .char) ws ({ frames := 0, cells := 0, slots := 0, locals := 0 } : Room) #[(.ref p1), (.int p2)] h0 (QP (.int (own_u (f (2 * kk)) (f (2 * kk + 1)))) h0 n0) := by
  refine Jvm.JW.body #[.val (.ref p1), .val (.int p2)] pn34 (ef34 p1 p2) ?_
  intro p e s m below meth c T0 D A F X0 hx hZ hby hml hown hnm hrt hlk e0
  obtain ⟨T1, X1, e1, st1⟩ := getS X0 hx hZ hown (host := "") (hw _ (List.mem_of_getElem? (i := 193) rfl)) Via.refl e0 S_ad (g := (mkF m 0 #[.val (.ref p1), .val (.int p2)] [])) rfl (hb hby d34_0)
  refine A (st1 _) ?_
  show D (T1.setTop (mkF m 3 #[.val (.ref p1), .val (.int p2)] [(.int (1 : Int32))]))
  refine A (XS.ifYes X1.here hx rfl (pc0 := 3) (pc' := 28) rfl (hb hby d34_3) rfl ((if0 _ _).trans (feq (by decide : ¬ ((1 : Int32) = (0 : Int32)))).2) (by decide) (by decide)) ?_
  show D (T1.setTop (mkF m 28 #[.val (.ref p1), .val (.int p2)] []))
  refine A (XS.iloadN X1.here hx rfl (hb hby d34_28) rfl) ?_
  show D (T1.setTop (mkF m 29 #[.val (.ref p1), .val (.int p2)] [(.int p2)]))
  refine A (XS.iconst X1.here hx rfl (hb hby d34_29)) ?_
  show D (T1.setTop (mkF m 30 #[.val (.ref p1), .val (.int p2)] [(.int (1 : Int32)), (.int p2)]))
  refine A (XS.ishl X1.here hx rfl (hb hby d34_30) rfl) ?_
  show D (T1.setTop (mkF m 31 #[.val (.ref p1), .val (.int p2)] [(.int (p2 <<< ((1 : Int32) &&& 31)))]))
  refine A (XS.istoreN X1.here hx rfl (hb hby d34_31) rfl (l' := #[.val (.ref p1), .val (.int (p2 <<< ((1 : Int32) &&& 31)))]) rfl) ?_
  show D (T1.setTop (mkF m 32 #[.val (.ref p1), .val (.int (p2 <<< ((1 : Int32) &&& 31)))] []))
  refine A (XS.aloadN X1.here hx rfl (hb hby d34_32) rfl rfl) ?_
  show D (T1.setTop (mkF m 33 #[.val (.ref p1), .val (.int (p2 <<< ((1 : Int32) &&& 31)))] [(.ref p1)]))
  refine A (XS.iloadN X1.here hx rfl (hb hby d34_33) rfl) ?_
  show D (T1.setTop (mkF m 34 #[.val (.ref p1), .val (.int (p2 <<< ((1 : Int32) &&& 31)))] [(.int (p2 <<< ((1 : Int32) &&& 31))), (.ref p1)]))
  refine A (XS.iinc X1.here hx rfl (hb hby d34_34) rfl (l' := #[.val (.ref p1), .val (.int ((p2 <<< ((1 : Int32) &&& 31)) + (1 : Int32)))]) rfl) ?_
  show D (T1.setTop (mkF m 37 #[.val (.ref p1), .val (.int ((p2 <<< ((1 : Int32) &&& 31)) + (1 : Int32)))] [(.int (p2 <<< ((1 : Int32) &&& 31))), (.ref p1)]))
  refine Adv.ldB A X1 hx hZ e1 V_p1 (k := (2 * kk)) (own_sh hk hk2) (by omega) (g := (mkF m 37 #[.val (.ref p1), .val (.int ((p2 <<< ((1 : Int32) &&& 31)) + (1 : Int32)))] [(.int (p2 <<< ((1 : Int32) &&& 31))), (.ref p1)])) rfl rfl (hb hby d34_37) ?_
  show D (T1.setTop (mkF m 38 #[.val (.ref p1), .val (.int ((p2 <<< ((1 : Int32) &&& 31)) + (1 : Int32)))] [(.int (f (2 * kk)))]))
  refine A (XS.sipush X1.here hx rfl (hb hby d34_38)) ?_
  show D (T1.setTop (mkF m 41 #[.val (.ref p1), .val (.int ((p2 <<< ((1 : Int32) &&& 31)) + (1 : Int32)))] [(.int (255 : Int32)), (.int (f (2 * kk)))]))
  refine A (XS.iand X1.here hx rfl (hb hby d34_41) rfl) ?_
  show D (T1.setTop (mkF m 42 #[.val (.ref p1), .val (.int ((p2 <<< ((1 : Int32) &&& 31)) + (1 : Int32)))] [(.int ((f (2 * kk)) &&& (255 : Int32)))]))
  obtain ⟨T2, X2, e2, st2⟩ := getS X1 hx hZ hown (host := "") (hw _ (List.mem_of_getElem? (i := 194) rfl)) Via.refl e1 S_hi (g := (mkF m 42 #[.val (.ref p1), .val (.int ((p2 <<< ((1 : Int32) &&& 31)) + (1 : Int32)))] [(.int ((f (2 * kk)) &&& (255 : Int32)))])) rfl (hb hby d34_42)
  refine A (st2 _) ?_
  show D (T2.setTop (mkF m 45 #[.val (.ref p1), .val (.int ((p2 <<< ((1 : Int32) &&& 31)) + (1 : Int32)))] [(.int (0 : Int32)), (.int ((f (2 * kk)) &&& (255 : Int32)))]))
  refine A (XS.ishl X2.here hx rfl (hb hby d34_45) rfl) ?_
  show D (T2.setTop (mkF m 46 #[.val (.ref p1), .val (.int ((p2 <<< ((1 : Int32) &&& 31)) + (1 : Int32)))] [(.int (((f (2 * kk)) &&& (255 : Int32)) <<< ((0 : Int32) &&& 31)))]))
  refine A (XS.aloadN X2.here hx rfl (hb hby d34_46) rfl rfl) ?_
  show D (T2.setTop (mkF m 47 #[.val (.ref p1), .val (.int ((p2 <<< ((1 : Int32) &&& 31)) + (1 : Int32)))] [(.ref p1), (.int (((f (2 * kk)) &&& (255 : Int32)) <<< ((0 : Int32) &&& 31)))]))
  refine A (XS.iloadN X2.here hx rfl (hb hby d34_47) rfl) ?_
  show D (T2.setTop (mkF m 48 #[.val (.ref p1), .val (.int ((p2 <<< ((1 : Int32) &&& 31)) + (1 : Int32)))] [(.int ((p2 <<< ((1 : Int32) &&& 31)) + (1 : Int32))), (.ref p1), (.int (((f (2 * kk)) &&& (255 : Int32)) <<< ((0 : Int32) &&& 31)))]))
  refine Adv.ldB A X2 hx hZ e2 V_p1 (k := (2 * kk + 1)) (ixadd (own_sh hk hk2) (by decide) (by omega)) (by omega) (g := (mkF m 48 #[.val (.ref p1), .val (.int ((p2 <<< ((1 : Int32) &&& 31)) + (1 : Int32)))] [(.int ((p2 <<< ((1 : Int32) &&& 31)) + (1 : Int32))), (.ref p1), (.int (((f (2 * kk)) &&& (255 : Int32)) <<< ((0 : Int32) &&& 31)))])) rfl rfl (hb hby d34_48) ?_
  show D (T2.setTop (mkF m 49 #[.val (.ref p1), .val (.int ((p2 <<< ((1 : Int32) &&& 31)) + (1 : Int32)))] [(.int (f (2 * kk + 1))), (.int (((f (2 * kk)) &&& (255 : Int32)) <<< ((0 : Int32) &&& 31)))]))
  refine A (XS.sipush X2.here hx rfl (hb hby d34_49)) ?_
  show D (T2.setTop (mkF m 52 #[.val (.ref p1), .val (.int ((p2 <<< ((1 : Int32) &&& 31)) + (1 : Int32)))] [(.int (255 : Int32)), (.int (f (2 * kk + 1))), (.int (((f (2 * kk)) &&& (255 : Int32)) <<< ((0 : Int32) &&& 31)))]))
  refine A (XS.iand X2.here hx rfl (hb hby d34_52) rfl) ?_
  show D (T2.setTop (mkF m 53 #[.val (.ref p1), .val (.int ((p2 <<< ((1 : Int32) &&& 31)) + (1 : Int32)))] [(.int ((f (2 * kk + 1)) &&& (255 : Int32))), (.int (((f (2 * kk)) &&& (255 : Int32)) <<< ((0 : Int32) &&& 31)))]))
  obtain ⟨T3, X3, e3, st3⟩ := getS X2 hx hZ hown (host := "") (hw _ (List.mem_of_getElem? (i := 195) rfl)) Via.refl e2 S_lo (g := (mkF m 53 #[.val (.ref p1), .val (.int ((p2 <<< ((1 : Int32) &&& 31)) + (1 : Int32)))] [(.int ((f (2 * kk + 1)) &&& (255 : Int32))), (.int (((f (2 * kk)) &&& (255 : Int32)) <<< ((0 : Int32) &&& 31)))])) rfl (hb hby d34_53)
  refine A (st3 _) ?_
  show D (T3.setTop (mkF m 56 #[.val (.ref p1), .val (.int ((p2 <<< ((1 : Int32) &&& 31)) + (1 : Int32)))] [(.int (8 : Int32)), (.int ((f (2 * kk + 1)) &&& (255 : Int32))), (.int (((f (2 * kk)) &&& (255 : Int32)) <<< ((0 : Int32) &&& 31)))]))
  refine A (XS.ishl X3.here hx rfl (hb hby d34_56) rfl) ?_
  show D (T3.setTop (mkF m 57 #[.val (.ref p1), .val (.int ((p2 <<< ((1 : Int32) &&& 31)) + (1 : Int32)))] [(.int (((f (2 * kk + 1)) &&& (255 : Int32)) <<< ((8 : Int32) &&& 31))), (.int (((f (2 * kk)) &&& (255 : Int32)) <<< ((0 : Int32) &&& 31)))]))
  refine A (XS.ior X3.here hx rfl (hb hby d34_57) rfl) ?_
  show D (T3.setTop (mkF m 58 #[.val (.ref p1), .val (.int ((p2 <<< ((1 : Int32) &&& 31)) + (1 : Int32)))] [(.int ((((f (2 * kk)) &&& (255 : Int32)) <<< ((0 : Int32) &&& 31)) ||| (((f (2 * kk + 1)) &&& (255 : Int32)) <<< ((8 : Int32) &&& 31))))]))
  refine A (XS.i2c X3.here hx rfl (hb hby d34_58) rfl) ?_
  show D (T3.setTop (mkF m 59 #[.val (.ref p1), .val (.int ((p2 <<< ((1 : Int32) &&& 31)) + (1 : Int32)))] [(.int (((((f (2 * kk)) &&& (255 : Int32)) <<< ((0 : Int32) &&& 31)) ||| (((f (2 * kk + 1)) &&& (255 : Int32)) <<< ((8 : Int32) &&& 31))).toUInt32.toUInt16.toUInt32.toInt32))]))
  refine F _ (Jvm.JW.ret X3 hlk (v := some (.int (((((f (2 * kk)) &&& (255 : Int32)) <<< ((0 : Int32) &&& 31)) ||| (((f (2 * kk + 1)) &&& (255 : Int32)) <<< ((8 : Int32) &&& 31))).toUInt32.toUInt16.toUInt32.toInt32))) (fun h => by rw [hrt] at h; cases h) (fun fs hr => retOut X3 hx hrt (own_nc _) (Or.inl ⟨rfl, Or.inr (Or.inr (Or.inr (Or.inl rfl))), _, rfl⟩) (hb hby d34_59) hr) rfl ?_ (by decide) (by decide))
  exact ⟨rfl, (Fr.nil n0), e3⟩
def own_chr (x : Int32) : Prop := 0 ≤ x.toInt ∧ x.toInt ≤ 65535
theorem own_255 (x : Int32) (h : ¬ (255 : Int32) < x) : x.toInt ≤ 255 := by rw [Int32.lt_iff_toInt_lt, show (255 : Int32).toInt = 255 from rfl] at h; omega
theorem own_i2c_id {x : Int32} (h : own_chr x) : own_i2c x = x := by
  have a := c_i2c x
  unfold own_chr at h
  unfold own_i2c
  exact Int32.toInt_inj.mp (by omega)
theorem own_lat {x : Int32} (h : own_chr x) (h1 : ¬ (255 : Int32) < x) : own_ch (own_b x) = x := by
  have g := own_255 x h1
  unfold own_chr at h
  have a := c_i2b x
  have b := c_i2b x.toInt8.toInt32
  have m := c_mask (own_b x) 255 8 (by decide) (by decide)
  have e : (own_b x).toInt = (x.toInt8.toInt32).toInt8.toInt32.toInt := rfl
  have q : (own_b x &&& (255 : Int32)).toInt = x.toInt := by omega
  unfold own_ch
  rw [own_i2c_id ⟨by omega, by omega⟩]
  exact Int32.toInt_inj.mp q
theorem own_utf {x : Int32} (h : own_chr x) : own_u (own_b0 x) (own_b1 x) = x := by
  unfold own_chr at h
  have s0 := c_ishr x 0 0 (by decide)
  have s8 := c_ishr x 8 8 (by decide)
  have e0 : (own_b0 x).toInt = ((x >>> ((0 : Int32) &&& 31)).toInt8.toInt32).toInt8.toInt32.toInt := rfl
  have e1 : (own_b1 x).toInt = ((x >>> ((8 : Int32) &&& 31)).toInt8.toInt32).toInt8.toInt32.toInt := rfl
  have a0 := c_i2b (x >>> ((0 : Int32) &&& 31))
  have b0 := c_i2b (x >>> ((0 : Int32) &&& 31)).toInt8.toInt32
  have a1 := c_i2b (x >>> ((8 : Int32) &&& 31))
  have b1 := c_i2b (x >>> ((8 : Int32) &&& 31)).toInt8.toInt32
  have m0 := c_mask (own_b0 x) 255 8 (by decide) (by decide)
  have m1 := c_mask (own_b1 x) 255 8 (by decide) (by decide)
  have t0 := c_ishl (own_b0 x &&& 255) 0 0 (by decide)
  have r0 := rng32 ((own_b0 x &&& (255 : Int32)) <<< ((0 : Int32) &&& 31))
  have t1 := c_ishl (own_b1 x &&& 255) 8 8 (by decide)
  have r1 := rng32 ((own_b1 x &&& (255 : Int32)) <<< ((8 : Int32) &&& 31))
  have e28 : (2 ^ 8 : Nat) = 256 := rfl
  have u0 : ((own_b0 x &&& (255 : Int32)) <<< ((0 : Int32) &&& 31)).toInt = x.toInt % 256 := by omega
  have u1 : ((own_b1 x &&& (255 : Int32)) <<< ((8 : Int32) &&& 31)).toInt = x.toInt / 256 * 256 := by omega
  have w := c_or ((own_b1 x &&& (255 : Int32)) <<< ((8 : Int32) &&& 31)) ((own_b0 x &&& (255 : Int32)) <<< ((0 : Int32) &&& 31)) 8 (by decide) 256 (by decide) (by omega) (by omega) (by omega)
  have wc : (((own_b0 x &&& (255 : Int32)) <<< ((0 : Int32) &&& 31)) ||| ((own_b1 x &&& (255 : Int32)) <<< ((8 : Int32) &&& 31))) = (((own_b1 x &&& (255 : Int32)) <<< ((8 : Int32) &&& 31)) ||| ((own_b0 x &&& (255 : Int32)) <<< ((0 : Int32) &&& 31))) := Int32.or_comm ..
  have rw' := rng32 (((own_b1 x &&& (255 : Int32)) <<< ((8 : Int32) &&& 31)) ||| ((own_b0 x &&& (255 : Int32)) <<< ((0 : Int32) &&& 31)))
  have z : (((own_b1 x &&& (255 : Int32)) <<< ((8 : Int32) &&& 31)) ||| ((own_b0 x &&& (255 : Int32)) <<< ((0 : Int32) &&& 31))).toInt = x.toInt := by omega
  unfold own_u
  rw [wc, own_i2c_id ⟨by omega, by omega⟩]
  exact Int32.toInt_inj.mp z
/-- what the compression of x, y answers -/
def own_C (nb : Nat) (fb : Nat → Int32) (x y : Int32) : Prop := (nb = 2 ∧ own_ch (fb 0) = x ∧ own_ch (fb 1) = y) ∨ (nb = 4 ∧ own_u (fb 0) (fb 1) = x ∧ own_u (fb 2) (fb 3) = y)
theorem d5_0 : decode jdk_52_method_21_code 0 = .ok (.iconst 0, 1) := by decide +kernel
theorem d5_1 : decode jdk_52_method_21_code 1 = .ok (.istore 5, 2) := by decide +kernel
theorem d5_3 : decode jdk_52_method_21_code 3 = .ok (.iload 5, 2) := by decide +kernel
theorem d5_5 : decode jdk_52_method_21_code 5 = .ok (.iload 4, 2) := by decide +kernel
theorem d5_7 : decode jdk_52_method_21_code 7 = .ok (.if_icmp .ge 37, 3) := by decide +kernel
theorem d5_10 : decode jdk_52_method_21_code 10 = .ok (.aload_n 0, 1) := by decide +kernel
theorem d5_11 : decode jdk_52_method_21_code 11 = .ok (.iload_n 1, 1) := by decide +kernel
theorem d5_12 : decode jdk_52_method_21_code 12 = .ok (.caload, 1) := by decide +kernel
theorem d5_13 : decode jdk_52_method_21_code 13 = .ok (.istore 6, 2) := by decide +kernel
theorem d5_15 : decode jdk_52_method_21_code 15 = .ok (.iload 6, 2) := by decide +kernel
theorem d5_17 : decode jdk_52_method_21_code 17 = .ok (.sipush 255, 3) := by decide +kernel
theorem d5_20 : decode jdk_52_method_21_code 20 = .ok (.if_icmp .le 6, 3) := by decide +kernel
theorem d5_23 : decode jdk_52_method_21_code 23 = .ok (.iload 5, 2) := by decide +kernel
theorem d5_25 : decode jdk_52_method_21_code 25 = .ok (.ireturn, 1) := by decide +kernel
theorem d5_26 : decode jdk_52_method_21_code 26 = .ok (.aload_n 2, 1) := by decide +kernel
theorem d5_27 : decode jdk_52_method_21_code 27 = .ok (.iload_n 3, 1) := by decide +kernel
theorem d5_28 : decode jdk_52_method_21_code 28 = .ok (.iload 6, 2) := by decide +kernel
theorem d5_30 : decode jdk_52_method_21_code 30 = .ok (.i2b, 1) := by decide +kernel
theorem d5_31 : decode jdk_52_method_21_code 31 = .ok (.bastore, 1) := by decide +kernel
theorem d5_32 : decode jdk_52_method_21_code 32 = .ok (.iinc 1 1, 3) := by decide +kernel
theorem d5_35 : decode jdk_52_method_21_code 35 = .ok (.iinc 3 1, 3) := by decide +kernel
theorem d5_38 : decode jdk_52_method_21_code 38 = .ok (.iinc 5 1, 3) := by decide +kernel
theorem d5_41 : decode jdk_52_method_21_code 41 = .ok (.goto (-38), 3) := by decide +kernel
theorem d5_44 : decode jdk_52_method_21_code 44 = .ok (.iload 4, 2) := by decide +kernel
theorem d5_46 : decode jdk_52_method_21_code 46 = .ok (.ireturn, 1) := by decide +kernel
theorem pn5 : plainFor (⟨"java/lang/StringUTF16", "compress", "([CI[BII)I"⟩ : MethodName) = true := by decide +kernel
theorem ef5_0_0_2 (p1 : Addr) (p3 : Addr) (m : MethodId) : entryFrame m #[(.ref p1), (.int (0 : Int32)), (.ref p3), (.int (0 : Int32)), (.int (2 : Int32))] 7 = mkF m 0 #[.val (.ref p1), .val (.int (0 : Int32)), .val (.ref p3), .val (.int (0 : Int32)), .val (.int (2 : Int32)), .unset, .unset] [] := by first | (simp [entryFrame, mkF, argsToLocals, Value.category]; done) | rfl
set_option maxRecDepth 65536 in
set_option maxHeartbeats 40000000 in
theorem rm5 (l : Launch) (Z : State) (a0 : Array Value) (hw : ∀ d ∈ tables_1, d.before a0 Z = true) (ws : List Jvm.Cond) (p1 : Addr) (p3 : Addr) (h0 : Heap) (n0 : Nat) (f g : Nat → Int32) (Z0 : n0 ≤ h0.size) (g_p3 : n0 ≤ p3) (ne_p1_p3 : p1 ≠ p3) (V_p1 : ArI Z h0 p1 .char 2 f) (V_p3 : ArI Z h0 p3 .byte 2 g) :
    JMet l Z (⟨"java/lang/StringUTF16", "compress", "([CI[BII)I"⟩ : MethodName) jdk_52_method_21_code 7 (some .int) ws ({ frames := 0, cells := 0, slots := 0, locals := 0 } : Room) #[(.ref p1), (.int (0 : Int32)), (.ref p3), (.int (0 : Int32)), (.int (2 : Int32))] h0 (fun v h L => ∃ (r : Int32) (g' : Nat → Int32), v = some (.int r) ∧ Fr n0 L ∧ Keep h0 h [p3] ∧ ArI Z h p3 .byte 2 g' ∧ ((r = 0 ∧ (255 : Int32) < f 0) ∨ (r = 1 ∧ (255 : Int32) < f 1) ∨ (r = 2 ∧ ¬ (255 : Int32) < f 0 ∧ ¬ (255 : Int32) < f 1 ∧ g' 0 = own_b (f 0) ∧ g' 1 = own_b (f 1)))) := by
  refine Jvm.JW.body #[.val (.ref p1), .val (.int (0 : Int32)), .val (.ref p3), .val (.int (0 : Int32)), .val (.int (2 : Int32)), .unset, .unset] pn5 (ef5_0_0_2 p1 p3) ?_
  intro p e s m below meth c T0 D A F X0 hx hZ hby hml hown hnm hrt hlk e0
  refine A (XS.iconst X0.here hx rfl (hb hby d5_0)) ?_
  show D (T0.setTop (mkF m 1 #[.val (.ref p1), .val (.int (0 : Int32)), .val (.ref p3), .val (.int (0 : Int32)), .val (.int (2 : Int32)), .unset, .unset] [(.int (0 : Int32))]))
  refine A (XS.istore X0.here hx rfl (hb hby d5_1) rfl (l' := #[.val (.ref p1), .val (.int (0 : Int32)), .val (.ref p3), .val (.int (0 : Int32)), .val (.int (2 : Int32)), .val (.int (0 : Int32)), .unset]) rfl) ?_
  show D (T0.setTop (mkF m 3 #[.val (.ref p1), .val (.int (0 : Int32)), .val (.ref p3), .val (.int (0 : Int32)), .val (.int (2 : Int32)), .val (.int (0 : Int32)), .unset] []))
  refine A (XS.iload X0.here hx rfl (hb hby d5_3) rfl) ?_
  show D (T0.setTop (mkF m 5 #[.val (.ref p1), .val (.int (0 : Int32)), .val (.ref p3), .val (.int (0 : Int32)), .val (.int (2 : Int32)), .val (.int (0 : Int32)), .unset] [(.int (0 : Int32))]))
  refine A (XS.iload X0.here hx rfl (hb hby d5_5) rfl) ?_
  show D (T0.setTop (mkF m 7 #[.val (.ref p1), .val (.int (0 : Int32)), .val (.ref p3), .val (.int (0 : Int32)), .val (.int (2 : Int32)), .val (.int (0 : Int32)), .unset] [(.int (2 : Int32)), (.int (0 : Int32))]))
  refine A (XS.icmpNo X0.here hx rfl (hb hby d5_7) rfl (tlt (by decide : (0 : Int32) < (2 : Int32))).2.1) ?_
  show D (T0.setTop (mkF m 10 #[.val (.ref p1), .val (.int (0 : Int32)), .val (.ref p3), .val (.int (0 : Int32)), .val (.int (2 : Int32)), .val (.int (0 : Int32)), .unset] []))
  refine A (XS.aloadN X0.here hx rfl (hb hby d5_10) rfl rfl) ?_
  show D (T0.setTop (mkF m 11 #[.val (.ref p1), .val (.int (0 : Int32)), .val (.ref p3), .val (.int (0 : Int32)), .val (.int (2 : Int32)), .val (.int (0 : Int32)), .unset] [(.ref p1)]))
  refine A (XS.iloadN X0.here hx rfl (hb hby d5_11) rfl) ?_
  show D (T0.setTop (mkF m 12 #[.val (.ref p1), .val (.int (0 : Int32)), .val (.ref p3), .val (.int (0 : Int32)), .val (.int (2 : Int32)), .val (.int (0 : Int32)), .unset] [(.int (0 : Int32)), (.ref p1)]))
  refine Adv.ldC A X0 hx hZ e0 V_p1 (k := 0) (by decide) (by decide) (g := (mkF m 12 #[.val (.ref p1), .val (.int (0 : Int32)), .val (.ref p3), .val (.int (0 : Int32)), .val (.int (2 : Int32)), .val (.int (0 : Int32)), .unset] [(.int (0 : Int32)), (.ref p1)])) rfl rfl (hb hby d5_12) ?_
  show D (T0.setTop (mkF m 13 #[.val (.ref p1), .val (.int (0 : Int32)), .val (.ref p3), .val (.int (0 : Int32)), .val (.int (2 : Int32)), .val (.int (0 : Int32)), .unset] [(.int (f 0))]))
  refine A (XS.istore X0.here hx rfl (hb hby d5_13) rfl (l' := #[.val (.ref p1), .val (.int (0 : Int32)), .val (.ref p3), .val (.int (0 : Int32)), .val (.int (2 : Int32)), .val (.int (0 : Int32)), .val (.int (f 0))]) rfl) ?_
  show D (T0.setTop (mkF m 15 #[.val (.ref p1), .val (.int (0 : Int32)), .val (.ref p3), .val (.int (0 : Int32)), .val (.int (2 : Int32)), .val (.int (0 : Int32)), .val (.int (f 0))] []))
  refine A (XS.iload X0.here hx rfl (hb hby d5_15) rfl) ?_
  show D (T0.setTop (mkF m 17 #[.val (.ref p1), .val (.int (0 : Int32)), .val (.ref p3), .val (.int (0 : Int32)), .val (.int (2 : Int32)), .val (.int (0 : Int32)), .val (.int (f 0))] [(.int (f 0))]))
  refine A (XS.sipush X0.here hx rfl (hb hby d5_17)) ?_
  show D (T0.setTop (mkF m 20 #[.val (.ref p1), .val (.int (0 : Int32)), .val (.ref p3), .val (.int (0 : Int32)), .val (.int (2 : Int32)), .val (.int (0 : Int32)), .val (.int (f 0))] [(.int (255 : Int32)), (.int (f 0))]))
  by_cases c20_1 : (255 : Int32) < (f 0)
  · refine A (XS.icmpNo X0.here hx rfl (hb hby d5_20) rfl (tlt c20_1).2.2.2) ?_
    show D (T0.setTop (mkF m 23 #[.val (.ref p1), .val (.int (0 : Int32)), .val (.ref p3), .val (.int (0 : Int32)), .val (.int (2 : Int32)), .val (.int (0 : Int32)), .val (.int (f 0))] []))
    refine A (XS.iload X0.here hx rfl (hb hby d5_23) rfl) ?_
    show D (T0.setTop (mkF m 25 #[.val (.ref p1), .val (.int (0 : Int32)), .val (.ref p3), .val (.int (0 : Int32)), .val (.int (2 : Int32)), .val (.int (0 : Int32)), .val (.int (f 0))] [(.int (0 : Int32))]))
    refine F _ (Jvm.JW.ret X0 hlk (v := some (.int (0 : Int32))) (fun h => by rw [hrt] at h; cases h) (fun fs hr => retOut X0 hx hrt rfl (Or.inl ⟨rfl, Or.inl rfl, _, rfl⟩) (hb hby d5_25) hr) e0 ?_ (by decide) (by decide))
    exact ⟨_, _, rfl, (Fr.nil n0), (Keep.refl h0 [p3]), V_p3, Or.inl ⟨rfl, c20_1⟩⟩
  · refine A (XS.icmpYes X0.here hx rfl (pc0 := 20) (pc' := 26) rfl (hb hby d5_20) rfl (flt c20_1).2.2.2 (by decide) (by decide)) ?_
    show D (T0.setTop (mkF m 26 #[.val (.ref p1), .val (.int (0 : Int32)), .val (.ref p3), .val (.int (0 : Int32)), .val (.int (2 : Int32)), .val (.int (0 : Int32)), .val (.int (f 0))] []))
    refine A (XS.aloadN X0.here hx rfl (hb hby d5_26) rfl rfl) ?_
    show D (T0.setTop (mkF m 27 #[.val (.ref p1), .val (.int (0 : Int32)), .val (.ref p3), .val (.int (0 : Int32)), .val (.int (2 : Int32)), .val (.int (0 : Int32)), .val (.int (f 0))] [(.ref p3)]))
    refine A (XS.iloadN X0.here hx rfl (hb hby d5_27) rfl) ?_
    show D (T0.setTop (mkF m 28 #[.val (.ref p1), .val (.int (0 : Int32)), .val (.ref p3), .val (.int (0 : Int32)), .val (.int (2 : Int32)), .val (.int (0 : Int32)), .val (.int (f 0))] [(.int (0 : Int32)), (.ref p3)]))
    refine A (XS.iload X0.here hx rfl (hb hby d5_28) rfl) ?_
    show D (T0.setTop (mkF m 30 #[.val (.ref p1), .val (.int (0 : Int32)), .val (.ref p3), .val (.int (0 : Int32)), .val (.int (2 : Int32)), .val (.int (0 : Int32)), .val (.int (f 0))] [(.int (f 0)), (.int (0 : Int32)), (.ref p3)]))
    refine A (XS.i2b X0.here hx rfl (hb hby d5_30) rfl) ?_
    show D (T0.setTop (mkF m 31 #[.val (.ref p1), .val (.int (0 : Int32)), .val (.ref p3), .val (.int (0 : Int32)), .val (.int (2 : Int32)), .val (.int (0 : Int32)), .val (.int (f 0))] [(.int ((f 0).toInt8.toInt32)), (.int (0 : Int32)), (.ref p3)]))
    refine Adv.stB A X0 hx hZ e0 V_p3 (k := 0) (by decide) (by decide) (g := (mkF m 31 #[.val (.ref p1), .val (.int (0 : Int32)), .val (.ref p3), .val (.int (0 : Int32)), .val (.int (2 : Int32)), .val (.int (0 : Int32)), .val (.int (f 0))] [(.int ((f 0).toInt8.toInt32)), (.int (0 : Int32)), (.ref p3)])) rfl rfl (hb hby d5_31) ?_
    intro T2 h2 X2 e2 W2 Vp3_2
    have N2 := Fr.snoc X2 (Fr.nil n0) g_p3
    have V_p1_2 := V_p1.other W2 ne_p1_p3
    have Z_2 : n0 ≤ h2.size := Nat.le_trans Z0 (Nat.le_of_eq W2.size.symm)
    have KK_2 : Keep h0 h2 [p3] := (Keep.refl h0 [p3]).wr W2 (Or.inl (List.mem_of_getElem? (i := 0) rfl))
    show D (T2.setTop (mkF m 32 #[.val (.ref p1), .val (.int (0 : Int32)), .val (.ref p3), .val (.int (0 : Int32)), .val (.int (2 : Int32)), .val (.int (0 : Int32)), .val (.int (f 0))] []))
    refine A (XS.iinc X2.here hx rfl (hb hby d5_32) rfl (l' := #[.val (.ref p1), .val (.int ((0 : Int32) + (1 : Int32))), .val (.ref p3), .val (.int (0 : Int32)), .val (.int (2 : Int32)), .val (.int (0 : Int32)), .val (.int (f 0))]) rfl) ?_
    show D (T2.setTop (mkF m 35 #[.val (.ref p1), .val (.int ((0 : Int32) + (1 : Int32))), .val (.ref p3), .val (.int (0 : Int32)), .val (.int (2 : Int32)), .val (.int (0 : Int32)), .val (.int (f 0))] []))
    suffices Kq3 : ∀ q3 : Int32, q3 = (1 : Int32) → D (T2.setTop (mkF m 35 #[.val (.ref p1), .val (.int q3), .val (.ref p3), .val (.int (0 : Int32)), .val (.int (2 : Int32)), .val (.int (0 : Int32)), .val (.int (f 0))] [])) from Kq3 _ (by decide)
    rintro _ rfl
    show D (T2.setTop (mkF m 35 #[.val (.ref p1), .val (.int (1 : Int32)), .val (.ref p3), .val (.int (0 : Int32)), .val (.int (2 : Int32)), .val (.int (0 : Int32)), .val (.int (f 0))] []))
    refine A (XS.iinc X2.here hx rfl (hb hby d5_35) rfl (l' := #[.val (.ref p1), .val (.int (1 : Int32)), .val (.ref p3), .val (.int ((0 : Int32) + (1 : Int32))), .val (.int (2 : Int32)), .val (.int (0 : Int32)), .val (.int (f 0))]) rfl) ?_
    show D (T2.setTop (mkF m 38 #[.val (.ref p1), .val (.int (1 : Int32)), .val (.ref p3), .val (.int ((0 : Int32) + (1 : Int32))), .val (.int (2 : Int32)), .val (.int (0 : Int32)), .val (.int (f 0))] []))
    suffices Kq4 : ∀ q4 : Int32, q4 = (1 : Int32) → D (T2.setTop (mkF m 38 #[.val (.ref p1), .val (.int (1 : Int32)), .val (.ref p3), .val (.int q4), .val (.int (2 : Int32)), .val (.int (0 : Int32)), .val (.int (f 0))] [])) from Kq4 _ (by decide)
    rintro _ rfl
    show D (T2.setTop (mkF m 38 #[.val (.ref p1), .val (.int (1 : Int32)), .val (.ref p3), .val (.int (1 : Int32)), .val (.int (2 : Int32)), .val (.int (0 : Int32)), .val (.int (f 0))] []))
    refine A (XS.iinc X2.here hx rfl (hb hby d5_38) rfl (l' := #[.val (.ref p1), .val (.int (1 : Int32)), .val (.ref p3), .val (.int (1 : Int32)), .val (.int (2 : Int32)), .val (.int ((0 : Int32) + (1 : Int32))), .val (.int (f 0))]) rfl) ?_
    show D (T2.setTop (mkF m 41 #[.val (.ref p1), .val (.int (1 : Int32)), .val (.ref p3), .val (.int (1 : Int32)), .val (.int (2 : Int32)), .val (.int ((0 : Int32) + (1 : Int32))), .val (.int (f 0))] []))
    suffices Kq5 : ∀ q5 : Int32, q5 = (1 : Int32) → D (T2.setTop (mkF m 41 #[.val (.ref p1), .val (.int (1 : Int32)), .val (.ref p3), .val (.int (1 : Int32)), .val (.int (2 : Int32)), .val (.int q5), .val (.int (f 0))] [])) from Kq5 _ (by decide)
    rintro _ rfl
    show D (T2.setTop (mkF m 41 #[.val (.ref p1), .val (.int (1 : Int32)), .val (.ref p3), .val (.int (1 : Int32)), .val (.int (2 : Int32)), .val (.int (1 : Int32)), .val (.int (f 0))] []))
    refine A (XS.goto X2.here hx rfl (pc0 := 41) (pc' := 3) rfl (hb hby d5_41) (by decide) (by decide)) ?_
    show D (T2.setTop (mkF m 3 #[.val (.ref p1), .val (.int (1 : Int32)), .val (.ref p3), .val (.int (1 : Int32)), .val (.int (2 : Int32)), .val (.int (1 : Int32)), .val (.int (f 0))] []))
    refine A (XS.iload X2.here hx rfl (hb hby d5_3) rfl) ?_
    show D (T2.setTop (mkF m 5 #[.val (.ref p1), .val (.int (1 : Int32)), .val (.ref p3), .val (.int (1 : Int32)), .val (.int (2 : Int32)), .val (.int (1 : Int32)), .val (.int (f 0))] [(.int (1 : Int32))]))
    refine A (XS.iload X2.here hx rfl (hb hby d5_5) rfl) ?_
    show D (T2.setTop (mkF m 7 #[.val (.ref p1), .val (.int (1 : Int32)), .val (.ref p3), .val (.int (1 : Int32)), .val (.int (2 : Int32)), .val (.int (1 : Int32)), .val (.int (f 0))] [(.int (2 : Int32)), (.int (1 : Int32))]))
    refine A (XS.icmpNo X2.here hx rfl (hb hby d5_7) rfl (tlt (by decide : (1 : Int32) < (2 : Int32))).2.1) ?_
    show D (T2.setTop (mkF m 10 #[.val (.ref p1), .val (.int (1 : Int32)), .val (.ref p3), .val (.int (1 : Int32)), .val (.int (2 : Int32)), .val (.int (1 : Int32)), .val (.int (f 0))] []))
    refine A (XS.aloadN X2.here hx rfl (hb hby d5_10) rfl rfl) ?_
    show D (T2.setTop (mkF m 11 #[.val (.ref p1), .val (.int (1 : Int32)), .val (.ref p3), .val (.int (1 : Int32)), .val (.int (2 : Int32)), .val (.int (1 : Int32)), .val (.int (f 0))] [(.ref p1)]))
    refine A (XS.iloadN X2.here hx rfl (hb hby d5_11) rfl) ?_
    show D (T2.setTop (mkF m 12 #[.val (.ref p1), .val (.int (1 : Int32)), .val (.ref p3), .val (.int (1 : Int32)), .val (.int (2 : Int32)), .val (.int (1 : Int32)), .val (.int (f 0))] [(.int (1 : Int32)), (.ref p1)]))
    refine Adv.ldC A X2 hx hZ e2 V_p1_2 (k := 1) (by decide) (by decide) (g := (mkF m 12 #[.val (.ref p1), .val (.int (1 : Int32)), .val (.ref p3), .val (.int (1 : Int32)), .val (.int (2 : Int32)), .val (.int (1 : Int32)), .val (.int (f 0))] [(.int (1 : Int32)), (.ref p1)])) rfl rfl (hb hby d5_12) ?_
    show D (T2.setTop (mkF m 13 #[.val (.ref p1), .val (.int (1 : Int32)), .val (.ref p3), .val (.int (1 : Int32)), .val (.int (2 : Int32)), .val (.int (1 : Int32)), .val (.int (f 0))] [(.int (f 1))]))
    refine A (XS.istore X2.here hx rfl (hb hby d5_13) rfl (l' := #[.val (.ref p1), .val (.int (1 : Int32)), .val (.ref p3), .val (.int (1 : Int32)), .val (.int (2 : Int32)), .val (.int (1 : Int32)), .val (.int (f 1))]) rfl) ?_
    show D (T2.setTop (mkF m 15 #[.val (.ref p1), .val (.int (1 : Int32)), .val (.ref p3), .val (.int (1 : Int32)), .val (.int (2 : Int32)), .val (.int (1 : Int32)), .val (.int (f 1))] []))
    refine A (XS.iload X2.here hx rfl (hb hby d5_15) rfl) ?_
    show D (T2.setTop (mkF m 17 #[.val (.ref p1), .val (.int (1 : Int32)), .val (.ref p3), .val (.int (1 : Int32)), .val (.int (2 : Int32)), .val (.int (1 : Int32)), .val (.int (f 1))] [(.int (f 1))]))
    refine A (XS.sipush X2.here hx rfl (hb hby d5_17)) ?_
    show D (T2.setTop (mkF m 20 #[.val (.ref p1), .val (.int (1 : Int32)), .val (.ref p3), .val (.int (1 : Int32)), .val (.int (2 : Int32)), .val (.int (1 : Int32)), .val (.int (f 1))] [(.int (255 : Int32)), (.int (f 1))]))
    by_cases c20_6 : (255 : Int32) < (f 1)
    · refine A (XS.icmpNo X2.here hx rfl (hb hby d5_20) rfl (tlt c20_6).2.2.2) ?_
      show D (T2.setTop (mkF m 23 #[.val (.ref p1), .val (.int (1 : Int32)), .val (.ref p3), .val (.int (1 : Int32)), .val (.int (2 : Int32)), .val (.int (1 : Int32)), .val (.int (f 1))] []))
      refine A (XS.iload X2.here hx rfl (hb hby d5_23) rfl) ?_
      show D (T2.setTop (mkF m 25 #[.val (.ref p1), .val (.int (1 : Int32)), .val (.ref p3), .val (.int (1 : Int32)), .val (.int (2 : Int32)), .val (.int (1 : Int32)), .val (.int (f 1))] [(.int (1 : Int32))]))
      refine F _ (Jvm.JW.ret X2 hlk (v := some (.int (1 : Int32))) (fun h => by rw [hrt] at h; cases h) (fun fs hr => retOut X2 hx hrt rfl (Or.inl ⟨rfl, Or.inl rfl, _, rfl⟩) (hb hby d5_25) hr) e2 ?_ (by decide) (by decide))
      exact ⟨_, _, rfl, N2, KK_2, Vp3_2, Or.inr (Or.inl ⟨rfl, c20_6⟩)⟩
    · refine A (XS.icmpYes X2.here hx rfl (pc0 := 20) (pc' := 26) rfl (hb hby d5_20) rfl (flt c20_6).2.2.2 (by decide) (by decide)) ?_
      show D (T2.setTop (mkF m 26 #[.val (.ref p1), .val (.int (1 : Int32)), .val (.ref p3), .val (.int (1 : Int32)), .val (.int (2 : Int32)), .val (.int (1 : Int32)), .val (.int (f 1))] []))
      refine A (XS.aloadN X2.here hx rfl (hb hby d5_26) rfl rfl) ?_
      show D (T2.setTop (mkF m 27 #[.val (.ref p1), .val (.int (1 : Int32)), .val (.ref p3), .val (.int (1 : Int32)), .val (.int (2 : Int32)), .val (.int (1 : Int32)), .val (.int (f 1))] [(.ref p3)]))
      refine A (XS.iloadN X2.here hx rfl (hb hby d5_27) rfl) ?_
      show D (T2.setTop (mkF m 28 #[.val (.ref p1), .val (.int (1 : Int32)), .val (.ref p3), .val (.int (1 : Int32)), .val (.int (2 : Int32)), .val (.int (1 : Int32)), .val (.int (f 1))] [(.int (1 : Int32)), (.ref p3)]))
      refine A (XS.iload X2.here hx rfl (hb hby d5_28) rfl) ?_
      show D (T2.setTop (mkF m 30 #[.val (.ref p1), .val (.int (1 : Int32)), .val (.ref p3), .val (.int (1 : Int32)), .val (.int (2 : Int32)), .val (.int (1 : Int32)), .val (.int (f 1))] [(.int (f 1)), (.int (1 : Int32)), (.ref p3)]))
      refine A (XS.i2b X2.here hx rfl (hb hby d5_30) rfl) ?_
      show D (T2.setTop (mkF m 31 #[.val (.ref p1), .val (.int (1 : Int32)), .val (.ref p3), .val (.int (1 : Int32)), .val (.int (2 : Int32)), .val (.int (1 : Int32)), .val (.int (f 1))] [(.int ((f 1).toInt8.toInt32)), (.int (1 : Int32)), (.ref p3)]))
      refine Adv.stB A X2 hx hZ e2 Vp3_2 (k := 1) (by decide) (by decide) (g := (mkF m 31 #[.val (.ref p1), .val (.int (1 : Int32)), .val (.ref p3), .val (.int (1 : Int32)), .val (.int (2 : Int32)), .val (.int (1 : Int32)), .val (.int (f 1))] [(.int ((f 1).toInt8.toInt32)), (.int (1 : Int32)), (.ref p3)])) rfl rfl (hb hby d5_31) ?_
      intro T7 h7 X7 e7 W7 Vp3_7
      have N7 := Fr.snoc X7 N2 g_p3
      have V_p1_7 := V_p1_2.other W7 ne_p1_p3
      have Z_7 : n0 ≤ h7.size := Nat.le_trans Z_2 (Nat.le_of_eq W7.size.symm)
      have KK_7 : Keep h0 h7 [p3] := KK_2.wr W7 (Or.inl (List.mem_of_getElem? (i := 0) rfl))
      show D (T7.setTop (mkF m 32 #[.val (.ref p1), .val (.int (1 : Int32)), .val (.ref p3), .val (.int (1 : Int32)), .val (.int (2 : Int32)), .val (.int (1 : Int32)), .val (.int (f 1))] []))
      refine A (XS.iinc X7.here hx rfl (hb hby d5_32) rfl (l' := #[.val (.ref p1), .val (.int ((1 : Int32) + (1 : Int32))), .val (.ref p3), .val (.int (1 : Int32)), .val (.int (2 : Int32)), .val (.int (1 : Int32)), .val (.int (f 1))]) rfl) ?_
      show D (T7.setTop (mkF m 35 #[.val (.ref p1), .val (.int ((1 : Int32) + (1 : Int32))), .val (.ref p3), .val (.int (1 : Int32)), .val (.int (2 : Int32)), .val (.int (1 : Int32)), .val (.int (f 1))] []))
      suffices Kq8 : ∀ q8 : Int32, q8 = (2 : Int32) → D (T7.setTop (mkF m 35 #[.val (.ref p1), .val (.int q8), .val (.ref p3), .val (.int (1 : Int32)), .val (.int (2 : Int32)), .val (.int (1 : Int32)), .val (.int (f 1))] [])) from Kq8 _ (by decide)
      rintro _ rfl
      show D (T7.setTop (mkF m 35 #[.val (.ref p1), .val (.int (2 : Int32)), .val (.ref p3), .val (.int (1 : Int32)), .val (.int (2 : Int32)), .val (.int (1 : Int32)), .val (.int (f 1))] []))
      refine A (XS.iinc X7.here hx rfl (hb hby d5_35) rfl (l' := #[.val (.ref p1), .val (.int (2 : Int32)), .val (.ref p3), .val (.int ((1 : Int32) + (1 : Int32))), .val (.int (2 : Int32)), .val (.int (1 : Int32)), .val (.int (f 1))]) rfl) ?_
      show D (T7.setTop (mkF m 38 #[.val (.ref p1), .val (.int (2 : Int32)), .val (.ref p3), .val (.int ((1 : Int32) + (1 : Int32))), .val (.int (2 : Int32)), .val (.int (1 : Int32)), .val (.int (f 1))] []))
      suffices Kq9 : ∀ q9 : Int32, q9 = (2 : Int32) → D (T7.setTop (mkF m 38 #[.val (.ref p1), .val (.int (2 : Int32)), .val (.ref p3), .val (.int q9), .val (.int (2 : Int32)), .val (.int (1 : Int32)), .val (.int (f 1))] [])) from Kq9 _ (by decide)
      rintro _ rfl
      show D (T7.setTop (mkF m 38 #[.val (.ref p1), .val (.int (2 : Int32)), .val (.ref p3), .val (.int (2 : Int32)), .val (.int (2 : Int32)), .val (.int (1 : Int32)), .val (.int (f 1))] []))
      refine A (XS.iinc X7.here hx rfl (hb hby d5_38) rfl (l' := #[.val (.ref p1), .val (.int (2 : Int32)), .val (.ref p3), .val (.int (2 : Int32)), .val (.int (2 : Int32)), .val (.int ((1 : Int32) + (1 : Int32))), .val (.int (f 1))]) rfl) ?_
      show D (T7.setTop (mkF m 41 #[.val (.ref p1), .val (.int (2 : Int32)), .val (.ref p3), .val (.int (2 : Int32)), .val (.int (2 : Int32)), .val (.int ((1 : Int32) + (1 : Int32))), .val (.int (f 1))] []))
      suffices Kq10 : ∀ q10 : Int32, q10 = (2 : Int32) → D (T7.setTop (mkF m 41 #[.val (.ref p1), .val (.int (2 : Int32)), .val (.ref p3), .val (.int (2 : Int32)), .val (.int (2 : Int32)), .val (.int q10), .val (.int (f 1))] [])) from Kq10 _ (by decide)
      rintro _ rfl
      show D (T7.setTop (mkF m 41 #[.val (.ref p1), .val (.int (2 : Int32)), .val (.ref p3), .val (.int (2 : Int32)), .val (.int (2 : Int32)), .val (.int (2 : Int32)), .val (.int (f 1))] []))
      refine A (XS.goto X7.here hx rfl (pc0 := 41) (pc' := 3) rfl (hb hby d5_41) (by decide) (by decide)) ?_
      show D (T7.setTop (mkF m 3 #[.val (.ref p1), .val (.int (2 : Int32)), .val (.ref p3), .val (.int (2 : Int32)), .val (.int (2 : Int32)), .val (.int (2 : Int32)), .val (.int (f 1))] []))
      refine A (XS.iload X7.here hx rfl (hb hby d5_3) rfl) ?_
      show D (T7.setTop (mkF m 5 #[.val (.ref p1), .val (.int (2 : Int32)), .val (.ref p3), .val (.int (2 : Int32)), .val (.int (2 : Int32)), .val (.int (2 : Int32)), .val (.int (f 1))] [(.int (2 : Int32))]))
      refine A (XS.iload X7.here hx rfl (hb hby d5_5) rfl) ?_
      show D (T7.setTop (mkF m 7 #[.val (.ref p1), .val (.int (2 : Int32)), .val (.ref p3), .val (.int (2 : Int32)), .val (.int (2 : Int32)), .val (.int (2 : Int32)), .val (.int (f 1))] [(.int (2 : Int32)), (.int (2 : Int32))]))
      refine A (XS.icmpYes X7.here hx rfl (pc0 := 7) (pc' := 44) rfl (hb hby d5_7) rfl (flt (by decide : ¬ ((2 : Int32) < (2 : Int32)))).2.1 (by decide) (by decide)) ?_
      show D (T7.setTop (mkF m 44 #[.val (.ref p1), .val (.int (2 : Int32)), .val (.ref p3), .val (.int (2 : Int32)), .val (.int (2 : Int32)), .val (.int (2 : Int32)), .val (.int (f 1))] []))
      refine A (XS.iload X7.here hx rfl (hb hby d5_44) rfl) ?_
      show D (T7.setTop (mkF m 46 #[.val (.ref p1), .val (.int (2 : Int32)), .val (.ref p3), .val (.int (2 : Int32)), .val (.int (2 : Int32)), .val (.int (2 : Int32)), .val (.int (f 1))] [(.int (2 : Int32))]))
      refine F _ (Jvm.JW.ret X7 hlk (v := some (.int (2 : Int32))) (fun h => by rw [hrt] at h; cases h) (fun fs hr => retOut X7 hx hrt rfl (Or.inl ⟨rfl, Or.inl rfl, _, rfl⟩) (hb hby d5_46) hr) e7 ?_ (by decide) (by decide))
      exact ⟨_, _, rfl, N7, KK_7, Vp3_7, Or.inr (Or.inr ⟨rfl, c20_1, c20_6, by simp [own_b], by simp [own_b]⟩)⟩
theorem d4_0 : decode jdk_52_method_16_code 0 = .ok (.iload_n 2, 1) := by decide +kernel
theorem d4_1 : decode jdk_52_method_16_code 1 = .ok (.newarray .byte, 2) := by decide +kernel
theorem d4_3 : decode jdk_52_method_16_code 3 = .ok (.astore_n 3, 1) := by decide +kernel
theorem d4_4 : decode jdk_52_method_16_code 4 = .ok (.aload_n 0, 1) := by decide +kernel
theorem d4_5 : decode jdk_52_method_16_code 5 = .ok (.iload_n 1, 1) := by decide +kernel
theorem d4_6 : decode jdk_52_method_16_code 6 = .ok (.aload_n 3, 1) := by decide +kernel
theorem d4_7 : decode jdk_52_method_16_code 7 = .ok (.iconst 0, 1) := by decide +kernel
theorem d4_8 : decode jdk_52_method_16_code 8 = .ok (.iload_n 2, 1) := by decide +kernel
theorem d4_9 : decode jdk_52_method_16_code 9 = .ok (.invokestatic 115, 3) := by decide +kernel
theorem d4_12 : decode jdk_52_method_16_code 12 = .ok (.istore 4, 2) := by decide +kernel
theorem d4_14 : decode jdk_52_method_16_code 14 = .ok (.iload 4, 2) := by decide +kernel
theorem d4_16 : decode jdk_52_method_16_code 16 = .ok (.iload_n 2, 1) := by decide +kernel
theorem d4_17 : decode jdk_52_method_16_code 17 = .ok (.if_icmp .eq 40, 3) := by decide +kernel
theorem d4_20 : decode jdk_52_method_16_code 20 = .ok (.aload_n 0, 1) := by decide +kernel
theorem d4_21 : decode jdk_52_method_16_code 21 = .ok (.iload_n 1, 1) := by decide +kernel
theorem d4_22 : decode jdk_52_method_16_code 22 = .ok (.iload_n 2, 1) := by decide +kernel
theorem d4_23 : decode jdk_52_method_16_code 23 = .ok (.invokestatic 119, 3) := by decide +kernel
theorem d4_26 : decode jdk_52_method_16_code 26 = .ok (.astore 5, 2) := by decide +kernel
theorem d4_28 : decode jdk_52_method_16_code 28 = .ok (.aload 5, 2) := by decide +kernel
theorem d4_30 : decode jdk_52_method_16_code 30 = .ok (.iload 4, 2) := by decide +kernel
theorem d4_32 : decode jdk_52_method_16_code 32 = .ok (.invokestatic 71, 3) := by decide +kernel
theorem d4_35 : decode jdk_52_method_16_code 35 = .ok (.sipush 255, 3) := by decide +kernel
theorem d4_38 : decode jdk_52_method_16_code 38 = .ok (.if_icmp .gt 16, 3) := by decide +kernel
theorem d4_54 : decode jdk_52_method_16_code 54 = .ok (.aload 5, 2) := by decide +kernel
theorem d4_56 : decode jdk_52_method_16_code 56 = .ok (.areturn, 1) := by decide +kernel
theorem d4_57 : decode jdk_52_method_16_code 57 = .ok (.aload_n 3, 1) := by decide +kernel
theorem d4_58 : decode jdk_52_method_16_code 58 = .ok (.areturn, 1) := by decide +kernel
theorem pn4 : plainFor (⟨"java/lang/StringUTF16", "compress", "([CII)[B"⟩ : MethodName) = true := by decide +kernel
theorem pd4_0 : parseMethodDescriptor "([CI[BII)I" = some ⟨[(.array .char), .int, (.array .byte), .int, .int], some .int⟩ := by decide +kernel
theorem pd4_1 : parseMethodDescriptor "([CII)[B" = some ⟨[(.array .char), .int, .int], some (.array .byte)⟩ := by decide +kernel
theorem pd4_2 : parseMethodDescriptor "([BI)C" = some ⟨[(.array .byte), .int], some .char⟩ := by decide +kernel
theorem ef4_0_2 (p1 : Addr) (m : MethodId) : entryFrame m #[(.ref p1), (.int (0 : Int32)), (.int (2 : Int32))] 6 = mkF m 0 #[.val (.ref p1), .val (.int (0 : Int32)), .val (.int (2 : Int32)), .unset, .unset, .unset] [] := by first | (simp [entryFrame, mkF, argsToLocals, Value.category]; done) | rfl
set_option maxRecDepth 65536 in
set_option maxHeartbeats 40000000 in
theorem rm4 (l : Launch) (Z : State) (a0 : Array Value) (hw : ∀ d ∈ tables_1, d.before a0 Z = true) (ws : List Jvm.Cond) (p1 : Addr) (h0 : Heap) (n0 : Nat) (f : Nat → Int32) (hch : ∀ k, k < 2 → own_chr (f k)) (Z0 : n0 ≤ h0.size) (V_p1 : ArI Z h0 p1 .char 2 f) (S_ad : Sta Z h0 "java/lang/StringUTF16" "$assertionsDisabled" "Z" (.int (1 : Int32))) (S_hi : Sta Z h0 "java/lang/StringUTF16" "HI_BYTE_SHIFT" "I" (.int (0 : Int32))) (S_lo : Sta Z h0 "java/lang/StringUTF16" "LO_BYTE_SHIFT" "I" (.int (8 : Int32))) :
    JMet l Z (⟨"java/lang/StringUTF16", "compress", "([CII)[B"⟩ : MethodName) jdk_52_method_16_code 6 (some (.array .byte)) ws ({ frames := 3, cells := 2, slots := 6, locals := 40 } : Room) #[(.ref p1), (.int (0 : Int32)), (.int (2 : Int32))] h0 (fun v h L => ∃ (b : Addr) (nb : Nat) (fb : Nat → Int32), v = some (.ref b) ∧ Fr n0 L ∧ Keep h0 h [] ∧ ArI Z h b .byte nb fb ∧ h0.size ≤ b ∧ own_C nb fb (f 0) (f 1)) := by
  refine Jvm.JW.body #[.val (.ref p1), .val (.int (0 : Int32)), .val (.int (2 : Int32)), .unset, .unset, .unset] pn4 (ef4_0_2 p1) ?_
  intro p e s m below meth c T0 D A F X0 hx hZ hby hml hown hnm hrt hlk e0
  refine A (XS.iloadN X0.here hx rfl (hb hby d4_0) rfl) ?_
  show D (T0.setTop (mkF m 1 #[.val (.ref p1), .val (.int (0 : Int32)), .val (.int (2 : Int32)), .unset, .unset, .unset] [(.int (2 : Int32))]))
  refine Adv.newI A X0 hx hZ (aty := .byte) (hw _ (List.mem_of_getElem? (i := 20) rfl)) e0 (n := 2) (by decide) 2 (by decide) (by decide) rfl (ad := "[B") (by decide) (by decide) (by decide) (g := (mkF m 1 #[.val (.ref p1), .val (.int (0 : Int32)), .val (.int (2 : Int32)), .unset, .unset, .unset] [(.int (2 : Int32))])) rfl rfl (hb hby d4_1) ?_
  intro T1 h1 b1 q_b1 X1 e1 E1 V_b1 EA_b1
  have ne_p1_b1 : p1 ≠ b1 := Nat.ne_of_lt (Nat.lt_of_lt_of_le V_p1.lt (Nat.le_of_eq q_b1.symm))
  have g_b1 : n0 ≤ b1 := Nat.le_trans Z0 (Nat.le_of_eq q_b1.symm)
  have sz_b1 : h0.size ≤ b1 := Nat.le_trans (Keep.refl h0 []).1 (Nat.le_of_eq q_b1.symm)
  have V_p1_1 := V_p1.ext E1
  have S_ad_1 := Sta.ext E1 S_ad
  have S_hi_1 := Sta.ext E1 S_hi
  have S_lo_1 := Sta.ext E1 S_lo
  have Z_1 : n0 ≤ h1.size := Nat.le_trans Z0 E1.1
  have KK_1 : Keep h0 h1 [] := (Keep.refl h0 []).ext E1
  show D (T1.setTop (mkF m 3 #[.val (.ref p1), .val (.int (0 : Int32)), .val (.int (2 : Int32)), .unset, .unset, .unset] [(.ref b1)]))
  refine A (XS.astoreN X1.here hx rfl (hb hby d4_3) rfl rfl (l' := #[.val (.ref p1), .val (.int (0 : Int32)), .val (.int (2 : Int32)), .val (.ref b1), .unset, .unset]) rfl) ?_
  show D (T1.setTop (mkF m 4 #[.val (.ref p1), .val (.int (0 : Int32)), .val (.int (2 : Int32)), .val (.ref b1), .unset, .unset] []))
  refine A (XS.aloadN X1.here hx rfl (hb hby d4_4) rfl rfl) ?_
  show D (T1.setTop (mkF m 5 #[.val (.ref p1), .val (.int (0 : Int32)), .val (.int (2 : Int32)), .val (.ref b1), .unset, .unset] [(.ref p1)]))
  refine A (XS.iloadN X1.here hx rfl (hb hby d4_5) rfl) ?_
  show D (T1.setTop (mkF m 6 #[.val (.ref p1), .val (.int (0 : Int32)), .val (.int (2 : Int32)), .val (.ref b1), .unset, .unset] [(.int (0 : Int32)), (.ref p1)]))
  refine A (XS.aloadN X1.here hx rfl (hb hby d4_6) rfl rfl) ?_
  show D (T1.setTop (mkF m 7 #[.val (.ref p1), .val (.int (0 : Int32)), .val (.int (2 : Int32)), .val (.ref b1), .unset, .unset] [(.ref b1), (.int (0 : Int32)), (.ref p1)]))
  refine A (XS.iconst X1.here hx rfl (hb hby d4_7)) ?_
  show D (T1.setTop (mkF m 8 #[.val (.ref p1), .val (.int (0 : Int32)), .val (.int (2 : Int32)), .val (.ref b1), .unset, .unset] [(.int (0 : Int32)), (.ref b1), (.int (0 : Int32)), (.ref p1)]))
  refine A (XS.iloadN X1.here hx rfl (hb hby d4_8) rfl) ?_
  show D (T1.setTop (mkF m 9 #[.val (.ref p1), .val (.int (0 : Int32)), .val (.int (2 : Int32)), .val (.ref b1), .unset, .unset] [(.int (2 : Int32)), (.int (0 : Int32)), (.ref b1), (.int (0 : Int32)), (.ref p1)]))
  refine Adv.callS A X1 hx hZ hown (hw _ (List.mem_of_getElem? (i := 21) rfl)) (hw _ (List.mem_of_getElem? (i := 22) rfl)) (hw _ (List.mem_of_getElem? (i := 18) rfl)) (hw _ (List.mem_of_getElem? (i := 23) rfl)) e1 (rm5 l Z a0 hw [] p1 b1 h1 n0 f (fun _ => 0) Z_1 g_b1 ne_p1_b1 V_p1_1 V_b1) 0 (g := (mkF m 9 #[.val (.ref p1), .val (.int (0 : Int32)), .val (.int (2 : Int32)), .val (.ref b1), .unset, .unset] [(.int (2 : Int32)), (.int (0 : Int32)), (.ref b1), (.int (0 : Int32)), (.ref p1)])) rfl (by rw [hml]; rfl) [(.ref p1), (.int (0 : Int32)), (.ref b1), (.int (0 : Int32)), (.int (2 : Int32))] [] rfl (lenOf pd4_0 rfl) rfl (by show 2 * 0 + _ ≤ _; exact Nat.le_of_eq rfl) (hb hby d4_9) (by decide) (by decide) (by decide) (by decide) (by decide) ?_
  rintro T2 L2 _ X2 ⟨rc, gc, rfl, N2_q, K2, V2_q, hrc⟩
  have N2 := Fr.app (Fr.nil n0) N2_q
  have V_p1_2 := V_p1_1.keep K2 (ninS ne_p1_b1 nin0)
  have S_ad_2 := own_stk S_ad_1 K2 (own_nsc (own_nsI V_b1) own_nsn)
  have S_hi_2 := own_stk S_hi_1 K2 (own_nsc (own_nsI V_b1) own_nsn)
  have S_lo_2 := own_stk S_lo_1 K2 (own_nsc (own_nsI V_b1) own_nsn)
  have Z_2 : n0 ≤ T2.heap.size := Nat.le_trans Z_1 K2.1
  have KK_2 : Keep h0 T2.heap [] := KK_1.trans K2 (allS (Or.inr sz_b1) all0)
  show D (T2.setTop (mkF m 12 #[.val (.ref p1), .val (.int (0 : Int32)), .val (.int (2 : Int32)), .val (.ref b1), .unset, .unset] [(.int rc)]))
  rcases hrc with ⟨rfl, hgt⟩ | ⟨rfl, hgt⟩ | ⟨rfl, hl0, hl1, hg0, hg1⟩
  · show D (T2.setTop (mkF m 12 #[.val (.ref p1), .val (.int (0 : Int32)), .val (.int (2 : Int32)), .val (.ref b1), .unset, .unset] [(.int (0 : Int32))]))
    refine A (XS.istore X2.here hx rfl (hb hby d4_12) rfl (l' := #[.val (.ref p1), .val (.int (0 : Int32)), .val (.int (2 : Int32)), .val (.ref b1), .val (.int (0 : Int32)), .unset]) rfl) ?_
    show D (T2.setTop (mkF m 14 #[.val (.ref p1), .val (.int (0 : Int32)), .val (.int (2 : Int32)), .val (.ref b1), .val (.int (0 : Int32)), .unset] []))
    refine A (XS.iload X2.here hx rfl (hb hby d4_14) rfl) ?_
    show D (T2.setTop (mkF m 16 #[.val (.ref p1), .val (.int (0 : Int32)), .val (.int (2 : Int32)), .val (.ref b1), .val (.int (0 : Int32)), .unset] [(.int (0 : Int32))]))
    refine A (XS.iloadN X2.here hx rfl (hb hby d4_16) rfl) ?_
    show D (T2.setTop (mkF m 17 #[.val (.ref p1), .val (.int (0 : Int32)), .val (.int (2 : Int32)), .val (.ref b1), .val (.int (0 : Int32)), .unset] [(.int (2 : Int32)), (.int (0 : Int32))]))
    refine A (XS.icmpNo X2.here hx rfl (hb hby d4_17) rfl (feq (by decide : ¬ ((0 : Int32) = (2 : Int32)))).1) ?_
    show D (T2.setTop (mkF m 20 #[.val (.ref p1), .val (.int (0 : Int32)), .val (.int (2 : Int32)), .val (.ref b1), .val (.int (0 : Int32)), .unset] []))
    refine A (XS.aloadN X2.here hx rfl (hb hby d4_20) rfl rfl) ?_
    show D (T2.setTop (mkF m 21 #[.val (.ref p1), .val (.int (0 : Int32)), .val (.int (2 : Int32)), .val (.ref b1), .val (.int (0 : Int32)), .unset] [(.ref p1)]))
    refine A (XS.iloadN X2.here hx rfl (hb hby d4_21) rfl) ?_
    show D (T2.setTop (mkF m 22 #[.val (.ref p1), .val (.int (0 : Int32)), .val (.int (2 : Int32)), .val (.ref b1), .val (.int (0 : Int32)), .unset] [(.int (0 : Int32)), (.ref p1)]))
    refine A (XS.iloadN X2.here hx rfl (hb hby d4_22) rfl) ?_
    show D (T2.setTop (mkF m 23 #[.val (.ref p1), .val (.int (0 : Int32)), .val (.int (2 : Int32)), .val (.ref b1), .val (.int (0 : Int32)), .unset] [(.int (2 : Int32)), (.int (0 : Int32)), (.ref p1)]))
    refine Adv.callS A X2 hx hZ hown (hw _ (List.mem_of_getElem? (i := 180) rfl)) (hw _ (List.mem_of_getElem? (i := 181) rfl)) (hw _ (List.mem_of_getElem? (i := 18) rfl)) (hw _ (List.mem_of_getElem? (i := 182) rfl)) rfl (rm30 l Z a0 hw [] p1 T2.heap n0 f Z_2 V_p1_2 S_ad_2 S_hi_2 S_lo_2) 0 (g := (mkF m 23 #[.val (.ref p1), .val (.int (0 : Int32)), .val (.int (2 : Int32)), .val (.ref b1), .val (.int (0 : Int32)), .unset] [(.int (2 : Int32)), (.int (0 : Int32)), (.ref p1)])) rfl (by rw [hml]; rfl) [(.ref p1), (.int (0 : Int32)), (.int (2 : Int32))] [] rfl (lenOf pd4_1 rfl) rfl (by show 2 * 0 + _ ≤ _; exact Nat.le_of_eq rfl) (hb hby d4_23) (by decide) (by decide) (by decide) (by decide) (by decide) ?_
    rintro T3 L3 _ X3 ⟨b3, fb3, rfl, N3_q, K3, V3_q, szq_b3, hu3_0, hu3_1, hu3_2, hu3_3⟩
    have N3 := Fr.app N2 N3_q
    have ne_p1_b3 : p1 ≠ b3 := Nat.ne_of_lt (Nat.lt_of_lt_of_le V_p1_2.lt szq_b3)
    have ne_b1_b3 : b1 ≠ b3 := Nat.ne_of_lt (Nat.lt_of_lt_of_le V2_q.lt szq_b3)
    have g_b3 : n0 ≤ b3 := Nat.le_trans Z_2 szq_b3
    have sz_b3 : h0.size ≤ b3 := Nat.le_trans KK_2.1 szq_b3
    have V_p1_3 := V_p1_2.keep K3 nin0
    have V_b1_3 := V2_q.keep K3 nin0
    have S_ad_3 := own_stk S_ad_2 K3 own_nsn
    have S_hi_3 := own_stk S_hi_2 K3 own_nsn
    have S_lo_3 := own_stk S_lo_2 K3 own_nsn
    have Z_3 : n0 ≤ T3.heap.size := Nat.le_trans Z_2 K3.1
    have KK_3 : Keep h0 T3.heap [] := KK_2.trans K3 all0
    show D (T3.setTop (mkF m 26 #[.val (.ref p1), .val (.int (0 : Int32)), .val (.int (2 : Int32)), .val (.ref b1), .val (.int (0 : Int32)), .unset] [(.ref b3)]))
    refine A (XS.astore X3.here hx rfl (hb hby d4_26) rfl rfl (l' := #[.val (.ref p1), .val (.int (0 : Int32)), .val (.int (2 : Int32)), .val (.ref b1), .val (.int (0 : Int32)), .val (.ref b3)]) rfl) ?_
    show D (T3.setTop (mkF m 28 #[.val (.ref p1), .val (.int (0 : Int32)), .val (.int (2 : Int32)), .val (.ref b1), .val (.int (0 : Int32)), .val (.ref b3)] []))
    refine A (XS.aload X3.here hx rfl (hb hby d4_28) rfl rfl) ?_
    show D (T3.setTop (mkF m 30 #[.val (.ref p1), .val (.int (0 : Int32)), .val (.int (2 : Int32)), .val (.ref b1), .val (.int (0 : Int32)), .val (.ref b3)] [(.ref b3)]))
    refine A (XS.iload X3.here hx rfl (hb hby d4_30) rfl) ?_
    show D (T3.setTop (mkF m 32 #[.val (.ref p1), .val (.int (0 : Int32)), .val (.int (2 : Int32)), .val (.ref b1), .val (.int (0 : Int32)), .val (.ref b3)] [(.int (0 : Int32)), (.ref b3)]))
    refine Adv.callS A X3 hx hZ hown (hw _ (List.mem_of_getElem? (i := 196) rfl)) (hw _ (List.mem_of_getElem? (i := 197) rfl)) (hw _ (List.mem_of_getElem? (i := 18) rfl)) (hw _ (List.mem_of_getElem? (i := 198) rfl)) rfl (rm34 l Z a0 hw [] b3 (0 : Int32) T3.heap n0 fb3 0 (by decide) (by decide) V3_q S_ad_3 S_hi_3 S_lo_3) 0 (g := (mkF m 32 #[.val (.ref p1), .val (.int (0 : Int32)), .val (.int (2 : Int32)), .val (.ref b1), .val (.int (0 : Int32)), .val (.ref b3)] [(.int (0 : Int32)), (.ref b3)])) rfl (by rw [hml]; rfl) [(.ref b3), (.int (0 : Int32))] [] rfl (lenOf pd4_2 rfl) rfl (by show 2 * 0 + _ ≤ _; exact Nat.le_of_eq rfl) (hb hby d4_32) (by decide) (by decide) (by decide) (by decide) (by decide) ?_
    rintro T4 L4 _ X4 ⟨rfl, N4_q, e4⟩
    have N4 := Fr.app N3 N4_q
    show D (T4.setTop (mkF m 35 #[.val (.ref p1), .val (.int (0 : Int32)), .val (.int (2 : Int32)), .val (.ref b1), .val (.int (0 : Int32)), .val (.ref b3)] [(.int (own_u (fb3 (2 * 0)) (fb3 (2 * 0 + 1))))]))
    have hbig : (255 : Int32) < (own_u (fb3 (2 * 0)) (fb3 (2 * 0 + 1))) := by
      show (255 : Int32) < own_u (fb3 0) (fb3 1)
      rw [hu3_0, hu3_1, own_utf (hch 0 (by decide))]; exact hgt
    refine A (XS.sipush X4.here hx rfl (hb hby d4_35)) ?_
    show D (T4.setTop (mkF m 38 #[.val (.ref p1), .val (.int (0 : Int32)), .val (.int (2 : Int32)), .val (.ref b1), .val (.int (0 : Int32)), .val (.ref b3)] [(.int (255 : Int32)), (.int (own_u (fb3 (2 * 0)) (fb3 (2 * 0 + 1))))]))
    refine A (XS.icmpYes X4.here hx rfl (pc0 := 38) (pc' := 54) rfl (hb hby d4_38) rfl (tlt hbig).2.2.1 (by decide) (by decide)) ?_
    show D (T4.setTop (mkF m 54 #[.val (.ref p1), .val (.int (0 : Int32)), .val (.int (2 : Int32)), .val (.ref b1), .val (.int (0 : Int32)), .val (.ref b3)] []))
    refine A (XS.aload X4.here hx rfl (hb hby d4_54) rfl rfl) ?_
    show D (T4.setTop (mkF m 56 #[.val (.ref p1), .val (.int (0 : Int32)), .val (.int (2 : Int32)), .val (.ref b1), .val (.int (0 : Int32)), .val (.ref b3)] [(.ref b3)]))
    refine F _ (Jvm.JW.ret X4 hlk (v := some (.ref b3)) (fun h => by rw [hrt] at h; cases h) (fun fs hr => retOut X4 hx hrt rfl (Or.inr (Or.inr (Or.inr (Or.inr ⟨rfl, rfl, rfl⟩)))) (hb hby d4_56) hr) e4 ?_ (by decide) (by decide))
    exact ⟨b3, _, _, rfl, N4, KK_3, V3_q, sz_b3, Or.inr ⟨rfl, by rw [hu3_0, hu3_1]; exact own_utf (hch 0 (by decide)), by rw [hu3_2, hu3_3]; exact own_utf (hch 1 (by decide))⟩⟩
  · show D (T2.setTop (mkF m 12 #[.val (.ref p1), .val (.int (0 : Int32)), .val (.int (2 : Int32)), .val (.ref b1), .unset, .unset] [(.int (1 : Int32))]))
    refine A (XS.istore X2.here hx rfl (hb hby d4_12) rfl (l' := #[.val (.ref p1), .val (.int (0 : Int32)), .val (.int (2 : Int32)), .val (.ref b1), .val (.int (1 : Int32)), .unset]) rfl) ?_
    show D (T2.setTop (mkF m 14 #[.val (.ref p1), .val (.int (0 : Int32)), .val (.int (2 : Int32)), .val (.ref b1), .val (.int (1 : Int32)), .unset] []))
    refine A (XS.iload X2.here hx rfl (hb hby d4_14) rfl) ?_
    show D (T2.setTop (mkF m 16 #[.val (.ref p1), .val (.int (0 : Int32)), .val (.int (2 : Int32)), .val (.ref b1), .val (.int (1 : Int32)), .unset] [(.int (1 : Int32))]))
    refine A (XS.iloadN X2.here hx rfl (hb hby d4_16) rfl) ?_
    show D (T2.setTop (mkF m 17 #[.val (.ref p1), .val (.int (0 : Int32)), .val (.int (2 : Int32)), .val (.ref b1), .val (.int (1 : Int32)), .unset] [(.int (2 : Int32)), (.int (1 : Int32))]))
    refine A (XS.icmpNo X2.here hx rfl (hb hby d4_17) rfl (feq (by decide : ¬ ((1 : Int32) = (2 : Int32)))).1) ?_
    show D (T2.setTop (mkF m 20 #[.val (.ref p1), .val (.int (0 : Int32)), .val (.int (2 : Int32)), .val (.ref b1), .val (.int (1 : Int32)), .unset] []))
    refine A (XS.aloadN X2.here hx rfl (hb hby d4_20) rfl rfl) ?_
    show D (T2.setTop (mkF m 21 #[.val (.ref p1), .val (.int (0 : Int32)), .val (.int (2 : Int32)), .val (.ref b1), .val (.int (1 : Int32)), .unset] [(.ref p1)]))
    refine A (XS.iloadN X2.here hx rfl (hb hby d4_21) rfl) ?_
    show D (T2.setTop (mkF m 22 #[.val (.ref p1), .val (.int (0 : Int32)), .val (.int (2 : Int32)), .val (.ref b1), .val (.int (1 : Int32)), .unset] [(.int (0 : Int32)), (.ref p1)]))
    refine A (XS.iloadN X2.here hx rfl (hb hby d4_22) rfl) ?_
    show D (T2.setTop (mkF m 23 #[.val (.ref p1), .val (.int (0 : Int32)), .val (.int (2 : Int32)), .val (.ref b1), .val (.int (1 : Int32)), .unset] [(.int (2 : Int32)), (.int (0 : Int32)), (.ref p1)]))
    refine Adv.callS A X2 hx hZ hown (hw _ (List.mem_of_getElem? (i := 180) rfl)) (hw _ (List.mem_of_getElem? (i := 181) rfl)) (hw _ (List.mem_of_getElem? (i := 18) rfl)) (hw _ (List.mem_of_getElem? (i := 182) rfl)) rfl (rm30 l Z a0 hw [] p1 T2.heap n0 f Z_2 V_p1_2 S_ad_2 S_hi_2 S_lo_2) 0 (g := (mkF m 23 #[.val (.ref p1), .val (.int (0 : Int32)), .val (.int (2 : Int32)), .val (.ref b1), .val (.int (1 : Int32)), .unset] [(.int (2 : Int32)), (.int (0 : Int32)), (.ref p1)])) rfl (by rw [hml]; rfl) [(.ref p1), (.int (0 : Int32)), (.int (2 : Int32))] [] rfl (lenOf pd4_1 rfl) rfl (by show 2 * 0 + _ ≤ _; exact Nat.le_of_eq rfl) (hb hby d4_23) (by decide) (by decide) (by decide) (by decide) (by decide) ?_
    rintro T5 L5 _ X5 ⟨b5, fb5, rfl, N5_q, K5, V5_q, szq_b5, hu5_0, hu5_1, hu5_2, hu5_3⟩
    have N5 := Fr.app N2 N5_q
    have ne_p1_b5 : p1 ≠ b5 := Nat.ne_of_lt (Nat.lt_of_lt_of_le V_p1_2.lt szq_b5)
    have ne_b1_b5 : b1 ≠ b5 := Nat.ne_of_lt (Nat.lt_of_lt_of_le V2_q.lt szq_b5)
    have g_b5 : n0 ≤ b5 := Nat.le_trans Z_2 szq_b5
    have sz_b5 : h0.size ≤ b5 := Nat.le_trans KK_2.1 szq_b5
    have V_p1_5 := V_p1_2.keep K5 nin0
    have V_b1_5 := V2_q.keep K5 nin0
    have S_ad_5 := own_stk S_ad_2 K5 own_nsn
    have S_hi_5 := own_stk S_hi_2 K5 own_nsn
    have S_lo_5 := own_stk S_lo_2 K5 own_nsn
    have Z_5 : n0 ≤ T5.heap.size := Nat.le_trans Z_2 K5.1
    have KK_5 : Keep h0 T5.heap [] := KK_2.trans K5 all0
    show D (T5.setTop (mkF m 26 #[.val (.ref p1), .val (.int (0 : Int32)), .val (.int (2 : Int32)), .val (.ref b1), .val (.int (1 : Int32)), .unset] [(.ref b5)]))
    refine A (XS.astore X5.here hx rfl (hb hby d4_26) rfl rfl (l' := #[.val (.ref p1), .val (.int (0 : Int32)), .val (.int (2 : Int32)), .val (.ref b1), .val (.int (1 : Int32)), .val (.ref b5)]) rfl) ?_
    show D (T5.setTop (mkF m 28 #[.val (.ref p1), .val (.int (0 : Int32)), .val (.int (2 : Int32)), .val (.ref b1), .val (.int (1 : Int32)), .val (.ref b5)] []))
    refine A (XS.aload X5.here hx rfl (hb hby d4_28) rfl rfl) ?_
    show D (T5.setTop (mkF m 30 #[.val (.ref p1), .val (.int (0 : Int32)), .val (.int (2 : Int32)), .val (.ref b1), .val (.int (1 : Int32)), .val (.ref b5)] [(.ref b5)]))
    refine A (XS.iload X5.here hx rfl (hb hby d4_30) rfl) ?_
    show D (T5.setTop (mkF m 32 #[.val (.ref p1), .val (.int (0 : Int32)), .val (.int (2 : Int32)), .val (.ref b1), .val (.int (1 : Int32)), .val (.ref b5)] [(.int (1 : Int32)), (.ref b5)]))
    refine Adv.callS A X5 hx hZ hown (hw _ (List.mem_of_getElem? (i := 196) rfl)) (hw _ (List.mem_of_getElem? (i := 197) rfl)) (hw _ (List.mem_of_getElem? (i := 18) rfl)) (hw _ (List.mem_of_getElem? (i := 198) rfl)) rfl (rm34 l Z a0 hw [] b5 (1 : Int32) T5.heap n0 fb5 1 (by decide) (by decide) V5_q S_ad_5 S_hi_5 S_lo_5) 0 (g := (mkF m 32 #[.val (.ref p1), .val (.int (0 : Int32)), .val (.int (2 : Int32)), .val (.ref b1), .val (.int (1 : Int32)), .val (.ref b5)] [(.int (1 : Int32)), (.ref b5)])) rfl (by rw [hml]; rfl) [(.ref b5), (.int (1 : Int32))] [] rfl (lenOf pd4_2 rfl) rfl (by show 2 * 0 + _ ≤ _; exact Nat.le_of_eq rfl) (hb hby d4_32) (by decide) (by decide) (by decide) (by decide) (by decide) ?_
    rintro T6 L6 _ X6 ⟨rfl, N6_q, e6⟩
    have N6 := Fr.app N5 N6_q
    show D (T6.setTop (mkF m 35 #[.val (.ref p1), .val (.int (0 : Int32)), .val (.int (2 : Int32)), .val (.ref b1), .val (.int (1 : Int32)), .val (.ref b5)] [(.int (own_u (fb5 (2 * 1)) (fb5 (2 * 1 + 1))))]))
    have hbig : (255 : Int32) < (own_u (fb5 (2 * 1)) (fb5 (2 * 1 + 1))) := by
      show (255 : Int32) < own_u (fb5 2) (fb5 3)
      rw [hu5_2, hu5_3, own_utf (hch 1 (by decide))]; exact hgt
    refine A (XS.sipush X6.here hx rfl (hb hby d4_35)) ?_
    show D (T6.setTop (mkF m 38 #[.val (.ref p1), .val (.int (0 : Int32)), .val (.int (2 : Int32)), .val (.ref b1), .val (.int (1 : Int32)), .val (.ref b5)] [(.int (255 : Int32)), (.int (own_u (fb5 (2 * 1)) (fb5 (2 * 1 + 1))))]))
    refine A (XS.icmpYes X6.here hx rfl (pc0 := 38) (pc' := 54) rfl (hb hby d4_38) rfl (tlt hbig).2.2.1 (by decide) (by decide)) ?_
    show D (T6.setTop (mkF m 54 #[.val (.ref p1), .val (.int (0 : Int32)), .val (.int (2 : Int32)), .val (.ref b1), .val (.int (1 : Int32)), .val (.ref b5)] []))
    refine A (XS.aload X6.here hx rfl (hb hby d4_54) rfl rfl) ?_
    show D (T6.setTop (mkF m 56 #[.val (.ref p1), .val (.int (0 : Int32)), .val (.int (2 : Int32)), .val (.ref b1), .val (.int (1 : Int32)), .val (.ref b5)] [(.ref b5)]))
    refine F _ (Jvm.JW.ret X6 hlk (v := some (.ref b5)) (fun h => by rw [hrt] at h; cases h) (fun fs hr => retOut X6 hx hrt rfl (Or.inr (Or.inr (Or.inr (Or.inr ⟨rfl, rfl, rfl⟩)))) (hb hby d4_56) hr) e6 ?_ (by decide) (by decide))
    exact ⟨b5, _, _, rfl, N6, KK_5, V5_q, sz_b5, Or.inr ⟨rfl, by rw [hu5_0, hu5_1]; exact own_utf (hch 0 (by decide)), by rw [hu5_2, hu5_3]; exact own_utf (hch 1 (by decide))⟩⟩
  · show D (T2.setTop (mkF m 12 #[.val (.ref p1), .val (.int (0 : Int32)), .val (.int (2 : Int32)), .val (.ref b1), .unset, .unset] [(.int (2 : Int32))]))
    refine A (XS.istore X2.here hx rfl (hb hby d4_12) rfl (l' := #[.val (.ref p1), .val (.int (0 : Int32)), .val (.int (2 : Int32)), .val (.ref b1), .val (.int (2 : Int32)), .unset]) rfl) ?_
    show D (T2.setTop (mkF m 14 #[.val (.ref p1), .val (.int (0 : Int32)), .val (.int (2 : Int32)), .val (.ref b1), .val (.int (2 : Int32)), .unset] []))
    refine A (XS.iload X2.here hx rfl (hb hby d4_14) rfl) ?_
    show D (T2.setTop (mkF m 16 #[.val (.ref p1), .val (.int (0 : Int32)), .val (.int (2 : Int32)), .val (.ref b1), .val (.int (2 : Int32)), .unset] [(.int (2 : Int32))]))
    refine A (XS.iloadN X2.here hx rfl (hb hby d4_16) rfl) ?_
    show D (T2.setTop (mkF m 17 #[.val (.ref p1), .val (.int (0 : Int32)), .val (.int (2 : Int32)), .val (.ref b1), .val (.int (2 : Int32)), .unset] [(.int (2 : Int32)), (.int (2 : Int32))]))
    refine A (XS.icmpYes X2.here hx rfl (pc0 := 17) (pc' := 57) rfl (hb hby d4_17) rfl (teq (by decide : (2 : Int32) = (2 : Int32))).1 (by decide) (by decide)) ?_
    show D (T2.setTop (mkF m 57 #[.val (.ref p1), .val (.int (0 : Int32)), .val (.int (2 : Int32)), .val (.ref b1), .val (.int (2 : Int32)), .unset] []))
    refine A (XS.aloadN X2.here hx rfl (hb hby d4_57) rfl rfl) ?_
    show D (T2.setTop (mkF m 58 #[.val (.ref p1), .val (.int (0 : Int32)), .val (.int (2 : Int32)), .val (.ref b1), .val (.int (2 : Int32)), .unset] [(.ref b1)]))
    refine F _ (Jvm.JW.ret X2 hlk (v := some (.ref b1)) (fun h => by rw [hrt] at h; cases h) (fun fs hr => retOut X2 hx hrt rfl (Or.inr (Or.inr (Or.inr (Or.inr ⟨rfl, rfl, rfl⟩)))) (hb hby d4_58) hr) rfl ?_ (by decide) (by decide))
    exact ⟨b1, _, _, rfl, N2, KK_2, V2_q, sz_b1, Or.inl ⟨rfl, by rw [hg0]; exact own_lat (hch 0 (by decide)) hl0, by rw [hg1]; exact own_lat (hch 1 (by decide)) hl1⟩⟩
theorem d6_0 : decode jdk_52_method_15_code 0 = .ok (.iload_n 1, 1) := by decide +kernel
theorem d6_1 : decode jdk_52_method_15_code 1 = .ok (.aload_n 0, 1) := by decide +kernel
theorem d6_2 : decode jdk_52_method_15_code 2 = .ok (.arraylength, 1) := by decide +kernel
theorem d6_3 : decode jdk_52_method_15_code 3 = .ok (.isub, 1) := by decide +kernel
theorem d6_4 : decode jdk_52_method_15_code 4 = .ok (.bipush 31, 2) := by decide +kernel
theorem d6_6 : decode jdk_52_method_15_code 6 = .ok (.iushr, 1) := by decide +kernel
theorem d6_7 : decode jdk_52_method_15_code 7 = .ok (.i2b, 1) := by decide +kernel
theorem d6_8 : decode jdk_52_method_15_code 8 = .ok (.ireturn, 1) := by decide +kernel
theorem pn6 : plainFor (⟨"java/lang/StringUTF16", "coderFromArrayLen", "([BI)B"⟩ : MethodName) = true := by decide +kernel
theorem ef6_2 (p1 : Addr) (m : MethodId) : entryFrame m #[(.ref p1), (.int (2 : Int32))] 2 = mkF m 0 #[.val (.ref p1), .val (.int (2 : Int32))] [] := by first | (simp [entryFrame, mkF, argsToLocals, Value.category]; done) | rfl
set_option maxRecDepth 65536 in
set_option maxHeartbeats 40000000 in
theorem rm6_2 (l : Launch) (Z : State) (a0 : Array Value) (hw : ∀ d ∈ tables_1, d.before a0 Z = true) (ws : List Jvm.Cond) (p1 : Addr) (h0 : Heap) (n0 : Nat) (f : Nat → Int32) (V_p1 : ArI Z h0 p1 .byte 2 f) :
    JMet l Z (⟨"java/lang/StringUTF16", "coderFromArrayLen", "([BI)B"⟩ : MethodName) jdk_52_method_15_code 2 (some .byte) ws ({ frames := 0, cells := 0, slots := 0, locals := 0 } : Room) #[(.ref p1), (.int (2 : Int32))] h0 (QP (.int (0 : Int32)) h0 n0) := by
  refine Jvm.JW.body #[.val (.ref p1), .val (.int (2 : Int32))] pn6 (ef6_2 p1) ?_
  intro p e s m below meth c T0 D A F X0 hx hZ hby hml hown hnm hrt hlk e0
  refine A (XS.iloadN X0.here hx rfl (hb hby d6_0) rfl) ?_
  show D (T0.setTop (mkF m 1 #[.val (.ref p1), .val (.int (2 : Int32))] [(.int (2 : Int32))]))
  refine A (XS.aloadN X0.here hx rfl (hb hby d6_1) rfl rfl) ?_
  show D (T0.setTop (mkF m 2 #[.val (.ref p1), .val (.int (2 : Int32))] [(.ref p1), (.int (2 : Int32))]))
  refine Adv.lenI A X0 hx hZ e0 V_p1 (g := (mkF m 2 #[.val (.ref p1), .val (.int (2 : Int32))] [(.ref p1), (.int (2 : Int32))])) rfl rfl (hb hby d6_2) ?_
  show D (T0.setTop (mkF m 3 #[.val (.ref p1), .val (.int (2 : Int32))] [(.int (2 : Int32)), (.int (2 : Int32))]))
  refine A (XS.isub X0.here hx rfl (hb hby d6_3) rfl) ?_
  show D (T0.setTop (mkF m 4 #[.val (.ref p1), .val (.int (2 : Int32))] [(.int ((2 : Int32) - (2 : Int32)))]))
  suffices Kq1 : ∀ q1 : Int32, q1 = (0 : Int32) → D (T0.setTop (mkF m 4 #[.val (.ref p1), .val (.int (2 : Int32))] [(.int q1)])) from Kq1 _ (by decide)
  rintro _ rfl
  show D (T0.setTop (mkF m 4 #[.val (.ref p1), .val (.int (2 : Int32))] [(.int (0 : Int32))]))
  refine A (XS.bipush X0.here hx rfl (hb hby d6_4)) ?_
  show D (T0.setTop (mkF m 6 #[.val (.ref p1), .val (.int (2 : Int32))] [(.int (31 : Int32)), (.int (0 : Int32))]))
  refine A (XS.iushr X0.here hx rfl (hb hby d6_6) rfl) ?_
  show D (T0.setTop (mkF m 7 #[.val (.ref p1), .val (.int (2 : Int32))] [(.int (((0 : Int32).toUInt32 >>> ((31 : Int32) &&& 31).toUInt32).toInt32))]))
  refine A (XS.i2b X0.here hx rfl (hb hby d6_7) rfl) ?_
  show D (T0.setTop (mkF m 8 #[.val (.ref p1), .val (.int (2 : Int32))] [(.int ((((0 : Int32).toUInt32 >>> ((31 : Int32) &&& 31).toUInt32).toInt32).toInt8.toInt32))]))
  refine F _ (Jvm.JW.ret X0 hlk (v := some (.int ((((0 : Int32).toUInt32 >>> ((31 : Int32) &&& 31).toUInt32).toInt32).toInt8.toInt32))) (fun h => by rw [hrt] at h; cases h) (fun fs hr => retOut X0 hx hrt (by decide) (Or.inl ⟨rfl, Or.inr (Or.inr (Or.inl rfl)), _, rfl⟩) (hb hby d6_8) hr) rfl ?_ (by decide) (by decide))
  exact ⟨congrArg (fun z => some (Value.int z)) (by decide), (Fr.nil n0), e0⟩
set_option maxRecDepth 65536 in
set_option maxHeartbeats 40000000 in
theorem rm6_4 (l : Launch) (Z : State) (a0 : Array Value) (hw : ∀ d ∈ tables_1, d.before a0 Z = true) (ws : List Jvm.Cond) (p1 : Addr) (h0 : Heap) (n0 : Nat) (f : Nat → Int32) (V_p1 : ArI Z h0 p1 .byte 4 f) :
    JMet l Z (⟨"java/lang/StringUTF16", "coderFromArrayLen", "([BI)B"⟩ : MethodName) jdk_52_method_15_code 2 (some .byte) ws ({ frames := 0, cells := 0, slots := 0, locals := 0 } : Room) #[(.ref p1), (.int (2 : Int32))] h0 (QP (.int (1 : Int32)) h0 n0) := by
  refine Jvm.JW.body #[.val (.ref p1), .val (.int (2 : Int32))] pn6 (ef6_2 p1) ?_
  intro p e s m below meth c T0 D A F X0 hx hZ hby hml hown hnm hrt hlk e0
  refine A (XS.iloadN X0.here hx rfl (hb hby d6_0) rfl) ?_
  show D (T0.setTop (mkF m 1 #[.val (.ref p1), .val (.int (2 : Int32))] [(.int (2 : Int32))]))
  refine A (XS.aloadN X0.here hx rfl (hb hby d6_1) rfl rfl) ?_
  show D (T0.setTop (mkF m 2 #[.val (.ref p1), .val (.int (2 : Int32))] [(.ref p1), (.int (2 : Int32))]))
  refine Adv.lenI A X0 hx hZ e0 V_p1 (g := (mkF m 2 #[.val (.ref p1), .val (.int (2 : Int32))] [(.ref p1), (.int (2 : Int32))])) rfl rfl (hb hby d6_2) ?_
  show D (T0.setTop (mkF m 3 #[.val (.ref p1), .val (.int (2 : Int32))] [(.int (4 : Int32)), (.int (2 : Int32))]))
  refine A (XS.isub X0.here hx rfl (hb hby d6_3) rfl) ?_
  show D (T0.setTop (mkF m 4 #[.val (.ref p1), .val (.int (2 : Int32))] [(.int ((2 : Int32) - (4 : Int32)))]))
  suffices Kq1 : ∀ q1 : Int32, q1 = (-2 : Int32) → D (T0.setTop (mkF m 4 #[.val (.ref p1), .val (.int (2 : Int32))] [(.int q1)])) from Kq1 _ (by decide)
  rintro _ rfl
  show D (T0.setTop (mkF m 4 #[.val (.ref p1), .val (.int (2 : Int32))] [(.int (-2 : Int32))]))
  refine A (XS.bipush X0.here hx rfl (hb hby d6_4)) ?_
  show D (T0.setTop (mkF m 6 #[.val (.ref p1), .val (.int (2 : Int32))] [(.int (31 : Int32)), (.int (-2 : Int32))]))
  refine A (XS.iushr X0.here hx rfl (hb hby d6_6) rfl) ?_
  show D (T0.setTop (mkF m 7 #[.val (.ref p1), .val (.int (2 : Int32))] [(.int (((-2 : Int32).toUInt32 >>> ((31 : Int32) &&& 31).toUInt32).toInt32))]))
  refine A (XS.i2b X0.here hx rfl (hb hby d6_7) rfl) ?_
  show D (T0.setTop (mkF m 8 #[.val (.ref p1), .val (.int (2 : Int32))] [(.int ((((-2 : Int32).toUInt32 >>> ((31 : Int32) &&& 31).toUInt32).toInt32).toInt8.toInt32))]))
  refine F _ (Jvm.JW.ret X0 hlk (v := some (.int ((((-2 : Int32).toUInt32 >>> ((31 : Int32) &&& 31).toUInt32).toInt32).toInt8.toInt32))) (fun h => by rw [hrt] at h; cases h) (fun fs hr => retOut X0 hx hrt (by decide) (Or.inl ⟨rfl, Or.inr (Or.inr (Or.inl rfl)), _, rfl⟩) (hb hby d6_8) hr) rfl ?_ (by decide) (by decide))
  exact ⟨congrArg (fun z => some (Value.int z)) (by decide), (Fr.nil n0), e0⟩
def own_S (cd : Int32) (nb : Nat) (fb : Nat → Int32) (x y : Int32) : Prop := (cd = 0 ∧ nb = 2 ∧ own_ch (fb 0) = x ∧ own_ch (fb 1) = y) ∨ (cd = 1 ∧ nb = 4 ∧ own_u (fb 0) (fb 1) = x ∧ own_u (fb 2) (fb 3) = y)
theorem d2_0 : decode jdk_42_method_149_code 0 = .ok (.aload_n 0, 1) := by decide +kernel
theorem d2_1 : decode jdk_42_method_149_code 1 = .ok (.invokespecial 1, 3) := by decide +kernel
theorem d2_4 : decode jdk_42_method_149_code 4 = .ok (.iload_n 3, 1) := by decide +kernel
theorem d2_5 : decode jdk_42_method_149_code 5 = .ok (.ifCond .ne 22, 3) := by decide +kernel
theorem d2_27 : decode jdk_42_method_149_code 27 = .ok (.getstatic 38, 3) := by decide +kernel
theorem d2_30 : decode jdk_42_method_149_code 30 = .ok (.ifCond .eq 28, 3) := by decide +kernel
theorem d2_33 : decode jdk_42_method_149_code 33 = .ok (.aload_n 1, 1) := by decide +kernel
theorem d2_34 : decode jdk_42_method_149_code 34 = .ok (.iload_n 2, 1) := by decide +kernel
theorem d2_35 : decode jdk_42_method_149_code 35 = .ok (.iload_n 3, 1) := by decide +kernel
theorem d2_36 : decode jdk_42_method_149_code 36 = .ok (.invokestatic 177, 3) := by decide +kernel
theorem d2_39 : decode jdk_42_method_149_code 39 = .ok (.astore 5, 2) := by decide +kernel
theorem d2_41 : decode jdk_42_method_149_code 41 = .ok (.aload_n 0, 1) := by decide +kernel
theorem d2_42 : decode jdk_42_method_149_code 42 = .ok (.aload 5, 2) := by decide +kernel
theorem d2_44 : decode jdk_42_method_149_code 44 = .ok (.iload_n 3, 1) := by decide +kernel
theorem d2_45 : decode jdk_42_method_149_code 45 = .ok (.invokestatic 47, 3) := by decide +kernel
theorem d2_48 : decode jdk_42_method_149_code 48 = .ok (.putfield 15, 3) := by decide +kernel
theorem d2_51 : decode jdk_42_method_149_code 51 = .ok (.aload_n 0, 1) := by decide +kernel
theorem d2_52 : decode jdk_42_method_149_code 52 = .ok (.aload 5, 2) := by decide +kernel
theorem d2_54 : decode jdk_42_method_149_code 54 = .ok (.putfield 9, 3) := by decide +kernel
theorem d2_57 : decode jdk_42_method_149_code 57 = .ok (.return_, 1) := by decide +kernel
theorem pn2 : plainFor (⟨"java/lang/String", "<init>", "([CIILjava/lang/Void;)V"⟩ : MethodName) = true := by decide +kernel
theorem pd2_0 : parseMethodDescriptor "([CII)[B" = some ⟨[(.array .char), .int, .int], some (.array .byte)⟩ := by decide +kernel
theorem pd2_1 : parseMethodDescriptor "([BI)B" = some ⟨[(.array .byte), .int], some .byte⟩ := by decide +kernel
theorem ef2_0_2n (self : Addr) (p1 : Addr) (m : MethodId) : entryFrame m #[(.ref self), (.ref p1), (.int (0 : Int32)), (.int (2 : Int32)), .null] 6 = mkF m 0 #[.val (.ref self), .val (.ref p1), .val (.int (0 : Int32)), .val (.int (2 : Int32)), .val .null, .unset] [] := by first | (simp [entryFrame, mkF, argsToLocals, Value.category]; done) | rfl
set_option maxRecDepth 65536 in
set_option maxHeartbeats 40000000 in
theorem rm2 (l : Launch) (Z : State) (a0 : Array Value) (hw : ∀ d ∈ tables_1, d.before a0 Z = true) (ws : List Jvm.Cond) (self : Addr) (p1 : Addr) (h0 : Heap) (n0 : Nat) (cs : Int32) (hcs : ¬ cs = (0 : Int32)) (f : Nat → Int32) (hch : ∀ k, k < 2 → own_chr (f k)) (Z0 : n0 ≤ h0.size) (g_self : n0 ≤ self) (E_self : Exa Z h0 self "java/lang/String") (F_coder : Fld Z h0 self "java/lang/String" "coder" "B" (.int (0 : Int32))) (F_value : Fld Z h0 self "java/lang/String" "value" "[B" .null) (V_p1 : ArI Z h0 p1 .char 2 f) (S_cs : Sta Z h0 "java/lang/String" "COMPACT_STRINGS" "Z" (.int cs)) (S_ad : Sta Z h0 "java/lang/StringUTF16" "$assertionsDisabled" "Z" (.int (1 : Int32))) (S_hi : Sta Z h0 "java/lang/StringUTF16" "HI_BYTE_SHIFT" "I" (.int (0 : Int32))) (S_lo : Sta Z h0 "java/lang/StringUTF16" "LO_BYTE_SHIFT" "I" (.int (8 : Int32))) :
    JMet l Z (⟨"java/lang/String", "<init>", "([CIILjava/lang/Void;)V"⟩ : MethodName) jdk_42_method_149_code 6 none ws ({ frames := 4, cells := 2, slots := 6, locals := 57 } : Room) #[(.ref self), (.ref p1), (.int (0 : Int32)), (.int (2 : Int32)), .null] h0 (fun v h L => v = none ∧ ∃ (b : Addr) (cd : Int32) (nb : Nat) (fb : Nat → Int32), Fr n0 L ∧ Keep h0 h [self] ∧ Exa Z h self "java/lang/String" ∧ Fld Z h self "java/lang/String" "coder" "B" (.int cd) ∧ Fld Z h self "java/lang/String" "value" "[B" (.ref b) ∧ ArI Z h b .byte nb fb ∧ h0.size ≤ b ∧ own_S cd nb fb (f 0) (f 1)) := by
  refine Jvm.JW.body #[.val (.ref self), .val (.ref p1), .val (.int (0 : Int32)), .val (.int (2 : Int32)), .val .null, .unset] pn2 (ef2_0_2n self p1) ?_
  intro p e s m below meth c T0 D A F X0 hx hZ hby hml hown hnm hrt hlk e0
  refine A (XS.aloadN X0.here hx rfl (hb hby d2_0) rfl rfl) ?_
  show D (T0.setTop (mkF m 1 #[.val (.ref self), .val (.ref p1), .val (.int (0 : Int32)), .val (.int (2 : Int32)), .val .null, .unset] [(.ref self)]))
  obtain ⟨T1, X1, e1, st1⟩ := initO X0 hx hZ hown (hw _ (List.mem_of_getElem? (i := 12) rfl)) (hw _ (List.mem_of_getElem? (i := 13) rfl)) (hw _ (List.mem_of_getElem? (i := 14) rfl)) e0 (g := (mkF m 1 #[.val (.ref self), .val (.ref p1), .val (.int (0 : Int32)), .val (.int (2 : Int32)), .val .null, .unset] [(.ref self)])) rfl (by rw [hml]; rfl) rfl (hb hby d2_1) (by decide) (W := 0) (by show 2 * 0 + _ ≤ _; exact Nat.le_of_eq rfl) (by decide)
  refine A (st1 _) ?_
  show D (T1.setTop (mkF m 4 #[.val (.ref self), .val (.ref p1), .val (.int (0 : Int32)), .val (.int (2 : Int32)), .val .null, .unset] []))
  refine A (XS.iloadN X1.here hx rfl (hb hby d2_4) rfl) ?_
  show D (T1.setTop (mkF m 5 #[.val (.ref self), .val (.ref p1), .val (.int (0 : Int32)), .val (.int (2 : Int32)), .val .null, .unset] [(.int (2 : Int32))]))
  refine A (XS.ifYes X1.here hx rfl (pc0 := 5) (pc' := 27) rfl (hb hby d2_5) rfl ((if0 _ _).trans (feq (by decide : ¬ ((2 : Int32) = (0 : Int32)))).2) (by decide) (by decide)) ?_
  show D (T1.setTop (mkF m 27 #[.val (.ref self), .val (.ref p1), .val (.int (0 : Int32)), .val (.int (2 : Int32)), .val .null, .unset] []))
  obtain ⟨T2, X2, e2, st2⟩ := getS X1 hx hZ hown (host := "") (hw _ (List.mem_of_getElem? (i := 15) rfl)) Via.refl e1 S_cs (g := (mkF m 27 #[.val (.ref self), .val (.ref p1), .val (.int (0 : Int32)), .val (.int (2 : Int32)), .val .null, .unset] [])) rfl (hb hby d2_27)
  refine A (st2 _) ?_
  show D (T2.setTop (mkF m 30 #[.val (.ref self), .val (.ref p1), .val (.int (0 : Int32)), .val (.int (2 : Int32)), .val .null, .unset] [(.int cs)]))
  refine A (XS.ifNo X2.here hx rfl (hb hby d2_30) rfl ((if0 _ _).trans (feq hcs).1)) ?_
  show D (T2.setTop (mkF m 33 #[.val (.ref self), .val (.ref p1), .val (.int (0 : Int32)), .val (.int (2 : Int32)), .val .null, .unset] []))
  refine A (XS.aloadN X2.here hx rfl (hb hby d2_33) rfl rfl) ?_
  show D (T2.setTop (mkF m 34 #[.val (.ref self), .val (.ref p1), .val (.int (0 : Int32)), .val (.int (2 : Int32)), .val .null, .unset] [(.ref p1)]))
  refine A (XS.iloadN X2.here hx rfl (hb hby d2_34) rfl) ?_
  show D (T2.setTop (mkF m 35 #[.val (.ref self), .val (.ref p1), .val (.int (0 : Int32)), .val (.int (2 : Int32)), .val .null, .unset] [(.int (0 : Int32)), (.ref p1)]))
  refine A (XS.iloadN X2.here hx rfl (hb hby d2_35) rfl) ?_
  show D (T2.setTop (mkF m 36 #[.val (.ref self), .val (.ref p1), .val (.int (0 : Int32)), .val (.int (2 : Int32)), .val .null, .unset] [(.int (2 : Int32)), (.int (0 : Int32)), (.ref p1)]))
  refine Adv.callS A X2 hx hZ hown (hw _ (List.mem_of_getElem? (i := 16) rfl)) (hw _ (List.mem_of_getElem? (i := 17) rfl)) (hw _ (List.mem_of_getElem? (i := 18) rfl)) (hw _ (List.mem_of_getElem? (i := 19) rfl)) e2 (rm4 l Z a0 hw [] p1 h0 n0 f hch Z0 V_p1 S_ad S_hi S_lo) 0 (g := (mkF m 36 #[.val (.ref self), .val (.ref p1), .val (.int (0 : Int32)), .val (.int (2 : Int32)), .val .null, .unset] [(.int (2 : Int32)), (.int (0 : Int32)), (.ref p1)])) rfl (by rw [hml]; rfl) [(.ref p1), (.int (0 : Int32)), (.int (2 : Int32))] [] rfl (lenOf pd2_0 rfl) rfl (by show 2 * 0 + _ ≤ _; exact Nat.le_of_eq rfl) (hb hby d2_36) (by decide) (by decide) (by decide) (by decide) (by decide) ?_
  rintro T3 L3 _ X3 ⟨b3, nb, fbs, rfl, N3_q, K3, V3_q, szq_b3, hC⟩
  have N3 := Fr.app (Fr.nil n0) N3_q
  have ne_self_b3 : self ≠ b3 := Nat.ne_of_lt (Nat.lt_of_lt_of_le E_self.lt szq_b3)
  have ne_p1_b3 : p1 ≠ b3 := Nat.ne_of_lt (Nat.lt_of_lt_of_le V_p1.lt szq_b3)
  have g_b3 : n0 ≤ b3 := Nat.le_trans Z0 szq_b3
  have sz_b3 : h0.size ≤ b3 := Nat.le_trans (Keep.refl h0 [self]).1 szq_b3
  have E_self_3 := E_self.keep K3
  have F_coder_self_3 := F_coder.keep K3 nin0
  have F_value_self_3 := F_value.keep K3 nin0
  have V_p1_3 := V_p1.keep K3 nin0
  have S_cs_3 := own_stk S_cs K3 own_nsn
  have S_ad_3 := own_stk S_ad K3 own_nsn
  have S_hi_3 := own_stk S_hi K3 own_nsn
  have S_lo_3 := own_stk S_lo K3 own_nsn
  have Z_3 : n0 ≤ T3.heap.size := Nat.le_trans Z0 K3.1
  have KK_3 : Keep h0 T3.heap [self] := (Keep.refl h0 [self]).trans K3 all0
  show D (T3.setTop (mkF m 39 #[.val (.ref self), .val (.ref p1), .val (.int (0 : Int32)), .val (.int (2 : Int32)), .val .null, .unset] [(.ref b3)]))
  rcases hC with ⟨rfl, hc0, hc1⟩ | ⟨rfl, hc0, hc1⟩
  · show D (T3.setTop (mkF m 39 #[.val (.ref self), .val (.ref p1), .val (.int (0 : Int32)), .val (.int (2 : Int32)), .val .null, .unset] [(.ref b3)]))
    refine A (XS.astore X3.here hx rfl (hb hby d2_39) rfl rfl (l' := #[.val (.ref self), .val (.ref p1), .val (.int (0 : Int32)), .val (.int (2 : Int32)), .val .null, .val (.ref b3)]) rfl) ?_
    show D (T3.setTop (mkF m 41 #[.val (.ref self), .val (.ref p1), .val (.int (0 : Int32)), .val (.int (2 : Int32)), .val .null, .val (.ref b3)] []))
    refine A (XS.aloadN X3.here hx rfl (hb hby d2_41) rfl rfl) ?_
    show D (T3.setTop (mkF m 42 #[.val (.ref self), .val (.ref p1), .val (.int (0 : Int32)), .val (.int (2 : Int32)), .val .null, .val (.ref b3)] [(.ref self)]))
    refine A (XS.aload X3.here hx rfl (hb hby d2_42) rfl rfl) ?_
    show D (T3.setTop (mkF m 44 #[.val (.ref self), .val (.ref p1), .val (.int (0 : Int32)), .val (.int (2 : Int32)), .val .null, .val (.ref b3)] [(.ref b3), (.ref self)]))
    refine A (XS.iloadN X3.here hx rfl (hb hby d2_44) rfl) ?_
    show D (T3.setTop (mkF m 45 #[.val (.ref self), .val (.ref p1), .val (.int (0 : Int32)), .val (.int (2 : Int32)), .val .null, .val (.ref b3)] [(.int (2 : Int32)), (.ref b3), (.ref self)]))
    refine Adv.callS A X3 hx hZ hown (hw _ (List.mem_of_getElem? (i := 24) rfl)) (hw _ (List.mem_of_getElem? (i := 25) rfl)) (hw _ (List.mem_of_getElem? (i := 18) rfl)) (hw _ (List.mem_of_getElem? (i := 26) rfl)) rfl (rm6_2 l Z a0 hw [] b3 T3.heap n0 fbs V3_q) 1 (g := (mkF m 45 #[.val (.ref self), .val (.ref p1), .val (.int (0 : Int32)), .val (.int (2 : Int32)), .val .null, .val (.ref b3)] [(.int (2 : Int32)), (.ref b3), (.ref self)])) rfl (by rw [hml]; rfl) [(.ref b3), (.int (2 : Int32))] [(.ref self)] rfl (lenOf pd2_1 rfl) rfl (by show 2 * 0 + _ ≤ _; exact Nat.le_of_eq rfl) (hb hby d2_45) (by decide) (by decide) (by decide) (by decide) (by decide) ?_
    rintro T4 L4 _ X4 ⟨rfl, N4_q, e4⟩
    have N4 := Fr.app N3 N4_q
    show D (T4.setTop (mkF m 48 #[.val (.ref self), .val (.ref p1), .val (.int (0 : Int32)), .val (.int (2 : Int32)), .val .null, .val (.ref b3)] [(.int (0 : Int32)), (.ref self)]))
    obtain ⟨T5, h5, X5, e5, W5, st5⟩ := putFN X4 hx hZ hown (hw _ (List.mem_of_getElem? (i := 27) rfl)) Via.refl e4 F_coder_self_3 E_self_3 (Or.inr ⟨(hw _ (List.mem_of_getElem? (i := 28) rfl)), rfl, hnm⟩) (hw _ (List.mem_of_getElem? (i := 3) rfl)) (ty := .byte) (v' := (.int (0 : Int32))) (by decide) rfl (by decide) (g := (mkF m 48 #[.val (.ref self), .val (.ref p1), .val (.int (0 : Int32)), .val (.int (2 : Int32)), .val .null, .val (.ref b3)] [(.int (0 : Int32)), (.ref self)])) rfl rfl (hb hby d2_48)
    have N5 := Fr.snoc X5 N4 g_self
    have F_coder_self_5 := F_coder_self_3.same W5
    have E_self_5 := E_self_3.wr W5
    have F_value_self_5 := F_value_self_3.other W5 (Or.inr (slot_ne (Or.inr (hw _ (List.mem_of_getElem? (i := 30) rfl))) (Or.inr (hw _ (List.mem_of_getElem? (i := 28) rfl))) (by decide) (t := (.array .byte)) (t' := .byte) (by decide) (by decide)))
    have V_p1_5 := V_p1_3.other W5 (Ne.symm (ne_ari E_self_3 (hw _ (List.mem_of_getElem? (i := 3) rfl)) V_p1_3))
    have V_b3_5 := V3_q.other W5 (Ne.symm ne_self_b3)
    have S_cs_5 := Sta.wr W5 S_cs_3
    have S_ad_5 := Sta.wr W5 S_ad_3
    have S_hi_5 := Sta.wr W5 S_hi_3
    have S_lo_5 := Sta.wr W5 S_lo_3
    have Z_5 : n0 ≤ h5.size := Nat.le_trans Z_3 (Nat.le_of_eq W5.size.symm)
    have KK_5 : Keep h0 h5 [self] := KK_3.wr W5 (Or.inl (List.mem_of_getElem? (i := 0) rfl))
    refine A (st5 _) ?_
    show D (T5.setTop (mkF m 51 #[.val (.ref self), .val (.ref p1), .val (.int (0 : Int32)), .val (.int (2 : Int32)), .val .null, .val (.ref b3)] []))
    refine A (XS.aloadN X5.here hx rfl (hb hby d2_51) rfl rfl) ?_
    show D (T5.setTop (mkF m 52 #[.val (.ref self), .val (.ref p1), .val (.int (0 : Int32)), .val (.int (2 : Int32)), .val .null, .val (.ref b3)] [(.ref self)]))
    refine A (XS.aload X5.here hx rfl (hb hby d2_52) rfl rfl) ?_
    show D (T5.setTop (mkF m 54 #[.val (.ref self), .val (.ref p1), .val (.int (0 : Int32)), .val (.int (2 : Int32)), .val .null, .val (.ref b3)] [(.ref b3), (.ref self)]))
    obtain ⟨T6, h6, X6, e6, W6, st6⟩ := putF X5 hx hZ hown (host := "") (Or.inl (hw _ (List.mem_of_getElem? (i := 29) rfl))) Via.refl e5 F_value_self_5 E_self_5 (Or.inr ⟨(hw _ (List.mem_of_getElem? (i := 30) rfl)), rfl, hnm⟩) (hw _ (List.mem_of_getElem? (i := 3) rfl)) (ty := (.array .byte)) (by decide) rfl rfl (g := (mkF m 54 #[.val (.ref self), .val (.ref p1), .val (.int (0 : Int32)), .val (.int (2 : Int32)), .val .null, .val (.ref b3)] [(.ref b3), (.ref self)])) rfl rfl (hb hby d2_54)
    have N6 := Fr.snoc X6 N5 g_self
    have F_value_self_6 := F_value_self_5.same W6
    have E_self_6 := E_self_5.wr W6
    have F_coder_self_6 := F_coder_self_5.other W6 (Or.inr (slot_ne (Or.inr (hw _ (List.mem_of_getElem? (i := 28) rfl))) (Or.inr (hw _ (List.mem_of_getElem? (i := 30) rfl))) (by decide) (t := .byte) (t' := (.array .byte)) (by decide) (by decide)))
    have V_p1_6 := V_p1_5.other W6 (Ne.symm (ne_ari E_self_5 (hw _ (List.mem_of_getElem? (i := 3) rfl)) V_p1_5))
    have V_b3_6 := V_b3_5.other W6 (Ne.symm ne_self_b3)
    have S_cs_6 := Sta.wr W6 S_cs_5
    have S_ad_6 := Sta.wr W6 S_ad_5
    have S_hi_6 := Sta.wr W6 S_hi_5
    have S_lo_6 := Sta.wr W6 S_lo_5
    have Z_6 : n0 ≤ h6.size := Nat.le_trans Z_5 (Nat.le_of_eq W6.size.symm)
    have KK_6 : Keep h0 h6 [self] := KK_5.wr W6 (Or.inl (List.mem_of_getElem? (i := 0) rfl))
    refine A (st6 _) ?_
    show D (T6.setTop (mkF m 57 #[.val (.ref self), .val (.ref p1), .val (.int (0 : Int32)), .val (.int (2 : Int32)), .val .null, .val (.ref b3)] []))
    exact F _ (Jvm.JW.ret X6 hlk (v := none) (fun _ => rfl) (fun fs hr => X6.returnOut hx hrt (hb hby d2_57) hr) e6 ⟨rfl, b3, _, _, _, N6, KK_6, E_self_6, F_coder_self_6, F_value_self_6, V_b3_6, sz_b3, Or.inl ⟨rfl, rfl, hc0, hc1⟩⟩ (by decide) (by decide))
  · show D (T3.setTop (mkF m 39 #[.val (.ref self), .val (.ref p1), .val (.int (0 : Int32)), .val (.int (2 : Int32)), .val .null, .unset] [(.ref b3)]))
    refine A (XS.astore X3.here hx rfl (hb hby d2_39) rfl rfl (l' := #[.val (.ref self), .val (.ref p1), .val (.int (0 : Int32)), .val (.int (2 : Int32)), .val .null, .val (.ref b3)]) rfl) ?_
    show D (T3.setTop (mkF m 41 #[.val (.ref self), .val (.ref p1), .val (.int (0 : Int32)), .val (.int (2 : Int32)), .val .null, .val (.ref b3)] []))
    refine A (XS.aloadN X3.here hx rfl (hb hby d2_41) rfl rfl) ?_
    show D (T3.setTop (mkF m 42 #[.val (.ref self), .val (.ref p1), .val (.int (0 : Int32)), .val (.int (2 : Int32)), .val .null, .val (.ref b3)] [(.ref self)]))
    refine A (XS.aload X3.here hx rfl (hb hby d2_42) rfl rfl) ?_
    show D (T3.setTop (mkF m 44 #[.val (.ref self), .val (.ref p1), .val (.int (0 : Int32)), .val (.int (2 : Int32)), .val .null, .val (.ref b3)] [(.ref b3), (.ref self)]))
    refine A (XS.iloadN X3.here hx rfl (hb hby d2_44) rfl) ?_
    show D (T3.setTop (mkF m 45 #[.val (.ref self), .val (.ref p1), .val (.int (0 : Int32)), .val (.int (2 : Int32)), .val .null, .val (.ref b3)] [(.int (2 : Int32)), (.ref b3), (.ref self)]))
    refine Adv.callS A X3 hx hZ hown (hw _ (List.mem_of_getElem? (i := 24) rfl)) (hw _ (List.mem_of_getElem? (i := 25) rfl)) (hw _ (List.mem_of_getElem? (i := 18) rfl)) (hw _ (List.mem_of_getElem? (i := 26) rfl)) rfl (rm6_4 l Z a0 hw [] b3 T3.heap n0 fbs V3_q) 1 (g := (mkF m 45 #[.val (.ref self), .val (.ref p1), .val (.int (0 : Int32)), .val (.int (2 : Int32)), .val .null, .val (.ref b3)] [(.int (2 : Int32)), (.ref b3), (.ref self)])) rfl (by rw [hml]; rfl) [(.ref b3), (.int (2 : Int32))] [(.ref self)] rfl (lenOf pd2_1 rfl) rfl (by show 2 * 0 + _ ≤ _; exact Nat.le_of_eq rfl) (hb hby d2_45) (by decide) (by decide) (by decide) (by decide) (by decide) ?_
    rintro T7 L7 _ X7 ⟨rfl, N7_q, e7⟩
    have N7 := Fr.app N3 N7_q
    show D (T7.setTop (mkF m 48 #[.val (.ref self), .val (.ref p1), .val (.int (0 : Int32)), .val (.int (2 : Int32)), .val .null, .val (.ref b3)] [(.int (1 : Int32)), (.ref self)]))
    obtain ⟨T8, h8, X8, e8, W8, st8⟩ := putFN X7 hx hZ hown (hw _ (List.mem_of_getElem? (i := 27) rfl)) Via.refl e7 F_coder_self_3 E_self_3 (Or.inr ⟨(hw _ (List.mem_of_getElem? (i := 28) rfl)), rfl, hnm⟩) (hw _ (List.mem_of_getElem? (i := 3) rfl)) (ty := .byte) (v' := (.int (1 : Int32))) (by decide) rfl (by decide) (g := (mkF m 48 #[.val (.ref self), .val (.ref p1), .val (.int (0 : Int32)), .val (.int (2 : Int32)), .val .null, .val (.ref b3)] [(.int (1 : Int32)), (.ref self)])) rfl rfl (hb hby d2_48)
    have N8 := Fr.snoc X8 N7 g_self
    have F_coder_self_8 := F_coder_self_3.same W8
    have E_self_8 := E_self_3.wr W8
    have F_value_self_8 := F_value_self_3.other W8 (Or.inr (slot_ne (Or.inr (hw _ (List.mem_of_getElem? (i := 30) rfl))) (Or.inr (hw _ (List.mem_of_getElem? (i := 28) rfl))) (by decide) (t := (.array .byte)) (t' := .byte) (by decide) (by decide)))
    have V_p1_8 := V_p1_3.other W8 (Ne.symm (ne_ari E_self_3 (hw _ (List.mem_of_getElem? (i := 3) rfl)) V_p1_3))
    have V_b3_8 := V3_q.other W8 (Ne.symm ne_self_b3)
    have S_cs_8 := Sta.wr W8 S_cs_3
    have S_ad_8 := Sta.wr W8 S_ad_3
    have S_hi_8 := Sta.wr W8 S_hi_3
    have S_lo_8 := Sta.wr W8 S_lo_3
    have Z_8 : n0 ≤ h8.size := Nat.le_trans Z_3 (Nat.le_of_eq W8.size.symm)
    have KK_8 : Keep h0 h8 [self] := KK_3.wr W8 (Or.inl (List.mem_of_getElem? (i := 0) rfl))
    refine A (st8 _) ?_
    show D (T8.setTop (mkF m 51 #[.val (.ref self), .val (.ref p1), .val (.int (0 : Int32)), .val (.int (2 : Int32)), .val .null, .val (.ref b3)] []))
    refine A (XS.aloadN X8.here hx rfl (hb hby d2_51) rfl rfl) ?_
    show D (T8.setTop (mkF m 52 #[.val (.ref self), .val (.ref p1), .val (.int (0 : Int32)), .val (.int (2 : Int32)), .val .null, .val (.ref b3)] [(.ref self)]))
    refine A (XS.aload X8.here hx rfl (hb hby d2_52) rfl rfl) ?_
    show D (T8.setTop (mkF m 54 #[.val (.ref self), .val (.ref p1), .val (.int (0 : Int32)), .val (.int (2 : Int32)), .val .null, .val (.ref b3)] [(.ref b3), (.ref self)]))
    obtain ⟨T9, h9, X9, e9, W9, st9⟩ := putF X8 hx hZ hown (host := "") (Or.inl (hw _ (List.mem_of_getElem? (i := 29) rfl))) Via.refl e8 F_value_self_8 E_self_8 (Or.inr ⟨(hw _ (List.mem_of_getElem? (i := 30) rfl)), rfl, hnm⟩) (hw _ (List.mem_of_getElem? (i := 3) rfl)) (ty := (.array .byte)) (by decide) rfl rfl (g := (mkF m 54 #[.val (.ref self), .val (.ref p1), .val (.int (0 : Int32)), .val (.int (2 : Int32)), .val .null, .val (.ref b3)] [(.ref b3), (.ref self)])) rfl rfl (hb hby d2_54)
    have N9 := Fr.snoc X9 N8 g_self
    have F_value_self_9 := F_value_self_8.same W9
    have E_self_9 := E_self_8.wr W9
    have F_coder_self_9 := F_coder_self_8.other W9 (Or.inr (slot_ne (Or.inr (hw _ (List.mem_of_getElem? (i := 28) rfl))) (Or.inr (hw _ (List.mem_of_getElem? (i := 30) rfl))) (by decide) (t := .byte) (t' := (.array .byte)) (by decide) (by decide)))
    have V_p1_9 := V_p1_8.other W9 (Ne.symm (ne_ari E_self_8 (hw _ (List.mem_of_getElem? (i := 3) rfl)) V_p1_8))
    have V_b3_9 := V_b3_8.other W9 (Ne.symm ne_self_b3)
    have S_cs_9 := Sta.wr W9 S_cs_8
    have S_ad_9 := Sta.wr W9 S_ad_8
    have S_hi_9 := Sta.wr W9 S_hi_8
    have S_lo_9 := Sta.wr W9 S_lo_8
    have Z_9 : n0 ≤ h9.size := Nat.le_trans Z_8 (Nat.le_of_eq W9.size.symm)
    have KK_9 : Keep h0 h9 [self] := KK_8.wr W9 (Or.inl (List.mem_of_getElem? (i := 0) rfl))
    refine A (st9 _) ?_
    show D (T9.setTop (mkF m 57 #[.val (.ref self), .val (.ref p1), .val (.int (0 : Int32)), .val (.int (2 : Int32)), .val .null, .val (.ref b3)] []))
    exact F _ (Jvm.JW.ret X9 hlk (v := none) (fun _ => rfl) (fun fs hr => X9.returnOut hx hrt (hb hby d2_57) hr) e9 ⟨rfl, b3, _, _, _, N9, KK_9, E_self_9, F_coder_self_9, F_value_self_9, V_b3_9, sz_b3, Or.inr ⟨rfl, rfl, hc0, hc1⟩⟩ (by decide) (by decide))
theorem d1_0 : decode jdk_42_method_3_code 0 = .ok (.aload_n 0, 1) := by decide +kernel
theorem d1_1 : decode jdk_42_method_3_code 1 = .ok (.aload_n 1, 1) := by decide +kernel
theorem d1_2 : decode jdk_42_method_3_code 2 = .ok (.iconst 0, 1) := by decide +kernel
theorem d1_3 : decode jdk_42_method_3_code 3 = .ok (.aload_n 1, 1) := by decide +kernel
theorem d1_4 : decode jdk_42_method_3_code 4 = .ok (.arraylength, 1) := by decide +kernel
theorem d1_5 : decode jdk_42_method_3_code 5 = .ok (.aconst_null, 1) := by decide +kernel
theorem d1_6 : decode jdk_42_method_3_code 6 = .ok (.invokespecial 27, 3) := by decide +kernel
theorem d1_9 : decode jdk_42_method_3_code 9 = .ok (.return_, 1) := by decide +kernel
theorem pn1 : plainFor (⟨"java/lang/String", "<init>", "([C)V"⟩ : MethodName) = true := by decide +kernel
theorem pd1_0 : parseMethodDescriptor "([CIILjava/lang/Void;)V" = some ⟨[(.array .char), .int, .int, (.object "java/lang/Void")], none⟩ := by decide +kernel
theorem ef1 (self : Addr) (p1 : Addr) (m : MethodId) : entryFrame m #[(.ref self), (.ref p1)] 2 = mkF m 0 #[.val (.ref self), .val (.ref p1)] [] := by first | (simp [entryFrame, mkF, argsToLocals, Value.category]; done) | rfl
set_option maxRecDepth 65536 in
set_option maxHeartbeats 40000000 in
theorem rm1 (l : Launch) (Z : State) (a0 : Array Value) (hw : ∀ d ∈ tables_1, d.before a0 Z = true) (ws : List Jvm.Cond) (self : Addr) (p1 : Addr) (h0 : Heap) (n0 : Nat) (cs : Int32) (hcs : ¬ cs = (0 : Int32)) (f : Nat → Int32) (hch : ∀ k, k < 2 → own_chr (f k)) (Z0 : n0 ≤ h0.size) (g_self : n0 ≤ self) (E_self : Exa Z h0 self "java/lang/String") (F_coder : Fld Z h0 self "java/lang/String" "coder" "B" (.int (0 : Int32))) (F_value : Fld Z h0 self "java/lang/String" "value" "[B" .null) (V_p1 : ArI Z h0 p1 .char 2 f) (S_cs : Sta Z h0 "java/lang/String" "COMPACT_STRINGS" "Z" (.int cs)) (S_ad : Sta Z h0 "java/lang/StringUTF16" "$assertionsDisabled" "Z" (.int (1 : Int32))) (S_hi : Sta Z h0 "java/lang/StringUTF16" "HI_BYTE_SHIFT" "I" (.int (0 : Int32))) (S_lo : Sta Z h0 "java/lang/StringUTF16" "LO_BYTE_SHIFT" "I" (.int (8 : Int32))) :
    JMet l Z (⟨"java/lang/String", "<init>", "([C)V"⟩ : MethodName) jdk_42_method_3_code 2 none ws ({ frames := 5, cells := 2, slots := 6, locals := 74 } : Room) #[(.ref self), (.ref p1)] h0 (fun v h L => v = none ∧ ∃ (b : Addr) (cd : Int32) (nb : Nat) (fb : Nat → Int32), Fr n0 L ∧ Keep h0 h [self] ∧ Exa Z h self "java/lang/String" ∧ Fld Z h self "java/lang/String" "coder" "B" (.int cd) ∧ Fld Z h self "java/lang/String" "value" "[B" (.ref b) ∧ ArI Z h b .byte nb fb ∧ h0.size ≤ b ∧ own_S cd nb fb (f 0) (f 1)) := by
  refine Jvm.JW.body #[.val (.ref self), .val (.ref p1)] pn1 (ef1 self p1) ?_
  intro p e s m below meth c T0 D A F X0 hx hZ hby hml hown hnm hrt hlk e0
  refine A (XS.aloadN X0.here hx rfl (hb hby d1_0) rfl rfl) ?_
  show D (T0.setTop (mkF m 1 #[.val (.ref self), .val (.ref p1)] [(.ref self)]))
  refine A (XS.aloadN X0.here hx rfl (hb hby d1_1) rfl rfl) ?_
  show D (T0.setTop (mkF m 2 #[.val (.ref self), .val (.ref p1)] [(.ref p1), (.ref self)]))
  refine A (XS.iconst X0.here hx rfl (hb hby d1_2)) ?_
  show D (T0.setTop (mkF m 3 #[.val (.ref self), .val (.ref p1)] [(.int (0 : Int32)), (.ref p1), (.ref self)]))
  refine A (XS.aloadN X0.here hx rfl (hb hby d1_3) rfl rfl) ?_
  show D (T0.setTop (mkF m 4 #[.val (.ref self), .val (.ref p1)] [(.ref p1), (.int (0 : Int32)), (.ref p1), (.ref self)]))
  refine Adv.lenI A X0 hx hZ e0 V_p1 (g := (mkF m 4 #[.val (.ref self), .val (.ref p1)] [(.ref p1), (.int (0 : Int32)), (.ref p1), (.ref self)])) rfl rfl (hb hby d1_4) ?_
  show D (T0.setTop (mkF m 5 #[.val (.ref self), .val (.ref p1)] [(.int (2 : Int32)), (.int (0 : Int32)), (.ref p1), (.ref self)]))
  refine A (XS.aconstNull X0.here hx rfl (hb hby d1_5)) ?_
  show D (T0.setTop (mkF m 6 #[.val (.ref self), .val (.ref p1)] [.null, (.int (2 : Int32)), (.int (0 : Int32)), (.ref p1), (.ref self)]))
  refine Adv.callI A X0 hx hZ hown rfl (hw _ (List.mem_of_getElem? (i := 8) rfl)) (hw _ (List.mem_of_getElem? (i := 9) rfl)) (hw _ (List.mem_of_getElem? (i := 4) rfl)) (hw _ (List.mem_of_getElem? (i := 11) rfl)) e0 (rm2 l Z a0 hw [] self p1 h0 n0 cs hcs f hch Z0 g_self E_self F_coder F_value V_p1 S_cs S_ad S_hi S_lo) 0 (g := (mkF m 6 #[.val (.ref self), .val (.ref p1)] [.null, (.int (2 : Int32)), (.int (0 : Int32)), (.ref p1), (.ref self)])) rfl (by rw [hml]; rfl) self [(.ref p1), (.int (0 : Int32)), (.int (2 : Int32)), .null] [] rfl (lenOf pd1_0 rfl) rfl (by show 2 * 0 + _ ≤ _; exact Nat.le_of_eq rfl) (hb hby d1_6) (by decide) (by decide) (by decide) (by decide) (by decide) ?_
  rintro T1 L1 _ X1 ⟨rfl, b1, cd, nb, fb, N1_q, K1, -, F1_c, F1_v, V1_q, szq_b1, hSt⟩
  have N1 := Fr.app (Fr.nil n0) N1_q
  have ne_self_b1 : self ≠ b1 := Nat.ne_of_lt (Nat.lt_of_lt_of_le E_self.lt szq_b1)
  have ne_p1_b1 : p1 ≠ b1 := Nat.ne_of_lt (Nat.lt_of_lt_of_le V_p1.lt szq_b1)
  have g_b1 : n0 ≤ b1 := Nat.le_trans Z0 szq_b1
  have sz_b1 : h0.size ≤ b1 := Nat.le_trans (Keep.refl h0 [self]).1 szq_b1
  have E_self_1 := E_self.keep K1
  have V_p1_1 := V_p1.keep K1 (ninS (Ne.symm (ne_ari E_self (hw _ (List.mem_of_getElem? (i := 3) rfl)) V_p1)) nin0)
  have S_cs_1 := own_stk S_cs K1 (own_nsc (own_nsE E_self) own_nsn)
  have S_ad_1 := own_stk S_ad K1 (own_nsc (own_nsE E_self) own_nsn)
  have S_hi_1 := own_stk S_hi K1 (own_nsc (own_nsE E_self) own_nsn)
  have S_lo_1 := own_stk S_lo K1 (own_nsc (own_nsE E_self) own_nsn)
  have Z_1 : n0 ≤ T1.heap.size := Nat.le_trans Z0 K1.1
  have KK_1 : Keep h0 T1.heap [self] := (Keep.refl h0 [self]).trans K1 (allS (Or.inl (List.mem_of_getElem? (i := 0) rfl)) all0)
  show D (T1.setTop (mkF m 9 #[.val (.ref self), .val (.ref p1)] []))
  exact F _ (Jvm.JW.ret X1 hlk (v := none) (fun _ => rfl) (fun fs hr => X1.returnOut hx hrt (hb hby d1_9) hr) rfl ⟨rfl, b1, _, _, _, N1, KK_1, E_self_1, F1_c, F1_v, V1_q, sz_b1, hSt⟩ (by decide) (by decide))
theorem d25_0 : decode jdk_41_method_11_code 0 = .ok (.iload_n 0, 1) := by decide +kernel
theorem d25_1 : decode jdk_41_method_11_code 1 = .ok (.ifCond .lt 8, 3) := by decide +kernel
theorem d25_4 : decode jdk_41_method_11_code 4 = .ok (.iload_n 0, 1) := by decide +kernel
theorem d25_5 : decode jdk_41_method_11_code 5 = .ok (.iload_n 1, 1) := by decide +kernel
theorem d25_6 : decode jdk_41_method_11_code 6 = .ok (.if_icmp .lt 10, 3) := by decide +kernel
theorem d25_16 : decode jdk_41_method_11_code 16 = .ok (.iload_n 0, 1) := by decide +kernel
theorem d25_17 : decode jdk_41_method_11_code 17 = .ok (.ireturn, 1) := by decide +kernel
theorem pn25 : plainFor (⟨"jdk/internal/util/Preconditions", "checkIndex", "(IILjava/util/function/BiFunction;)I"⟩ : MethodName) = true := by decide +kernel
theorem ef25n (p1 : Int32) (p2 : Int32) (m : MethodId) : entryFrame m #[(.int p1), (.int p2), .null] 3 = mkF m 0 #[.val (.int p1), .val (.int p2), .val .null] [] := by first | (simp [entryFrame, mkF, argsToLocals, Value.category]; done) | rfl
set_option maxRecDepth 65536 in
set_option maxHeartbeats 40000000 in
theorem rm25n (l : Launch) (Z : State) (a0 : Array Value) (hw : ∀ d ∈ tables_1, d.before a0 Z = true) (ws : List Jvm.Cond) (p1 : Int32) (p2 : Int32) (h0 : Heap) (n0 : Nat) (hneg : ¬ p1 < (0 : Int32)) (hlt : p1 < p2) :
    JMet l Z (⟨"jdk/internal/util/Preconditions", "checkIndex", "(IILjava/util/function/BiFunction;)I"⟩ : MethodName) jdk_41_method_11_code 3 (some .int) ws ({ frames := 0, cells := 0, slots := 0, locals := 0 } : Room) #[(.int p1), (.int p2), .null] h0 (QP (.int p1) h0 n0) := by
  refine Jvm.JW.body #[.val (.int p1), .val (.int p2), .val .null] pn25 (ef25n p1 p2) ?_
  intro p e s m below meth c T0 D A F X0 hx hZ hby hml hown hnm hrt hlk e0
  refine A (XS.iloadN X0.here hx rfl (hb hby d25_0) rfl) ?_
  show D (T0.setTop (mkF m 1 #[.val (.int p1), .val (.int p2), .val .null] [(.int p1)]))
  refine A (XS.ifNo X0.here hx rfl (hb hby d25_1) rfl ((if0 _ _).trans (flt hneg).1)) ?_
  show D (T0.setTop (mkF m 4 #[.val (.int p1), .val (.int p2), .val .null] []))
  refine A (XS.iloadN X0.here hx rfl (hb hby d25_4) rfl) ?_
  show D (T0.setTop (mkF m 5 #[.val (.int p1), .val (.int p2), .val .null] [(.int p1)]))
  refine A (XS.iloadN X0.here hx rfl (hb hby d25_5) rfl) ?_
  show D (T0.setTop (mkF m 6 #[.val (.int p1), .val (.int p2), .val .null] [(.int p2), (.int p1)]))
  refine A (XS.icmpYes X0.here hx rfl (pc0 := 6) (pc' := 16) rfl (hb hby d25_6) rfl (tlt hlt).1 (by decide) (by decide)) ?_
  show D (T0.setTop (mkF m 16 #[.val (.int p1), .val (.int p2), .val .null] []))
  refine A (XS.iloadN X0.here hx rfl (hb hby d25_16) rfl) ?_
  show D (T0.setTop (mkF m 17 #[.val (.int p1), .val (.int p2), .val .null] [(.int p1)]))
  refine F _ (Jvm.JW.ret X0 hlk (v := some (.int p1)) (fun h => by rw [hrt] at h; cases h) (fun fs hr => retOut X0 hx hrt rfl (Or.inl ⟨rfl, Or.inl rfl, _, rfl⟩) (hb hby d25_17) hr) rfl ?_ (by decide) (by decide))
  exact ⟨rfl, (Fr.nil n0), e0⟩
theorem ef25 (p1 : Int32) (p2 : Int32) (p3 : Addr) (m : MethodId) : entryFrame m #[(.int p1), (.int p2), (.ref p3)] 3 = mkF m 0 #[.val (.int p1), .val (.int p2), .val (.ref p3)] [] := by first | (simp [entryFrame, mkF, argsToLocals, Value.category]; done) | rfl
set_option maxRecDepth 65536 in
set_option maxHeartbeats 40000000 in
theorem rm25r (l : Launch) (Z : State) (a0 : Array Value) (hw : ∀ d ∈ tables_1, d.before a0 Z = true) (ws : List Jvm.Cond) (p1 : Int32) (p2 : Int32) (p3 : Addr) (h0 : Heap) (n0 : Nat) (hneg : ¬ p1 < (0 : Int32)) (hlt : p1 < p2) :
    JMet l Z (⟨"jdk/internal/util/Preconditions", "checkIndex", "(IILjava/util/function/BiFunction;)I"⟩ : MethodName) jdk_41_method_11_code 3 (some .int) ws ({ frames := 0, cells := 0, slots := 0, locals := 0 } : Room) #[(.int p1), (.int p2), (.ref p3)] h0 (QP (.int p1) h0 n0) := by
  refine Jvm.JW.body #[.val (.int p1), .val (.int p2), .val (.ref p3)] pn25 (ef25 p1 p2 p3) ?_
  intro p e s m below meth c T0 D A F X0 hx hZ hby hml hown hnm hrt hlk e0
  refine A (XS.iloadN X0.here hx rfl (hb hby d25_0) rfl) ?_
  show D (T0.setTop (mkF m 1 #[.val (.int p1), .val (.int p2), .val (.ref p3)] [(.int p1)]))
  refine A (XS.ifNo X0.here hx rfl (hb hby d25_1) rfl ((if0 _ _).trans (flt hneg).1)) ?_
  show D (T0.setTop (mkF m 4 #[.val (.int p1), .val (.int p2), .val (.ref p3)] []))
  refine A (XS.iloadN X0.here hx rfl (hb hby d25_4) rfl) ?_
  show D (T0.setTop (mkF m 5 #[.val (.int p1), .val (.int p2), .val (.ref p3)] [(.int p1)]))
  refine A (XS.iloadN X0.here hx rfl (hb hby d25_5) rfl) ?_
  show D (T0.setTop (mkF m 6 #[.val (.int p1), .val (.int p2), .val (.ref p3)] [(.int p2), (.int p1)]))
  refine A (XS.icmpYes X0.here hx rfl (pc0 := 6) (pc' := 16) rfl (hb hby d25_6) rfl (tlt hlt).1 (by decide) (by decide)) ?_
  show D (T0.setTop (mkF m 16 #[.val (.int p1), .val (.int p2), .val (.ref p3)] []))
  refine A (XS.iloadN X0.here hx rfl (hb hby d25_16) rfl) ?_
  show D (T0.setTop (mkF m 17 #[.val (.int p1), .val (.int p2), .val (.ref p3)] [(.int p1)]))
  refine F _ (Jvm.JW.ret X0 hlk (v := some (.int p1)) (fun h => by rw [hrt] at h; cases h) (fun fs hr => retOut X0 hx hrt rfl (Or.inl ⟨rfl, Or.inl rfl, _, rfl⟩) (hb hby d25_17) hr) rfl ?_ (by decide) (by decide))
  exact ⟨rfl, (Fr.nil n0), e0⟩
theorem d24_0 : decode jdk_42_method_155_code 0 = .ok (.iload_n 0, 1) := by decide +kernel
theorem d24_1 : decode jdk_42_method_155_code 1 = .ok (.iload_n 1, 1) := by decide +kernel
theorem d24_2 : decode jdk_42_method_155_code 2 = .ok (.getstatic 1053, 3) := by decide +kernel
theorem d24_5 : decode jdk_42_method_155_code 5 = .ok (.invokestatic 1059, 3) := by decide +kernel
theorem d24_8 : decode jdk_42_method_155_code 8 = .ok (.pop, 1) := by decide +kernel
theorem d24_9 : decode jdk_42_method_155_code 9 = .ok (.return_, 1) := by decide +kernel
theorem pn24 : plainFor (⟨"java/lang/String", "checkIndex", "(II)V"⟩ : MethodName) = true := by decide +kernel
theorem pd24_0 : parseMethodDescriptor "(IILjava/util/function/BiFunction;)I" = some ⟨[.int, .int, (.object "java/util/function/BiFunction")], some .int⟩ := by decide +kernel
theorem ef24 (p1 : Int32) (p2 : Int32) (m : MethodId) : entryFrame m #[(.int p1), (.int p2)] 2 = mkF m 0 #[.val (.int p1), .val (.int p2)] [] := by first | (simp [entryFrame, mkF, argsToLocals, Value.category]; done) | rfl
set_option maxRecDepth 65536 in
set_option maxHeartbeats 40000000 in
theorem rm24n (l : Launch) (Z : State) (a0 : Array Value) (hw : ∀ d ∈ tables_1, d.before a0 Z = true) (ws : List Jvm.Cond) (p1 : Int32) (p2 : Int32) (h0 : Heap) (n0 : Nat) (hneg : ¬ p1 < (0 : Int32)) (hlt : p1 < p2) (S_sf : Sta Z h0 "jdk/internal/util/Preconditions" "SIOOBE_FORMATTER" "Ljava/util/function/BiFunction;" .null) :
    JMet l Z (⟨"java/lang/String", "checkIndex", "(II)V"⟩ : MethodName) jdk_42_method_155_code 2 none ws ({ frames := 1, cells := 0, slots := 0, locals := 14 } : Room) #[(.int p1), (.int p2)] h0 (fun v h L => v = none ∧ Fr n0 L ∧ h = h0) := by
  refine Jvm.JW.body #[.val (.int p1), .val (.int p2)] pn24 (ef24 p1 p2) ?_
  intro p e s m below meth c T0 D A F X0 hx hZ hby hml hown hnm hrt hlk e0
  refine A (XS.iloadN X0.here hx rfl (hb hby d24_0) rfl) ?_
  show D (T0.setTop (mkF m 1 #[.val (.int p1), .val (.int p2)] [(.int p1)]))
  refine A (XS.iloadN X0.here hx rfl (hb hby d24_1) rfl) ?_
  show D (T0.setTop (mkF m 2 #[.val (.int p1), .val (.int p2)] [(.int p2), (.int p1)]))
  obtain ⟨T1, X1, e1, st1⟩ := getS X0 hx hZ hown (host := "") (hw _ (List.mem_of_getElem? (i := 155) rfl)) Via.refl e0 S_sf (g := (mkF m 2 #[.val (.int p1), .val (.int p2)] [(.int p2), (.int p1)])) rfl (hb hby d24_2)
  refine A (st1 _) ?_
  show D (T1.setTop (mkF m 5 #[.val (.int p1), .val (.int p2)] [.null, (.int p2), (.int p1)]))
  refine Adv.callS A X1 hx hZ hown (hw _ (List.mem_of_getElem? (i := 157) rfl)) (hw _ (List.mem_of_getElem? (i := 158) rfl)) (hw _ (List.mem_of_getElem? (i := 156) rfl)) (hw _ (List.mem_of_getElem? (i := 159) rfl)) e1 (rm25n l Z a0 hw [] p1 p2 h0 n0 hneg hlt) 0 (g := (mkF m 5 #[.val (.int p1), .val (.int p2)] [.null, (.int p2), (.int p1)])) rfl (by rw [hml]; rfl) [(.int p1), (.int p2), .null] [] rfl (lenOf pd24_0 rfl) rfl (by show 2 * 0 + _ ≤ _; exact Nat.le_of_eq rfl) (hb hby d24_5) (by decide) (by decide) (by decide) (by decide) (by decide) ?_
  rintro T2 L2 _ X2 ⟨rfl, N2_q, e2⟩
  have N2 := Fr.app (Fr.nil n0) N2_q
  show D (T2.setTop (mkF m 8 #[.val (.int p1), .val (.int p2)] [(.int p1)]))
  refine A (XS.pop X2.here hx rfl (hb hby d24_8) rfl rfl) ?_
  show D (T2.setTop (mkF m 9 #[.val (.int p1), .val (.int p2)] []))
  exact F _ (Jvm.JW.ret X2 hlk (v := none) (fun _ => rfl) (fun fs hr => X2.returnOut hx hrt (hb hby d24_9) hr) rfl ⟨rfl, N2, e2⟩ (by decide) (by decide))
set_option maxRecDepth 65536 in
set_option maxHeartbeats 40000000 in
theorem rm24r (l : Launch) (Z : State) (a0 : Array Value) (hw : ∀ d ∈ tables_1, d.before a0 Z = true) (ws : List Jvm.Cond) (p1 : Int32) (p2 : Int32) (h0 : Heap) (n0 : Nat) (hneg : ¬ p1 < (0 : Int32)) (hlt : p1 < p2) (sf : Addr) (S_sf : Sta Z h0 "jdk/internal/util/Preconditions" "SIOOBE_FORMATTER" "Ljava/util/function/BiFunction;" (.ref sf)) :
    JMet l Z (⟨"java/lang/String", "checkIndex", "(II)V"⟩ : MethodName) jdk_42_method_155_code 2 none ws ({ frames := 1, cells := 0, slots := 0, locals := 14 } : Room) #[(.int p1), (.int p2)] h0 (fun v h L => v = none ∧ Fr n0 L ∧ h = h0) := by
  refine Jvm.JW.body #[.val (.int p1), .val (.int p2)] pn24 (ef24 p1 p2) ?_
  intro p e s m below meth c T0 D A F X0 hx hZ hby hml hown hnm hrt hlk e0
  refine A (XS.iloadN X0.here hx rfl (hb hby d24_0) rfl) ?_
  show D (T0.setTop (mkF m 1 #[.val (.int p1), .val (.int p2)] [(.int p1)]))
  refine A (XS.iloadN X0.here hx rfl (hb hby d24_1) rfl) ?_
  show D (T0.setTop (mkF m 2 #[.val (.int p1), .val (.int p2)] [(.int p2), (.int p1)]))
  obtain ⟨T1, X1, e1, st1⟩ := getS X0 hx hZ hown (host := "") (hw _ (List.mem_of_getElem? (i := 155) rfl)) Via.refl e0 S_sf (g := (mkF m 2 #[.val (.int p1), .val (.int p2)] [(.int p2), (.int p1)])) rfl (hb hby d24_2)
  refine A (st1 _) ?_
  show D (T1.setTop (mkF m 5 #[.val (.int p1), .val (.int p2)] [(.ref sf), (.int p2), (.int p1)]))
  refine Adv.callS A X1 hx hZ hown (hw _ (List.mem_of_getElem? (i := 157) rfl)) (hw _ (List.mem_of_getElem? (i := 158) rfl)) (hw _ (List.mem_of_getElem? (i := 156) rfl)) (hw _ (List.mem_of_getElem? (i := 159) rfl)) e1 (rm25r l Z a0 hw [] p1 p2 sf h0 n0 hneg hlt) 0 (g := (mkF m 5 #[.val (.int p1), .val (.int p2)] [(.ref sf), (.int p2), (.int p1)])) rfl (by rw [hml]; rfl) [(.int p1), (.int p2), (.ref sf)] [] rfl (lenOf pd24_0 rfl) rfl (by show 2 * 0 + _ ≤ _; exact Nat.le_of_eq rfl) (hb hby d24_5) (by decide) (by decide) (by decide) (by decide) (by decide) ?_
  rintro T2 L2 _ X2 ⟨rfl, N2_q, e2⟩
  have N2 := Fr.app (Fr.nil n0) N2_q
  show D (T2.setTop (mkF m 8 #[.val (.int p1), .val (.int p2)] [(.int p1)]))
  refine A (XS.pop X2.here hx rfl (hb hby d24_8) rfl rfl) ?_
  show D (T2.setTop (mkF m 9 #[.val (.int p1), .val (.int p2)] []))
  exact F _ (Jvm.JW.ret X2 hlk (v := none) (fun _ => rfl) (fun fs hr => X2.returnOut hx hrt (hb hby d24_9) hr) rfl ⟨rfl, N2, e2⟩ (by decide) (by decide))
theorem rm24 (l : Launch) (Z : State) (a0 : Array Value) (hw : ∀ d ∈ tables_1, d.before a0 Z = true) (ws : List Jvm.Cond) (p1 : Int32) (p2 : Int32) (h0 : Heap) (n0 : Nat) (hneg : ¬ p1 < (0 : Int32)) (hlt : p1 < p2) (sf : Value) (hsf : sf.isRef = true) (S_sf : Sta Z h0 "jdk/internal/util/Preconditions" "SIOOBE_FORMATTER" "Ljava/util/function/BiFunction;" sf) : JMet l Z (⟨"java/lang/String", "checkIndex", "(II)V"⟩ : MethodName) jdk_42_method_155_code 2 none ws ({ frames := 1, cells := 0, slots := 0, locals := 14 } : Room) #[(.int p1), (.int p2)] h0 (fun v h L => v = none ∧ Fr n0 L ∧ h = h0) := by
  rcases ref_cases hsf with rfl | ⟨q, rfl⟩
  · exact rm24n l Z a0 hw ws p1 p2 h0 n0 hneg hlt S_sf
  · exact rm24r l Z a0 hw ws p1 p2 h0 n0 hneg hlt q S_sf
theorem d23_0 : decode jdk_43_method_2_code 0 = .ok (.iload_n 1, 1) := by decide +kernel
theorem d23_1 : decode jdk_43_method_2_code 1 = .ok (.aload_n 0, 1) := by decide +kernel
theorem d23_2 : decode jdk_43_method_2_code 2 = .ok (.arraylength, 1) := by decide +kernel
theorem d23_3 : decode jdk_43_method_2_code 3 = .ok (.invokestatic 9, 3) := by decide +kernel
theorem d23_6 : decode jdk_43_method_2_code 6 = .ok (.aload_n 0, 1) := by decide +kernel
theorem d23_7 : decode jdk_43_method_2_code 7 = .ok (.iload_n 1, 1) := by decide +kernel
theorem d23_8 : decode jdk_43_method_2_code 8 = .ok (.baload, 1) := by decide +kernel
theorem d23_9 : decode jdk_43_method_2_code 9 = .ok (.sipush 255, 3) := by decide +kernel
theorem d23_12 : decode jdk_43_method_2_code 12 = .ok (.iand, 1) := by decide +kernel
theorem d23_13 : decode jdk_43_method_2_code 13 = .ok (.i2c, 1) := by decide +kernel
theorem d23_14 : decode jdk_43_method_2_code 14 = .ok (.ireturn, 1) := by decide +kernel
theorem pn23 : plainFor (⟨"java/lang/StringLatin1", "charAt", "([BI)C"⟩ : MethodName) = true := by decide +kernel
theorem pd23_0 : parseMethodDescriptor "(II)V" = some ⟨[.int, .int], none⟩ := by decide +kernel
theorem ef23 (p1 : Addr) (p2 : Int32) (m : MethodId) : entryFrame m #[(.ref p1), (.int p2)] 2 = mkF m 0 #[.val (.ref p1), .val (.int p2)] [] := by first | (simp [entryFrame, mkF, argsToLocals, Value.category]; done) | rfl
set_option maxRecDepth 65536 in
set_option maxHeartbeats 40000000 in
theorem rm23 (l : Launch) (Z : State) (a0 : Array Value) (hw : ∀ d ∈ tables_1, d.before a0 Z = true) (ws : List Jvm.Cond) (p1 : Addr) (p2 : Int32) (h0 : Heap) (n0 : Nat) (f : Nat → Int32) (kk : Nat) (hk : p2.toInt = kk) (hk2 : kk < 2) (sf : Value) (hsf : sf.isRef = true) (S_sf : Sta Z h0 "jdk/internal/util/Preconditions" "SIOOBE_FORMATTER" "Ljava/util/function/BiFunction;" sf) (V_p1 : ArI Z h0 p1 .byte 2 f) :
    JMet l Z (⟨"java/lang/StringLatin1", "charAt", "([BI)C"⟩ : MethodName) jdk_43_method_2_code 2 (some .char) ws ({ frames := 2, cells := 0, slots := 0, locals := 27 } : Room) #[(.ref p1), (.int p2)] h0 (QP (.int (own_ch (f kk))) h0 n0) := by
  refine Jvm.JW.body #[.val (.ref p1), .val (.int p2)] pn23 (ef23 p1 p2) ?_
  intro p e s m below meth c T0 D A F X0 hx hZ hby hml hown hnm hrt hlk e0
  refine A (XS.iloadN X0.here hx rfl (hb hby d23_0) rfl) ?_
  show D (T0.setTop (mkF m 1 #[.val (.ref p1), .val (.int p2)] [(.int p2)]))
  refine A (XS.aloadN X0.here hx rfl (hb hby d23_1) rfl rfl) ?_
  show D (T0.setTop (mkF m 2 #[.val (.ref p1), .val (.int p2)] [(.ref p1), (.int p2)]))
  refine Adv.lenI A X0 hx hZ e0 V_p1 (g := (mkF m 2 #[.val (.ref p1), .val (.int p2)] [(.ref p1), (.int p2)])) rfl rfl (hb hby d23_2) ?_
  show D (T0.setTop (mkF m 3 #[.val (.ref p1), .val (.int p2)] [(.int (2 : Int32)), (.int p2)]))
  refine Adv.callS A X0 hx hZ hown (hw _ (List.mem_of_getElem? (i := 152) rfl)) (hw _ (List.mem_of_getElem? (i := 153) rfl)) (hw _ (List.mem_of_getElem? (i := 4) rfl)) (hw _ (List.mem_of_getElem? (i := 154) rfl)) e0 (rm24 l Z a0 hw [] p2 (2 : Int32) h0 n0 (own_neg hk) (own_l2 hk hk2) sf hsf S_sf) 0 (g := (mkF m 3 #[.val (.ref p1), .val (.int p2)] [(.int (2 : Int32)), (.int p2)])) rfl (by rw [hml]; rfl) [(.int p2), (.int (2 : Int32))] [] rfl (lenOf pd23_0 rfl) rfl (by show 2 * 0 + _ ≤ _; exact Nat.le_of_eq rfl) (hb hby d23_3) (by decide) (by decide) (by decide) (by decide) (by decide) ?_
  rintro T1 L1 _ X1 ⟨rfl, N1_q, e1⟩
  have N1 := Fr.app (Fr.nil n0) N1_q
  show D (T1.setTop (mkF m 6 #[.val (.ref p1), .val (.int p2)] []))
  refine A (XS.aloadN X1.here hx rfl (hb hby d23_6) rfl rfl) ?_
  show D (T1.setTop (mkF m 7 #[.val (.ref p1), .val (.int p2)] [(.ref p1)]))
  refine A (XS.iloadN X1.here hx rfl (hb hby d23_7) rfl) ?_
  show D (T1.setTop (mkF m 8 #[.val (.ref p1), .val (.int p2)] [(.int p2), (.ref p1)]))
  refine Adv.ldB A X1 hx hZ e1 V_p1 (k := kk) hk hk2 (g := (mkF m 8 #[.val (.ref p1), .val (.int p2)] [(.int p2), (.ref p1)])) rfl rfl (hb hby d23_8) ?_
  show D (T1.setTop (mkF m 9 #[.val (.ref p1), .val (.int p2)] [(.int (f kk))]))
  refine A (XS.sipush X1.here hx rfl (hb hby d23_9)) ?_
  show D (T1.setTop (mkF m 12 #[.val (.ref p1), .val (.int p2)] [(.int (255 : Int32)), (.int (f kk))]))
  refine A (XS.iand X1.here hx rfl (hb hby d23_12) rfl) ?_
  show D (T1.setTop (mkF m 13 #[.val (.ref p1), .val (.int p2)] [(.int ((f kk) &&& (255 : Int32)))]))
  refine A (XS.i2c X1.here hx rfl (hb hby d23_13) rfl) ?_
  show D (T1.setTop (mkF m 14 #[.val (.ref p1), .val (.int p2)] [(.int (((f kk) &&& (255 : Int32)).toUInt32.toUInt16.toUInt32.toInt32))]))
  refine F _ (Jvm.JW.ret X1 hlk (v := some (.int (((f kk) &&& (255 : Int32)).toUInt32.toUInt16.toUInt32.toInt32))) (fun h => by rw [hrt] at h; cases h) (fun fs hr => retOut X1 hx hrt (own_nc _) (Or.inl ⟨rfl, Or.inr (Or.inr (Or.inr (Or.inl rfl))), _, rfl⟩) (hb hby d23_14) hr) rfl ?_ (by decide) (by decide))
  exact ⟨rfl, N1, e1⟩
theorem d37_0 : decode jdk_52_method_6_code 0 = .ok (.aload_n 0, 1) := by decide +kernel
theorem d37_1 : decode jdk_52_method_6_code 1 = .ok (.arraylength, 1) := by decide +kernel
theorem d37_2 : decode jdk_52_method_6_code 2 = .ok (.iconst 1, 1) := by decide +kernel
theorem d37_3 : decode jdk_52_method_6_code 3 = .ok (.ishr, 1) := by decide +kernel
theorem d37_4 : decode jdk_52_method_6_code 4 = .ok (.ireturn, 1) := by decide +kernel
theorem pn37 : plainFor (⟨"java/lang/StringUTF16", "length", "([B)I"⟩ : MethodName) = true := by decide +kernel
theorem ef37 (p1 : Addr) (m : MethodId) : entryFrame m #[(.ref p1)] 1 = mkF m 0 #[.val (.ref p1)] [] := by first | (simp [entryFrame, mkF, argsToLocals, Value.category]; done) | rfl
set_option maxRecDepth 65536 in
set_option maxHeartbeats 40000000 in
theorem rm37 (l : Launch) (Z : State) (a0 : Array Value) (hw : ∀ d ∈ tables_1, d.before a0 Z = true) (ws : List Jvm.Cond) (p1 : Addr) (h0 : Heap) (n0 : Nat) (f : Nat → Int32) (V_p1 : ArI Z h0 p1 .byte 4 f) :
    JMet l Z (⟨"java/lang/StringUTF16", "length", "([B)I"⟩ : MethodName) jdk_52_method_6_code 1 (some .int) ws ({ frames := 0, cells := 0, slots := 0, locals := 0 } : Room) #[(.ref p1)] h0 (QP (.int (2 : Int32)) h0 n0) := by
  refine Jvm.JW.body #[.val (.ref p1)] pn37 (ef37 p1) ?_
  intro p e s m below meth c T0 D A F X0 hx hZ hby hml hown hnm hrt hlk e0
  refine A (XS.aloadN X0.here hx rfl (hb hby d37_0) rfl rfl) ?_
  show D (T0.setTop (mkF m 1 #[.val (.ref p1)] [(.ref p1)]))
  refine Adv.lenI A X0 hx hZ e0 V_p1 (g := (mkF m 1 #[.val (.ref p1)] [(.ref p1)])) rfl rfl (hb hby d37_1) ?_
  show D (T0.setTop (mkF m 2 #[.val (.ref p1)] [(.int (4 : Int32))]))
  refine A (XS.iconst X0.here hx rfl (hb hby d37_2)) ?_
  show D (T0.setTop (mkF m 3 #[.val (.ref p1)] [(.int (1 : Int32)), (.int (4 : Int32))]))
  refine A (XS.ishr X0.here hx rfl (hb hby d37_3) rfl) ?_
  show D (T0.setTop (mkF m 4 #[.val (.ref p1)] [(.int ((4 : Int32) >>> ((1 : Int32) &&& 31)))]))
  refine F _ (Jvm.JW.ret X0 hlk (v := some (.int ((4 : Int32) >>> ((1 : Int32) &&& 31)))) (fun h => by rw [hrt] at h; cases h) (fun fs hr => retOut X0 hx hrt rfl (Or.inl ⟨rfl, Or.inl rfl, _, rfl⟩) (hb hby d37_4) hr) rfl ?_ (by decide) (by decide))
  exact ⟨congrArg (fun z => some (Value.int z)) (by decide), (Fr.nil n0), e0⟩
theorem d36_0 : decode jdk_52_method_91_code 0 = .ok (.iload_n 0, 1) := by decide +kernel
theorem d36_1 : decode jdk_52_method_91_code 1 = .ok (.aload_n 1, 1) := by decide +kernel
theorem d36_2 : decode jdk_52_method_91_code 2 = .ok (.invokestatic 48, 3) := by decide +kernel
theorem d36_5 : decode jdk_52_method_91_code 5 = .ok (.invokestatic 414, 3) := by decide +kernel
theorem d36_8 : decode jdk_52_method_91_code 8 = .ok (.return_, 1) := by decide +kernel
theorem pn36 : plainFor (⟨"java/lang/StringUTF16", "checkIndex", "(I[B)V"⟩ : MethodName) = true := by decide +kernel
theorem pd36_0 : parseMethodDescriptor "([B)I" = some ⟨[(.array .byte)], some .int⟩ := by decide +kernel
theorem pd36_1 : parseMethodDescriptor "(II)V" = some ⟨[.int, .int], none⟩ := by decide +kernel
theorem ef36 (p1 : Int32) (p2 : Addr) (m : MethodId) : entryFrame m #[(.int p1), (.ref p2)] 2 = mkF m 0 #[.val (.int p1), .val (.ref p2)] [] := by first | (simp [entryFrame, mkF, argsToLocals, Value.category]; done) | rfl
set_option maxRecDepth 65536 in
set_option maxHeartbeats 40000000 in
theorem rm36 (l : Launch) (Z : State) (a0 : Array Value) (hw : ∀ d ∈ tables_1, d.before a0 Z = true) (ws : List Jvm.Cond) (p1 : Int32) (p2 : Addr) (h0 : Heap) (n0 : Nat) (f : Nat → Int32) (kk : Nat) (hk : p1.toInt = kk) (hk2 : kk < 2) (sf : Value) (hsf : sf.isRef = true) (S_sf : Sta Z h0 "jdk/internal/util/Preconditions" "SIOOBE_FORMATTER" "Ljava/util/function/BiFunction;" sf) (V_p2 : ArI Z h0 p2 .byte 4 f) :
    JMet l Z (⟨"java/lang/StringUTF16", "checkIndex", "(I[B)V"⟩ : MethodName) jdk_52_method_91_code 2 none ws ({ frames := 2, cells := 0, slots := 0, locals := 27 } : Room) #[(.int p1), (.ref p2)] h0 (fun v h L => v = none ∧ Fr n0 L ∧ h = h0) := by
  refine Jvm.JW.body #[.val (.int p1), .val (.ref p2)] pn36 (ef36 p1 p2) ?_
  intro p e s m below meth c T0 D A F X0 hx hZ hby hml hown hnm hrt hlk e0
  refine A (XS.iloadN X0.here hx rfl (hb hby d36_0) rfl) ?_
  show D (T0.setTop (mkF m 1 #[.val (.int p1), .val (.ref p2)] [(.int p1)]))
  refine A (XS.aloadN X0.here hx rfl (hb hby d36_1) rfl rfl) ?_
  show D (T0.setTop (mkF m 2 #[.val (.int p1), .val (.ref p2)] [(.ref p2), (.int p1)]))
  refine Adv.callS A X0 hx hZ hown (hw _ (List.mem_of_getElem? (i := 205) rfl)) (hw _ (List.mem_of_getElem? (i := 206) rfl)) (hw _ (List.mem_of_getElem? (i := 18) rfl)) (hw _ (List.mem_of_getElem? (i := 207) rfl)) e0 (rm37 l Z a0 hw [] p2 h0 n0 f V_p2) 1 (g := (mkF m 2 #[.val (.int p1), .val (.ref p2)] [(.ref p2), (.int p1)])) rfl (by rw [hml]; rfl) [(.ref p2)] [(.int p1)] rfl (lenOf pd36_0 rfl) rfl (by show 2 * 0 + _ ≤ _; exact Nat.le_of_eq rfl) (hb hby d36_2) (by decide) (by decide) (by decide) (by decide) (by decide) ?_
  rintro T1 L1 _ X1 ⟨rfl, N1_q, e1⟩
  have N1 := Fr.app (Fr.nil n0) N1_q
  show D (T1.setTop (mkF m 5 #[.val (.int p1), .val (.ref p2)] [(.int (2 : Int32)), (.int p1)]))
  refine Adv.callS A X1 hx hZ hown (hw _ (List.mem_of_getElem? (i := 208) rfl)) (hw _ (List.mem_of_getElem? (i := 153) rfl)) (hw _ (List.mem_of_getElem? (i := 4) rfl)) (hw _ (List.mem_of_getElem? (i := 154) rfl)) e1 (rm24 l Z a0 hw [] p1 (2 : Int32) h0 n0 (own_neg hk) (own_l2 hk hk2) sf hsf S_sf) 0 (g := (mkF m 5 #[.val (.int p1), .val (.ref p2)] [(.int (2 : Int32)), (.int p1)])) rfl (by rw [hml]; rfl) [(.int p1), (.int (2 : Int32))] [] rfl (lenOf pd36_1 rfl) rfl (by show 2 * 0 + _ ≤ _; exact Nat.le_of_eq rfl) (hb hby d36_5) (by decide) (by decide) (by decide) (by decide) (by decide) ?_
  rintro T2 L2 _ X2 ⟨rfl, N2_q, e2⟩
  have N2 := Fr.app N1 N2_q
  show D (T2.setTop (mkF m 8 #[.val (.int p1), .val (.ref p2)] []))
  exact F _ (Jvm.JW.ret X2 hlk (v := none) (fun _ => rfl) (fun fs hr => X2.returnOut hx hrt (hb hby d36_8) hr) rfl ⟨rfl, N2, e2⟩ (by decide) (by decide))
theorem d35_0 : decode jdk_52_method_83_code 0 = .ok (.iload_n 1, 1) := by decide +kernel
theorem d35_1 : decode jdk_52_method_83_code 1 = .ok (.aload_n 0, 1) := by decide +kernel
theorem d35_2 : decode jdk_52_method_83_code 2 = .ok (.invokestatic 67, 3) := by decide +kernel
theorem d35_5 : decode jdk_52_method_83_code 5 = .ok (.aload_n 0, 1) := by decide +kernel
theorem d35_6 : decode jdk_52_method_83_code 6 = .ok (.iload_n 1, 1) := by decide +kernel
theorem d35_7 : decode jdk_52_method_83_code 7 = .ok (.invokestatic 71, 3) := by decide +kernel
theorem d35_10 : decode jdk_52_method_83_code 10 = .ok (.ireturn, 1) := by decide +kernel
theorem pn35 : plainFor (⟨"java/lang/StringUTF16", "charAt", "([BI)C"⟩ : MethodName) = true := by decide +kernel
theorem pd35_0 : parseMethodDescriptor "(I[B)V" = some ⟨[.int, (.array .byte)], none⟩ := by decide +kernel
theorem pd35_1 : parseMethodDescriptor "([BI)C" = some ⟨[(.array .byte), .int], some .char⟩ := by decide +kernel
theorem ef35 (p1 : Addr) (p2 : Int32) (m : MethodId) : entryFrame m #[(.ref p1), (.int p2)] 2 = mkF m 0 #[.val (.ref p1), .val (.int p2)] [] := by first | (simp [entryFrame, mkF, argsToLocals, Value.category]; done) | rfl
set_option maxRecDepth 65536 in
set_option maxHeartbeats 40000000 in
theorem rm35 (l : Launch) (Z : State) (a0 : Array Value) (hw : ∀ d ∈ tables_1, d.before a0 Z = true) (ws : List Jvm.Cond) (p1 : Addr) (p2 : Int32) (h0 : Heap) (n0 : Nat) (f : Nat → Int32) (kk : Nat) (hk : p2.toInt = kk) (hk2 : kk < 2) (sf : Value) (hsf : sf.isRef = true) (S_sf : Sta Z h0 "jdk/internal/util/Preconditions" "SIOOBE_FORMATTER" "Ljava/util/function/BiFunction;" sf) (V_p1 : ArI Z h0 p1 .byte 4 f) (S_ad : Sta Z h0 "java/lang/StringUTF16" "$assertionsDisabled" "Z" (.int (1 : Int32))) (S_hi : Sta Z h0 "java/lang/StringUTF16" "HI_BYTE_SHIFT" "I" (.int (0 : Int32))) (S_lo : Sta Z h0 "java/lang/StringUTF16" "LO_BYTE_SHIFT" "I" (.int (8 : Int32))) :
    JMet l Z (⟨"java/lang/StringUTF16", "charAt", "([BI)C"⟩ : MethodName) jdk_52_method_83_code 2 (some .char) ws ({ frames := 3, cells := 0, slots := 0, locals := 40 } : Room) #[(.ref p1), (.int p2)] h0 (QP (.int (own_u (f (2 * kk)) (f (2 * kk + 1)))) h0 n0) := by
  refine Jvm.JW.body #[.val (.ref p1), .val (.int p2)] pn35 (ef35 p1 p2) ?_
  intro p e s m below meth c T0 D A F X0 hx hZ hby hml hown hnm hrt hlk e0
  refine A (XS.iloadN X0.here hx rfl (hb hby d35_0) rfl) ?_
  show D (T0.setTop (mkF m 1 #[.val (.ref p1), .val (.int p2)] [(.int p2)]))
  refine A (XS.aloadN X0.here hx rfl (hb hby d35_1) rfl rfl) ?_
  show D (T0.setTop (mkF m 2 #[.val (.ref p1), .val (.int p2)] [(.ref p1), (.int p2)]))
  refine Adv.callS A X0 hx hZ hown (hw _ (List.mem_of_getElem? (i := 202) rfl)) (hw _ (List.mem_of_getElem? (i := 203) rfl)) (hw _ (List.mem_of_getElem? (i := 18) rfl)) (hw _ (List.mem_of_getElem? (i := 204) rfl)) e0 (rm36 l Z a0 hw [] p2 p1 h0 n0 f kk hk hk2 sf hsf S_sf V_p1) 0 (g := (mkF m 2 #[.val (.ref p1), .val (.int p2)] [(.ref p1), (.int p2)])) rfl (by rw [hml]; rfl) [(.int p2), (.ref p1)] [] rfl (lenOf pd35_0 rfl) rfl (by show 2 * 0 + _ ≤ _; exact Nat.le_of_eq rfl) (hb hby d35_2) (by decide) (by decide) (by decide) (by decide) (by decide) ?_
  rintro T1 L1 _ X1 ⟨rfl, N1_q, e1⟩
  have N1 := Fr.app (Fr.nil n0) N1_q
  show D (T1.setTop (mkF m 5 #[.val (.ref p1), .val (.int p2)] []))
  refine A (XS.aloadN X1.here hx rfl (hb hby d35_5) rfl rfl) ?_
  show D (T1.setTop (mkF m 6 #[.val (.ref p1), .val (.int p2)] [(.ref p1)]))
  refine A (XS.iloadN X1.here hx rfl (hb hby d35_6) rfl) ?_
  show D (T1.setTop (mkF m 7 #[.val (.ref p1), .val (.int p2)] [(.int p2), (.ref p1)]))
  refine Adv.callS A X1 hx hZ hown (hw _ (List.mem_of_getElem? (i := 196) rfl)) (hw _ (List.mem_of_getElem? (i := 197) rfl)) (hw _ (List.mem_of_getElem? (i := 18) rfl)) (hw _ (List.mem_of_getElem? (i := 198) rfl)) e1 (rm34 l Z a0 hw [] p1 p2 h0 n0 f kk hk hk2 V_p1 S_ad S_hi S_lo) 0 (g := (mkF m 7 #[.val (.ref p1), .val (.int p2)] [(.int p2), (.ref p1)])) rfl (by rw [hml]; rfl) [(.ref p1), (.int p2)] [] rfl (lenOf pd35_1 rfl) rfl (by show 2 * 0 + _ ≤ _; exact Nat.le_of_eq rfl) (hb hby d35_7) (by decide) (by decide) (by decide) (by decide) (by decide) ?_
  rintro T2 L2 _ X2 ⟨rfl, N2_q, e2⟩
  have N2 := Fr.app N1 N2_q
  show D (T2.setTop (mkF m 10 #[.val (.ref p1), .val (.int p2)] [(.int (own_u (f (2 * kk)) (f (2 * kk + 1))))]))
  refine F _ (Jvm.JW.ret X2 hlk (v := some (.int (own_u (f (2 * kk)) (f (2 * kk + 1))))) (fun h => by rw [hrt] at h; cases h) (fun fs hr => retOut X2 hx hrt (own_nc _) (Or.inl ⟨rfl, Or.inr (Or.inr (Or.inr (Or.inl rfl))), _, rfl⟩) (hb hby d35_10) hr) rfl ?_ (by decide) (by decide))
  exact ⟨rfl, N2, e2⟩
theorem d22_0 : decode jdk_42_method_154_code 0 = .ok (.getstatic 38, 3) := by decide +kernel
theorem d22_3 : decode jdk_42_method_154_code 3 = .ok (.ifCond .eq 14, 3) := by decide +kernel
theorem d22_6 : decode jdk_42_method_154_code 6 = .ok (.aload_n 0, 1) := by decide +kernel
theorem d22_7 : decode jdk_42_method_154_code 7 = .ok (.getfield 15, 3) := by decide +kernel
theorem d22_10 : decode jdk_42_method_154_code 10 = .ok (.ifCond .ne 7, 3) := by decide +kernel
theorem d22_13 : decode jdk_42_method_154_code 13 = .ok (.iconst 1, 1) := by decide +kernel
theorem d22_14 : decode jdk_42_method_154_code 14 = .ok (.goto 4, 3) := by decide +kernel
theorem d22_18 : decode jdk_42_method_154_code 18 = .ok (.ireturn, 1) := by decide +kernel
theorem pn22 : plainFor (⟨"java/lang/String", "isLatin1", "()Z"⟩ : MethodName) = true := by decide +kernel
theorem ef22 (self : Addr) (m : MethodId) : entryFrame m #[(.ref self)] 1 = mkF m 0 #[.val (.ref self)] [] := by first | (simp [entryFrame, mkF, argsToLocals, Value.category]; done) | rfl
set_option maxRecDepth 65536 in
set_option maxHeartbeats 40000000 in
theorem rm22_2 (l : Launch) (Z : State) (a0 : Array Value) (hw : ∀ d ∈ tables_1, d.before a0 Z = true) (ws : List Jvm.Cond) (self : Addr) (h0 : Heap) (n0 : Nat) (f : Nat → Int32) (cs : Int32) (hcs : ¬ cs = (0 : Int32)) (S_cs : Sta Z h0 "java/lang/String" "COMPACT_STRINGS" "Z" (.int cs)) (E_self : Exa Z h0 self "java/lang/String") (F_coder : Fld Z h0 self "java/lang/String" "coder" "B" (.int (0 : Int32))) (bb : Addr) (F_value : Fld Z h0 self "java/lang/String" "value" "[B" (.ref bb)) (V_bb : ArI Z h0 bb .byte 2 f) :
    JMet l Z (⟨"java/lang/String", "isLatin1", "()Z"⟩ : MethodName) jdk_42_method_154_code 1 (some .boolean) ws ({ frames := 0, cells := 0, slots := 0, locals := 0 } : Room) #[(.ref self)] h0 (QP (.int (1 : Int32)) h0 n0) := by
  refine Jvm.JW.body #[.val (.ref self)] pn22 (ef22 self) ?_
  intro p e s m below meth c T0 D A F X0 hx hZ hby hml hown hnm hrt hlk e0
  obtain ⟨T1, X1, e1, st1⟩ := getS X0 hx hZ hown (host := "") (hw _ (List.mem_of_getElem? (i := 15) rfl)) Via.refl e0 S_cs (g := (mkF m 0 #[.val (.ref self)] [])) rfl (hb hby d22_0)
  refine A (st1 _) ?_
  show D (T1.setTop (mkF m 3 #[.val (.ref self)] [(.int cs)]))
  refine A (XS.ifNo X1.here hx rfl (hb hby d22_3) rfl ((if0 _ _).trans (feq hcs).1)) ?_
  show D (T1.setTop (mkF m 6 #[.val (.ref self)] []))
  refine A (XS.aloadN X1.here hx rfl (hb hby d22_6) rfl rfl) ?_
  show D (T1.setTop (mkF m 7 #[.val (.ref self)] [(.ref self)]))
  obtain ⟨T2, X2, e2, st2⟩ := getF X1 hx hZ hown (host := "") (Or.inl (hw _ (List.mem_of_getElem? (i := 27) rfl))) Via.refl e1 F_coder (g := (mkF m 7 #[.val (.ref self)] [(.ref self)])) rfl rfl (hb hby d22_7)
  refine A (st2 _) ?_
  show D (T2.setTop (mkF m 10 #[.val (.ref self)] [(.int (0 : Int32))]))
  refine A (XS.ifNo X2.here hx rfl (hb hby d22_10) rfl ((if0 _ _).trans (teq (by decide : (0 : Int32) = (0 : Int32))).2)) ?_
  show D (T2.setTop (mkF m 13 #[.val (.ref self)] []))
  refine A (XS.iconst X2.here hx rfl (hb hby d22_13)) ?_
  show D (T2.setTop (mkF m 14 #[.val (.ref self)] [(.int (1 : Int32))]))
  refine A (XS.goto X2.here hx rfl (pc0 := 14) (pc' := 18) rfl (hb hby d22_14) (by decide) (by decide)) ?_
  show D (T2.setTop (mkF m 18 #[.val (.ref self)] [(.int (1 : Int32))]))
  refine F _ (Jvm.JW.ret X2 hlk (v := some (.int (1 : Int32))) (fun h => by rw [hrt] at h; cases h) (fun fs hr => retOut X2 hx hrt rfl (Or.inl ⟨rfl, Or.inr (Or.inl rfl), _, rfl⟩) (hb hby d22_18) hr) rfl ?_ (by decide) (by decide))
  exact ⟨rfl, (Fr.nil n0), e2⟩
theorem d20_0 : decode jdk_42_method_152_code 0 = .ok (.getstatic 38, 3) := by decide +kernel
theorem d20_3 : decode jdk_42_method_152_code 3 = .ok (.ifCond .eq 10, 3) := by decide +kernel
theorem d20_6 : decode jdk_42_method_152_code 6 = .ok (.aload_n 0, 1) := by decide +kernel
theorem d20_7 : decode jdk_42_method_152_code 7 = .ok (.getfield 15, 3) := by decide +kernel
theorem d20_10 : decode jdk_42_method_152_code 10 = .ok (.goto 4, 3) := by decide +kernel
theorem d20_14 : decode jdk_42_method_152_code 14 = .ok (.ireturn, 1) := by decide +kernel
theorem pn20 : plainFor (⟨"java/lang/String", "coder", "()B"⟩ : MethodName) = true := by decide +kernel
theorem ef20 (self : Addr) (m : MethodId) : entryFrame m #[(.ref self)] 1 = mkF m 0 #[.val (.ref self)] [] := by first | (simp [entryFrame, mkF, argsToLocals, Value.category]; done) | rfl
set_option maxRecDepth 65536 in
set_option maxHeartbeats 40000000 in
theorem rm20_2 (l : Launch) (Z : State) (a0 : Array Value) (hw : ∀ d ∈ tables_1, d.before a0 Z = true) (ws : List Jvm.Cond) (self : Addr) (h0 : Heap) (n0 : Nat) (f : Nat → Int32) (cs : Int32) (hcs : ¬ cs = (0 : Int32)) (S_cs : Sta Z h0 "java/lang/String" "COMPACT_STRINGS" "Z" (.int cs)) (E_self : Exa Z h0 self "java/lang/String") (F_coder : Fld Z h0 self "java/lang/String" "coder" "B" (.int (0 : Int32))) (bb : Addr) (F_value : Fld Z h0 self "java/lang/String" "value" "[B" (.ref bb)) (V_bb : ArI Z h0 bb .byte 2 f) :
    JMet l Z (⟨"java/lang/String", "coder", "()B"⟩ : MethodName) jdk_42_method_152_code 1 (some .byte) ws ({ frames := 0, cells := 0, slots := 0, locals := 0 } : Room) #[(.ref self)] h0 (QP (.int (0 : Int32)) h0 n0) := by
  refine Jvm.JW.body #[.val (.ref self)] pn20 (ef20 self) ?_
  intro p e s m below meth c T0 D A F X0 hx hZ hby hml hown hnm hrt hlk e0
  obtain ⟨T1, X1, e1, st1⟩ := getS X0 hx hZ hown (host := "") (hw _ (List.mem_of_getElem? (i := 15) rfl)) Via.refl e0 S_cs (g := (mkF m 0 #[.val (.ref self)] [])) rfl (hb hby d20_0)
  refine A (st1 _) ?_
  show D (T1.setTop (mkF m 3 #[.val (.ref self)] [(.int cs)]))
  refine A (XS.ifNo X1.here hx rfl (hb hby d20_3) rfl ((if0 _ _).trans (feq hcs).1)) ?_
  show D (T1.setTop (mkF m 6 #[.val (.ref self)] []))
  refine A (XS.aloadN X1.here hx rfl (hb hby d20_6) rfl rfl) ?_
  show D (T1.setTop (mkF m 7 #[.val (.ref self)] [(.ref self)]))
  obtain ⟨T2, X2, e2, st2⟩ := getF X1 hx hZ hown (host := "") (Or.inl (hw _ (List.mem_of_getElem? (i := 27) rfl))) Via.refl e1 F_coder (g := (mkF m 7 #[.val (.ref self)] [(.ref self)])) rfl rfl (hb hby d20_7)
  refine A (st2 _) ?_
  show D (T2.setTop (mkF m 10 #[.val (.ref self)] [(.int (0 : Int32))]))
  refine A (XS.goto X2.here hx rfl (pc0 := 10) (pc' := 14) rfl (hb hby d20_10) (by decide) (by decide)) ?_
  show D (T2.setTop (mkF m 14 #[.val (.ref self)] [(.int (0 : Int32))]))
  refine F _ (Jvm.JW.ret X2 hlk (v := some (.int (0 : Int32))) (fun h => by rw [hrt] at h; cases h) (fun fs hr => retOut X2 hx hrt rfl (Or.inl ⟨rfl, Or.inr (Or.inr (Or.inl rfl)), _, rfl⟩) (hb hby d20_14) hr) rfl ?_ (by decide) (by decide))
  exact ⟨rfl, (Fr.nil n0), e2⟩
theorem d19_0 : decode jdk_42_method_54_code 0 = .ok (.aload_n 0, 1) := by decide +kernel
theorem d19_1 : decode jdk_42_method_54_code 1 = .ok (.getfield 9, 3) := by decide +kernel
theorem d19_4 : decode jdk_42_method_54_code 4 = .ok (.arraylength, 1) := by decide +kernel
theorem d19_5 : decode jdk_42_method_54_code 5 = .ok (.aload_n 0, 1) := by decide +kernel
theorem d19_6 : decode jdk_42_method_54_code 6 = .ok (.invokevirtual 335, 3) := by decide +kernel
theorem d19_9 : decode jdk_42_method_54_code 9 = .ok (.ishr, 1) := by decide +kernel
theorem d19_10 : decode jdk_42_method_54_code 10 = .ok (.ireturn, 1) := by decide +kernel
theorem pn19 : plainFor (⟨"java/lang/String", "length", "()I"⟩ : MethodName) = true := by decide +kernel
theorem pd19_0 : parseMethodDescriptor "()B" = some ⟨[], some .byte⟩ := by decide +kernel
theorem ef19 (self : Addr) (m : MethodId) : entryFrame m #[(.ref self)] 1 = mkF m 0 #[.val (.ref self)] [] := by first | (simp [entryFrame, mkF, argsToLocals, Value.category]; done) | rfl
set_option maxRecDepth 65536 in
set_option maxHeartbeats 40000000 in
theorem rm19_2 (l : Launch) (Z : State) (a0 : Array Value) (hw : ∀ d ∈ tables_1, d.before a0 Z = true) (ws : List Jvm.Cond) (self : Addr) (h0 : Heap) (n0 : Nat) (f : Nat → Int32) (cs : Int32) (hcs : ¬ cs = (0 : Int32)) (S_cs : Sta Z h0 "java/lang/String" "COMPACT_STRINGS" "Z" (.int cs)) (E_self : Exa Z h0 self "java/lang/String") (F_coder : Fld Z h0 self "java/lang/String" "coder" "B" (.int (0 : Int32))) (bb : Addr) (F_value : Fld Z h0 self "java/lang/String" "value" "[B" (.ref bb)) (V_bb : ArI Z h0 bb .byte 2 f) :
    JMet l Z (⟨"java/lang/String", "length", "()I"⟩ : MethodName) jdk_42_method_54_code 1 (some .int) ws ({ frames := 1, cells := 0, slots := 0, locals := 13 } : Room) #[(.ref self)] h0 (QP (.int (2 : Int32)) h0 n0) := by
  refine Jvm.JW.body #[.val (.ref self)] pn19 (ef19 self) ?_
  intro p e s m below meth c T0 D A F X0 hx hZ hby hml hown hnm hrt hlk e0
  refine A (XS.aloadN X0.here hx rfl (hb hby d19_0) rfl rfl) ?_
  show D (T0.setTop (mkF m 1 #[.val (.ref self)] [(.ref self)]))
  obtain ⟨T1, X1, e1, st1⟩ := getF X0 hx hZ hown (host := "") (Or.inl (hw _ (List.mem_of_getElem? (i := 29) rfl))) Via.refl e0 F_value (g := (mkF m 1 #[.val (.ref self)] [(.ref self)])) rfl rfl (hb hby d19_1)
  refine A (st1 _) ?_
  show D (T1.setTop (mkF m 4 #[.val (.ref self)] [(.ref bb)]))
  refine Adv.lenI A X1 hx hZ e1 V_bb (g := (mkF m 4 #[.val (.ref self)] [(.ref bb)])) rfl rfl (hb hby d19_4) ?_
  show D (T1.setTop (mkF m 5 #[.val (.ref self)] [(.int (2 : Int32))]))
  refine A (XS.aloadN X1.here hx rfl (hb hby d19_5) rfl rfl) ?_
  show D (T1.setTop (mkF m 6 #[.val (.ref self)] [(.ref self), (.int (2 : Int32))]))
  refine Adv.callV A X1 hx hZ hown (hw _ (List.mem_of_getElem? (i := 130) rfl)) (hw _ (List.mem_of_getElem? (i := 131) rfl)) (notFace_of_selects (args := #[]) (mvT hZ (hw _ (List.mem_of_getElem? (i := 133) rfl)))) (hw _ (List.mem_of_getElem? (i := 133) rfl)) (hw _ (List.mem_of_getElem? (i := 132) rfl)) (hw _ (List.mem_of_getElem? (i := 4) rfl)) (hw _ (List.mem_of_getElem? (i := 134) rfl)) e1 E_self (rm20_2 l Z a0 hw [] self h0 n0 f cs hcs S_cs E_self F_coder bb F_value V_bb) 1 (g := (mkF m 6 #[.val (.ref self)] [(.ref self), (.int (2 : Int32))])) rfl (by rw [hml]; rfl) [] [(.int (2 : Int32))] rfl (lenOf pd19_0 rfl) rfl (by show 2 * 0 + _ ≤ _; exact Nat.le_of_eq rfl) (hb hby d19_6) (by decide) (by decide) (by decide) (by decide) (by decide) ?_
  rintro T2 L2 _ X2 ⟨rfl, N2_q, e2⟩
  have N2 := Fr.app (Fr.nil n0) N2_q
  show D (T2.setTop (mkF m 9 #[.val (.ref self)] [(.int (0 : Int32)), (.int (2 : Int32))]))
  refine A (XS.ishr X2.here hx rfl (hb hby d19_9) rfl) ?_
  show D (T2.setTop (mkF m 10 #[.val (.ref self)] [(.int ((2 : Int32) >>> ((0 : Int32) &&& 31)))]))
  refine F _ (Jvm.JW.ret X2 hlk (v := some (.int ((2 : Int32) >>> ((0 : Int32) &&& 31)))) (fun h => by rw [hrt] at h; cases h) (fun fs hr => retOut X2 hx hrt rfl (Or.inl ⟨rfl, Or.inl rfl, _, rfl⟩) (hb hby d19_10) hr) rfl ?_ (by decide) (by decide))
  exact ⟨congrArg (fun z => some (Value.int z)) (by decide), N2, e2⟩
theorem d21_0 : decode jdk_42_method_56_code 0 = .ok (.aload_n 0, 1) := by decide +kernel
theorem d21_1 : decode jdk_42_method_56_code 1 = .ok (.invokevirtual 492, 3) := by decide +kernel
theorem d21_4 : decode jdk_42_method_56_code 4 = .ok (.ifCond .eq 12, 3) := by decide +kernel
theorem d21_7 : decode jdk_42_method_56_code 7 = .ok (.aload_n 0, 1) := by decide +kernel
theorem d21_8 : decode jdk_42_method_56_code 8 = .ok (.getfield 9, 3) := by decide +kernel
theorem d21_11 : decode jdk_42_method_56_code 11 = .ok (.iload_n 1, 1) := by decide +kernel
theorem d21_12 : decode jdk_42_method_56_code 12 = .ok (.invokestatic 495, 3) := by decide +kernel
theorem d21_15 : decode jdk_42_method_56_code 15 = .ok (.ireturn, 1) := by decide +kernel
theorem pn21 : plainFor (⟨"java/lang/String", "charAt", "(I)C"⟩ : MethodName) = true := by decide +kernel
theorem pd21_0 : parseMethodDescriptor "()Z" = some ⟨[], some .boolean⟩ := by decide +kernel
theorem pd21_1 : parseMethodDescriptor "([BI)C" = some ⟨[(.array .byte), .int], some .char⟩ := by decide +kernel
theorem ef21 (self : Addr) (p1 : Int32) (m : MethodId) : entryFrame m #[(.ref self), (.int p1)] 2 = mkF m 0 #[.val (.ref self), .val (.int p1)] [] := by first | (simp [entryFrame, mkF, argsToLocals, Value.category]; done) | rfl
set_option maxRecDepth 65536 in
set_option maxHeartbeats 40000000 in
theorem rm21_2 (l : Launch) (Z : State) (a0 : Array Value) (hw : ∀ d ∈ tables_1, d.before a0 Z = true) (ws : List Jvm.Cond) (self : Addr) (p1 : Int32) (h0 : Heap) (n0 : Nat) (f : Nat → Int32) (kk : Nat) (hk : p1.toInt = kk) (hk2 : kk < 2) (cs : Int32) (hcs : ¬ cs = (0 : Int32)) (sf : Value) (hsf : sf.isRef = true) (S_sf : Sta Z h0 "jdk/internal/util/Preconditions" "SIOOBE_FORMATTER" "Ljava/util/function/BiFunction;" sf) (S_cs : Sta Z h0 "java/lang/String" "COMPACT_STRINGS" "Z" (.int cs)) (S_ad : Sta Z h0 "java/lang/StringUTF16" "$assertionsDisabled" "Z" (.int (1 : Int32))) (S_hi : Sta Z h0 "java/lang/StringUTF16" "HI_BYTE_SHIFT" "I" (.int (0 : Int32))) (S_lo : Sta Z h0 "java/lang/StringUTF16" "LO_BYTE_SHIFT" "I" (.int (8 : Int32))) (E_self : Exa Z h0 self "java/lang/String") (F_coder : Fld Z h0 self "java/lang/String" "coder" "B" (.int (0 : Int32))) (bb : Addr) (F_value : Fld Z h0 self "java/lang/String" "value" "[B" (.ref bb)) (V_bb : ArI Z h0 bb .byte 2 f) :
    JMet l Z (⟨"java/lang/String", "charAt", "(I)C"⟩ : MethodName) jdk_42_method_56_code 2 (some .char) ws ({ frames := 4, cells := 0, slots := 0, locals := 53 } : Room) #[(.ref self), (.int p1)] h0 (QP (.int (own_ch (f kk))) h0 n0) := by
  refine Jvm.JW.body #[.val (.ref self), .val (.int p1)] pn21 (ef21 self p1) ?_
  intro p e s m below meth c T0 D A F X0 hx hZ hby hml hown hnm hrt hlk e0
  refine A (XS.aloadN X0.here hx rfl (hb hby d21_0) rfl rfl) ?_
  show D (T0.setTop (mkF m 1 #[.val (.ref self), .val (.int p1)] [(.ref self)]))
  refine Adv.callV A X0 hx hZ hown (hw _ (List.mem_of_getElem? (i := 143) rfl)) (hw _ (List.mem_of_getElem? (i := 144) rfl)) (notFace_of_selects (args := #[]) (mvT hZ (hw _ (List.mem_of_getElem? (i := 146) rfl)))) (hw _ (List.mem_of_getElem? (i := 146) rfl)) (hw _ (List.mem_of_getElem? (i := 145) rfl)) (hw _ (List.mem_of_getElem? (i := 4) rfl)) (hw _ (List.mem_of_getElem? (i := 147) rfl)) e0 E_self (rm22_2 l Z a0 hw [] self h0 n0 f cs hcs S_cs E_self F_coder bb F_value V_bb) 0 (g := (mkF m 1 #[.val (.ref self), .val (.int p1)] [(.ref self)])) rfl (by rw [hml]; rfl) [] [] rfl (lenOf pd21_0 rfl) rfl (by show 2 * 0 + _ ≤ _; exact Nat.le_of_eq rfl) (hb hby d21_1) (by decide) (by decide) (by decide) (by decide) (by decide) ?_
  rintro T1 L1 _ X1 ⟨rfl, N1_q, e1⟩
  have N1 := Fr.app (Fr.nil n0) N1_q
  show D (T1.setTop (mkF m 4 #[.val (.ref self), .val (.int p1)] [(.int (1 : Int32))]))
  refine A (XS.ifNo X1.here hx rfl (hb hby d21_4) rfl ((if0 _ _).trans (feq (by decide : ¬ ((1 : Int32) = (0 : Int32)))).1)) ?_
  show D (T1.setTop (mkF m 7 #[.val (.ref self), .val (.int p1)] []))
  refine A (XS.aloadN X1.here hx rfl (hb hby d21_7) rfl rfl) ?_
  show D (T1.setTop (mkF m 8 #[.val (.ref self), .val (.int p1)] [(.ref self)]))
  obtain ⟨T2, X2, e2, st2⟩ := getF X1 hx hZ hown (host := "") (Or.inl (hw _ (List.mem_of_getElem? (i := 29) rfl))) Via.refl e1 F_value (g := (mkF m 8 #[.val (.ref self), .val (.int p1)] [(.ref self)])) rfl rfl (hb hby d21_8)
  refine A (st2 _) ?_
  show D (T2.setTop (mkF m 11 #[.val (.ref self), .val (.int p1)] [(.ref bb)]))
  refine A (XS.iloadN X2.here hx rfl (hb hby d21_11) rfl) ?_
  show D (T2.setTop (mkF m 12 #[.val (.ref self), .val (.int p1)] [(.int p1), (.ref bb)]))
  refine Adv.callS A X2 hx hZ hown (hw _ (List.mem_of_getElem? (i := 148) rfl)) (hw _ (List.mem_of_getElem? (i := 149) rfl)) (hw _ (List.mem_of_getElem? (i := 150) rfl)) (hw _ (List.mem_of_getElem? (i := 151) rfl)) e2 (rm23 l Z a0 hw [] bb p1 h0 n0 f kk hk hk2 sf hsf S_sf V_bb) 0 (g := (mkF m 12 #[.val (.ref self), .val (.int p1)] [(.int p1), (.ref bb)])) rfl (by rw [hml]; rfl) [(.ref bb), (.int p1)] [] rfl (lenOf pd21_1 rfl) rfl (by show 2 * 0 + _ ≤ _; exact Nat.le_of_eq rfl) (hb hby d21_12) (by decide) (by decide) (by decide) (by decide) (by decide) ?_
  rintro T3 L3 _ X3 ⟨rfl, N3_q, e3⟩
  have N3 := Fr.app N1 N3_q
  show D (T3.setTop (mkF m 15 #[.val (.ref self), .val (.int p1)] [(.int (own_ch (f kk)))]))
  refine F _ (Jvm.JW.ret X3 hlk (v := some (.int (own_ch (f kk)))) (fun h => by rw [hrt] at h; cases h) (fun fs hr => retOut X3 hx hrt (own_nc _) (Or.inl ⟨rfl, Or.inr (Or.inr (Or.inr (Or.inl rfl))), _, rfl⟩) (hb hby d21_15) hr) rfl ?_ (by decide) (by decide))
  exact ⟨rfl, N3, e3⟩
theorem d22_17 : decode jdk_42_method_154_code 17 = .ok (.iconst 0, 1) := by decide +kernel
set_option maxRecDepth 65536 in
set_option maxHeartbeats 40000000 in
theorem rm22_4 (l : Launch) (Z : State) (a0 : Array Value) (hw : ∀ d ∈ tables_1, d.before a0 Z = true) (ws : List Jvm.Cond) (self : Addr) (h0 : Heap) (n0 : Nat) (f : Nat → Int32) (cs : Int32) (hcs : ¬ cs = (0 : Int32)) (S_cs : Sta Z h0 "java/lang/String" "COMPACT_STRINGS" "Z" (.int cs)) (E_self : Exa Z h0 self "java/lang/String") (F_coder : Fld Z h0 self "java/lang/String" "coder" "B" (.int (1 : Int32))) (bb : Addr) (F_value : Fld Z h0 self "java/lang/String" "value" "[B" (.ref bb)) (V_bb : ArI Z h0 bb .byte 4 f) :
    JMet l Z (⟨"java/lang/String", "isLatin1", "()Z"⟩ : MethodName) jdk_42_method_154_code 1 (some .boolean) ws ({ frames := 0, cells := 0, slots := 0, locals := 0 } : Room) #[(.ref self)] h0 (QP (.int (0 : Int32)) h0 n0) := by
  refine Jvm.JW.body #[.val (.ref self)] pn22 (ef22 self) ?_
  intro p e s m below meth c T0 D A F X0 hx hZ hby hml hown hnm hrt hlk e0
  obtain ⟨T1, X1, e1, st1⟩ := getS X0 hx hZ hown (host := "") (hw _ (List.mem_of_getElem? (i := 15) rfl)) Via.refl e0 S_cs (g := (mkF m 0 #[.val (.ref self)] [])) rfl (hb hby d22_0)
  refine A (st1 _) ?_
  show D (T1.setTop (mkF m 3 #[.val (.ref self)] [(.int cs)]))
  refine A (XS.ifNo X1.here hx rfl (hb hby d22_3) rfl ((if0 _ _).trans (feq hcs).1)) ?_
  show D (T1.setTop (mkF m 6 #[.val (.ref self)] []))
  refine A (XS.aloadN X1.here hx rfl (hb hby d22_6) rfl rfl) ?_
  show D (T1.setTop (mkF m 7 #[.val (.ref self)] [(.ref self)]))
  obtain ⟨T2, X2, e2, st2⟩ := getF X1 hx hZ hown (host := "") (Or.inl (hw _ (List.mem_of_getElem? (i := 27) rfl))) Via.refl e1 F_coder (g := (mkF m 7 #[.val (.ref self)] [(.ref self)])) rfl rfl (hb hby d22_7)
  refine A (st2 _) ?_
  show D (T2.setTop (mkF m 10 #[.val (.ref self)] [(.int (1 : Int32))]))
  refine A (XS.ifYes X2.here hx rfl (pc0 := 10) (pc' := 17) rfl (hb hby d22_10) rfl ((if0 _ _).trans (feq (by decide : ¬ ((1 : Int32) = (0 : Int32)))).2) (by decide) (by decide)) ?_
  show D (T2.setTop (mkF m 17 #[.val (.ref self)] []))
  refine A (XS.iconst X2.here hx rfl (hb hby d22_17)) ?_
  show D (T2.setTop (mkF m 18 #[.val (.ref self)] [(.int (0 : Int32))]))
  refine F _ (Jvm.JW.ret X2 hlk (v := some (.int (0 : Int32))) (fun h => by rw [hrt] at h; cases h) (fun fs hr => retOut X2 hx hrt rfl (Or.inl ⟨rfl, Or.inr (Or.inl rfl), _, rfl⟩) (hb hby d22_18) hr) rfl ?_ (by decide) (by decide))
  exact ⟨rfl, (Fr.nil n0), e2⟩
set_option maxRecDepth 65536 in
set_option maxHeartbeats 40000000 in
theorem rm20_4 (l : Launch) (Z : State) (a0 : Array Value) (hw : ∀ d ∈ tables_1, d.before a0 Z = true) (ws : List Jvm.Cond) (self : Addr) (h0 : Heap) (n0 : Nat) (f : Nat → Int32) (cs : Int32) (hcs : ¬ cs = (0 : Int32)) (S_cs : Sta Z h0 "java/lang/String" "COMPACT_STRINGS" "Z" (.int cs)) (E_self : Exa Z h0 self "java/lang/String") (F_coder : Fld Z h0 self "java/lang/String" "coder" "B" (.int (1 : Int32))) (bb : Addr) (F_value : Fld Z h0 self "java/lang/String" "value" "[B" (.ref bb)) (V_bb : ArI Z h0 bb .byte 4 f) :
    JMet l Z (⟨"java/lang/String", "coder", "()B"⟩ : MethodName) jdk_42_method_152_code 1 (some .byte) ws ({ frames := 0, cells := 0, slots := 0, locals := 0 } : Room) #[(.ref self)] h0 (QP (.int (1 : Int32)) h0 n0) := by
  refine Jvm.JW.body #[.val (.ref self)] pn20 (ef20 self) ?_
  intro p e s m below meth c T0 D A F X0 hx hZ hby hml hown hnm hrt hlk e0
  obtain ⟨T1, X1, e1, st1⟩ := getS X0 hx hZ hown (host := "") (hw _ (List.mem_of_getElem? (i := 15) rfl)) Via.refl e0 S_cs (g := (mkF m 0 #[.val (.ref self)] [])) rfl (hb hby d20_0)
  refine A (st1 _) ?_
  show D (T1.setTop (mkF m 3 #[.val (.ref self)] [(.int cs)]))
  refine A (XS.ifNo X1.here hx rfl (hb hby d20_3) rfl ((if0 _ _).trans (feq hcs).1)) ?_
  show D (T1.setTop (mkF m 6 #[.val (.ref self)] []))
  refine A (XS.aloadN X1.here hx rfl (hb hby d20_6) rfl rfl) ?_
  show D (T1.setTop (mkF m 7 #[.val (.ref self)] [(.ref self)]))
  obtain ⟨T2, X2, e2, st2⟩ := getF X1 hx hZ hown (host := "") (Or.inl (hw _ (List.mem_of_getElem? (i := 27) rfl))) Via.refl e1 F_coder (g := (mkF m 7 #[.val (.ref self)] [(.ref self)])) rfl rfl (hb hby d20_7)
  refine A (st2 _) ?_
  show D (T2.setTop (mkF m 10 #[.val (.ref self)] [(.int (1 : Int32))]))
  refine A (XS.goto X2.here hx rfl (pc0 := 10) (pc' := 14) rfl (hb hby d20_10) (by decide) (by decide)) ?_
  show D (T2.setTop (mkF m 14 #[.val (.ref self)] [(.int (1 : Int32))]))
  refine F _ (Jvm.JW.ret X2 hlk (v := some (.int (1 : Int32))) (fun h => by rw [hrt] at h; cases h) (fun fs hr => retOut X2 hx hrt rfl (Or.inl ⟨rfl, Or.inr (Or.inr (Or.inl rfl)), _, rfl⟩) (hb hby d20_14) hr) rfl ?_ (by decide) (by decide))
  exact ⟨rfl, (Fr.nil n0), e2⟩
set_option maxRecDepth 65536 in
set_option maxHeartbeats 40000000 in
theorem rm19_4 (l : Launch) (Z : State) (a0 : Array Value) (hw : ∀ d ∈ tables_1, d.before a0 Z = true) (ws : List Jvm.Cond) (self : Addr) (h0 : Heap) (n0 : Nat) (f : Nat → Int32) (cs : Int32) (hcs : ¬ cs = (0 : Int32)) (S_cs : Sta Z h0 "java/lang/String" "COMPACT_STRINGS" "Z" (.int cs)) (E_self : Exa Z h0 self "java/lang/String") (F_coder : Fld Z h0 self "java/lang/String" "coder" "B" (.int (1 : Int32))) (bb : Addr) (F_value : Fld Z h0 self "java/lang/String" "value" "[B" (.ref bb)) (V_bb : ArI Z h0 bb .byte 4 f) :
    JMet l Z (⟨"java/lang/String", "length", "()I"⟩ : MethodName) jdk_42_method_54_code 1 (some .int) ws ({ frames := 1, cells := 0, slots := 0, locals := 13 } : Room) #[(.ref self)] h0 (QP (.int (2 : Int32)) h0 n0) := by
  refine Jvm.JW.body #[.val (.ref self)] pn19 (ef19 self) ?_
  intro p e s m below meth c T0 D A F X0 hx hZ hby hml hown hnm hrt hlk e0
  refine A (XS.aloadN X0.here hx rfl (hb hby d19_0) rfl rfl) ?_
  show D (T0.setTop (mkF m 1 #[.val (.ref self)] [(.ref self)]))
  obtain ⟨T1, X1, e1, st1⟩ := getF X0 hx hZ hown (host := "") (Or.inl (hw _ (List.mem_of_getElem? (i := 29) rfl))) Via.refl e0 F_value (g := (mkF m 1 #[.val (.ref self)] [(.ref self)])) rfl rfl (hb hby d19_1)
  refine A (st1 _) ?_
  show D (T1.setTop (mkF m 4 #[.val (.ref self)] [(.ref bb)]))
  refine Adv.lenI A X1 hx hZ e1 V_bb (g := (mkF m 4 #[.val (.ref self)] [(.ref bb)])) rfl rfl (hb hby d19_4) ?_
  show D (T1.setTop (mkF m 5 #[.val (.ref self)] [(.int (4 : Int32))]))
  refine A (XS.aloadN X1.here hx rfl (hb hby d19_5) rfl rfl) ?_
  show D (T1.setTop (mkF m 6 #[.val (.ref self)] [(.ref self), (.int (4 : Int32))]))
  refine Adv.callV A X1 hx hZ hown (hw _ (List.mem_of_getElem? (i := 130) rfl)) (hw _ (List.mem_of_getElem? (i := 131) rfl)) (notFace_of_selects (args := #[]) (mvT hZ (hw _ (List.mem_of_getElem? (i := 133) rfl)))) (hw _ (List.mem_of_getElem? (i := 133) rfl)) (hw _ (List.mem_of_getElem? (i := 132) rfl)) (hw _ (List.mem_of_getElem? (i := 4) rfl)) (hw _ (List.mem_of_getElem? (i := 134) rfl)) e1 E_self (rm20_4 l Z a0 hw [] self h0 n0 f cs hcs S_cs E_self F_coder bb F_value V_bb) 1 (g := (mkF m 6 #[.val (.ref self)] [(.ref self), (.int (4 : Int32))])) rfl (by rw [hml]; rfl) [] [(.int (4 : Int32))] rfl (lenOf pd19_0 rfl) rfl (by show 2 * 0 + _ ≤ _; exact Nat.le_of_eq rfl) (hb hby d19_6) (by decide) (by decide) (by decide) (by decide) (by decide) ?_
  rintro T2 L2 _ X2 ⟨rfl, N2_q, e2⟩
  have N2 := Fr.app (Fr.nil n0) N2_q
  show D (T2.setTop (mkF m 9 #[.val (.ref self)] [(.int (1 : Int32)), (.int (4 : Int32))]))
  refine A (XS.ishr X2.here hx rfl (hb hby d19_9) rfl) ?_
  show D (T2.setTop (mkF m 10 #[.val (.ref self)] [(.int ((4 : Int32) >>> ((1 : Int32) &&& 31)))]))
  refine F _ (Jvm.JW.ret X2 hlk (v := some (.int ((4 : Int32) >>> ((1 : Int32) &&& 31)))) (fun h => by rw [hrt] at h; cases h) (fun fs hr => retOut X2 hx hrt rfl (Or.inl ⟨rfl, Or.inl rfl, _, rfl⟩) (hb hby d19_10) hr) rfl ?_ (by decide) (by decide))
  exact ⟨congrArg (fun z => some (Value.int z)) (by decide), N2, e2⟩
theorem d21_16 : decode jdk_42_method_56_code 16 = .ok (.aload_n 0, 1) := by decide +kernel
theorem d21_17 : decode jdk_42_method_56_code 17 = .ok (.getfield 9, 3) := by decide +kernel
theorem d21_20 : decode jdk_42_method_56_code 20 = .ok (.iload_n 1, 1) := by decide +kernel
theorem d21_21 : decode jdk_42_method_56_code 21 = .ok (.invokestatic 498, 3) := by decide +kernel
theorem d21_24 : decode jdk_42_method_56_code 24 = .ok (.ireturn, 1) := by decide +kernel
set_option maxRecDepth 65536 in
set_option maxHeartbeats 40000000 in
theorem rm21_4 (l : Launch) (Z : State) (a0 : Array Value) (hw : ∀ d ∈ tables_1, d.before a0 Z = true) (ws : List Jvm.Cond) (self : Addr) (p1 : Int32) (h0 : Heap) (n0 : Nat) (f : Nat → Int32) (kk : Nat) (hk : p1.toInt = kk) (hk2 : kk < 2) (cs : Int32) (hcs : ¬ cs = (0 : Int32)) (sf : Value) (hsf : sf.isRef = true) (S_sf : Sta Z h0 "jdk/internal/util/Preconditions" "SIOOBE_FORMATTER" "Ljava/util/function/BiFunction;" sf) (S_cs : Sta Z h0 "java/lang/String" "COMPACT_STRINGS" "Z" (.int cs)) (S_ad : Sta Z h0 "java/lang/StringUTF16" "$assertionsDisabled" "Z" (.int (1 : Int32))) (S_hi : Sta Z h0 "java/lang/StringUTF16" "HI_BYTE_SHIFT" "I" (.int (0 : Int32))) (S_lo : Sta Z h0 "java/lang/StringUTF16" "LO_BYTE_SHIFT" "I" (.int (8 : Int32))) (E_self : Exa Z h0 self "java/lang/String") (F_coder : Fld Z h0 self "java/lang/String" "coder" "B" (.int (1 : Int32))) (bb : Addr) (F_value : Fld Z h0 self "java/lang/String" "value" "[B" (.ref bb)) (V_bb : ArI Z h0 bb .byte 4 f) :
    JMet l Z (⟨"java/lang/String", "charAt", "(I)C"⟩ : MethodName) jdk_42_method_56_code 2 (some .char) ws ({ frames := 4, cells := 0, slots := 0, locals := 53 } : Room) #[(.ref self), (.int p1)] h0 (QP (.int (own_u (f (2 * kk)) (f (2 * kk + 1)))) h0 n0) := by
  refine Jvm.JW.body #[.val (.ref self), .val (.int p1)] pn21 (ef21 self p1) ?_
  intro p e s m below meth c T0 D A F X0 hx hZ hby hml hown hnm hrt hlk e0
  refine A (XS.aloadN X0.here hx rfl (hb hby d21_0) rfl rfl) ?_
  show D (T0.setTop (mkF m 1 #[.val (.ref self), .val (.int p1)] [(.ref self)]))
  refine Adv.callV A X0 hx hZ hown (hw _ (List.mem_of_getElem? (i := 143) rfl)) (hw _ (List.mem_of_getElem? (i := 144) rfl)) (notFace_of_selects (args := #[]) (mvT hZ (hw _ (List.mem_of_getElem? (i := 146) rfl)))) (hw _ (List.mem_of_getElem? (i := 146) rfl)) (hw _ (List.mem_of_getElem? (i := 145) rfl)) (hw _ (List.mem_of_getElem? (i := 4) rfl)) (hw _ (List.mem_of_getElem? (i := 147) rfl)) e0 E_self (rm22_4 l Z a0 hw [] self h0 n0 f cs hcs S_cs E_self F_coder bb F_value V_bb) 0 (g := (mkF m 1 #[.val (.ref self), .val (.int p1)] [(.ref self)])) rfl (by rw [hml]; rfl) [] [] rfl (lenOf pd21_0 rfl) rfl (by show 2 * 0 + _ ≤ _; exact Nat.le_of_eq rfl) (hb hby d21_1) (by decide) (by decide) (by decide) (by decide) (by decide) ?_
  rintro T1 L1 _ X1 ⟨rfl, N1_q, e1⟩
  have N1 := Fr.app (Fr.nil n0) N1_q
  show D (T1.setTop (mkF m 4 #[.val (.ref self), .val (.int p1)] [(.int (0 : Int32))]))
  refine A (XS.ifYes X1.here hx rfl (pc0 := 4) (pc' := 16) rfl (hb hby d21_4) rfl ((if0 _ _).trans (teq (by decide : (0 : Int32) = (0 : Int32))).1) (by decide) (by decide)) ?_
  show D (T1.setTop (mkF m 16 #[.val (.ref self), .val (.int p1)] []))
  refine A (XS.aloadN X1.here hx rfl (hb hby d21_16) rfl rfl) ?_
  show D (T1.setTop (mkF m 17 #[.val (.ref self), .val (.int p1)] [(.ref self)]))
  obtain ⟨T2, X2, e2, st2⟩ := getF X1 hx hZ hown (host := "") (Or.inl (hw _ (List.mem_of_getElem? (i := 29) rfl))) Via.refl e1 F_value (g := (mkF m 17 #[.val (.ref self), .val (.int p1)] [(.ref self)])) rfl rfl (hb hby d21_17)
  refine A (st2 _) ?_
  show D (T2.setTop (mkF m 20 #[.val (.ref self), .val (.int p1)] [(.ref bb)]))
  refine A (XS.iloadN X2.here hx rfl (hb hby d21_20) rfl) ?_
  show D (T2.setTop (mkF m 21 #[.val (.ref self), .val (.int p1)] [(.int p1), (.ref bb)]))
  refine Adv.callS A X2 hx hZ hown (hw _ (List.mem_of_getElem? (i := 199) rfl)) (hw _ (List.mem_of_getElem? (i := 200) rfl)) (hw _ (List.mem_of_getElem? (i := 18) rfl)) (hw _ (List.mem_of_getElem? (i := 201) rfl)) e2 (rm35 l Z a0 hw [] bb p1 h0 n0 f kk hk hk2 sf hsf S_sf V_bb S_ad S_hi S_lo) 0 (g := (mkF m 21 #[.val (.ref self), .val (.int p1)] [(.int p1), (.ref bb)])) rfl (by rw [hml]; rfl) [(.ref bb), (.int p1)] [] rfl (lenOf pd21_1 rfl) rfl (by show 2 * 0 + _ ≤ _; exact Nat.le_of_eq rfl) (hb hby d21_21) (by decide) (by decide) (by decide) (by decide) (by decide) ?_
  rintro T3 L3 _ X3 ⟨rfl, N3_q, e3⟩
  have N3 := Fr.app N1 N3_q
  show D (T3.setTop (mkF m 24 #[.val (.ref self), .val (.int p1)] [(.int (own_u (f (2 * kk)) (f (2 * kk + 1))))]))
  refine F _ (Jvm.JW.ret X3 hlk (v := some (.int (own_u (f (2 * kk)) (f (2 * kk + 1))))) (fun h => by rw [hrt] at h; cases h) (fun fs hr => retOut X3 hx hrt (own_nc _) (Or.inl ⟨rfl, Or.inr (Or.inr (Or.inr (Or.inl rfl))), _, rfl⟩) (hb hby d21_24) hr) rfl ?_ (by decide) (by decide))
  exact ⟨rfl, N3, e3⟩
theorem rm19 (l : Launch) (Z : State) (a0 : Array Value) (hw : ∀ d ∈ tables_1, d.before a0 Z = true) (ws : List Jvm.Cond) (self : Addr) (h0 : Heap) (n0 : Nat) (cd : Int32) (nb : Nat) (f : Nat → Int32) (cs : Int32) (hcs : ¬ cs = (0 : Int32)) (sf : Value) (hsf : sf.isRef = true) (S_sf : Sta Z h0 "jdk/internal/util/Preconditions" "SIOOBE_FORMATTER" "Ljava/util/function/BiFunction;" sf) (S_cs : Sta Z h0 "java/lang/String" "COMPACT_STRINGS" "Z" (.int cs)) (S_ad : Sta Z h0 "java/lang/StringUTF16" "$assertionsDisabled" "Z" (.int (1 : Int32))) (S_hi : Sta Z h0 "java/lang/StringUTF16" "HI_BYTE_SHIFT" "I" (.int (0 : Int32))) (S_lo : Sta Z h0 "java/lang/StringUTF16" "LO_BYTE_SHIFT" "I" (.int (8 : Int32))) (E_self : Exa Z h0 self "java/lang/String") (F_coder : Fld Z h0 self "java/lang/String" "coder" "B" (.int cd)) (bb : Addr) (F_value : Fld Z h0 self "java/lang/String" "value" "[B" (.ref bb)) (V_bb : ArI Z h0 bb .byte nb f) (c0 c1 : Int32) (hSt : own_S cd nb f c0 c1) : JMet l Z (⟨"java/lang/String", "length", "()I"⟩ : MethodName) jdk_42_method_54_code 1 (some .int) ws ({ frames := 1, cells := 0, slots := 0, locals := 13 } : Room) #[(.ref self)] h0 (QP (.int (2 : Int32)) h0 n0) := by
  rcases hSt with ⟨rfl, rfl, -, -⟩ | ⟨rfl, rfl, -, -⟩
  · exact rm19_2 l Z a0 hw ws self h0 n0 f cs hcs S_cs E_self F_coder bb F_value V_bb
  · exact rm19_4 l Z a0 hw ws self h0 n0 f cs hcs S_cs E_self F_coder bb F_value V_bb
def own_at (k : Nat) (x y : Int32) : Int32 := if k = 0 then x else y
theorem rm21 (l : Launch) (Z : State) (a0 : Array Value) (hw : ∀ d ∈ tables_1, d.before a0 Z = true) (ws : List Jvm.Cond) (self : Addr) (p1 : Int32) (h0 : Heap) (n0 : Nat) (kk : Nat) (hk : p1.toInt = kk) (hk2 : kk < 2) (cd : Int32) (nb : Nat) (f : Nat → Int32) (cs : Int32) (hcs : ¬ cs = (0 : Int32)) (sf : Value) (hsf : sf.isRef = true) (S_sf : Sta Z h0 "jdk/internal/util/Preconditions" "SIOOBE_FORMATTER" "Ljava/util/function/BiFunction;" sf) (S_cs : Sta Z h0 "java/lang/String" "COMPACT_STRINGS" "Z" (.int cs)) (S_ad : Sta Z h0 "java/lang/StringUTF16" "$assertionsDisabled" "Z" (.int (1 : Int32))) (S_hi : Sta Z h0 "java/lang/StringUTF16" "HI_BYTE_SHIFT" "I" (.int (0 : Int32))) (S_lo : Sta Z h0 "java/lang/StringUTF16" "LO_BYTE_SHIFT" "I" (.int (8 : Int32))) (E_self : Exa Z h0 self "java/lang/String") (F_coder : Fld Z h0 self "java/lang/String" "coder" "B" (.int cd)) (bb : Addr) (F_value : Fld Z h0 self "java/lang/String" "value" "[B" (.ref bb)) (V_bb : ArI Z h0 bb .byte nb f) (c0 c1 : Int32) (hSt : own_S cd nb f c0 c1) : JMet l Z (⟨"java/lang/String", "charAt", "(I)C"⟩ : MethodName) jdk_42_method_56_code 2 (some .char) ws ({ frames := 4, cells := 0, slots := 0, locals := 53 } : Room) #[(.ref self), (.int p1)] h0 (QP (.int (own_at kk c0 c1)) h0 n0) := by
  rcases hSt with ⟨rfl, rfl, q0, q1⟩ | ⟨rfl, rfl, q0, q1⟩
  · have q := rm21_2 l Z a0 hw ws self p1 h0 n0 f kk hk hk2 cs hcs sf hsf S_sf S_cs S_ad S_hi S_lo E_self F_coder bb F_value V_bb
    rcases (by omega : kk = 0 ∨ kk = 1) with rfl | rfl
    · rw [show own_at 0 c0 c1 = c0 from rfl, ← q0]; exact q
    · rw [show own_at 1 c0 c1 = c1 from rfl, ← q1]; exact q
  · have q := rm21_4 l Z a0 hw ws self p1 h0 n0 f kk hk hk2 cs hcs sf hsf S_sf S_cs S_ad S_hi S_lo E_self F_coder bb F_value V_bb
    rcases (by omega : kk = 0 ∨ kk = 1) with rfl | rfl
    · rw [show own_at 0 c0 c1 = c0 from rfl, ← q0]; exact q
    · rw [show own_at 1 c0 c1 = c1 from rfl, ← q1]; exact q
theorem d26_0 : decode jdk_89_method_16_code 0 = .ok (.iload_n 0, 1) := by decide +kernel
theorem d26_1 : decode jdk_89_method_16_code 1 = .ok (.ldc 75, 2) := by decide +kernel
theorem d26_3 : decode jdk_89_method_16_code 3 = .ok (.if_icmp .lt 13, 3) := by decide +kernel
theorem d26_6 : decode jdk_89_method_16_code 6 = .ok (.iload_n 0, 1) := by decide +kernel
theorem d26_7 : decode jdk_89_method_16_code 7 = .ok (.ldc 77, 2) := by decide +kernel
theorem d26_9 : decode jdk_89_method_16_code 9 = .ok (.if_icmp .ge 7, 3) := by decide +kernel
theorem d26_12 : decode jdk_89_method_16_code 12 = .ok (.iconst 1, 1) := by decide +kernel
theorem d26_13 : decode jdk_89_method_16_code 13 = .ok (.goto 4, 3) := by decide +kernel
theorem d26_16 : decode jdk_89_method_16_code 16 = .ok (.iconst 0, 1) := by decide +kernel
theorem d26_17 : decode jdk_89_method_16_code 17 = .ok (.ireturn, 1) := by decide +kernel
theorem pn26 : plainFor (⟨"java/lang/Character", "isSurrogate", "(C)Z"⟩ : MethodName) = true := by decide +kernel
theorem ef26 (p1 : Int32) (m : MethodId) : entryFrame m #[(.int p1)] 1 = mkF m 0 #[.val (.int p1)] [] := by first | (simp [entryFrame, mkF, argsToLocals, Value.category]; done) | rfl
def f26 (p1 : Int32) : Int32 := if p1 < (55296 : Int32) then ((0 : Int32)) else (if p1 < (57344 : Int32) then ((1 : Int32)) else ((0 : Int32)))
set_option maxRecDepth 65536 in
set_option maxHeartbeats 40000000 in
theorem rm26 (l : Launch) (Z : State) (a0 : Array Value) (hw : ∀ d ∈ tables_1, d.before a0 Z = true) (ws : List Jvm.Cond) (p1 : Int32) (h0 : Heap) (n0 : Nat) :
    JMet l Z (⟨"java/lang/Character", "isSurrogate", "(C)Z"⟩ : MethodName) jdk_89_method_16_code 1 (some .boolean) ws ({ frames := 0, cells := 0, slots := 0, locals := 0 } : Room) #[(.int p1)] h0 (QP (.int (f26 p1)) h0 n0) := by
  refine Jvm.JW.body #[.val (.int p1)] pn26 (ef26 p1) ?_
  intro p e s m below meth c T0 D A F X0 hx hZ hby hml hown hnm hrt hlk e0
  refine A (XS.iloadN X0.here hx rfl (hb hby d26_0) rfl) ?_
  show D (T0.setTop (mkF m 1 #[.val (.int p1)] [(.int p1)]))
  refine A (X0.ldcInt hx hown (mvT hZ (hw _ (List.mem_of_getElem? (i := 164) rfl))) (g := (mkF m 1 #[.val (.int p1)] [(.int p1)])) rfl (hb hby d26_1) _) ?_
  show D (T0.setTop (mkF m 3 #[.val (.int p1)] [(.int (55296 : Int32)), (.int p1)]))
  by_cases c3_1 : p1 < (55296 : Int32)
  · refine A (XS.icmpYes X0.here hx rfl (pc0 := 3) (pc' := 16) rfl (hb hby d26_3) rfl (tlt c3_1).1 (by decide) (by decide)) ?_
    show D (T0.setTop (mkF m 16 #[.val (.int p1)] []))
    refine A (XS.iconst X0.here hx rfl (hb hby d26_16)) ?_
    show D (T0.setTop (mkF m 17 #[.val (.int p1)] [(.int (0 : Int32))]))
    refine F _ (Jvm.JW.ret X0 hlk (v := some (.int (0 : Int32))) (fun h => by rw [hrt] at h; cases h) (fun fs hr => retOut X0 hx hrt rfl (Or.inl ⟨rfl, Or.inr (Or.inl rfl), _, rfl⟩) (hb hby d26_17) hr) rfl ?_ (by decide) (by decide))
    exact ⟨congrArg (fun z => some (Value.int z)) (by exact (if_pos c3_1).symm), (Fr.nil n0), e0⟩
  · refine A (XS.icmpNo X0.here hx rfl (hb hby d26_3) rfl (flt c3_1).1) ?_
    show D (T0.setTop (mkF m 6 #[.val (.int p1)] []))
    refine A (XS.iloadN X0.here hx rfl (hb hby d26_6) rfl) ?_
    show D (T0.setTop (mkF m 7 #[.val (.int p1)] [(.int p1)]))
    refine A (X0.ldcInt hx hown (mvT hZ (hw _ (List.mem_of_getElem? (i := 209) rfl))) (g := (mkF m 7 #[.val (.int p1)] [(.int p1)])) rfl (hb hby d26_7) _) ?_
    show D (T0.setTop (mkF m 9 #[.val (.int p1)] [(.int (57344 : Int32)), (.int p1)]))
    by_cases c9_2 : p1 < (57344 : Int32)
    · refine A (XS.icmpNo X0.here hx rfl (hb hby d26_9) rfl (tlt c9_2).2.1) ?_
      show D (T0.setTop (mkF m 12 #[.val (.int p1)] []))
      refine A (XS.iconst X0.here hx rfl (hb hby d26_12)) ?_
      show D (T0.setTop (mkF m 13 #[.val (.int p1)] [(.int (1 : Int32))]))
      refine A (XS.goto X0.here hx rfl (pc0 := 13) (pc' := 17) rfl (hb hby d26_13) (by decide) (by decide)) ?_
      show D (T0.setTop (mkF m 17 #[.val (.int p1)] [(.int (1 : Int32))]))
      refine F _ (Jvm.JW.ret X0 hlk (v := some (.int (1 : Int32))) (fun h => by rw [hrt] at h; cases h) (fun fs hr => retOut X0 hx hrt rfl (Or.inl ⟨rfl, Or.inr (Or.inl rfl), _, rfl⟩) (hb hby d26_17) hr) rfl ?_ (by decide) (by decide))
      exact ⟨congrArg (fun z => some (Value.int z)) (by exact ((if_neg c3_1).trans (if_pos c9_2)).symm), (Fr.nil n0), e0⟩
    · refine A (XS.icmpYes X0.here hx rfl (pc0 := 9) (pc' := 16) rfl (hb hby d26_9) rfl (flt c9_2).2.1 (by decide) (by decide)) ?_
      show D (T0.setTop (mkF m 16 #[.val (.int p1)] []))
      refine A (XS.iconst X0.here hx rfl (hb hby d26_16)) ?_
      show D (T0.setTop (mkF m 17 #[.val (.int p1)] [(.int (0 : Int32))]))
      refine F _ (Jvm.JW.ret X0 hlk (v := some (.int (0 : Int32))) (fun h => by rw [hrt] at h; cases h) (fun fs hr => retOut X0 hx hrt rfl (Or.inl ⟨rfl, Or.inr (Or.inl rfl), _, rfl⟩) (hb hby d26_17) hr) rfl ?_ (by decide) (by decide))
      exact ⟨congrArg (fun z => some (Value.int z)) (by exact ((if_neg c3_1).trans (if_neg c9_2)).symm), (Fr.nil n0), e0⟩
theorem d38_0 : decode jdk_89_method_15_code 0 = .ok (.iload_n 0, 1) := by decide +kernel
theorem d38_1 : decode jdk_89_method_15_code 1 = .ok (.ldc 76, 2) := by decide +kernel
theorem d38_3 : decode jdk_89_method_15_code 3 = .ok (.if_icmp .lt 13, 3) := by decide +kernel
theorem d38_6 : decode jdk_89_method_15_code 6 = .ok (.iload_n 0, 1) := by decide +kernel
theorem d38_7 : decode jdk_89_method_15_code 7 = .ok (.ldc 77, 2) := by decide +kernel
theorem d38_9 : decode jdk_89_method_15_code 9 = .ok (.if_icmp .ge 7, 3) := by decide +kernel
theorem d38_12 : decode jdk_89_method_15_code 12 = .ok (.iconst 1, 1) := by decide +kernel
theorem d38_13 : decode jdk_89_method_15_code 13 = .ok (.goto 4, 3) := by decide +kernel
theorem d38_16 : decode jdk_89_method_15_code 16 = .ok (.iconst 0, 1) := by decide +kernel
theorem d38_17 : decode jdk_89_method_15_code 17 = .ok (.ireturn, 1) := by decide +kernel
theorem pn38 : plainFor (⟨"java/lang/Character", "isLowSurrogate", "(C)Z"⟩ : MethodName) = true := by decide +kernel
theorem ef38 (p1 : Int32) (m : MethodId) : entryFrame m #[(.int p1)] 1 = mkF m 0 #[.val (.int p1)] [] := by first | (simp [entryFrame, mkF, argsToLocals, Value.category]; done) | rfl
def f38 (p1 : Int32) : Int32 := if p1 < (56320 : Int32) then ((0 : Int32)) else (if p1 < (57344 : Int32) then ((1 : Int32)) else ((0 : Int32)))
set_option maxRecDepth 65536 in
set_option maxHeartbeats 40000000 in
theorem rm38 (l : Launch) (Z : State) (a0 : Array Value) (hw : ∀ d ∈ tables_1, d.before a0 Z = true) (ws : List Jvm.Cond) (p1 : Int32) (h0 : Heap) (n0 : Nat) :
    JMet l Z (⟨"java/lang/Character", "isLowSurrogate", "(C)Z"⟩ : MethodName) jdk_89_method_15_code 1 (some .boolean) ws ({ frames := 0, cells := 0, slots := 0, locals := 0 } : Room) #[(.int p1)] h0 (QP (.int (f38 p1)) h0 n0) := by
  refine Jvm.JW.body #[.val (.int p1)] pn38 (ef38 p1) ?_
  intro p e s m below meth c T0 D A F X0 hx hZ hby hml hown hnm hrt hlk e0
  refine A (XS.iloadN X0.here hx rfl (hb hby d38_0) rfl) ?_
  show D (T0.setTop (mkF m 1 #[.val (.int p1)] [(.int p1)]))
  refine A (X0.ldcInt hx hown (mvT hZ (hw _ (List.mem_of_getElem? (i := 213) rfl))) (g := (mkF m 1 #[.val (.int p1)] [(.int p1)])) rfl (hb hby d38_1) _) ?_
  show D (T0.setTop (mkF m 3 #[.val (.int p1)] [(.int (56320 : Int32)), (.int p1)]))
  by_cases c3_1 : p1 < (56320 : Int32)
  · refine A (XS.icmpYes X0.here hx rfl (pc0 := 3) (pc' := 16) rfl (hb hby d38_3) rfl (tlt c3_1).1 (by decide) (by decide)) ?_
    show D (T0.setTop (mkF m 16 #[.val (.int p1)] []))
    refine A (XS.iconst X0.here hx rfl (hb hby d38_16)) ?_
    show D (T0.setTop (mkF m 17 #[.val (.int p1)] [(.int (0 : Int32))]))
    refine F _ (Jvm.JW.ret X0 hlk (v := some (.int (0 : Int32))) (fun h => by rw [hrt] at h; cases h) (fun fs hr => retOut X0 hx hrt rfl (Or.inl ⟨rfl, Or.inr (Or.inl rfl), _, rfl⟩) (hb hby d38_17) hr) rfl ?_ (by decide) (by decide))
    exact ⟨congrArg (fun z => some (Value.int z)) (by exact (if_pos c3_1).symm), (Fr.nil n0), e0⟩
  · refine A (XS.icmpNo X0.here hx rfl (hb hby d38_3) rfl (flt c3_1).1) ?_
    show D (T0.setTop (mkF m 6 #[.val (.int p1)] []))
    refine A (XS.iloadN X0.here hx rfl (hb hby d38_6) rfl) ?_
    show D (T0.setTop (mkF m 7 #[.val (.int p1)] [(.int p1)]))
    refine A (X0.ldcInt hx hown (mvT hZ (hw _ (List.mem_of_getElem? (i := 209) rfl))) (g := (mkF m 7 #[.val (.int p1)] [(.int p1)])) rfl (hb hby d38_7) _) ?_
    show D (T0.setTop (mkF m 9 #[.val (.int p1)] [(.int (57344 : Int32)), (.int p1)]))
    by_cases c9_2 : p1 < (57344 : Int32)
    · refine A (XS.icmpNo X0.here hx rfl (hb hby d38_9) rfl (tlt c9_2).2.1) ?_
      show D (T0.setTop (mkF m 12 #[.val (.int p1)] []))
      refine A (XS.iconst X0.here hx rfl (hb hby d38_12)) ?_
      show D (T0.setTop (mkF m 13 #[.val (.int p1)] [(.int (1 : Int32))]))
      refine A (XS.goto X0.here hx rfl (pc0 := 13) (pc' := 17) rfl (hb hby d38_13) (by decide) (by decide)) ?_
      show D (T0.setTop (mkF m 17 #[.val (.int p1)] [(.int (1 : Int32))]))
      refine F _ (Jvm.JW.ret X0 hlk (v := some (.int (1 : Int32))) (fun h => by rw [hrt] at h; cases h) (fun fs hr => retOut X0 hx hrt rfl (Or.inl ⟨rfl, Or.inr (Or.inl rfl), _, rfl⟩) (hb hby d38_17) hr) rfl ?_ (by decide) (by decide))
      exact ⟨congrArg (fun z => some (Value.int z)) (by exact ((if_neg c3_1).trans (if_pos c9_2)).symm), (Fr.nil n0), e0⟩
    · refine A (XS.icmpYes X0.here hx rfl (pc0 := 9) (pc' := 16) rfl (hb hby d38_9) rfl (flt c9_2).2.1 (by decide) (by decide)) ?_
      show D (T0.setTop (mkF m 16 #[.val (.int p1)] []))
      refine A (XS.iconst X0.here hx rfl (hb hby d38_16)) ?_
      show D (T0.setTop (mkF m 17 #[.val (.int p1)] [(.int (0 : Int32))]))
      refine F _ (Jvm.JW.ret X0 hlk (v := some (.int (0 : Int32))) (fun h => by rw [hrt] at h; cases h) (fun fs hr => retOut X0 hx hrt rfl (Or.inl ⟨rfl, Or.inr (Or.inl rfl), _, rfl⟩) (hb hby d38_17) hr) rfl ?_ (by decide) (by decide))
      exact ⟨congrArg (fun z => some (Value.int z)) (by exact ((if_neg c3_1).trans (if_neg c9_2)).symm), (Fr.nil n0), e0⟩
theorem d40_0 : decode jdk_89_method_19_code 0 = .ok (.iload_n 0, 1) := by decide +kernel
theorem d40_1 : decode jdk_89_method_19_code 1 = .ok (.bipush 10, 2) := by decide +kernel
theorem d40_3 : decode jdk_89_method_19_code 3 = .ok (.ishl, 1) := by decide +kernel
theorem d40_4 : decode jdk_89_method_19_code 4 = .ok (.iload_n 1, 1) := by decide +kernel
theorem d40_5 : decode jdk_89_method_19_code 5 = .ok (.iadd, 1) := by decide +kernel
theorem d40_6 : decode jdk_89_method_19_code 6 = .ok (.ldc 85, 2) := by decide +kernel
theorem d40_8 : decode jdk_89_method_19_code 8 = .ok (.iadd, 1) := by decide +kernel
theorem d40_9 : decode jdk_89_method_19_code 9 = .ok (.ireturn, 1) := by decide +kernel
theorem pn40 : plainFor (⟨"java/lang/Character", "toCodePoint", "(CC)I"⟩ : MethodName) = true := by decide +kernel
theorem ef40 (p1 : Int32) (p2 : Int32) (m : MethodId) : entryFrame m #[(.int p1), (.int p2)] 2 = mkF m 0 #[.val (.int p1), .val (.int p2)] [] := by first | (simp [entryFrame, mkF, argsToLocals, Value.category]; done) | rfl
def f40 (p1 : Int32) (p2 : Int32) : Int32 := (((p1 <<< ((10 : Int32) &&& 31)) + p2) + (-56613888 : Int32))
set_option maxRecDepth 65536 in
set_option maxHeartbeats 40000000 in
theorem rm40 (l : Launch) (Z : State) (a0 : Array Value) (hw : ∀ d ∈ tables_1, d.before a0 Z = true) (ws : List Jvm.Cond) (p1 : Int32) (p2 : Int32) (h0 : Heap) (n0 : Nat) :
    JMet l Z (⟨"java/lang/Character", "toCodePoint", "(CC)I"⟩ : MethodName) jdk_89_method_19_code 2 (some .int) ws ({ frames := 0, cells := 0, slots := 0, locals := 0 } : Room) #[(.int p1), (.int p2)] h0 (QP (.int (f40 p1 p2)) h0 n0) := by
  refine Jvm.JW.body #[.val (.int p1), .val (.int p2)] pn40 (ef40 p1 p2) ?_
  intro p e s m below meth c T0 D A F X0 hx hZ hby hml hown hnm hrt hlk e0
  refine A (XS.iloadN X0.here hx rfl (hb hby d40_0) rfl) ?_
  show D (T0.setTop (mkF m 1 #[.val (.int p1), .val (.int p2)] [(.int p1)]))
  refine A (XS.bipush X0.here hx rfl (hb hby d40_1)) ?_
  show D (T0.setTop (mkF m 3 #[.val (.int p1), .val (.int p2)] [(.int (10 : Int32)), (.int p1)]))
  refine A (XS.ishl X0.here hx rfl (hb hby d40_3) rfl) ?_
  show D (T0.setTop (mkF m 4 #[.val (.int p1), .val (.int p2)] [(.int (p1 <<< ((10 : Int32) &&& 31)))]))
  refine A (XS.iloadN X0.here hx rfl (hb hby d40_4) rfl) ?_
  show D (T0.setTop (mkF m 5 #[.val (.int p1), .val (.int p2)] [(.int p2), (.int (p1 <<< ((10 : Int32) &&& 31)))]))
  refine A (XS.iadd X0.here hx rfl (hb hby d40_5) rfl) ?_
  show D (T0.setTop (mkF m 6 #[.val (.int p1), .val (.int p2)] [(.int ((p1 <<< ((10 : Int32) &&& 31)) + p2))]))
  refine A (X0.ldcInt hx hown (mvT hZ (hw _ (List.mem_of_getElem? (i := 232) rfl))) (g := (mkF m 6 #[.val (.int p1), .val (.int p2)] [(.int ((p1 <<< ((10 : Int32) &&& 31)) + p2))])) rfl (hb hby d40_6) _) ?_
  show D (T0.setTop (mkF m 8 #[.val (.int p1), .val (.int p2)] [(.int (-56613888 : Int32)), (.int ((p1 <<< ((10 : Int32) &&& 31)) + p2))]))
  refine A (XS.iadd X0.here hx rfl (hb hby d40_8) rfl) ?_
  show D (T0.setTop (mkF m 9 #[.val (.int p1), .val (.int p2)] [(.int (((p1 <<< ((10 : Int32) &&& 31)) + p2) + (-56613888 : Int32)))]))
  refine F _ (Jvm.JW.ret X0 hlk (v := some (.int (((p1 <<< ((10 : Int32) &&& 31)) + p2) + (-56613888 : Int32)))) (fun h => by rw [hrt] at h; cases h) (fun fs hr => retOut X0 hx hrt rfl (Or.inl ⟨rfl, Or.inl rfl, _, rfl⟩) (hb hby d40_9) hr) rfl ?_ (by decide) (by decide))
  exact ⟨congrArg (fun z => some (Value.int z)) (by rfl), (Fr.nil n0), e0⟩
theorem d27_0 : decode method_2_code 0 = .ok (.iload_n 0, 1) := by decide +kernel
theorem d27_1 : decode method_2_code 1 = .ok (.ldc 7, 2) := by decide +kernel
theorem d27_3 : decode method_2_code 3 = .ok (.if_icmp .lt 13, 3) := by decide +kernel
theorem d27_6 : decode method_2_code 6 = .ok (.iload_n 0, 1) := by decide +kernel
theorem d27_7 : decode method_2_code 7 = .ok (.ldc 8, 2) := by decide +kernel
theorem d27_9 : decode method_2_code 9 = .ok (.if_icmp .gt 7, 3) := by decide +kernel
theorem d27_12 : decode method_2_code 12 = .ok (.iconst 1, 1) := by decide +kernel
theorem d27_13 : decode method_2_code 13 = .ok (.goto 4, 3) := by decide +kernel
theorem d27_16 : decode method_2_code 16 = .ok (.iconst 0, 1) := by decide +kernel
theorem d27_17 : decode method_2_code 17 = .ok (.ireturn, 1) := by decide +kernel
theorem pn27 : plainFor (⟨"com/example/carmenta/carmenta/CharReaderReadOnPinLaw", "isHigh", "(I)Z"⟩ : MethodName) = true := by decide +kernel
theorem ef27 (p1 : Int32) (m : MethodId) : entryFrame m #[(.int p1)] 1 = mkF m 0 #[.val (.int p1)] [] := by first | (simp [entryFrame, mkF, argsToLocals, Value.category]; done) | rfl
def f27 (p1 : Int32) : Int32 := if p1 < (55296 : Int32) then ((0 : Int32)) else (if (56319 : Int32) < p1 then ((0 : Int32)) else ((1 : Int32)))
set_option maxRecDepth 65536 in
set_option maxHeartbeats 40000000 in
theorem rm27 (l : Launch) (Z : State) (a0 : Array Value) (hw : ∀ d ∈ tables_1, d.before a0 Z = true) (ws : List Jvm.Cond) (p1 : Int32) (h0 : Heap) (n0 : Nat) :
    JMet l Z (⟨"com/example/carmenta/carmenta/CharReaderReadOnPinLaw", "isHigh", "(I)Z"⟩ : MethodName) method_2_code 1 (some .boolean) ws ({ frames := 0, cells := 0, slots := 0, locals := 0 } : Room) #[(.int p1)] h0 (QP (.int (f27 p1)) h0 n0) := by
  refine Jvm.JW.body #[.val (.int p1)] pn27 (ef27 p1) ?_
  intro p e s m below meth c T0 D A F X0 hx hZ hby hml hown hnm hrt hlk e0
  refine A (XS.iloadN X0.here hx rfl (hb hby d27_0) rfl) ?_
  show D (T0.setTop (mkF m 1 #[.val (.int p1)] [(.int p1)]))
  refine A (X0.ldcInt hx hown (mvT hZ (hw _ (List.mem_of_getElem? (i := 170) rfl))) (g := (mkF m 1 #[.val (.int p1)] [(.int p1)])) rfl (hb hby d27_1) _) ?_
  show D (T0.setTop (mkF m 3 #[.val (.int p1)] [(.int (55296 : Int32)), (.int p1)]))
  by_cases c3_1 : p1 < (55296 : Int32)
  · refine A (XS.icmpYes X0.here hx rfl (pc0 := 3) (pc' := 16) rfl (hb hby d27_3) rfl (tlt c3_1).1 (by decide) (by decide)) ?_
    show D (T0.setTop (mkF m 16 #[.val (.int p1)] []))
    refine A (XS.iconst X0.here hx rfl (hb hby d27_16)) ?_
    show D (T0.setTop (mkF m 17 #[.val (.int p1)] [(.int (0 : Int32))]))
    refine F _ (Jvm.JW.ret X0 hlk (v := some (.int (0 : Int32))) (fun h => by rw [hrt] at h; cases h) (fun fs hr => retOut X0 hx hrt rfl (Or.inl ⟨rfl, Or.inr (Or.inl rfl), _, rfl⟩) (hb hby d27_17) hr) rfl ?_ (by decide) (by decide))
    exact ⟨congrArg (fun z => some (Value.int z)) (by exact (if_pos c3_1).symm), (Fr.nil n0), e0⟩
  · refine A (XS.icmpNo X0.here hx rfl (hb hby d27_3) rfl (flt c3_1).1) ?_
    show D (T0.setTop (mkF m 6 #[.val (.int p1)] []))
    refine A (XS.iloadN X0.here hx rfl (hb hby d27_6) rfl) ?_
    show D (T0.setTop (mkF m 7 #[.val (.int p1)] [(.int p1)]))
    refine A (X0.ldcInt hx hown (mvT hZ (hw _ (List.mem_of_getElem? (i := 225) rfl))) (g := (mkF m 7 #[.val (.int p1)] [(.int p1)])) rfl (hb hby d27_7) _) ?_
    show D (T0.setTop (mkF m 9 #[.val (.int p1)] [(.int (56319 : Int32)), (.int p1)]))
    by_cases c9_2 : (56319 : Int32) < p1
    · refine A (XS.icmpYes X0.here hx rfl (pc0 := 9) (pc' := 16) rfl (hb hby d27_9) rfl (tlt c9_2).2.2.1 (by decide) (by decide)) ?_
      show D (T0.setTop (mkF m 16 #[.val (.int p1)] []))
      refine A (XS.iconst X0.here hx rfl (hb hby d27_16)) ?_
      show D (T0.setTop (mkF m 17 #[.val (.int p1)] [(.int (0 : Int32))]))
      refine F _ (Jvm.JW.ret X0 hlk (v := some (.int (0 : Int32))) (fun h => by rw [hrt] at h; cases h) (fun fs hr => retOut X0 hx hrt rfl (Or.inl ⟨rfl, Or.inr (Or.inl rfl), _, rfl⟩) (hb hby d27_17) hr) rfl ?_ (by decide) (by decide))
      exact ⟨congrArg (fun z => some (Value.int z)) (by exact ((if_neg c3_1).trans (if_pos c9_2)).symm), (Fr.nil n0), e0⟩
    · refine A (XS.icmpNo X0.here hx rfl (hb hby d27_9) rfl (flt c9_2).2.2.1) ?_
      show D (T0.setTop (mkF m 12 #[.val (.int p1)] []))
      refine A (XS.iconst X0.here hx rfl (hb hby d27_12)) ?_
      show D (T0.setTop (mkF m 13 #[.val (.int p1)] [(.int (1 : Int32))]))
      refine A (XS.goto X0.here hx rfl (pc0 := 13) (pc' := 17) rfl (hb hby d27_13) (by decide) (by decide)) ?_
      show D (T0.setTop (mkF m 17 #[.val (.int p1)] [(.int (1 : Int32))]))
      refine F _ (Jvm.JW.ret X0 hlk (v := some (.int (1 : Int32))) (fun h => by rw [hrt] at h; cases h) (fun fs hr => retOut X0 hx hrt rfl (Or.inl ⟨rfl, Or.inr (Or.inl rfl), _, rfl⟩) (hb hby d27_17) hr) rfl ?_ (by decide) (by decide))
      exact ⟨congrArg (fun z => some (Value.int z)) (by exact ((if_neg c3_1).trans (if_neg c9_2)).symm), (Fr.nil n0), e0⟩
theorem d28_0 : decode method_3_code 0 = .ok (.iload_n 0, 1) := by decide +kernel
theorem d28_1 : decode method_3_code 1 = .ok (.ldc 9, 2) := by decide +kernel
theorem d28_3 : decode method_3_code 3 = .ok (.if_icmp .lt 13, 3) := by decide +kernel
theorem d28_6 : decode method_3_code 6 = .ok (.iload_n 0, 1) := by decide +kernel
theorem d28_7 : decode method_3_code 7 = .ok (.ldc 10, 2) := by decide +kernel
theorem d28_9 : decode method_3_code 9 = .ok (.if_icmp .gt 7, 3) := by decide +kernel
theorem d28_12 : decode method_3_code 12 = .ok (.iconst 1, 1) := by decide +kernel
theorem d28_13 : decode method_3_code 13 = .ok (.goto 4, 3) := by decide +kernel
theorem d28_16 : decode method_3_code 16 = .ok (.iconst 0, 1) := by decide +kernel
theorem d28_17 : decode method_3_code 17 = .ok (.ireturn, 1) := by decide +kernel
theorem pn28 : plainFor (⟨"com/example/carmenta/carmenta/CharReaderReadOnPinLaw", "isLow", "(I)Z"⟩ : MethodName) = true := by decide +kernel
theorem ef28 (p1 : Int32) (m : MethodId) : entryFrame m #[(.int p1)] 1 = mkF m 0 #[.val (.int p1)] [] := by first | (simp [entryFrame, mkF, argsToLocals, Value.category]; done) | rfl
def f28 (p1 : Int32) : Int32 := if p1 < (56320 : Int32) then ((0 : Int32)) else (if (57343 : Int32) < p1 then ((0 : Int32)) else ((1 : Int32)))
set_option maxRecDepth 65536 in
set_option maxHeartbeats 40000000 in
theorem rm28 (l : Launch) (Z : State) (a0 : Array Value) (hw : ∀ d ∈ tables_1, d.before a0 Z = true) (ws : List Jvm.Cond) (p1 : Int32) (h0 : Heap) (n0 : Nat) :
    JMet l Z (⟨"com/example/carmenta/carmenta/CharReaderReadOnPinLaw", "isLow", "(I)Z"⟩ : MethodName) method_3_code 1 (some .boolean) ws ({ frames := 0, cells := 0, slots := 0, locals := 0 } : Room) #[(.int p1)] h0 (QP (.int (f28 p1)) h0 n0) := by
  refine Jvm.JW.body #[.val (.int p1)] pn28 (ef28 p1) ?_
  intro p e s m below meth c T0 D A F X0 hx hZ hby hml hown hnm hrt hlk e0
  refine A (XS.iloadN X0.here hx rfl (hb hby d28_0) rfl) ?_
  show D (T0.setTop (mkF m 1 #[.val (.int p1)] [(.int p1)]))
  refine A (X0.ldcInt hx hown (mvT hZ (hw _ (List.mem_of_getElem? (i := 174) rfl))) (g := (mkF m 1 #[.val (.int p1)] [(.int p1)])) rfl (hb hby d28_1) _) ?_
  show D (T0.setTop (mkF m 3 #[.val (.int p1)] [(.int (56320 : Int32)), (.int p1)]))
  by_cases c3_1 : p1 < (56320 : Int32)
  · refine A (XS.icmpYes X0.here hx rfl (pc0 := 3) (pc' := 16) rfl (hb hby d28_3) rfl (tlt c3_1).1 (by decide) (by decide)) ?_
    show D (T0.setTop (mkF m 16 #[.val (.int p1)] []))
    refine A (XS.iconst X0.here hx rfl (hb hby d28_16)) ?_
    show D (T0.setTop (mkF m 17 #[.val (.int p1)] [(.int (0 : Int32))]))
    refine F _ (Jvm.JW.ret X0 hlk (v := some (.int (0 : Int32))) (fun h => by rw [hrt] at h; cases h) (fun fs hr => retOut X0 hx hrt rfl (Or.inl ⟨rfl, Or.inr (Or.inl rfl), _, rfl⟩) (hb hby d28_17) hr) rfl ?_ (by decide) (by decide))
    exact ⟨congrArg (fun z => some (Value.int z)) (by exact (if_pos c3_1).symm), (Fr.nil n0), e0⟩
  · refine A (XS.icmpNo X0.here hx rfl (hb hby d28_3) rfl (flt c3_1).1) ?_
    show D (T0.setTop (mkF m 6 #[.val (.int p1)] []))
    refine A (XS.iloadN X0.here hx rfl (hb hby d28_6) rfl) ?_
    show D (T0.setTop (mkF m 7 #[.val (.int p1)] [(.int p1)]))
    refine A (X0.ldcInt hx hown (mvT hZ (hw _ (List.mem_of_getElem? (i := 226) rfl))) (g := (mkF m 7 #[.val (.int p1)] [(.int p1)])) rfl (hb hby d28_7) _) ?_
    show D (T0.setTop (mkF m 9 #[.val (.int p1)] [(.int (57343 : Int32)), (.int p1)]))
    by_cases c9_2 : (57343 : Int32) < p1
    · refine A (XS.icmpYes X0.here hx rfl (pc0 := 9) (pc' := 16) rfl (hb hby d28_9) rfl (tlt c9_2).2.2.1 (by decide) (by decide)) ?_
      show D (T0.setTop (mkF m 16 #[.val (.int p1)] []))
      refine A (XS.iconst X0.here hx rfl (hb hby d28_16)) ?_
      show D (T0.setTop (mkF m 17 #[.val (.int p1)] [(.int (0 : Int32))]))
      refine F _ (Jvm.JW.ret X0 hlk (v := some (.int (0 : Int32))) (fun h => by rw [hrt] at h; cases h) (fun fs hr => retOut X0 hx hrt rfl (Or.inl ⟨rfl, Or.inr (Or.inl rfl), _, rfl⟩) (hb hby d28_17) hr) rfl ?_ (by decide) (by decide))
      exact ⟨congrArg (fun z => some (Value.int z)) (by exact ((if_neg c3_1).trans (if_pos c9_2)).symm), (Fr.nil n0), e0⟩
    · refine A (XS.icmpNo X0.here hx rfl (hb hby d28_9) rfl (flt c9_2).2.2.1) ?_
      show D (T0.setTop (mkF m 12 #[.val (.int p1)] []))
      refine A (XS.iconst X0.here hx rfl (hb hby d28_12)) ?_
      show D (T0.setTop (mkF m 13 #[.val (.int p1)] [(.int (1 : Int32))]))
      refine A (XS.goto X0.here hx rfl (pc0 := 13) (pc' := 17) rfl (hb hby d28_13) (by decide) (by decide)) ?_
      show D (T0.setTop (mkF m 17 #[.val (.int p1)] [(.int (1 : Int32))]))
      refine F _ (Jvm.JW.ret X0 hlk (v := some (.int (1 : Int32))) (fun h => by rw [hrt] at h; cases h) (fun fs hr => retOut X0 hx hrt rfl (Or.inl ⟨rfl, Or.inr (Or.inl rfl), _, rfl⟩) (hb hby d28_17) hr) rfl ?_ (by decide) (by decide))
      exact ⟨congrArg (fun z => some (Value.int z)) (by exact ((if_neg c3_1).trans (if_neg c9_2)).symm), (Fr.nil n0), e0⟩
theorem d9_0 : decode prog_34_method_2_code 0 = .ok (.getstatic 21, 3) := by decide +kernel
theorem d9_3 : decode prog_34_method_2_code 3 = .ok (.areturn, 1) := by decide +kernel
theorem pn9 : plainFor (⟨"com/example/carmenta/carmenta/Validation", "wellFormed", "()Lcom/example/carmenta/carmenta/Validation;"⟩ : MethodName) = true := by decide +kernel
theorem ef9  (m : MethodId) : entryFrame m #[] 0 = mkF m 0 #[] [] := by first | (simp [entryFrame, mkF, argsToLocals, Value.category]; done) | rfl
set_option maxRecDepth 65536 in
set_option maxHeartbeats 40000000 in
theorem rm9 (l : Launch) (Z : State) (a0 : Array Value) (hw : ∀ d ∈ tables_1, d.before a0 Z = true) (ws : List Jvm.Cond)  (h0 : Heap) (n0 : Nat) (wf : Addr) (S_wf : Sta Z h0 "com/example/carmenta/carmenta/Validation" "WELL_FORMED" "Lcom/example/carmenta/carmenta/Validation;" (.ref wf)) :
    JMet l Z (⟨"com/example/carmenta/carmenta/Validation", "wellFormed", "()Lcom/example/carmenta/carmenta/Validation;"⟩ : MethodName) prog_34_method_2_code 0 (some (.object "com/example/carmenta/carmenta/Validation")) ws ({ frames := 0, cells := 0, slots := 0, locals := 0 } : Room) #[] h0 (QP (.ref wf) h0 n0) := by
  refine Jvm.JW.body #[] pn9 (ef9 ) ?_
  intro p e s m below meth c T0 D A F X0 hx hZ hby hml hown hnm hrt hlk e0
  obtain ⟨T1, X1, e1, st1⟩ := getS X0 hx hZ hown (host := "") (hw _ (List.mem_of_getElem? (i := 55) rfl)) Via.refl e0 S_wf (g := (mkF m 0 #[] [])) rfl (hb hby d9_0)
  refine A (st1 _) ?_
  show D (T1.setTop (mkF m 3 #[] [(.ref wf)]))
  refine F _ (Jvm.JW.ret X1 hlk (v := some (.ref wf)) (fun h => by rw [hrt] at h; cases h) (fun fs hr => retOut X1 hx hrt rfl (Or.inr (Or.inr (Or.inr (Or.inr ⟨rfl, rfl, rfl⟩)))) (hb hby d9_3) hr) rfl ?_ (by decide) (by decide))
  exact ⟨rfl, (Fr.nil n0), e1⟩
theorem d8_0 : decode prog_24_method_1_code 0 = .ok (.aload_n 0, 1) := by decide +kernel
theorem d8_1 : decode prog_24_method_1_code 1 = .ok (.invokespecial 1, 3) := by decide +kernel
theorem d8_4 : decode prog_24_method_1_code 4 = .ok (.aload_n 0, 1) := by decide +kernel
theorem d8_5 : decode prog_24_method_1_code 5 = .ok (.getstatic 7, 3) := by decide +kernel
theorem d8_8 : decode prog_24_method_1_code 8 = .ok (.putfield 13, 3) := by decide +kernel
theorem d8_11 : decode prog_24_method_1_code 11 = .ok (.aload_n 0, 1) := by decide +kernel
theorem d8_12 : decode prog_24_method_1_code 12 = .ok (.invokestatic 18, 3) := by decide +kernel
theorem d8_15 : decode prog_24_method_1_code 15 = .ok (.putfield 24, 3) := by decide +kernel
theorem d8_18 : decode prog_24_method_1_code 18 = .ok (.return_, 1) := by decide +kernel
theorem pn8 : plainFor (⟨"com/example/carmenta/carmenta/ScalarReader", "<init>", "()V"⟩ : MethodName) = true := by decide +kernel
theorem pd8_0 : parseMethodDescriptor "()Lcom/example/carmenta/carmenta/Validation;" = some ⟨[], some (.object "com/example/carmenta/carmenta/Validation")⟩ := by decide +kernel
theorem ef8 (self : Addr) (m : MethodId) : entryFrame m #[(.ref self)] 1 = mkF m 0 #[.val (.ref self)] [] := by first | (simp [entryFrame, mkF, argsToLocals, Value.category]; done) | rfl
set_option maxRecDepth 65536 in
set_option maxHeartbeats 40000000 in
theorem rm8 (l : Launch) (Z : State) (a0 : Array Value) (hw : ∀ d ∈ tables_1, d.before a0 Z = true) (ws : List Jvm.Cond) (self : Addr) (h0 : Heap) (n0 : Nat) (rfu wf : Addr) (Z0 : n0 ≤ h0.size) (g_self : n0 ≤ self) (E_self : Exa Z h0 self "com/example/carmenta/carmenta/CharReader") (F_last : Fld Z h0 self "com/example/carmenta/carmenta/CharReader" "last" "Z" (.int (0 : Int32))) (F_chars : Fld Z h0 self "com/example/carmenta/carmenta/CharReader" "chars" "Ljava/lang/CharSequence;" .null) (F_index : Fld Z h0 self "com/example/carmenta/carmenta/CharReader" "index" "I" (.int (0 : Int32))) (F_start : Fld Z h0 self "com/example/carmenta/carmenta/CharReader" "start" "J" (.long (0 : Int64))) (F_fault : Fld Z h0 self "com/example/carmenta/carmenta/ScalarReader" "fault" "Lcom/example/carmenta/carmenta/Fault;" .null) (F_subpart : Fld Z h0 self "com/example/carmenta/carmenta/ScalarReader" "subpart" "I" (.int (0 : Int32))) (F_policy : Fld Z h0 self "com/example/carmenta/carmenta/ScalarReader" "policy" "Lcom/example/carmenta/carmenta/OnIllFormed;" .null) (F_firstReplaced : Fld Z h0 self "com/example/carmenta/carmenta/ScalarReader" "firstReplaced" "Lcom/example/carmenta/carmenta/Validation;" .null) (S_rf : Sta Z h0 "com/example/carmenta/carmenta/OnIllFormed" "REFUSE" "Lcom/example/carmenta/carmenta/OnIllFormed;" (.ref rfu)) (S_wf : Sta Z h0 "com/example/carmenta/carmenta/Validation" "WELL_FORMED" "Lcom/example/carmenta/carmenta/Validation;" (.ref wf)) :
    JMet l Z (⟨"com/example/carmenta/carmenta/ScalarReader", "<init>", "()V"⟩ : MethodName) prog_24_method_1_code 1 none ws ({ frames := 1, cells := 0, slots := 0, locals := 12 } : Room) #[(.ref self)] h0 (fun v h L => v = none ∧ Fr n0 L ∧ Keep h0 h [self] ∧ Exa Z h self "com/example/carmenta/carmenta/CharReader" ∧ Fld Z h self "com/example/carmenta/carmenta/CharReader" "last" "Z" (.int (0 : Int32)) ∧ Fld Z h self "com/example/carmenta/carmenta/CharReader" "chars" "Ljava/lang/CharSequence;" .null ∧ Fld Z h self "com/example/carmenta/carmenta/CharReader" "index" "I" (.int (0 : Int32)) ∧ Fld Z h self "com/example/carmenta/carmenta/CharReader" "start" "J" (.long (0 : Int64)) ∧ Fld Z h self "com/example/carmenta/carmenta/ScalarReader" "fault" "Lcom/example/carmenta/carmenta/Fault;" .null ∧ Fld Z h self "com/example/carmenta/carmenta/ScalarReader" "subpart" "I" (.int (0 : Int32))) := by
  refine Jvm.JW.body #[.val (.ref self)] pn8 (ef8 self) ?_
  intro p e s m below meth c T0 D A F X0 hx hZ hby hml hown hnm hrt hlk e0
  refine A (XS.aloadN X0.here hx rfl (hb hby d8_0) rfl rfl) ?_
  show D (T0.setTop (mkF m 1 #[.val (.ref self)] [(.ref self)]))
  obtain ⟨T1, X1, e1, st1⟩ := initO X0 hx hZ hown (hw _ (List.mem_of_getElem? (i := 45) rfl)) (hw _ (List.mem_of_getElem? (i := 13) rfl)) (hw _ (List.mem_of_getElem? (i := 14) rfl)) e0 (g := (mkF m 1 #[.val (.ref self)] [(.ref self)])) rfl (by rw [hml]; rfl) rfl (hb hby d8_1) (by decide) (W := 0) (by show 2 * 0 + _ ≤ _; exact Nat.le_of_eq rfl) (by decide)
  refine A (st1 _) ?_
  show D (T1.setTop (mkF m 4 #[.val (.ref self)] []))
  refine A (XS.aloadN X1.here hx rfl (hb hby d8_4) rfl rfl) ?_
  show D (T1.setTop (mkF m 5 #[.val (.ref self)] [(.ref self)]))
  obtain ⟨T2, X2, e2, st2⟩ := getS X1 hx hZ hown (host := "") (hw _ (List.mem_of_getElem? (i := 46) rfl)) Via.refl e1 S_rf (g := (mkF m 5 #[.val (.ref self)] [(.ref self)])) rfl (hb hby d8_5)
  refine A (st2 _) ?_
  show D (T2.setTop (mkF m 8 #[.val (.ref self)] [(.ref rfu), (.ref self)]))
  obtain ⟨T3, h3, X3, e3, W3, st3⟩ := putF X2 hx hZ hown (host := "") (Or.inl (hw _ (List.mem_of_getElem? (i := 49) rfl))) Via.refl e2 F_policy E_self (Or.inl (hw _ (List.mem_of_getElem? (i := 50) rfl))) (hw _ (List.mem_of_getElem? (i := 32) rfl)) (ty := (.object "com/example/carmenta/carmenta/OnIllFormed")) (by decide) rfl rfl (g := (mkF m 8 #[.val (.ref self)] [(.ref rfu), (.ref self)])) rfl rfl (hb hby d8_8)
  have N3 := Fr.snoc X3 (Fr.nil n0) g_self
  have F_policy_self_3 := F_policy.same W3
  have E_self_3 := E_self.wr W3
  have F_last_self_3 := F_last.other W3 (Or.inr (slot_ne (Or.inl (hw _ (List.mem_of_getElem? (i := 60) rfl))) (Or.inl (hw _ (List.mem_of_getElem? (i := 50) rfl))) (by decide) (t := .boolean) (t' := (.object "com/example/carmenta/carmenta/OnIllFormed")) (by decide) (by decide)))
  have F_chars_self_3 := F_chars.other W3 (Or.inr (slot_ne (Or.inl (hw _ (List.mem_of_getElem? (i := 62) rfl))) (Or.inl (hw _ (List.mem_of_getElem? (i := 50) rfl))) (by decide) (t := (.object "java/lang/CharSequence")) (t' := (.object "com/example/carmenta/carmenta/OnIllFormed")) (by decide) (by decide)))
  have F_index_self_3 := F_index.other W3 (Or.inr (slot_ne (Or.inl (hw _ (List.mem_of_getElem? (i := 69) rfl))) (Or.inl (hw _ (List.mem_of_getElem? (i := 50) rfl))) (by decide) (t := .int) (t' := (.object "com/example/carmenta/carmenta/OnIllFormed")) (by decide) (by decide)))
  have F_start_self_3 := F_start.other W3 (Or.inr (slot_ne (Or.inl (hw _ (List.mem_of_getElem? (i := 77) rfl))) (Or.inl (hw _ (List.mem_of_getElem? (i := 50) rfl))) (by decide) (t := .long) (t' := (.object "com/example/carmenta/carmenta/OnIllFormed")) (by decide) (by decide)))
  have F_fault_self_3 := F_fault.other W3 (Or.inr (slot_ne (Or.inl (hw _ (List.mem_of_getElem? (i := 222) rfl))) (Or.inl (hw _ (List.mem_of_getElem? (i := 50) rfl))) (by decide) (t := (.object "com/example/carmenta/carmenta/Fault")) (t' := (.object "com/example/carmenta/carmenta/OnIllFormed")) (by decide) (by decide)))
  have F_subpart_self_3 := F_subpart.other W3 (Or.inr (slot_ne (Or.inl (hw _ (List.mem_of_getElem? (i := 224) rfl))) (Or.inl (hw _ (List.mem_of_getElem? (i := 50) rfl))) (by decide) (t := .int) (t' := (.object "com/example/carmenta/carmenta/OnIllFormed")) (by decide) (by decide)))
  have F_firstReplaced_self_3 := F_firstReplaced.other W3 (Or.inr (slot_ne (Or.inl (hw _ (List.mem_of_getElem? (i := 58) rfl))) (Or.inl (hw _ (List.mem_of_getElem? (i := 50) rfl))) (by decide) (t := (.object "com/example/carmenta/carmenta/Validation")) (t' := (.object "com/example/carmenta/carmenta/OnIllFormed")) (by decide) (by decide)))
  have S_rf_3 := Sta.wr W3 S_rf
  have S_wf_3 := Sta.wr W3 S_wf
  have Z_3 : n0 ≤ h3.size := Nat.le_trans Z0 (Nat.le_of_eq W3.size.symm)
  have KK_3 : Keep h0 h3 [self] := (Keep.refl h0 [self]).wr W3 (Or.inl (List.mem_of_getElem? (i := 0) rfl))
  refine A (st3 _) ?_
  show D (T3.setTop (mkF m 11 #[.val (.ref self)] []))
  refine A (XS.aloadN X3.here hx rfl (hb hby d8_11) rfl rfl) ?_
  show D (T3.setTop (mkF m 12 #[.val (.ref self)] [(.ref self)]))
  refine Adv.callS A X3 hx hZ hown (hw _ (List.mem_of_getElem? (i := 51) rfl)) (hw _ (List.mem_of_getElem? (i := 52) rfl)) (hw _ (List.mem_of_getElem? (i := 53) rfl)) (hw _ (List.mem_of_getElem? (i := 54) rfl)) e3 (rm9 l Z a0 hw [] h3 n0 wf S_wf_3) 1 (g := (mkF m 12 #[.val (.ref self)] [(.ref self)])) rfl (by rw [hml]; rfl) [] [(.ref self)] rfl (lenOf pd8_0 rfl) rfl (by show 2 * 0 + _ ≤ _; exact Nat.le_of_eq rfl) (hb hby d8_12) (by decide) (by decide) (by decide) (by decide) (by decide) ?_
  rintro T4 L4 _ X4 ⟨rfl, N4_q, e4⟩
  have N4 := Fr.app N3 N4_q
  show D (T4.setTop (mkF m 15 #[.val (.ref self)] [(.ref wf), (.ref self)]))
  obtain ⟨T5, h5, X5, e5, W5, st5⟩ := putF X4 hx hZ hown (host := "") (Or.inl (hw _ (List.mem_of_getElem? (i := 57) rfl))) Via.refl e4 F_firstReplaced_self_3 E_self_3 (Or.inl (hw _ (List.mem_of_getElem? (i := 58) rfl))) (hw _ (List.mem_of_getElem? (i := 32) rfl)) (ty := (.object "com/example/carmenta/carmenta/Validation")) (by decide) rfl rfl (g := (mkF m 15 #[.val (.ref self)] [(.ref wf), (.ref self)])) rfl rfl (hb hby d8_15)
  have N5 := Fr.snoc X5 N4 g_self
  have F_firstReplaced_self_5 := F_firstReplaced_self_3.same W5
  have E_self_5 := E_self_3.wr W5
  have F_last_self_5 := F_last_self_3.other W5 (Or.inr (slot_ne (Or.inl (hw _ (List.mem_of_getElem? (i := 60) rfl))) (Or.inl (hw _ (List.mem_of_getElem? (i := 58) rfl))) (by decide) (t := .boolean) (t' := (.object "com/example/carmenta/carmenta/Validation")) (by decide) (by decide)))
  have F_chars_self_5 := F_chars_self_3.other W5 (Or.inr (slot_ne (Or.inl (hw _ (List.mem_of_getElem? (i := 62) rfl))) (Or.inl (hw _ (List.mem_of_getElem? (i := 58) rfl))) (by decide) (t := (.object "java/lang/CharSequence")) (t' := (.object "com/example/carmenta/carmenta/Validation")) (by decide) (by decide)))
  have F_index_self_5 := F_index_self_3.other W5 (Or.inr (slot_ne (Or.inl (hw _ (List.mem_of_getElem? (i := 69) rfl))) (Or.inl (hw _ (List.mem_of_getElem? (i := 58) rfl))) (by decide) (t := .int) (t' := (.object "com/example/carmenta/carmenta/Validation")) (by decide) (by decide)))
  have F_start_self_5 := F_start_self_3.other W5 (Or.inr (slot_ne (Or.inl (hw _ (List.mem_of_getElem? (i := 77) rfl))) (Or.inl (hw _ (List.mem_of_getElem? (i := 58) rfl))) (by decide) (t := .long) (t' := (.object "com/example/carmenta/carmenta/Validation")) (by decide) (by decide)))
  have F_fault_self_5 := F_fault_self_3.other W5 (Or.inr (slot_ne (Or.inl (hw _ (List.mem_of_getElem? (i := 222) rfl))) (Or.inl (hw _ (List.mem_of_getElem? (i := 58) rfl))) (by decide) (t := (.object "com/example/carmenta/carmenta/Fault")) (t' := (.object "com/example/carmenta/carmenta/Validation")) (by decide) (by decide)))
  have F_subpart_self_5 := F_subpart_self_3.other W5 (Or.inr (slot_ne (Or.inl (hw _ (List.mem_of_getElem? (i := 224) rfl))) (Or.inl (hw _ (List.mem_of_getElem? (i := 58) rfl))) (by decide) (t := .int) (t' := (.object "com/example/carmenta/carmenta/Validation")) (by decide) (by decide)))
  have F_policy_self_5 := F_policy_self_3.other W5 (Or.inr (slot_ne (Or.inl (hw _ (List.mem_of_getElem? (i := 50) rfl))) (Or.inl (hw _ (List.mem_of_getElem? (i := 58) rfl))) (by decide) (t := (.object "com/example/carmenta/carmenta/OnIllFormed")) (t' := (.object "com/example/carmenta/carmenta/Validation")) (by decide) (by decide)))
  have S_rf_5 := Sta.wr W5 S_rf_3
  have S_wf_5 := Sta.wr W5 S_wf_3
  have Z_5 : n0 ≤ h5.size := Nat.le_trans Z_3 (Nat.le_of_eq W5.size.symm)
  have KK_5 : Keep h0 h5 [self] := KK_3.wr W5 (Or.inl (List.mem_of_getElem? (i := 0) rfl))
  refine A (st5 _) ?_
  show D (T5.setTop (mkF m 18 #[.val (.ref self)] []))
  exact F _ (Jvm.JW.ret X5 hlk (v := none) (fun _ => rfl) (fun fs hr => X5.returnOut hx hrt (hb hby d8_18) hr) e5 ⟨rfl, N5, KK_5, E_self_5, F_last_self_5, F_chars_self_5, F_index_self_5, F_start_self_5, F_fault_self_5, F_subpart_self_5⟩ (by decide) (by decide))
theorem d7_0 : decode prog_6_method_1_code 0 = .ok (.aload_n 0, 1) := by decide +kernel
theorem d7_1 : decode prog_6_method_1_code 1 = .ok (.invokespecial 1, 3) := by decide +kernel
theorem d7_4 : decode prog_6_method_1_code 4 = .ok (.aload_n 0, 1) := by decide +kernel
theorem d7_5 : decode prog_6_method_1_code 5 = .ok (.iconst 1, 1) := by decide +kernel
theorem d7_6 : decode prog_6_method_1_code 6 = .ok (.putfield 7, 3) := by decide +kernel
theorem d7_9 : decode prog_6_method_1_code 9 = .ok (.aload_n 0, 1) := by decide +kernel
theorem d7_10 : decode prog_6_method_1_code 10 = .ok (.aload_n 1, 1) := by decide +kernel
theorem d7_11 : decode prog_6_method_1_code 11 = .ok (.putfield 13, 3) := by decide +kernel
theorem d7_14 : decode prog_6_method_1_code 14 = .ok (.return_, 1) := by decide +kernel
theorem pn7 : plainFor (⟨"com/example/carmenta/carmenta/CharReader", "<init>", "(Ljava/lang/CharSequence;)V"⟩ : MethodName) = true := by decide +kernel
theorem pd7_0 : parseMethodDescriptor "()V" = some ⟨[], none⟩ := by decide +kernel
theorem ef7 (self : Addr) (p1 : Addr) (m : MethodId) : entryFrame m #[(.ref self), (.ref p1)] 2 = mkF m 0 #[.val (.ref self), .val (.ref p1)] [] := by first | (simp [entryFrame, mkF, argsToLocals, Value.category]; done) | rfl
set_option maxRecDepth 65536 in
set_option maxHeartbeats 40000000 in
theorem rm7 (l : Launch) (Z : State) (a0 : Array Value) (hw : ∀ d ∈ tables_1, d.before a0 Z = true) (ws : List Jvm.Cond) (self : Addr) (p1 : Addr) (h0 : Heap) (n0 : Nat) (rfu wf : Addr) (Z0 : n0 ≤ h0.size) (g_self : n0 ≤ self) (E_self : Exa Z h0 self "com/example/carmenta/carmenta/CharReader") (F_last : Fld Z h0 self "com/example/carmenta/carmenta/CharReader" "last" "Z" (.int (0 : Int32))) (F_chars : Fld Z h0 self "com/example/carmenta/carmenta/CharReader" "chars" "Ljava/lang/CharSequence;" .null) (F_index : Fld Z h0 self "com/example/carmenta/carmenta/CharReader" "index" "I" (.int (0 : Int32))) (F_start : Fld Z h0 self "com/example/carmenta/carmenta/CharReader" "start" "J" (.long (0 : Int64))) (F_fault : Fld Z h0 self "com/example/carmenta/carmenta/ScalarReader" "fault" "Lcom/example/carmenta/carmenta/Fault;" .null) (F_subpart : Fld Z h0 self "com/example/carmenta/carmenta/ScalarReader" "subpart" "I" (.int (0 : Int32))) (F_policy : Fld Z h0 self "com/example/carmenta/carmenta/ScalarReader" "policy" "Lcom/example/carmenta/carmenta/OnIllFormed;" .null) (F_firstReplaced : Fld Z h0 self "com/example/carmenta/carmenta/ScalarReader" "firstReplaced" "Lcom/example/carmenta/carmenta/Validation;" .null) (S_rf : Sta Z h0 "com/example/carmenta/carmenta/OnIllFormed" "REFUSE" "Lcom/example/carmenta/carmenta/OnIllFormed;" (.ref rfu)) (S_wf : Sta Z h0 "com/example/carmenta/carmenta/Validation" "WELL_FORMED" "Lcom/example/carmenta/carmenta/Validation;" (.ref wf)) :
    JMet l Z (⟨"com/example/carmenta/carmenta/CharReader", "<init>", "(Ljava/lang/CharSequence;)V"⟩ : MethodName) prog_6_method_1_code 2 none ws ({ frames := 2, cells := 0, slots := 0, locals := 24 } : Room) #[(.ref self), (.ref p1)] h0 (fun v h L => v = none ∧ Fr n0 L ∧ Keep h0 h [self] ∧ Exa Z h self "com/example/carmenta/carmenta/CharReader" ∧ Fld Z h self "com/example/carmenta/carmenta/CharReader" "last" "Z" (.int (1 : Int32)) ∧ Fld Z h self "com/example/carmenta/carmenta/CharReader" "chars" "Ljava/lang/CharSequence;" (.ref p1) ∧ Fld Z h self "com/example/carmenta/carmenta/CharReader" "index" "I" (.int (0 : Int32)) ∧ Fld Z h self "com/example/carmenta/carmenta/CharReader" "start" "J" (.long (0 : Int64)) ∧ Fld Z h self "com/example/carmenta/carmenta/ScalarReader" "fault" "Lcom/example/carmenta/carmenta/Fault;" .null ∧ Fld Z h self "com/example/carmenta/carmenta/ScalarReader" "subpart" "I" (.int (0 : Int32))) := by
  refine Jvm.JW.body #[.val (.ref self), .val (.ref p1)] pn7 (ef7 self p1) ?_
  intro p e s m below meth c T0 D A F X0 hx hZ hby hml hown hnm hrt hlk e0
  refine A (XS.aloadN X0.here hx rfl (hb hby d7_0) rfl rfl) ?_
  show D (T0.setTop (mkF m 1 #[.val (.ref self), .val (.ref p1)] [(.ref self)]))
  refine Adv.callI A X0 hx hZ hown rfl (hw _ (List.mem_of_getElem? (i := 40) rfl)) (hw _ (List.mem_of_getElem? (i := 41) rfl)) (hw _ (List.mem_of_getElem? (i := 43) rfl)) (hw _ (List.mem_of_getElem? (i := 44) rfl)) e0 (rm8 l Z a0 hw [] self h0 n0 rfu wf Z0 g_self E_self F_last F_chars F_index F_start F_fault F_subpart F_policy F_firstReplaced S_rf S_wf) 0 (g := (mkF m 1 #[.val (.ref self), .val (.ref p1)] [(.ref self)])) rfl (by rw [hml]; rfl) self [] [] rfl (lenOf pd7_0 rfl) rfl (by show 2 * 0 + _ ≤ _; exact Nat.le_of_eq rfl) (hb hby d7_1) (by decide) (by decide) (by decide) (by decide) (by decide) ?_
  rintro T1 L1 _ X1 ⟨rfl, N1_q, K1, -, F1_last, F1_chars, F1_index, F1_start, F1_fault, F1_subpart⟩
  have N1 := Fr.app (Fr.nil n0) N1_q
  have E_self_1 := E_self.keep K1
  have S_rf_1 := own_stk S_rf K1 (own_nsc (own_nsE E_self) own_nsn)
  have S_wf_1 := own_stk S_wf K1 (own_nsc (own_nsE E_self) own_nsn)
  have Z_1 : n0 ≤ T1.heap.size := Nat.le_trans Z0 K1.1
  have KK_1 : Keep h0 T1.heap [self] := (Keep.refl h0 [self]).trans K1 (allS (Or.inl (List.mem_of_getElem? (i := 0) rfl)) all0)
  show D (T1.setTop (mkF m 4 #[.val (.ref self), .val (.ref p1)] []))
  refine A (XS.aloadN X1.here hx rfl (hb hby d7_4) rfl rfl) ?_
  show D (T1.setTop (mkF m 5 #[.val (.ref self), .val (.ref p1)] [(.ref self)]))
  refine A (XS.iconst X1.here hx rfl (hb hby d7_5)) ?_
  show D (T1.setTop (mkF m 6 #[.val (.ref self), .val (.ref p1)] [(.int (1 : Int32)), (.ref self)]))
  obtain ⟨T2, h2, X2, e2, W2, st2⟩ := putFN X1 hx hZ hown (hw _ (List.mem_of_getElem? (i := 59) rfl)) Via.refl rfl F1_last E_self_1 (Or.inl (hw _ (List.mem_of_getElem? (i := 60) rfl))) (hw _ (List.mem_of_getElem? (i := 32) rfl)) (ty := .boolean) (v' := (.int (1 : Int32))) (by decide) rfl (by decide) (g := (mkF m 6 #[.val (.ref self), .val (.ref p1)] [(.int (1 : Int32)), (.ref self)])) rfl rfl (hb hby d7_6)
  have N2 := Fr.snoc X2 N1 g_self
  have F_last_self_2 := F1_last.same W2
  have E_self_2 := E_self_1.wr W2
  have F_chars_self_2 := F1_chars.other W2 (Or.inr (slot_ne (Or.inl (hw _ (List.mem_of_getElem? (i := 62) rfl))) (Or.inl (hw _ (List.mem_of_getElem? (i := 60) rfl))) (by decide) (t := (.object "java/lang/CharSequence")) (t' := .boolean) (by decide) (by decide)))
  have F_index_self_2 := F1_index.other W2 (Or.inr (slot_ne (Or.inl (hw _ (List.mem_of_getElem? (i := 69) rfl))) (Or.inl (hw _ (List.mem_of_getElem? (i := 60) rfl))) (by decide) (t := .int) (t' := .boolean) (by decide) (by decide)))
  have F_start_self_2 := F1_start.other W2 (Or.inr (slot_ne (Or.inl (hw _ (List.mem_of_getElem? (i := 77) rfl))) (Or.inl (hw _ (List.mem_of_getElem? (i := 60) rfl))) (by decide) (t := .long) (t' := .boolean) (by decide) (by decide)))
  have F_fault_self_2 := F1_fault.other W2 (Or.inr (slot_ne (Or.inl (hw _ (List.mem_of_getElem? (i := 222) rfl))) (Or.inl (hw _ (List.mem_of_getElem? (i := 60) rfl))) (by decide) (t := (.object "com/example/carmenta/carmenta/Fault")) (t' := .boolean) (by decide) (by decide)))
  have F_subpart_self_2 := F1_subpart.other W2 (Or.inr (slot_ne (Or.inl (hw _ (List.mem_of_getElem? (i := 224) rfl))) (Or.inl (hw _ (List.mem_of_getElem? (i := 60) rfl))) (by decide) (t := .int) (t' := .boolean) (by decide) (by decide)))
  have S_rf_2 := Sta.wr W2 S_rf_1
  have S_wf_2 := Sta.wr W2 S_wf_1
  have Z_2 : n0 ≤ h2.size := Nat.le_trans Z_1 (Nat.le_of_eq W2.size.symm)
  have KK_2 : Keep h0 h2 [self] := KK_1.wr W2 (Or.inl (List.mem_of_getElem? (i := 0) rfl))
  refine A (st2 _) ?_
  show D (T2.setTop (mkF m 9 #[.val (.ref self), .val (.ref p1)] []))
  refine A (XS.aloadN X2.here hx rfl (hb hby d7_9) rfl rfl) ?_
  show D (T2.setTop (mkF m 10 #[.val (.ref self), .val (.ref p1)] [(.ref self)]))
  refine A (XS.aloadN X2.here hx rfl (hb hby d7_10) rfl rfl) ?_
  show D (T2.setTop (mkF m 11 #[.val (.ref self), .val (.ref p1)] [(.ref p1), (.ref self)]))
  obtain ⟨T3, h3, X3, e3, W3, st3⟩ := putF X2 hx hZ hown (host := "") (Or.inl (hw _ (List.mem_of_getElem? (i := 61) rfl))) Via.refl e2 F_chars_self_2 E_self_2 (Or.inl (hw _ (List.mem_of_getElem? (i := 62) rfl))) (hw _ (List.mem_of_getElem? (i := 32) rfl)) (ty := (.object "java/lang/CharSequence")) (by decide) rfl rfl (g := (mkF m 11 #[.val (.ref self), .val (.ref p1)] [(.ref p1), (.ref self)])) rfl rfl (hb hby d7_11)
  have N3 := Fr.snoc X3 N2 g_self
  have F_chars_self_3 := F_chars_self_2.same W3
  have E_self_3 := E_self_2.wr W3
  have F_last_self_3 := F_last_self_2.other W3 (Or.inr (slot_ne (Or.inl (hw _ (List.mem_of_getElem? (i := 60) rfl))) (Or.inl (hw _ (List.mem_of_getElem? (i := 62) rfl))) (by decide) (t := .boolean) (t' := (.object "java/lang/CharSequence")) (by decide) (by decide)))
  have F_index_self_3 := F_index_self_2.other W3 (Or.inr (slot_ne (Or.inl (hw _ (List.mem_of_getElem? (i := 69) rfl))) (Or.inl (hw _ (List.mem_of_getElem? (i := 62) rfl))) (by decide) (t := .int) (t' := (.object "java/lang/CharSequence")) (by decide) (by decide)))
  have F_start_self_3 := F_start_self_2.other W3 (Or.inr (slot_ne (Or.inl (hw _ (List.mem_of_getElem? (i := 77) rfl))) (Or.inl (hw _ (List.mem_of_getElem? (i := 62) rfl))) (by decide) (t := .long) (t' := (.object "java/lang/CharSequence")) (by decide) (by decide)))
  have F_fault_self_3 := F_fault_self_2.other W3 (Or.inr (slot_ne (Or.inl (hw _ (List.mem_of_getElem? (i := 222) rfl))) (Or.inl (hw _ (List.mem_of_getElem? (i := 62) rfl))) (by decide) (t := (.object "com/example/carmenta/carmenta/Fault")) (t' := (.object "java/lang/CharSequence")) (by decide) (by decide)))
  have F_subpart_self_3 := F_subpart_self_2.other W3 (Or.inr (slot_ne (Or.inl (hw _ (List.mem_of_getElem? (i := 224) rfl))) (Or.inl (hw _ (List.mem_of_getElem? (i := 62) rfl))) (by decide) (t := .int) (t' := (.object "java/lang/CharSequence")) (by decide) (by decide)))
  have S_rf_3 := Sta.wr W3 S_rf_2
  have S_wf_3 := Sta.wr W3 S_wf_2
  have Z_3 : n0 ≤ h3.size := Nat.le_trans Z_2 (Nat.le_of_eq W3.size.symm)
  have KK_3 : Keep h0 h3 [self] := KK_2.wr W3 (Or.inl (List.mem_of_getElem? (i := 0) rfl))
  refine A (st3 _) ?_
  show D (T3.setTop (mkF m 14 #[.val (.ref self), .val (.ref p1)] []))
  exact F _ (Jvm.JW.ret X3 hlk (v := none) (fun _ => rfl) (fun fs hr => X3.returnOut hx hrt (hb hby d7_14) hr) e3 ⟨rfl, N3, KK_3, E_self_3, F_last_self_3, F_chars_self_3, F_index_self_3, F_start_self_3, F_fault_self_3, F_subpart_self_3⟩ (by decide) (by decide))
theorem d10_0 : decode prog_6_method_5_code 0 = .ok (.aload_n 0, 1) := by decide +kernel
theorem d10_1 : decode prog_6_method_5_code 1 = .ok (.dup, 1) := by decide +kernel
theorem d10_2 : decode prog_6_method_5_code 2 = .ok (.getfield 21, 3) := by decide +kernel
theorem d10_5 : decode prog_6_method_5_code 5 = .ok (.iload_n 1, 1) := by decide +kernel
theorem d10_6 : decode prog_6_method_5_code 6 = .ok (.iadd, 1) := by decide +kernel
theorem d10_7 : decode prog_6_method_5_code 7 = .ok (.putfield 21, 3) := by decide +kernel
theorem d10_10 : decode prog_6_method_5_code 10 = .ok (.return_, 1) := by decide +kernel
theorem pn10 : plainFor (⟨"com/example/carmenta/carmenta/CharReader", "advance", "(I)V"⟩ : MethodName) = true := by decide +kernel
theorem ef10 (self : Addr) (p1 : Int32) (m : MethodId) : entryFrame m #[(.ref self), (.int p1)] 2 = mkF m 0 #[.val (.ref self), .val (.int p1)] [] := by first | (simp [entryFrame, mkF, argsToLocals, Value.category]; done) | rfl
set_option maxRecDepth 65536 in
set_option maxHeartbeats 40000000 in
theorem rm10 (l : Launch) (Z : State) (a0 : Array Value) (hw : ∀ d ∈ tables_1, d.before a0 Z = true) (ws : List Jvm.Cond) (self : Addr) (p1 : Int32) (h0 : Heap) (n0 : Nat) (lb dx : Int32) (sv : Int64) (ca : Addr) (Z0 : n0 ≤ h0.size) (g_self : n0 ≤ self) (E_self : Exa Z h0 self "com/example/carmenta/carmenta/CharReader") (F_last : Fld Z h0 self "com/example/carmenta/carmenta/CharReader" "last" "Z" (.int lb)) (F_chars : Fld Z h0 self "com/example/carmenta/carmenta/CharReader" "chars" "Ljava/lang/CharSequence;" (.ref ca)) (F_index : Fld Z h0 self "com/example/carmenta/carmenta/CharReader" "index" "I" (.int dx)) (F_start : Fld Z h0 self "com/example/carmenta/carmenta/CharReader" "start" "J" (.long sv)) (F_fault : Fld Z h0 self "com/example/carmenta/carmenta/ScalarReader" "fault" "Lcom/example/carmenta/carmenta/Fault;" .null) (F_subpart : Fld Z h0 self "com/example/carmenta/carmenta/ScalarReader" "subpart" "I" (.int (0 : Int32))) :
    JMet l Z (⟨"com/example/carmenta/carmenta/CharReader", "advance", "(I)V"⟩ : MethodName) prog_6_method_5_code 2 none ws ({ frames := 0, cells := 0, slots := 0, locals := 0 } : Room) #[(.ref self), (.int p1)] h0 (fun v h L => v = none ∧ Fr n0 L ∧ Keep h0 h [self] ∧ Exa Z h self "com/example/carmenta/carmenta/CharReader" ∧ Fld Z h self "com/example/carmenta/carmenta/CharReader" "last" "Z" (.int lb) ∧ Fld Z h self "com/example/carmenta/carmenta/CharReader" "chars" "Ljava/lang/CharSequence;" (.ref ca) ∧ Fld Z h self "com/example/carmenta/carmenta/CharReader" "index" "I" (.int (dx + p1)) ∧ Fld Z h self "com/example/carmenta/carmenta/CharReader" "start" "J" (.long sv) ∧ Fld Z h self "com/example/carmenta/carmenta/ScalarReader" "fault" "Lcom/example/carmenta/carmenta/Fault;" .null ∧ Fld Z h self "com/example/carmenta/carmenta/ScalarReader" "subpart" "I" (.int (0 : Int32))) := by
  refine Jvm.JW.body #[.val (.ref self), .val (.int p1)] pn10 (ef10 self p1) ?_
  intro p e s m below meth c T0 D A F X0 hx hZ hby hml hown hnm hrt hlk e0
  refine A (XS.aloadN X0.here hx rfl (hb hby d10_0) rfl rfl) ?_
  show D (T0.setTop (mkF m 1 #[.val (.ref self), .val (.int p1)] [(.ref self)]))
  refine A (XS.dup X0.here hx rfl (hb hby d10_1) rfl rfl) ?_
  show D (T0.setTop (mkF m 2 #[.val (.ref self), .val (.int p1)] [(.ref self), (.ref self)]))
  obtain ⟨T1, X1, e1, st1⟩ := getF X0 hx hZ hown (host := "") (Or.inl (hw _ (List.mem_of_getElem? (i := 68) rfl))) Via.refl e0 F_index (g := (mkF m 2 #[.val (.ref self), .val (.int p1)] [(.ref self), (.ref self)])) rfl rfl (hb hby d10_2)
  refine A (st1 _) ?_
  show D (T1.setTop (mkF m 5 #[.val (.ref self), .val (.int p1)] [(.int dx), (.ref self)]))
  refine A (XS.iloadN X1.here hx rfl (hb hby d10_5) rfl) ?_
  show D (T1.setTop (mkF m 6 #[.val (.ref self), .val (.int p1)] [(.int p1), (.int dx), (.ref self)]))
  refine A (XS.iadd X1.here hx rfl (hb hby d10_6) rfl) ?_
  show D (T1.setTop (mkF m 7 #[.val (.ref self), .val (.int p1)] [(.int (dx + p1)), (.ref self)]))
  obtain ⟨T2, h2, X2, e2, W2, st2⟩ := putF X1 hx hZ hown (host := "") (Or.inl (hw _ (List.mem_of_getElem? (i := 68) rfl))) Via.refl e1 F_index E_self (Or.inl (hw _ (List.mem_of_getElem? (i := 69) rfl))) (hw _ (List.mem_of_getElem? (i := 32) rfl)) (ty := .int) (by decide) rfl rfl (g := (mkF m 7 #[.val (.ref self), .val (.int p1)] [(.int (dx + p1)), (.ref self)])) rfl rfl (hb hby d10_7)
  have N2 := Fr.snoc X2 (Fr.nil n0) g_self
  have F_index_self_2 := F_index.same W2
  have E_self_2 := E_self.wr W2
  have F_last_self_2 := F_last.other W2 (Or.inr (slot_ne (Or.inl (hw _ (List.mem_of_getElem? (i := 60) rfl))) (Or.inl (hw _ (List.mem_of_getElem? (i := 69) rfl))) (by decide) (t := .boolean) (t' := .int) (by decide) (by decide)))
  have F_chars_self_2 := F_chars.other W2 (Or.inr (slot_ne (Or.inl (hw _ (List.mem_of_getElem? (i := 62) rfl))) (Or.inl (hw _ (List.mem_of_getElem? (i := 69) rfl))) (by decide) (t := (.object "java/lang/CharSequence")) (t' := .int) (by decide) (by decide)))
  have F_start_self_2 := F_start.other W2 (Or.inr (slot_ne (Or.inl (hw _ (List.mem_of_getElem? (i := 77) rfl))) (Or.inl (hw _ (List.mem_of_getElem? (i := 69) rfl))) (by decide) (t := .long) (t' := .int) (by decide) (by decide)))
  have F_fault_self_2 := F_fault.other W2 (Or.inr (slot_ne (Or.inl (hw _ (List.mem_of_getElem? (i := 222) rfl))) (Or.inl (hw _ (List.mem_of_getElem? (i := 69) rfl))) (by decide) (t := (.object "com/example/carmenta/carmenta/Fault")) (t' := .int) (by decide) (by decide)))
  have F_subpart_self_2 := F_subpart.other W2 (Or.inr (slot_ne (Or.inl (hw _ (List.mem_of_getElem? (i := 224) rfl))) (Or.inl (hw _ (List.mem_of_getElem? (i := 69) rfl))) (by decide) (t := .int) (t' := .int) (by decide) (by decide)))
  have Z_2 : n0 ≤ h2.size := Nat.le_trans Z0 (Nat.le_of_eq W2.size.symm)
  have KK_2 : Keep h0 h2 [self] := (Keep.refl h0 [self]).wr W2 (Or.inl (List.mem_of_getElem? (i := 0) rfl))
  refine A (st2 _) ?_
  show D (T2.setTop (mkF m 10 #[.val (.ref self), .val (.int p1)] []))
  exact F _ (Jvm.JW.ret X2 hlk (v := none) (fun _ => rfl) (fun fs hr => X2.returnOut hx hrt (hb hby d10_10) hr) e2 ⟨rfl, N2, KK_2, E_self_2, F_last_self_2, F_chars_self_2, F_index_self_2, F_start_self_2, F_fault_self_2, F_subpart_self_2⟩ (by decide) (by decide))
theorem d11_0 : decode prog_6_method_2_code 0 = .ok (.aload_n 0, 1) := by decide +kernel
theorem d11_1 : decode prog_6_method_2_code 1 = .ok (.dup, 1) := by decide +kernel
theorem d11_2 : decode prog_6_method_2_code 2 = .ok (.getfield 17, 3) := by decide +kernel
theorem d11_5 : decode prog_6_method_2_code 5 = .ok (.aload_n 0, 1) := by decide +kernel
theorem d11_6 : decode prog_6_method_2_code 6 = .ok (.getfield 21, 3) := by decide +kernel
theorem d11_9 : decode prog_6_method_2_code 9 = .ok (.i2l, 1) := by decide +kernel
theorem d11_10 : decode prog_6_method_2_code 10 = .ok (.ladd, 1) := by decide +kernel
theorem d11_11 : decode prog_6_method_2_code 11 = .ok (.putfield 17, 3) := by decide +kernel
theorem d11_14 : decode prog_6_method_2_code 14 = .ok (.aload_n 0, 1) := by decide +kernel
theorem d11_15 : decode prog_6_method_2_code 15 = .ok (.aload_n 1, 1) := by decide +kernel
theorem d11_16 : decode prog_6_method_2_code 16 = .ok (.putfield 13, 3) := by decide +kernel
theorem d11_19 : decode prog_6_method_2_code 19 = .ok (.aload_n 0, 1) := by decide +kernel
theorem d11_20 : decode prog_6_method_2_code 20 = .ok (.iconst 0, 1) := by decide +kernel
theorem d11_21 : decode prog_6_method_2_code 21 = .ok (.putfield 21, 3) := by decide +kernel
theorem d11_24 : decode prog_6_method_2_code 24 = .ok (.aload_n 0, 1) := by decide +kernel
theorem d11_25 : decode prog_6_method_2_code 25 = .ok (.iload_n 2, 1) := by decide +kernel
theorem d11_26 : decode prog_6_method_2_code 26 = .ok (.putfield 7, 3) := by decide +kernel
theorem d11_29 : decode prog_6_method_2_code 29 = .ok (.return_, 1) := by decide +kernel
theorem pn11 : plainFor (⟨"com/example/carmenta/carmenta/CharReader", "readOn", "(Ljava/lang/CharSequence;Z)V"⟩ : MethodName) = true := by decide +kernel
theorem ef11 (self : Addr) (p1 : Addr) (p2 : Int32) (m : MethodId) : entryFrame m #[(.ref self), (.ref p1), (.int p2)] 3 = mkF m 0 #[.val (.ref self), .val (.ref p1), .val (.int p2)] [] := by first | (simp [entryFrame, mkF, argsToLocals, Value.category]; done) | rfl
set_option maxRecDepth 65536 in
set_option maxHeartbeats 40000000 in
theorem rm11 (l : Launch) (Z : State) (a0 : Array Value) (hw : ∀ d ∈ tables_1, d.before a0 Z = true) (ws : List Jvm.Cond) (self : Addr) (p1 : Addr) (p2 : Int32) (h0 : Heap) (n0 : Nat) (lb dx : Int32) (sv : Int64) (ca : Addr) (Z0 : n0 ≤ h0.size) (g_self : n0 ≤ self) (E_self : Exa Z h0 self "com/example/carmenta/carmenta/CharReader") (F_last : Fld Z h0 self "com/example/carmenta/carmenta/CharReader" "last" "Z" (.int lb)) (F_chars : Fld Z h0 self "com/example/carmenta/carmenta/CharReader" "chars" "Ljava/lang/CharSequence;" (.ref ca)) (F_index : Fld Z h0 self "com/example/carmenta/carmenta/CharReader" "index" "I" (.int dx)) (F_start : Fld Z h0 self "com/example/carmenta/carmenta/CharReader" "start" "J" (.long sv)) (F_fault : Fld Z h0 self "com/example/carmenta/carmenta/ScalarReader" "fault" "Lcom/example/carmenta/carmenta/Fault;" .null) (F_subpart : Fld Z h0 self "com/example/carmenta/carmenta/ScalarReader" "subpart" "I" (.int (0 : Int32))) :
    JMet l Z (⟨"com/example/carmenta/carmenta/CharReader", "readOn", "(Ljava/lang/CharSequence;Z)V"⟩ : MethodName) prog_6_method_2_code 3 none ws ({ frames := 0, cells := 0, slots := 0, locals := 0 } : Room) #[(.ref self), (.ref p1), (.int p2)] h0 (fun v h L => v = none ∧ Fr n0 L ∧ Keep h0 h [self] ∧ Exa Z h self "com/example/carmenta/carmenta/CharReader" ∧ Fld Z h self "com/example/carmenta/carmenta/CharReader" "last" "Z" (.int (p2 &&& 1)) ∧ Fld Z h self "com/example/carmenta/carmenta/CharReader" "chars" "Ljava/lang/CharSequence;" (.ref p1) ∧ Fld Z h self "com/example/carmenta/carmenta/CharReader" "index" "I" (.int (0 : Int32)) ∧ Fld Z h self "com/example/carmenta/carmenta/CharReader" "start" "J" (.long (sv + dx.toInt64)) ∧ Fld Z h self "com/example/carmenta/carmenta/ScalarReader" "fault" "Lcom/example/carmenta/carmenta/Fault;" .null ∧ Fld Z h self "com/example/carmenta/carmenta/ScalarReader" "subpart" "I" (.int (0 : Int32))) := by
  refine Jvm.JW.body #[.val (.ref self), .val (.ref p1), .val (.int p2)] pn11 (ef11 self p1 p2) ?_
  intro p e s m below meth c T0 D A F X0 hx hZ hby hml hown hnm hrt hlk e0
  refine A (XS.aloadN X0.here hx rfl (hb hby d11_0) rfl rfl) ?_
  show D (T0.setTop (mkF m 1 #[.val (.ref self), .val (.ref p1), .val (.int p2)] [(.ref self)]))
  refine A (XS.dup X0.here hx rfl (hb hby d11_1) rfl rfl) ?_
  show D (T0.setTop (mkF m 2 #[.val (.ref self), .val (.ref p1), .val (.int p2)] [(.ref self), (.ref self)]))
  obtain ⟨T1, X1, e1, st1⟩ := getF X0 hx hZ hown (host := "") (Or.inl (hw _ (List.mem_of_getElem? (i := 76) rfl))) Via.refl e0 F_start (g := (mkF m 2 #[.val (.ref self), .val (.ref p1), .val (.int p2)] [(.ref self), (.ref self)])) rfl rfl (hb hby d11_2)
  refine A (st1 _) ?_
  show D (T1.setTop (mkF m 5 #[.val (.ref self), .val (.ref p1), .val (.int p2)] [(.long sv), (.ref self)]))
  refine A (XS.aloadN X1.here hx rfl (hb hby d11_5) rfl rfl) ?_
  show D (T1.setTop (mkF m 6 #[.val (.ref self), .val (.ref p1), .val (.int p2)] [(.ref self), (.long sv), (.ref self)]))
  obtain ⟨T2, X2, e2, st2⟩ := getF X1 hx hZ hown (host := "") (Or.inl (hw _ (List.mem_of_getElem? (i := 68) rfl))) Via.refl e1 F_index (g := (mkF m 6 #[.val (.ref self), .val (.ref p1), .val (.int p2)] [(.ref self), (.long sv), (.ref self)])) rfl rfl (hb hby d11_6)
  refine A (st2 _) ?_
  show D (T2.setTop (mkF m 9 #[.val (.ref self), .val (.ref p1), .val (.int p2)] [(.int dx), (.long sv), (.ref self)]))
  refine A (XS.i2l X2.here hx rfl (hb hby d11_9) rfl) ?_
  show D (T2.setTop (mkF m 10 #[.val (.ref self), .val (.ref p1), .val (.int p2)] [(.long (dx.toInt64)), (.long sv), (.ref self)]))
  refine A (XS.ladd X2.here hx rfl (hb hby d11_10) rfl) ?_
  show D (T2.setTop (mkF m 11 #[.val (.ref self), .val (.ref p1), .val (.int p2)] [(.long (sv + (dx.toInt64))), (.ref self)]))
  obtain ⟨T3, h3, X3, e3, W3, st3⟩ := putF X2 hx hZ hown (host := "") (Or.inl (hw _ (List.mem_of_getElem? (i := 76) rfl))) Via.refl e2 F_start E_self (Or.inl (hw _ (List.mem_of_getElem? (i := 77) rfl))) (hw _ (List.mem_of_getElem? (i := 32) rfl)) (ty := .long) (by decide) rfl rfl (g := (mkF m 11 #[.val (.ref self), .val (.ref p1), .val (.int p2)] [(.long (sv + (dx.toInt64))), (.ref self)])) rfl rfl (hb hby d11_11)
  have N3 := Fr.snoc X3 (Fr.nil n0) g_self
  have F_start_self_3 := F_start.same W3
  have E_self_3 := E_self.wr W3
  have F_last_self_3 := F_last.other W3 (Or.inr (slot_ne (Or.inl (hw _ (List.mem_of_getElem? (i := 60) rfl))) (Or.inl (hw _ (List.mem_of_getElem? (i := 77) rfl))) (by decide) (t := .boolean) (t' := .long) (by decide) (by decide)))
  have F_chars_self_3 := F_chars.other W3 (Or.inr (slot_ne (Or.inl (hw _ (List.mem_of_getElem? (i := 62) rfl))) (Or.inl (hw _ (List.mem_of_getElem? (i := 77) rfl))) (by decide) (t := (.object "java/lang/CharSequence")) (t' := .long) (by decide) (by decide)))
  have F_index_self_3 := F_index.other W3 (Or.inr (slot_ne (Or.inl (hw _ (List.mem_of_getElem? (i := 69) rfl))) (Or.inl (hw _ (List.mem_of_getElem? (i := 77) rfl))) (by decide) (t := .int) (t' := .long) (by decide) (by decide)))
  have F_fault_self_3 := F_fault.other W3 (Or.inr (slot_ne (Or.inl (hw _ (List.mem_of_getElem? (i := 222) rfl))) (Or.inl (hw _ (List.mem_of_getElem? (i := 77) rfl))) (by decide) (t := (.object "com/example/carmenta/carmenta/Fault")) (t' := .long) (by decide) (by decide)))
  have F_subpart_self_3 := F_subpart.other W3 (Or.inr (slot_ne (Or.inl (hw _ (List.mem_of_getElem? (i := 224) rfl))) (Or.inl (hw _ (List.mem_of_getElem? (i := 77) rfl))) (by decide) (t := .int) (t' := .long) (by decide) (by decide)))
  have Z_3 : n0 ≤ h3.size := Nat.le_trans Z0 (Nat.le_of_eq W3.size.symm)
  have KK_3 : Keep h0 h3 [self] := (Keep.refl h0 [self]).wr W3 (Or.inl (List.mem_of_getElem? (i := 0) rfl))
  refine A (st3 _) ?_
  show D (T3.setTop (mkF m 14 #[.val (.ref self), .val (.ref p1), .val (.int p2)] []))
  refine A (XS.aloadN X3.here hx rfl (hb hby d11_14) rfl rfl) ?_
  show D (T3.setTop (mkF m 15 #[.val (.ref self), .val (.ref p1), .val (.int p2)] [(.ref self)]))
  refine A (XS.aloadN X3.here hx rfl (hb hby d11_15) rfl rfl) ?_
  show D (T3.setTop (mkF m 16 #[.val (.ref self), .val (.ref p1), .val (.int p2)] [(.ref p1), (.ref self)]))
  obtain ⟨T4, h4, X4, e4, W4, st4⟩ := putF X3 hx hZ hown (host := "") (Or.inl (hw _ (List.mem_of_getElem? (i := 61) rfl))) Via.refl e3 F_chars_self_3 E_self_3 (Or.inl (hw _ (List.mem_of_getElem? (i := 62) rfl))) (hw _ (List.mem_of_getElem? (i := 32) rfl)) (ty := (.object "java/lang/CharSequence")) (by decide) rfl rfl (g := (mkF m 16 #[.val (.ref self), .val (.ref p1), .val (.int p2)] [(.ref p1), (.ref self)])) rfl rfl (hb hby d11_16)
  have N4 := Fr.snoc X4 N3 g_self
  have F_chars_self_4 := F_chars_self_3.same W4
  have E_self_4 := E_self_3.wr W4
  have F_last_self_4 := F_last_self_3.other W4 (Or.inr (slot_ne (Or.inl (hw _ (List.mem_of_getElem? (i := 60) rfl))) (Or.inl (hw _ (List.mem_of_getElem? (i := 62) rfl))) (by decide) (t := .boolean) (t' := (.object "java/lang/CharSequence")) (by decide) (by decide)))
  have F_index_self_4 := F_index_self_3.other W4 (Or.inr (slot_ne (Or.inl (hw _ (List.mem_of_getElem? (i := 69) rfl))) (Or.inl (hw _ (List.mem_of_getElem? (i := 62) rfl))) (by decide) (t := .int) (t' := (.object "java/lang/CharSequence")) (by decide) (by decide)))
  have F_start_self_4 := F_start_self_3.other W4 (Or.inr (slot_ne (Or.inl (hw _ (List.mem_of_getElem? (i := 77) rfl))) (Or.inl (hw _ (List.mem_of_getElem? (i := 62) rfl))) (by decide) (t := .long) (t' := (.object "java/lang/CharSequence")) (by decide) (by decide)))
  have F_fault_self_4 := F_fault_self_3.other W4 (Or.inr (slot_ne (Or.inl (hw _ (List.mem_of_getElem? (i := 222) rfl))) (Or.inl (hw _ (List.mem_of_getElem? (i := 62) rfl))) (by decide) (t := (.object "com/example/carmenta/carmenta/Fault")) (t' := (.object "java/lang/CharSequence")) (by decide) (by decide)))
  have F_subpart_self_4 := F_subpart_self_3.other W4 (Or.inr (slot_ne (Or.inl (hw _ (List.mem_of_getElem? (i := 224) rfl))) (Or.inl (hw _ (List.mem_of_getElem? (i := 62) rfl))) (by decide) (t := .int) (t' := (.object "java/lang/CharSequence")) (by decide) (by decide)))
  have Z_4 : n0 ≤ h4.size := Nat.le_trans Z_3 (Nat.le_of_eq W4.size.symm)
  have KK_4 : Keep h0 h4 [self] := KK_3.wr W4 (Or.inl (List.mem_of_getElem? (i := 0) rfl))
  refine A (st4 _) ?_
  show D (T4.setTop (mkF m 19 #[.val (.ref self), .val (.ref p1), .val (.int p2)] []))
  refine A (XS.aloadN X4.here hx rfl (hb hby d11_19) rfl rfl) ?_
  show D (T4.setTop (mkF m 20 #[.val (.ref self), .val (.ref p1), .val (.int p2)] [(.ref self)]))
  refine A (XS.iconst X4.here hx rfl (hb hby d11_20)) ?_
  show D (T4.setTop (mkF m 21 #[.val (.ref self), .val (.ref p1), .val (.int p2)] [(.int (0 : Int32)), (.ref self)]))
  obtain ⟨T5, h5, X5, e5, W5, st5⟩ := putF X4 hx hZ hown (host := "") (Or.inl (hw _ (List.mem_of_getElem? (i := 68) rfl))) Via.refl e4 F_index_self_4 E_self_4 (Or.inl (hw _ (List.mem_of_getElem? (i := 69) rfl))) (hw _ (List.mem_of_getElem? (i := 32) rfl)) (ty := .int) (by decide) rfl rfl (g := (mkF m 21 #[.val (.ref self), .val (.ref p1), .val (.int p2)] [(.int (0 : Int32)), (.ref self)])) rfl rfl (hb hby d11_21)
  have N5 := Fr.snoc X5 N4 g_self
  have F_index_self_5 := F_index_self_4.same W5
  have E_self_5 := E_self_4.wr W5
  have F_last_self_5 := F_last_self_4.other W5 (Or.inr (slot_ne (Or.inl (hw _ (List.mem_of_getElem? (i := 60) rfl))) (Or.inl (hw _ (List.mem_of_getElem? (i := 69) rfl))) (by decide) (t := .boolean) (t' := .int) (by decide) (by decide)))
  have F_chars_self_5 := F_chars_self_4.other W5 (Or.inr (slot_ne (Or.inl (hw _ (List.mem_of_getElem? (i := 62) rfl))) (Or.inl (hw _ (List.mem_of_getElem? (i := 69) rfl))) (by decide) (t := (.object "java/lang/CharSequence")) (t' := .int) (by decide) (by decide)))
  have F_start_self_5 := F_start_self_4.other W5 (Or.inr (slot_ne (Or.inl (hw _ (List.mem_of_getElem? (i := 77) rfl))) (Or.inl (hw _ (List.mem_of_getElem? (i := 69) rfl))) (by decide) (t := .long) (t' := .int) (by decide) (by decide)))
  have F_fault_self_5 := F_fault_self_4.other W5 (Or.inr (slot_ne (Or.inl (hw _ (List.mem_of_getElem? (i := 222) rfl))) (Or.inl (hw _ (List.mem_of_getElem? (i := 69) rfl))) (by decide) (t := (.object "com/example/carmenta/carmenta/Fault")) (t' := .int) (by decide) (by decide)))
  have F_subpart_self_5 := F_subpart_self_4.other W5 (Or.inr (slot_ne (Or.inl (hw _ (List.mem_of_getElem? (i := 224) rfl))) (Or.inl (hw _ (List.mem_of_getElem? (i := 69) rfl))) (by decide) (t := .int) (t' := .int) (by decide) (by decide)))
  have Z_5 : n0 ≤ h5.size := Nat.le_trans Z_4 (Nat.le_of_eq W5.size.symm)
  have KK_5 : Keep h0 h5 [self] := KK_4.wr W5 (Or.inl (List.mem_of_getElem? (i := 0) rfl))
  refine A (st5 _) ?_
  show D (T5.setTop (mkF m 24 #[.val (.ref self), .val (.ref p1), .val (.int p2)] []))
  refine A (XS.aloadN X5.here hx rfl (hb hby d11_24) rfl rfl) ?_
  show D (T5.setTop (mkF m 25 #[.val (.ref self), .val (.ref p1), .val (.int p2)] [(.ref self)]))
  refine A (XS.iloadN X5.here hx rfl (hb hby d11_25) rfl) ?_
  show D (T5.setTop (mkF m 26 #[.val (.ref self), .val (.ref p1), .val (.int p2)] [(.int p2), (.ref self)]))
  obtain ⟨T6, h6, X6, e6, W6, st6⟩ := putFN X5 hx hZ hown (hw _ (List.mem_of_getElem? (i := 59) rfl)) Via.refl e5 F_last_self_5 E_self_5 (Or.inl (hw _ (List.mem_of_getElem? (i := 60) rfl))) (hw _ (List.mem_of_getElem? (i := 32) rfl)) (ty := .boolean) (v' := (.int (p2 &&& 1))) (by decide) rfl (fits_nar_bool _) (g := (mkF m 26 #[.val (.ref self), .val (.ref p1), .val (.int p2)] [(.int p2), (.ref self)])) rfl rfl (hb hby d11_26)
  have N6 := Fr.snoc X6 N5 g_self
  have F_last_self_6 := F_last_self_5.same W6
  have E_self_6 := E_self_5.wr W6
  have F_chars_self_6 := F_chars_self_5.other W6 (Or.inr (slot_ne (Or.inl (hw _ (List.mem_of_getElem? (i := 62) rfl))) (Or.inl (hw _ (List.mem_of_getElem? (i := 60) rfl))) (by decide) (t := (.object "java/lang/CharSequence")) (t' := .boolean) (by decide) (by decide)))
  have F_index_self_6 := F_index_self_5.other W6 (Or.inr (slot_ne (Or.inl (hw _ (List.mem_of_getElem? (i := 69) rfl))) (Or.inl (hw _ (List.mem_of_getElem? (i := 60) rfl))) (by decide) (t := .int) (t' := .boolean) (by decide) (by decide)))
  have F_start_self_6 := F_start_self_5.other W6 (Or.inr (slot_ne (Or.inl (hw _ (List.mem_of_getElem? (i := 77) rfl))) (Or.inl (hw _ (List.mem_of_getElem? (i := 60) rfl))) (by decide) (t := .long) (t' := .boolean) (by decide) (by decide)))
  have F_fault_self_6 := F_fault_self_5.other W6 (Or.inr (slot_ne (Or.inl (hw _ (List.mem_of_getElem? (i := 222) rfl))) (Or.inl (hw _ (List.mem_of_getElem? (i := 60) rfl))) (by decide) (t := (.object "com/example/carmenta/carmenta/Fault")) (t' := .boolean) (by decide) (by decide)))
  have F_subpart_self_6 := F_subpart_self_5.other W6 (Or.inr (slot_ne (Or.inl (hw _ (List.mem_of_getElem? (i := 224) rfl))) (Or.inl (hw _ (List.mem_of_getElem? (i := 60) rfl))) (by decide) (t := .int) (t' := .boolean) (by decide) (by decide)))
  have Z_6 : n0 ≤ h6.size := Nat.le_trans Z_5 (Nat.le_of_eq W6.size.symm)
  have KK_6 : Keep h0 h6 [self] := KK_5.wr W6 (Or.inl (List.mem_of_getElem? (i := 0) rfl))
  refine A (st6 _) ?_
  show D (T6.setTop (mkF m 29 #[.val (.ref self), .val (.ref p1), .val (.int p2)] []))
  exact F _ (Jvm.JW.ret X6 hlk (v := none) (fun _ => rfl) (fun fs hr => X6.returnOut hx hrt (hb hby d11_29) hr) e6 ⟨rfl, N6, KK_6, E_self_6, F_last_self_6, F_chars_self_6, F_index_self_6, F_start_self_6, F_fault_self_6, F_subpart_self_6⟩ (by decide) (by decide))
theorem d29_0 : decode prog_6_method_3_code 0 = .ok (.aload_n 0, 1) := by decide +kernel
theorem d29_1 : decode prog_6_method_3_code 1 = .ok (.getfield 13, 3) := by decide +kernel
theorem d29_4 : decode prog_6_method_3_code 4 = .ok (.invokeinterface 25 1, 5) := by decide +kernel
theorem d29_9 : decode prog_6_method_3_code 9 = .ok (.aload_n 0, 1) := by decide +kernel
theorem d29_10 : decode prog_6_method_3_code 10 = .ok (.getfield 21, 3) := by decide +kernel
theorem d29_13 : decode prog_6_method_3_code 13 = .ok (.isub, 1) := by decide +kernel
theorem d29_14 : decode prog_6_method_3_code 14 = .ok (.ireturn, 1) := by decide +kernel
theorem pn29 : plainFor (⟨"com/example/carmenta/carmenta/CharReader", "unread", "()I"⟩ : MethodName) = true := by decide +kernel
theorem pd29_0 : parseMethodDescriptor "()I" = some ⟨[], some .int⟩ := by decide +kernel
theorem ef29 (self : Addr) (m : MethodId) : entryFrame m #[(.ref self)] 1 = mkF m 0 #[.val (.ref self)] [] := by first | (simp [entryFrame, mkF, argsToLocals, Value.category]; done) | rfl
set_option maxRecDepth 65536 in
set_option maxHeartbeats 40000000 in
theorem rm29 (l : Launch) (Z : State) (a0 : Array Value) (hw : ∀ d ∈ tables_1, d.before a0 Z = true) (ws : List Jvm.Cond) (self : Addr) (h0 : Heap) (n0 : Nat) (dx : Int32) (ca : Addr) (Z0 : n0 ≤ h0.size) (g_self : n0 ≤ self) (E_self : Exa Z h0 self "com/example/carmenta/carmenta/CharReader") (F_chars : Fld Z h0 self "com/example/carmenta/carmenta/CharReader" "chars" "Ljava/lang/CharSequence;" (.ref ca)) (F_index : Fld Z h0 self "com/example/carmenta/carmenta/CharReader" "index" "I" (.int dx)) (cd : Int32) (nb : Nat) (f : Nat → Int32) (cs : Int32) (hcs : ¬ cs = (0 : Int32)) (sf : Value) (hsf : sf.isRef = true) (bb : Addr) (c0 c1 : Int32) (hSt : own_S cd nb f c0 c1) (S_sf : Sta Z h0 "jdk/internal/util/Preconditions" "SIOOBE_FORMATTER" "Ljava/util/function/BiFunction;" sf) (S_cs : Sta Z h0 "java/lang/String" "COMPACT_STRINGS" "Z" (.int cs)) (S_ad : Sta Z h0 "java/lang/StringUTF16" "$assertionsDisabled" "Z" (.int (1 : Int32))) (S_hi : Sta Z h0 "java/lang/StringUTF16" "HI_BYTE_SHIFT" "I" (.int (0 : Int32))) (S_lo : Sta Z h0 "java/lang/StringUTF16" "LO_BYTE_SHIFT" "I" (.int (8 : Int32))) (E_ca : Exa Z h0 ca "java/lang/String") (FS_coder : Fld Z h0 ca "java/lang/String" "coder" "B" (.int cd)) (FS_value : Fld Z h0 ca "java/lang/String" "value" "[B" (.ref bb)) (V_bb : ArI Z h0 bb .byte nb f) :
    JMet l Z (⟨"com/example/carmenta/carmenta/CharReader", "unread", "()I"⟩ : MethodName) prog_6_method_3_code 1 (some .int) ws ({ frames := 2, cells := 0, slots := 0, locals := 25 } : Room) #[(.ref self)] h0 (QP (.int ((2 : Int32) - dx)) h0 n0) := by
  refine Jvm.JW.body #[.val (.ref self)] pn29 (ef29 self) ?_
  intro p e s m below meth c T0 D A F X0 hx hZ hby hml hown hnm hrt hlk e0
  refine A (XS.aloadN X0.here hx rfl (hb hby d29_0) rfl rfl) ?_
  show D (T0.setTop (mkF m 1 #[.val (.ref self)] [(.ref self)]))
  obtain ⟨T1, X1, e1, st1⟩ := getF X0 hx hZ hown (host := "") (Or.inl (hw _ (List.mem_of_getElem? (i := 61) rfl))) Via.refl e0 F_chars (g := (mkF m 1 #[.val (.ref self)] [(.ref self)])) rfl rfl (hb hby d29_1)
  refine A (st1 _) ?_
  show D (T1.setTop (mkF m 4 #[.val (.ref self)] [(.ref ca)]))
  refine Adv.callF A X1 hx hZ hown (xi := (⟨"java/lang/CharSequence", "length", "()I"⟩ : MethodName)) (y := (⟨"java/lang/String", "length", "()I"⟩ : MethodName)) (hw _ (List.mem_of_getElem? (i := 121) rfl)) (hw _ (List.mem_of_getElem? (i := 122) rfl)) (mvT hZ (hw _ (List.mem_of_getElem? (i := 123) rfl))) (hw _ (List.mem_of_getElem? (i := 124) rfl)) (hw _ (List.mem_of_getElem? (i := 125) rfl)) (hw _ (List.mem_of_getElem? (i := 126) rfl)) (hw _ (List.mem_of_getElem? (i := 127) rfl)) (hw _ (List.mem_of_getElem? (i := 128) rfl)) (hw _ (List.mem_of_getElem? (i := 4) rfl)) (hw _ (List.mem_of_getElem? (i := 129) rfl)) e1 E_ca (rm19 l Z a0 hw [] ca h0 n0 cd nb f cs hcs sf hsf S_sf S_cs S_ad S_hi S_lo E_ca FS_coder bb FS_value V_bb c0 c1 hSt) 0 (g := (mkF m 4 #[.val (.ref self)] [(.ref ca)])) rfl (by rw [hml]; rfl) [] [] rfl (lenOf pd29_0 rfl) rfl (by show 2 * 0 + _ ≤ _; exact Nat.le_of_eq rfl) (hb hby d29_4) (by decide) (by decide) (by decide) (by decide) (by decide) ?_
  rintro T2 L2 _ X2 ⟨rfl, N2_q, e2⟩
  have N2 := Fr.app (Fr.nil n0) N2_q
  show D (T2.setTop (mkF m 9 #[.val (.ref self)] [(.int (2 : Int32))]))
  refine A (XS.aloadN X2.here hx rfl (hb hby d29_9) rfl rfl) ?_
  show D (T2.setTop (mkF m 10 #[.val (.ref self)] [(.ref self), (.int (2 : Int32))]))
  obtain ⟨T3, X3, e3, st3⟩ := getF X2 hx hZ hown (host := "") (Or.inl (hw _ (List.mem_of_getElem? (i := 68) rfl))) Via.refl e2 F_index (g := (mkF m 10 #[.val (.ref self)] [(.ref self), (.int (2 : Int32))])) rfl rfl (hb hby d29_10)
  refine A (st3 _) ?_
  show D (T3.setTop (mkF m 13 #[.val (.ref self)] [(.int dx), (.int (2 : Int32))]))
  refine A (XS.isub X3.here hx rfl (hb hby d29_13) rfl) ?_
  show D (T3.setTop (mkF m 14 #[.val (.ref self)] [(.int ((2 : Int32) - dx))]))
  refine F _ (Jvm.JW.ret X3 hlk (v := some (.int ((2 : Int32) - dx))) (fun h => by rw [hrt] at h; cases h) (fun fs hr => retOut X3 hx hrt rfl (Or.inl ⟨rfl, Or.inl rfl, _, rfl⟩) (hb hby d29_14) hr) rfl ?_ (by decide) (by decide))
  exact ⟨rfl, N2, e3⟩
theorem d39_0 : decode prog_24_method_19_code 0 = .ok (.aload_n 0, 1) := by decide +kernel
theorem d39_1 : decode prog_24_method_19_code 1 = .ok (.aload_n 1, 1) := by decide +kernel
theorem d39_2 : decode prog_24_method_19_code 2 = .ok (.putfield 42, 3) := by decide +kernel
theorem d39_5 : decode prog_24_method_19_code 5 = .ok (.aload_n 0, 1) := by decide +kernel
theorem d39_6 : decode prog_24_method_19_code 6 = .ok (.iload_n 2, 1) := by decide +kernel
theorem d39_7 : decode prog_24_method_19_code 7 = .ok (.putfield 104, 3) := by decide +kernel
theorem d39_10 : decode prog_24_method_19_code 10 = .ok (.bipush (-2), 2) := by decide +kernel
theorem d39_12 : decode prog_24_method_19_code 12 = .ok (.ireturn, 1) := by decide +kernel
theorem pn39 : plainFor (⟨"com/example/carmenta/carmenta/ScalarReader", "fail", "(Lcom/example/carmenta/carmenta/Fault;I)I"⟩ : MethodName) = true := by decide +kernel
theorem ef39 (self : Addr) (p1 : Addr) (p2 : Int32) (m : MethodId) : entryFrame m #[(.ref self), (.ref p1), (.int p2)] 3 = mkF m 0 #[.val (.ref self), .val (.ref p1), .val (.int p2)] [] := by first | (simp [entryFrame, mkF, argsToLocals, Value.category]; done) | rfl
set_option maxRecDepth 65536 in
set_option maxHeartbeats 40000000 in
theorem rm39 (l : Launch) (Z : State) (a0 : Array Value) (hw : ∀ d ∈ tables_1, d.before a0 Z = true) (ws : List Jvm.Cond) (self : Addr) (p1 : Addr) (p2 : Int32) (h0 : Heap) (n0 : Nat) (lb dx : Int32) (sv : Int64) (ca : Addr) (Z0 : n0 ≤ h0.size) (g_self : n0 ≤ self) (E_self : Exa Z h0 self "com/example/carmenta/carmenta/CharReader") (F_last : Fld Z h0 self "com/example/carmenta/carmenta/CharReader" "last" "Z" (.int lb)) (F_chars : Fld Z h0 self "com/example/carmenta/carmenta/CharReader" "chars" "Ljava/lang/CharSequence;" (.ref ca)) (F_index : Fld Z h0 self "com/example/carmenta/carmenta/CharReader" "index" "I" (.int dx)) (F_start : Fld Z h0 self "com/example/carmenta/carmenta/CharReader" "start" "J" (.long sv)) (F_fault : Fld Z h0 self "com/example/carmenta/carmenta/ScalarReader" "fault" "Lcom/example/carmenta/carmenta/Fault;" .null) (F_subpart : Fld Z h0 self "com/example/carmenta/carmenta/ScalarReader" "subpart" "I" (.int (0 : Int32))) :
    JMet l Z (⟨"com/example/carmenta/carmenta/ScalarReader", "fail", "(Lcom/example/carmenta/carmenta/Fault;I)I"⟩ : MethodName) prog_24_method_19_code 3 (some .int) ws ({ frames := 0, cells := 0, slots := 0, locals := 0 } : Room) #[(.ref self), (.ref p1), (.int p2)] h0 (fun v h L => v = some (.int (-2 : Int32)) ∧ Fr n0 L ∧ Keep h0 h [self] ∧ Exa Z h self "com/example/carmenta/carmenta/CharReader" ∧ Fld Z h self "com/example/carmenta/carmenta/CharReader" "last" "Z" (.int lb) ∧ Fld Z h self "com/example/carmenta/carmenta/CharReader" "chars" "Ljava/lang/CharSequence;" (.ref ca) ∧ Fld Z h self "com/example/carmenta/carmenta/CharReader" "index" "I" (.int dx) ∧ Fld Z h self "com/example/carmenta/carmenta/CharReader" "start" "J" (.long sv) ∧ Fld Z h self "com/example/carmenta/carmenta/ScalarReader" "fault" "Lcom/example/carmenta/carmenta/Fault;" (.ref p1) ∧ Fld Z h self "com/example/carmenta/carmenta/ScalarReader" "subpart" "I" (.int p2)) := by
  refine Jvm.JW.body #[.val (.ref self), .val (.ref p1), .val (.int p2)] pn39 (ef39 self p1 p2) ?_
  intro p e s m below meth c T0 D A F X0 hx hZ hby hml hown hnm hrt hlk e0
  refine A (XS.aloadN X0.here hx rfl (hb hby d39_0) rfl rfl) ?_
  show D (T0.setTop (mkF m 1 #[.val (.ref self), .val (.ref p1), .val (.int p2)] [(.ref self)]))
  refine A (XS.aloadN X0.here hx rfl (hb hby d39_1) rfl rfl) ?_
  show D (T0.setTop (mkF m 2 #[.val (.ref self), .val (.ref p1), .val (.int p2)] [(.ref p1), (.ref self)]))
  obtain ⟨T1, h1, X1, e1, W1, st1⟩ := putF X0 hx hZ hown (host := "") (Or.inl (hw _ (List.mem_of_getElem? (i := 221) rfl))) Via.refl e0 F_fault E_self (Or.inl (hw _ (List.mem_of_getElem? (i := 222) rfl))) (hw _ (List.mem_of_getElem? (i := 32) rfl)) (ty := (.object "com/example/carmenta/carmenta/Fault")) (by decide) rfl rfl (g := (mkF m 2 #[.val (.ref self), .val (.ref p1), .val (.int p2)] [(.ref p1), (.ref self)])) rfl rfl (hb hby d39_2)
  have N1 := Fr.snoc X1 (Fr.nil n0) g_self
  have F_fault_self_1 := F_fault.same W1
  have E_self_1 := E_self.wr W1
  have F_last_self_1 := F_last.other W1 (Or.inr (slot_ne (Or.inl (hw _ (List.mem_of_getElem? (i := 60) rfl))) (Or.inl (hw _ (List.mem_of_getElem? (i := 222) rfl))) (by decide) (t := .boolean) (t' := (.object "com/example/carmenta/carmenta/Fault")) (by decide) (by decide)))
  have F_chars_self_1 := F_chars.other W1 (Or.inr (slot_ne (Or.inl (hw _ (List.mem_of_getElem? (i := 62) rfl))) (Or.inl (hw _ (List.mem_of_getElem? (i := 222) rfl))) (by decide) (t := (.object "java/lang/CharSequence")) (t' := (.object "com/example/carmenta/carmenta/Fault")) (by decide) (by decide)))
  have F_index_self_1 := F_index.other W1 (Or.inr (slot_ne (Or.inl (hw _ (List.mem_of_getElem? (i := 69) rfl))) (Or.inl (hw _ (List.mem_of_getElem? (i := 222) rfl))) (by decide) (t := .int) (t' := (.object "com/example/carmenta/carmenta/Fault")) (by decide) (by decide)))
  have F_start_self_1 := F_start.other W1 (Or.inr (slot_ne (Or.inl (hw _ (List.mem_of_getElem? (i := 77) rfl))) (Or.inl (hw _ (List.mem_of_getElem? (i := 222) rfl))) (by decide) (t := .long) (t' := (.object "com/example/carmenta/carmenta/Fault")) (by decide) (by decide)))
  have F_subpart_self_1 := F_subpart.other W1 (Or.inr (slot_ne (Or.inl (hw _ (List.mem_of_getElem? (i := 224) rfl))) (Or.inl (hw _ (List.mem_of_getElem? (i := 222) rfl))) (by decide) (t := .int) (t' := (.object "com/example/carmenta/carmenta/Fault")) (by decide) (by decide)))
  have Z_1 : n0 ≤ h1.size := Nat.le_trans Z0 (Nat.le_of_eq W1.size.symm)
  have KK_1 : Keep h0 h1 [self] := (Keep.refl h0 [self]).wr W1 (Or.inl (List.mem_of_getElem? (i := 0) rfl))
  refine A (st1 _) ?_
  show D (T1.setTop (mkF m 5 #[.val (.ref self), .val (.ref p1), .val (.int p2)] []))
  refine A (XS.aloadN X1.here hx rfl (hb hby d39_5) rfl rfl) ?_
  show D (T1.setTop (mkF m 6 #[.val (.ref self), .val (.ref p1), .val (.int p2)] [(.ref self)]))
  refine A (XS.iloadN X1.here hx rfl (hb hby d39_6) rfl) ?_
  show D (T1.setTop (mkF m 7 #[.val (.ref self), .val (.ref p1), .val (.int p2)] [(.int p2), (.ref self)]))
  obtain ⟨T2, h2, X2, e2, W2, st2⟩ := putF X1 hx hZ hown (host := "") (Or.inl (hw _ (List.mem_of_getElem? (i := 223) rfl))) Via.refl e1 F_subpart_self_1 E_self_1 (Or.inl (hw _ (List.mem_of_getElem? (i := 224) rfl))) (hw _ (List.mem_of_getElem? (i := 32) rfl)) (ty := .int) (by decide) rfl rfl (g := (mkF m 7 #[.val (.ref self), .val (.ref p1), .val (.int p2)] [(.int p2), (.ref self)])) rfl rfl (hb hby d39_7)
  have N2 := Fr.snoc X2 N1 g_self
  have F_subpart_self_2 := F_subpart_self_1.same W2
  have E_self_2 := E_self_1.wr W2
  have F_last_self_2 := F_last_self_1.other W2 (Or.inr (slot_ne (Or.inl (hw _ (List.mem_of_getElem? (i := 60) rfl))) (Or.inl (hw _ (List.mem_of_getElem? (i := 224) rfl))) (by decide) (t := .boolean) (t' := .int) (by decide) (by decide)))
  have F_chars_self_2 := F_chars_self_1.other W2 (Or.inr (slot_ne (Or.inl (hw _ (List.mem_of_getElem? (i := 62) rfl))) (Or.inl (hw _ (List.mem_of_getElem? (i := 224) rfl))) (by decide) (t := (.object "java/lang/CharSequence")) (t' := .int) (by decide) (by decide)))
  have F_index_self_2 := F_index_self_1.other W2 (Or.inr (slot_ne (Or.inl (hw _ (List.mem_of_getElem? (i := 69) rfl))) (Or.inl (hw _ (List.mem_of_getElem? (i := 224) rfl))) (by decide) (t := .int) (t' := .int) (by decide) (by decide)))
  have F_start_self_2 := F_start_self_1.other W2 (Or.inr (slot_ne (Or.inl (hw _ (List.mem_of_getElem? (i := 77) rfl))) (Or.inl (hw _ (List.mem_of_getElem? (i := 224) rfl))) (by decide) (t := .long) (t' := .int) (by decide) (by decide)))
  have F_fault_self_2 := F_fault_self_1.other W2 (Or.inr (slot_ne (Or.inl (hw _ (List.mem_of_getElem? (i := 222) rfl))) (Or.inl (hw _ (List.mem_of_getElem? (i := 224) rfl))) (by decide) (t := (.object "com/example/carmenta/carmenta/Fault")) (t' := .int) (by decide) (by decide)))
  have Z_2 : n0 ≤ h2.size := Nat.le_trans Z_1 (Nat.le_of_eq W2.size.symm)
  have KK_2 : Keep h0 h2 [self] := KK_1.wr W2 (Or.inl (List.mem_of_getElem? (i := 0) rfl))
  refine A (st2 _) ?_
  show D (T2.setTop (mkF m 10 #[.val (.ref self), .val (.ref p1), .val (.int p2)] []))
  refine A (XS.bipush X2.here hx rfl (hb hby d39_10)) ?_
  show D (T2.setTop (mkF m 12 #[.val (.ref self), .val (.ref p1), .val (.int p2)] [(.int (-2 : Int32))]))
  refine F _ (Jvm.JW.ret X2 hlk (v := some (.int (-2 : Int32))) (fun h => by rw [hrt] at h; cases h) (fun fs hr => retOut X2 hx hrt rfl (Or.inl ⟨rfl, Or.inl rfl, _, rfl⟩) (hb hby d39_12) hr) e2 ?_ (by decide) (by decide))
  exact ⟨rfl, N2, KK_2, E_self_2, F_last_self_2, F_chars_self_2, F_index_self_2, F_start_self_2, F_fault_self_2, F_subpart_self_2⟩
theorem own_k1 {x : Int32} {k : Nat} (h : x.toInt = k) (hk : k < 2) (hn : ¬ (x + (1 : Int32)) = (2 : Int32)) : (x + (1 : Int32)).toInt = ((k + 1 : Nat) : Int) ∧ k + 1 < 2 := by
  have a := ixadd h (show (1 : Int32).toInt = ((1 : Nat) : Int) by decide) (by omega)
  refine ⟨a, ?_⟩
  have : k ≠ 1 := fun q => hn (Int32.toInt_inj.mp (by rw [a, q]; decide))
  omega
theorem own_k1e {x : Int32} {k : Nat} (h : x.toInt = k) (hk : k < 2) (hn : (x + (1 : Int32)) = (2 : Int32)) : k = 1 := by
  have a := ixadd h (show (1 : Int32).toInt = ((1 : Nat) : Int) by decide) (by omega)
  rw [hn, show (2 : Int32).toInt = 2 from rfl] at a
  omega
theorem own_d2 {x : Int32} {k : Nat} (h : x.toInt = k) (hk : k < 2) : ¬ x = (2 : Int32) := fun q => by rw [q, show (2 : Int32).toInt = 2 from rfl] at h; omega
/-- what decode answers at char k  r: the result, nx: the index afterwards -/
def own_D (k : Nat) (lb x y dx r jx : Int32) : Prop :=
  (f26 (own_at k x y) = (0 : Int32) ∧ r = own_at k x y ∧ jx = dx + (1 : Int32)) ∨ (¬ f26 (own_at k x y) = (0 : Int32) ∧ ¬ f38 (own_at k x y) = (0 : Int32) ∧ r = -2 ∧ jx = dx) ∨
  (¬ f26 (own_at k x y) = (0 : Int32) ∧ f38 (own_at k x y) = (0 : Int32) ∧ ((k = 1 ∧ lb = 0 ∧ r = -1 ∧ jx = dx) ∨ (k = 1 ∧ ¬ lb = 0 ∧ r = -2 ∧ jx = dx) ∨ (k = 0 ∧ f38 y = (0 : Int32) ∧ r = -2 ∧ jx = dx) ∨ (k = 0 ∧ ¬ f38 y = (0 : Int32) ∧ r = f40 x y ∧ jx = dx + (2 : Int32))))
theorem own_at1 {k : Nat} {x y : Int32} (h : k + 1 < 2) : own_at (k + 1) x y = y := rfl
theorem own_at0 {k : Nat} {x y : Int32} (h : k + 1 < 2) : own_at k x y = x := by
  have : k = 0 := by omega
  rw [this]; rfl
theorem own_lc {k : Nat} {x y : Int32} (h : k + 1 < 2) (q : f38 (own_at (k + 1) x y) = (0 : Int32)) : f38 y = (0 : Int32) := q
theorem own_lcn {k : Nat} {x y : Int32} (h : k + 1 < 2) (q : ¬ f38 (own_at (k + 1) x y) = (0 : Int32)) : ¬ f38 y = (0 : Int32) := q
theorem own_tc {k : Nat} {x y : Int32} (h : k + 1 < 2) : f40 (own_at k x y) (own_at (k + 1) x y) = f40 x y := by rw [own_at0 h, own_at1 h]
theorem d18_0 : decode prog_6_method_4_code 0 = .ok (.aload_n 0, 1) := by decide +kernel
theorem d18_1 : decode prog_6_method_4_code 1 = .ok (.getfield 21, 3) := by decide +kernel
theorem d18_4 : decode prog_6_method_4_code 4 = .ok (.aload_n 0, 1) := by decide +kernel
theorem d18_5 : decode prog_6_method_4_code 5 = .ok (.getfield 13, 3) := by decide +kernel
theorem d18_8 : decode prog_6_method_4_code 8 = .ok (.invokeinterface 25 1, 5) := by decide +kernel
theorem d18_13 : decode prog_6_method_4_code 13 = .ok (.if_icmp .ne 5, 3) := by decide +kernel
theorem d18_18 : decode prog_6_method_4_code 18 = .ok (.aload_n 0, 1) := by decide +kernel
theorem d18_19 : decode prog_6_method_4_code 19 = .ok (.getfield 13, 3) := by decide +kernel
theorem d18_22 : decode prog_6_method_4_code 22 = .ok (.aload_n 0, 1) := by decide +kernel
theorem d18_23 : decode prog_6_method_4_code 23 = .ok (.getfield 21, 3) := by decide +kernel
theorem d18_26 : decode prog_6_method_4_code 26 = .ok (.invokeinterface 31 2, 5) := by decide +kernel
theorem d18_31 : decode prog_6_method_4_code 31 = .ok (.istore_n 1, 1) := by decide +kernel
theorem d18_32 : decode prog_6_method_4_code 32 = .ok (.iload_n 1, 1) := by decide +kernel
theorem d18_33 : decode prog_6_method_4_code 33 = .ok (.invokestatic 35, 3) := by decide +kernel
theorem d18_36 : decode prog_6_method_4_code 36 = .ok (.ifCond .ne 10, 3) := by decide +kernel
theorem d18_39 : decode prog_6_method_4_code 39 = .ok (.iconst 1, 1) := by decide +kernel
theorem d18_40 : decode prog_6_method_4_code 40 = .ok (.istore_n 2, 1) := by decide +kernel
theorem d18_41 : decode prog_6_method_4_code 41 = .ok (.iload_n 1, 1) := by decide +kernel
theorem d18_42 : decode prog_6_method_4_code 42 = .ok (.istore_n 3, 1) := by decide +kernel
theorem d18_43 : decode prog_6_method_4_code 43 = .ok (.goto 116, 3) := by decide +kernel
theorem d18_46 : decode prog_6_method_4_code 46 = .ok (.iload_n 1, 1) := by decide +kernel
theorem d18_47 : decode prog_6_method_4_code 47 = .ok (.invokestatic 41, 3) := by decide +kernel
theorem d18_50 : decode prog_6_method_4_code 50 = .ok (.ifCond .eq 12, 3) := by decide +kernel
theorem d18_53 : decode prog_6_method_4_code 53 = .ok (.aload_n 0, 1) := by decide +kernel
theorem d18_54 : decode prog_6_method_4_code 54 = .ok (.getstatic 44, 3) := by decide +kernel
theorem d18_57 : decode prog_6_method_4_code 57 = .ok (.iconst 1, 1) := by decide +kernel
theorem d18_58 : decode prog_6_method_4_code 58 = .ok (.invokevirtual 50, 3) := by decide +kernel
theorem d18_61 : decode prog_6_method_4_code 61 = .ok (.ireturn, 1) := by decide +kernel
theorem d18_62 : decode prog_6_method_4_code 62 = .ok (.aload_n 0, 1) := by decide +kernel
theorem d18_63 : decode prog_6_method_4_code 63 = .ok (.getfield 21, 3) := by decide +kernel
theorem d18_66 : decode prog_6_method_4_code 66 = .ok (.iconst 1, 1) := by decide +kernel
theorem d18_67 : decode prog_6_method_4_code 67 = .ok (.iadd, 1) := by decide +kernel
theorem d18_68 : decode prog_6_method_4_code 68 = .ok (.aload_n 0, 1) := by decide +kernel
theorem d18_69 : decode prog_6_method_4_code 69 = .ok (.getfield 13, 3) := by decide +kernel
theorem d18_72 : decode prog_6_method_4_code 72 = .ok (.invokeinterface 25 1, 5) := by decide +kernel
theorem d18_77 : decode prog_6_method_4_code 77 = .ok (.if_icmp .ne 12, 3) := by decide +kernel
theorem d18_80 : decode prog_6_method_4_code 80 = .ok (.aload_n 0, 1) := by decide +kernel
theorem d18_81 : decode prog_6_method_4_code 81 = .ok (.getfield 7, 3) := by decide +kernel
theorem d18_84 : decode prog_6_method_4_code 84 = .ok (.ifCond .ne 5, 3) := by decide +kernel
theorem d18_87 : decode prog_6_method_4_code 87 = .ok (.iconst (-1), 1) := by decide +kernel
theorem d18_88 : decode prog_6_method_4_code 88 = .ok (.ireturn, 1) := by decide +kernel
theorem d18_89 : decode prog_6_method_4_code 89 = .ok (.aload_n 0, 1) := by decide +kernel
theorem d18_90 : decode prog_6_method_4_code 90 = .ok (.getfield 21, 3) := by decide +kernel
theorem d18_93 : decode prog_6_method_4_code 93 = .ok (.iconst 1, 1) := by decide +kernel
theorem d18_94 : decode prog_6_method_4_code 94 = .ok (.iadd, 1) := by decide +kernel
theorem d18_95 : decode prog_6_method_4_code 95 = .ok (.aload_n 0, 1) := by decide +kernel
theorem d18_96 : decode prog_6_method_4_code 96 = .ok (.getfield 13, 3) := by decide +kernel
theorem d18_99 : decode prog_6_method_4_code 99 = .ok (.invokeinterface 25 1, 5) := by decide +kernel
theorem d18_104 : decode prog_6_method_4_code 104 = .ok (.if_icmp .eq 24, 3) := by decide +kernel
theorem d18_107 : decode prog_6_method_4_code 107 = .ok (.aload_n 0, 1) := by decide +kernel
theorem d18_108 : decode prog_6_method_4_code 108 = .ok (.getfield 13, 3) := by decide +kernel
theorem d18_111 : decode prog_6_method_4_code 111 = .ok (.aload_n 0, 1) := by decide +kernel
theorem d18_112 : decode prog_6_method_4_code 112 = .ok (.getfield 21, 3) := by decide +kernel
theorem d18_115 : decode prog_6_method_4_code 115 = .ok (.iconst 1, 1) := by decide +kernel
theorem d18_116 : decode prog_6_method_4_code 116 = .ok (.iadd, 1) := by decide +kernel
theorem d18_117 : decode prog_6_method_4_code 117 = .ok (.invokeinterface 31 2, 5) := by decide +kernel
theorem d18_122 : decode prog_6_method_4_code 122 = .ok (.invokestatic 41, 3) := by decide +kernel
theorem d18_125 : decode prog_6_method_4_code 125 = .ok (.ifCond .ne 12, 3) := by decide +kernel
theorem d18_128 : decode prog_6_method_4_code 128 = .ok (.aload_n 0, 1) := by decide +kernel
theorem d18_129 : decode prog_6_method_4_code 129 = .ok (.getstatic 54, 3) := by decide +kernel
theorem d18_132 : decode prog_6_method_4_code 132 = .ok (.iconst 1, 1) := by decide +kernel
theorem d18_133 : decode prog_6_method_4_code 133 = .ok (.invokevirtual 50, 3) := by decide +kernel
theorem d18_136 : decode prog_6_method_4_code 136 = .ok (.ireturn, 1) := by decide +kernel
theorem d18_137 : decode prog_6_method_4_code 137 = .ok (.iconst 2, 1) := by decide +kernel
theorem d18_138 : decode prog_6_method_4_code 138 = .ok (.istore_n 2, 1) := by decide +kernel
theorem d18_139 : decode prog_6_method_4_code 139 = .ok (.iload_n 1, 1) := by decide +kernel
theorem d18_140 : decode prog_6_method_4_code 140 = .ok (.aload_n 0, 1) := by decide +kernel
theorem d18_141 : decode prog_6_method_4_code 141 = .ok (.getfield 13, 3) := by decide +kernel
theorem d18_144 : decode prog_6_method_4_code 144 = .ok (.aload_n 0, 1) := by decide +kernel
theorem d18_145 : decode prog_6_method_4_code 145 = .ok (.getfield 21, 3) := by decide +kernel
theorem d18_148 : decode prog_6_method_4_code 148 = .ok (.iconst 1, 1) := by decide +kernel
theorem d18_149 : decode prog_6_method_4_code 149 = .ok (.iadd, 1) := by decide +kernel
theorem d18_150 : decode prog_6_method_4_code 150 = .ok (.invokeinterface 31 2, 5) := by decide +kernel
theorem d18_155 : decode prog_6_method_4_code 155 = .ok (.invokestatic 57, 3) := by decide +kernel
theorem d18_158 : decode prog_6_method_4_code 158 = .ok (.istore_n 3, 1) := by decide +kernel
theorem d18_159 : decode prog_6_method_4_code 159 = .ok (.aload_n 0, 1) := by decide +kernel
theorem d18_160 : decode prog_6_method_4_code 160 = .ok (.iload_n 2, 1) := by decide +kernel
theorem d18_161 : decode prog_6_method_4_code 161 = .ok (.invokevirtual 61, 3) := by decide +kernel
theorem d18_164 : decode prog_6_method_4_code 164 = .ok (.iload_n 3, 1) := by decide +kernel
theorem d18_165 : decode prog_6_method_4_code 165 = .ok (.ireturn, 1) := by decide +kernel
theorem pn18 : plainFor (⟨"com/example/carmenta/carmenta/CharReader", "decode", "()I"⟩ : MethodName) = true := by decide +kernel
theorem pd18_0 : parseMethodDescriptor "()I" = some ⟨[], some .int⟩ := by decide +kernel
theorem pd18_1 : parseMethodDescriptor "(I)C" = some ⟨[.int], some .char⟩ := by decide +kernel
theorem pd18_2 : parseMethodDescriptor "(C)Z" = some ⟨[.char], some .boolean⟩ := by decide +kernel
theorem pd18_3 : parseMethodDescriptor "(I)V" = some ⟨[.int], none⟩ := by decide +kernel
theorem pd18_4 : parseMethodDescriptor "(Lcom/example/carmenta/carmenta/Fault;I)I" = some ⟨[(.object "com/example/carmenta/carmenta/Fault"), .int], some .int⟩ := by decide +kernel
theorem pd18_5 : parseMethodDescriptor "(CC)I" = some ⟨[.char, .char], some .int⟩ := by decide +kernel
theorem ef18 (self : Addr) (m : MethodId) : entryFrame m #[(.ref self)] 4 = mkF m 0 #[.val (.ref self), .unset, .unset, .unset] [] := by first | (simp [entryFrame, mkF, argsToLocals, Value.category]; done) | rfl
set_option maxRecDepth 65536 in
set_option maxHeartbeats 40000000 in
theorem rm18 (l : Launch) (Z : State) (a0 : Array Value) (hw : ∀ d ∈ tables_1, d.before a0 Z = true) (ws : List Jvm.Cond) (self : Addr) (h0 : Heap) (n0 : Nat) (lb dx : Int32) (sv : Int64) (ca : Addr) (Z0 : n0 ≤ h0.size) (g_self : n0 ≤ self) (E_self : Exa Z h0 self "com/example/carmenta/carmenta/CharReader") (F_last : Fld Z h0 self "com/example/carmenta/carmenta/CharReader" "last" "Z" (.int lb)) (F_chars : Fld Z h0 self "com/example/carmenta/carmenta/CharReader" "chars" "Ljava/lang/CharSequence;" (.ref ca)) (F_index : Fld Z h0 self "com/example/carmenta/carmenta/CharReader" "index" "I" (.int dx)) (F_start : Fld Z h0 self "com/example/carmenta/carmenta/CharReader" "start" "J" (.long sv)) (F_fault : Fld Z h0 self "com/example/carmenta/carmenta/ScalarReader" "fault" "Lcom/example/carmenta/carmenta/Fault;" .null) (F_subpart : Fld Z h0 self "com/example/carmenta/carmenta/ScalarReader" "subpart" "I" (.int (0 : Int32))) (kk : Nat) (hk : dx.toInt = kk) (hk2 : kk < 2) (ne_ca : ca ≠ self) (flo fhi : Addr) (cd : Int32) (nb : Nat) (f : Nat → Int32) (cs : Int32) (hcs : ¬ cs = (0 : Int32)) (sf : Value) (hsf : sf.isRef = true) (bb : Addr) (c0 c1 : Int32) (hSt : own_S cd nb f c0 c1) (S_sf : Sta Z h0 "jdk/internal/util/Preconditions" "SIOOBE_FORMATTER" "Ljava/util/function/BiFunction;" sf) (S_cs : Sta Z h0 "java/lang/String" "COMPACT_STRINGS" "Z" (.int cs)) (S_ad : Sta Z h0 "java/lang/StringUTF16" "$assertionsDisabled" "Z" (.int (1 : Int32))) (S_hi : Sta Z h0 "java/lang/StringUTF16" "HI_BYTE_SHIFT" "I" (.int (0 : Int32))) (S_lo : Sta Z h0 "java/lang/StringUTF16" "LO_BYTE_SHIFT" "I" (.int (8 : Int32))) (E_ca : Exa Z h0 ca "java/lang/String") (FS_coder : Fld Z h0 ca "java/lang/String" "coder" "B" (.int cd)) (FS_value : Fld Z h0 ca "java/lang/String" "value" "[B" (.ref bb)) (V_bb : ArI Z h0 bb .byte nb f) (S_fl : Sta Z h0 "com/example/carmenta/carmenta/Fault" "UNPAIRED_LOW_SURROGATE" "Lcom/example/carmenta/carmenta/Fault;" (.ref flo)) (S_fh : Sta Z h0 "com/example/carmenta/carmenta/Fault" "UNPAIRED_HIGH_SURROGATE" "Lcom/example/carmenta/carmenta/Fault;" (.ref fhi)) :
    JMet l Z (⟨"com/example/carmenta/carmenta/CharReader", "decode", "()I"⟩ : MethodName) prog_6_method_4_code 4 (some .int) ws ({ frames := 5, cells := 0, slots := 0, locals := 67 } : Room) #[(.ref self)] h0 (fun v h L => ∃ (r jx : Int32), v = some (.int r) ∧ Fr n0 L ∧ Keep h0 h [self] ∧ Exa Z h self "com/example/carmenta/carmenta/CharReader" ∧ Fld Z h self "com/example/carmenta/carmenta/CharReader" "chars" "Ljava/lang/CharSequence;" (.ref ca) ∧ Fld Z h self "com/example/carmenta/carmenta/CharReader" "index" "I" (.int jx) ∧ own_D kk lb c0 c1 dx r jx) := by
  have hd2 := own_d2 hk hk2
  refine Jvm.JW.body #[.val (.ref self), .unset, .unset, .unset] pn18 (ef18 self) ?_
  intro p e s m below meth c T0 D A F X0 hx hZ hby hml hown hnm hrt hlk e0
  refine A (XS.aloadN X0.here hx rfl (hb hby d18_0) rfl rfl) ?_
  show D (T0.setTop (mkF m 1 #[.val (.ref self), .unset, .unset, .unset] [(.ref self)]))
  obtain ⟨T1, X1, e1, st1⟩ := getF X0 hx hZ hown (host := "") (Or.inl (hw _ (List.mem_of_getElem? (i := 68) rfl))) Via.refl e0 F_index (g := (mkF m 1 #[.val (.ref self), .unset, .unset, .unset] [(.ref self)])) rfl rfl (hb hby d18_1)
  refine A (st1 _) ?_
  show D (T1.setTop (mkF m 4 #[.val (.ref self), .unset, .unset, .unset] [(.int dx)]))
  refine A (XS.aloadN X1.here hx rfl (hb hby d18_4) rfl rfl) ?_
  show D (T1.setTop (mkF m 5 #[.val (.ref self), .unset, .unset, .unset] [(.ref self), (.int dx)]))
  obtain ⟨T2, X2, e2, st2⟩ := getF X1 hx hZ hown (host := "") (Or.inl (hw _ (List.mem_of_getElem? (i := 61) rfl))) Via.refl e1 F_chars (g := (mkF m 5 #[.val (.ref self), .unset, .unset, .unset] [(.ref self), (.int dx)])) rfl rfl (hb hby d18_5)
  refine A (st2 _) ?_
  show D (T2.setTop (mkF m 8 #[.val (.ref self), .unset, .unset, .unset] [(.ref ca), (.int dx)]))
  refine Adv.callF A X2 hx hZ hown (xi := (⟨"java/lang/CharSequence", "length", "()I"⟩ : MethodName)) (y := (⟨"java/lang/String", "length", "()I"⟩ : MethodName)) (hw _ (List.mem_of_getElem? (i := 121) rfl)) (hw _ (List.mem_of_getElem? (i := 122) rfl)) (mvT hZ (hw _ (List.mem_of_getElem? (i := 123) rfl))) (hw _ (List.mem_of_getElem? (i := 124) rfl)) (hw _ (List.mem_of_getElem? (i := 125) rfl)) (hw _ (List.mem_of_getElem? (i := 126) rfl)) (hw _ (List.mem_of_getElem? (i := 127) rfl)) (hw _ (List.mem_of_getElem? (i := 128) rfl)) (hw _ (List.mem_of_getElem? (i := 4) rfl)) (hw _ (List.mem_of_getElem? (i := 129) rfl)) e2 E_ca (rm19 l Z a0 hw [] ca h0 n0 cd nb f cs hcs sf hsf S_sf S_cs S_ad S_hi S_lo E_ca FS_coder bb FS_value V_bb c0 c1 hSt) 1 (g := (mkF m 8 #[.val (.ref self), .unset, .unset, .unset] [(.ref ca), (.int dx)])) rfl (by rw [hml]; rfl) [] [(.int dx)] rfl (lenOf pd18_0 rfl) rfl (by show 2 * 0 + _ ≤ _; exact Nat.le_of_eq rfl) (hb hby d18_8) (by decide) (by decide) (by decide) (by decide) (by decide) ?_
  rintro T3 L3 _ X3 ⟨rfl, N3_q, e3⟩
  have N3 := Fr.app (Fr.nil n0) N3_q
  show D (T3.setTop (mkF m 13 #[.val (.ref self), .unset, .unset, .unset] [(.int (2 : Int32)), (.int dx)]))
  refine A (XS.icmpYes X3.here hx rfl (pc0 := 13) (pc' := 18) rfl (hb hby d18_13) rfl (feq hd2).2 (by decide) (by decide)) ?_
  show D (T3.setTop (mkF m 18 #[.val (.ref self), .unset, .unset, .unset] []))
  refine A (XS.aloadN X3.here hx rfl (hb hby d18_18) rfl rfl) ?_
  show D (T3.setTop (mkF m 19 #[.val (.ref self), .unset, .unset, .unset] [(.ref self)]))
  obtain ⟨T4, X4, e4, st4⟩ := getF X3 hx hZ hown (host := "") (Or.inl (hw _ (List.mem_of_getElem? (i := 61) rfl))) Via.refl e3 F_chars (g := (mkF m 19 #[.val (.ref self), .unset, .unset, .unset] [(.ref self)])) rfl rfl (hb hby d18_19)
  refine A (st4 _) ?_
  show D (T4.setTop (mkF m 22 #[.val (.ref self), .unset, .unset, .unset] [(.ref ca)]))
  refine A (XS.aloadN X4.here hx rfl (hb hby d18_22) rfl rfl) ?_
  show D (T4.setTop (mkF m 23 #[.val (.ref self), .unset, .unset, .unset] [(.ref self), (.ref ca)]))
  obtain ⟨T5, X5, e5, st5⟩ := getF X4 hx hZ hown (host := "") (Or.inl (hw _ (List.mem_of_getElem? (i := 68) rfl))) Via.refl e4 F_index (g := (mkF m 23 #[.val (.ref self), .unset, .unset, .unset] [(.ref self), (.ref ca)])) rfl rfl (hb hby d18_23)
  refine A (st5 _) ?_
  show D (T5.setTop (mkF m 26 #[.val (.ref self), .unset, .unset, .unset] [(.int dx), (.ref ca)]))
  refine Adv.callF A X5 hx hZ hown (xi := (⟨"java/lang/CharSequence", "charAt", "(I)C"⟩ : MethodName)) (y := (⟨"java/lang/String", "charAt", "(I)C"⟩ : MethodName)) (hw _ (List.mem_of_getElem? (i := 135) rfl)) (hw _ (List.mem_of_getElem? (i := 136) rfl)) (mvT hZ (hw _ (List.mem_of_getElem? (i := 137) rfl))) (hw _ (List.mem_of_getElem? (i := 138) rfl)) (hw _ (List.mem_of_getElem? (i := 139) rfl)) (hw _ (List.mem_of_getElem? (i := 140) rfl)) (hw _ (List.mem_of_getElem? (i := 141) rfl)) (hw _ (List.mem_of_getElem? (i := 128) rfl)) (hw _ (List.mem_of_getElem? (i := 4) rfl)) (hw _ (List.mem_of_getElem? (i := 142) rfl)) e5 E_ca (rm21 l Z a0 hw [] ca dx h0 n0 kk hk hk2 cd nb f cs hcs sf hsf S_sf S_cs S_ad S_hi S_lo E_ca FS_coder bb FS_value V_bb c0 c1 hSt) 0 (g := (mkF m 26 #[.val (.ref self), .unset, .unset, .unset] [(.int dx), (.ref ca)])) rfl (by rw [hml]; rfl) [(.int dx)] [] rfl (lenOf pd18_1 rfl) rfl (by show 2 * 0 + _ ≤ _; exact Nat.le_of_eq rfl) (hb hby d18_26) (by decide) (by decide) (by decide) (by decide) (by decide) ?_
  rintro T6 L6 _ X6 ⟨rfl, N6_q, e6⟩
  have N6 := Fr.app N3 N6_q
  show D (T6.setTop (mkF m 31 #[.val (.ref self), .unset, .unset, .unset] [(.int (own_at kk c0 c1))]))
  refine A (XS.istoreN X6.here hx rfl (hb hby d18_31) rfl (l' := #[.val (.ref self), .val (.int (own_at kk c0 c1)), .unset, .unset]) rfl) ?_
  show D (T6.setTop (mkF m 32 #[.val (.ref self), .val (.int (own_at kk c0 c1)), .unset, .unset] []))
  refine A (XS.iloadN X6.here hx rfl (hb hby d18_32) rfl) ?_
  show D (T6.setTop (mkF m 33 #[.val (.ref self), .val (.int (own_at kk c0 c1)), .unset, .unset] [(.int (own_at kk c0 c1))]))
  refine Adv.callS A X6 hx hZ hown (hw _ (List.mem_of_getElem? (i := 160) rfl)) (hw _ (List.mem_of_getElem? (i := 161) rfl)) (hw _ (List.mem_of_getElem? (i := 162) rfl)) (hw _ (List.mem_of_getElem? (i := 163) rfl)) e6 (rm26 l Z a0 hw [] (own_at kk c0 c1) h0 n0) 0 (g := (mkF m 33 #[.val (.ref self), .val (.int (own_at kk c0 c1)), .unset, .unset] [(.int (own_at kk c0 c1))])) rfl (by rw [hml]; rfl) [(.int (own_at kk c0 c1))] [] rfl (lenOf pd18_2 rfl) rfl (by show 2 * 0 + _ ≤ _; exact Nat.le_of_eq rfl) (hb hby d18_33) (by decide) (by decide) (by decide) (by decide) (by decide) ?_
  rintro T7 L7 _ X7 ⟨rfl, N7_q, e7⟩
  have N7 := Fr.app N6 N7_q
  show D (T7.setTop (mkF m 36 #[.val (.ref self), .val (.int (own_at kk c0 c1)), .unset, .unset] [(.int (f26 (own_at kk c0 c1)))]))
  by_cases c36_8 : (f26 (own_at kk c0 c1)) = (0 : Int32)
  · refine A (XS.ifNo X7.here hx rfl (hb hby d18_36) rfl ((if0 _ _).trans (teq c36_8).2)) ?_
    show D (T7.setTop (mkF m 39 #[.val (.ref self), .val (.int (own_at kk c0 c1)), .unset, .unset] []))
    refine A (XS.iconst X7.here hx rfl (hb hby d18_39)) ?_
    show D (T7.setTop (mkF m 40 #[.val (.ref self), .val (.int (own_at kk c0 c1)), .unset, .unset] [(.int (1 : Int32))]))
    refine A (XS.istoreN X7.here hx rfl (hb hby d18_40) rfl (l' := #[.val (.ref self), .val (.int (own_at kk c0 c1)), .val (.int (1 : Int32)), .unset]) rfl) ?_
    show D (T7.setTop (mkF m 41 #[.val (.ref self), .val (.int (own_at kk c0 c1)), .val (.int (1 : Int32)), .unset] []))
    refine A (XS.iloadN X7.here hx rfl (hb hby d18_41) rfl) ?_
    show D (T7.setTop (mkF m 42 #[.val (.ref self), .val (.int (own_at kk c0 c1)), .val (.int (1 : Int32)), .unset] [(.int (own_at kk c0 c1))]))
    refine A (XS.istoreN X7.here hx rfl (hb hby d18_42) rfl (l' := #[.val (.ref self), .val (.int (own_at kk c0 c1)), .val (.int (1 : Int32)), .val (.int (own_at kk c0 c1))]) rfl) ?_
    show D (T7.setTop (mkF m 43 #[.val (.ref self), .val (.int (own_at kk c0 c1)), .val (.int (1 : Int32)), .val (.int (own_at kk c0 c1))] []))
    refine A (XS.goto X7.here hx rfl (pc0 := 43) (pc' := 159) rfl (hb hby d18_43) (by decide) (by decide)) ?_
    show D (T7.setTop (mkF m 159 #[.val (.ref self), .val (.int (own_at kk c0 c1)), .val (.int (1 : Int32)), .val (.int (own_at kk c0 c1))] []))
    refine A (XS.aloadN X7.here hx rfl (hb hby d18_159) rfl rfl) ?_
    show D (T7.setTop (mkF m 160 #[.val (.ref self), .val (.int (own_at kk c0 c1)), .val (.int (1 : Int32)), .val (.int (own_at kk c0 c1))] [(.ref self)]))
    refine A (XS.iloadN X7.here hx rfl (hb hby d18_160) rfl) ?_
    show D (T7.setTop (mkF m 161 #[.val (.ref self), .val (.int (own_at kk c0 c1)), .val (.int (1 : Int32)), .val (.int (own_at kk c0 c1))] [(.int (1 : Int32)), (.ref self)]))
    refine Adv.callV A X7 hx hZ hown (hw _ (List.mem_of_getElem? (i := 165) rfl)) (hw _ (List.mem_of_getElem? (i := 64) rfl)) (notFace_of_selects (args := #[]) (mvT hZ (hw _ (List.mem_of_getElem? (i := 66) rfl)))) (hw _ (List.mem_of_getElem? (i := 66) rfl)) (hw _ (List.mem_of_getElem? (i := 65) rfl)) (hw _ (List.mem_of_getElem? (i := 33) rfl)) (hw _ (List.mem_of_getElem? (i := 67) rfl)) e7 E_self (rm10 l Z a0 hw [] self (1 : Int32) h0 n0 lb dx sv ca Z0 g_self E_self F_last F_chars F_index F_start F_fault F_subpart ) 0 (g := (mkF m 161 #[.val (.ref self), .val (.int (own_at kk c0 c1)), .val (.int (1 : Int32)), .val (.int (own_at kk c0 c1))] [(.int (1 : Int32)), (.ref self)])) rfl (by rw [hml]; rfl) [(.int (1 : Int32))] [] rfl (lenOf pd18_3 rfl) rfl (by show 2 * 0 + _ ≤ _; exact Nat.le_of_eq rfl) (hb hby d18_161) (by decide) (by decide) (by decide) (by decide) (by decide) ?_
    rintro T9 L9 _ X9 ⟨rfl, N9_q, K9, -, F9_last, F9_chars, F9_index, F9_start, F9_fault, F9_subpart⟩
    have N9 := Fr.app N7 N9_q
    have E_self_9 := E_self.keep K9
    have E_ca_9 := E_ca.keep K9
    have F_coder_ca_9 := FS_coder.keep K9 (ninS ne_ca nin0)
    have F_value_ca_9 := FS_value.keep K9 (ninS ne_ca nin0)
    have V_bb_9 := V_bb.keep K9 (ninS (Ne.symm (ne_ari E_self (hw _ (List.mem_of_getElem? (i := 32) rfl)) V_bb)) nin0)
    have S_sf_9 := own_stk S_sf K9 (own_nsc (own_nsE E_self) own_nsn)
    have S_cs_9 := own_stk S_cs K9 (own_nsc (own_nsE E_self) own_nsn)
    have S_ad_9 := own_stk S_ad K9 (own_nsc (own_nsE E_self) own_nsn)
    have S_hi_9 := own_stk S_hi K9 (own_nsc (own_nsE E_self) own_nsn)
    have S_lo_9 := own_stk S_lo K9 (own_nsc (own_nsE E_self) own_nsn)
    have S_fl_9 := own_stk S_fl K9 (own_nsc (own_nsE E_self) own_nsn)
    have S_fh_9 := own_stk S_fh K9 (own_nsc (own_nsE E_self) own_nsn)
    have Z_9 : n0 ≤ T9.heap.size := Nat.le_trans Z0 K9.1
    have KK_9 : Keep h0 T9.heap [self] := (Keep.refl h0 [self]).trans K9 (allS (Or.inl (List.mem_of_getElem? (i := 0) rfl)) all0)
    show D (T9.setTop (mkF m 164 #[.val (.ref self), .val (.int (own_at kk c0 c1)), .val (.int (1 : Int32)), .val (.int (own_at kk c0 c1))] []))
    refine A (XS.iloadN X9.here hx rfl (hb hby d18_164) rfl) ?_
    show D (T9.setTop (mkF m 165 #[.val (.ref self), .val (.int (own_at kk c0 c1)), .val (.int (1 : Int32)), .val (.int (own_at kk c0 c1))] [(.int (own_at kk c0 c1))]))
    refine F _ (Jvm.JW.ret X9 hlk (v := some (.int (own_at kk c0 c1))) (fun h => by rw [hrt] at h; cases h) (fun fs hr => retOut X9 hx hrt rfl (Or.inl ⟨rfl, Or.inl rfl, _, rfl⟩) (hb hby d18_165) hr) rfl ?_ (by decide) (by decide))
    exact ⟨_, _, rfl, N9, KK_9, E_self_9, F9_chars, F9_index, Or.inl ⟨c36_8, rfl, rfl⟩⟩
  · refine A (XS.ifYes X7.here hx rfl (pc0 := 36) (pc' := 46) rfl (hb hby d18_36) rfl ((if0 _ _).trans (feq c36_8).2) (by decide) (by decide)) ?_
    show D (T7.setTop (mkF m 46 #[.val (.ref self), .val (.int (own_at kk c0 c1)), .unset, .unset] []))
    refine A (XS.iloadN X7.here hx rfl (hb hby d18_46) rfl) ?_
    show D (T7.setTop (mkF m 47 #[.val (.ref self), .val (.int (own_at kk c0 c1)), .unset, .unset] [(.int (own_at kk c0 c1))]))
    refine Adv.callS A X7 hx hZ hown (hw _ (List.mem_of_getElem? (i := 210) rfl)) (hw _ (List.mem_of_getElem? (i := 211) rfl)) (hw _ (List.mem_of_getElem? (i := 162) rfl)) (hw _ (List.mem_of_getElem? (i := 212) rfl)) e7 (rm38 l Z a0 hw [] (own_at kk c0 c1) h0 n0) 0 (g := (mkF m 47 #[.val (.ref self), .val (.int (own_at kk c0 c1)), .unset, .unset] [(.int (own_at kk c0 c1))])) rfl (by rw [hml]; rfl) [(.int (own_at kk c0 c1))] [] rfl (lenOf pd18_2 rfl) rfl (by show 2 * 0 + _ ≤ _; exact Nat.le_of_eq rfl) (hb hby d18_47) (by decide) (by decide) (by decide) (by decide) (by decide) ?_
    rintro T10 L10 _ X10 ⟨rfl, N10_q, e10⟩
    have N10 := Fr.app N7 N10_q
    show D (T10.setTop (mkF m 50 #[.val (.ref self), .val (.int (own_at kk c0 c1)), .unset, .unset] [(.int (f38 (own_at kk c0 c1)))]))
    by_cases c50_11 : (f38 (own_at kk c0 c1)) = (0 : Int32)
    · refine A (XS.ifYes X10.here hx rfl (pc0 := 50) (pc' := 62) rfl (hb hby d18_50) rfl ((if0 _ _).trans (teq c50_11).1) (by decide) (by decide)) ?_
      show D (T10.setTop (mkF m 62 #[.val (.ref self), .val (.int (own_at kk c0 c1)), .unset, .unset] []))
      refine A (XS.aloadN X10.here hx rfl (hb hby d18_62) rfl rfl) ?_
      show D (T10.setTop (mkF m 63 #[.val (.ref self), .val (.int (own_at kk c0 c1)), .unset, .unset] [(.ref self)]))
      obtain ⟨T12, X12, e12, st12⟩ := getF X10 hx hZ hown (host := "") (Or.inl (hw _ (List.mem_of_getElem? (i := 68) rfl))) Via.refl e10 F_index (g := (mkF m 63 #[.val (.ref self), .val (.int (own_at kk c0 c1)), .unset, .unset] [(.ref self)])) rfl rfl (hb hby d18_63)
      refine A (st12 _) ?_
      show D (T12.setTop (mkF m 66 #[.val (.ref self), .val (.int (own_at kk c0 c1)), .unset, .unset] [(.int dx)]))
      refine A (XS.iconst X12.here hx rfl (hb hby d18_66)) ?_
      show D (T12.setTop (mkF m 67 #[.val (.ref self), .val (.int (own_at kk c0 c1)), .unset, .unset] [(.int (1 : Int32)), (.int dx)]))
      refine A (XS.iadd X12.here hx rfl (hb hby d18_67) rfl) ?_
      show D (T12.setTop (mkF m 68 #[.val (.ref self), .val (.int (own_at kk c0 c1)), .unset, .unset] [(.int (dx + (1 : Int32)))]))
      refine A (XS.aloadN X12.here hx rfl (hb hby d18_68) rfl rfl) ?_
      show D (T12.setTop (mkF m 69 #[.val (.ref self), .val (.int (own_at kk c0 c1)), .unset, .unset] [(.ref self), (.int (dx + (1 : Int32)))]))
      obtain ⟨T13, X13, e13, st13⟩ := getF X12 hx hZ hown (host := "") (Or.inl (hw _ (List.mem_of_getElem? (i := 61) rfl))) Via.refl e12 F_chars (g := (mkF m 69 #[.val (.ref self), .val (.int (own_at kk c0 c1)), .unset, .unset] [(.ref self), (.int (dx + (1 : Int32)))])) rfl rfl (hb hby d18_69)
      refine A (st13 _) ?_
      show D (T13.setTop (mkF m 72 #[.val (.ref self), .val (.int (own_at kk c0 c1)), .unset, .unset] [(.ref ca), (.int (dx + (1 : Int32)))]))
      refine Adv.callF A X13 hx hZ hown (xi := (⟨"java/lang/CharSequence", "length", "()I"⟩ : MethodName)) (y := (⟨"java/lang/String", "length", "()I"⟩ : MethodName)) (hw _ (List.mem_of_getElem? (i := 121) rfl)) (hw _ (List.mem_of_getElem? (i := 122) rfl)) (mvT hZ (hw _ (List.mem_of_getElem? (i := 123) rfl))) (hw _ (List.mem_of_getElem? (i := 124) rfl)) (hw _ (List.mem_of_getElem? (i := 125) rfl)) (hw _ (List.mem_of_getElem? (i := 126) rfl)) (hw _ (List.mem_of_getElem? (i := 127) rfl)) (hw _ (List.mem_of_getElem? (i := 128) rfl)) (hw _ (List.mem_of_getElem? (i := 4) rfl)) (hw _ (List.mem_of_getElem? (i := 129) rfl)) e13 E_ca (rm19 l Z a0 hw [] ca h0 n0 cd nb f cs hcs sf hsf S_sf S_cs S_ad S_hi S_lo E_ca FS_coder bb FS_value V_bb c0 c1 hSt) 1 (g := (mkF m 72 #[.val (.ref self), .val (.int (own_at kk c0 c1)), .unset, .unset] [(.ref ca), (.int (dx + (1 : Int32)))])) rfl (by rw [hml]; rfl) [] [(.int (dx + (1 : Int32)))] rfl (lenOf pd18_0 rfl) rfl (by show 2 * 0 + _ ≤ _; exact Nat.le_of_eq rfl) (hb hby d18_72) (by decide) (by decide) (by decide) (by decide) (by decide) ?_
      rintro T14 L14 _ X14 ⟨rfl, N14_q, e14⟩
      have N14 := Fr.app N10 N14_q
      show D (T14.setTop (mkF m 77 #[.val (.ref self), .val (.int (own_at kk c0 c1)), .unset, .unset] [(.int (2 : Int32)), (.int (dx + (1 : Int32)))]))
      by_cases c77_15 : (dx + (1 : Int32)) = (2 : Int32)
      · refine A (XS.icmpNo X14.here hx rfl (hb hby d18_77) rfl (teq c77_15).2) ?_
        show D (T14.setTop (mkF m 80 #[.val (.ref self), .val (.int (own_at kk c0 c1)), .unset, .unset] []))
        refine A (XS.aloadN X14.here hx rfl (hb hby d18_80) rfl rfl) ?_
        show D (T14.setTop (mkF m 81 #[.val (.ref self), .val (.int (own_at kk c0 c1)), .unset, .unset] [(.ref self)]))
        obtain ⟨T16, X16, e16, st16⟩ := getF X14 hx hZ hown (host := "") (Or.inl (hw _ (List.mem_of_getElem? (i := 59) rfl))) Via.refl e14 F_last (g := (mkF m 81 #[.val (.ref self), .val (.int (own_at kk c0 c1)), .unset, .unset] [(.ref self)])) rfl rfl (hb hby d18_81)
        refine A (st16 _) ?_
        show D (T16.setTop (mkF m 84 #[.val (.ref self), .val (.int (own_at kk c0 c1)), .unset, .unset] [(.int lb)]))
        by_cases c84_17 : lb = (0 : Int32)
        · refine A (XS.ifNo X16.here hx rfl (hb hby d18_84) rfl ((if0 _ _).trans (teq c84_17).2)) ?_
          show D (T16.setTop (mkF m 87 #[.val (.ref self), .val (.int (own_at kk c0 c1)), .unset, .unset] []))
          refine A (XS.iconst X16.here hx rfl (hb hby d18_87)) ?_
          show D (T16.setTop (mkF m 88 #[.val (.ref self), .val (.int (own_at kk c0 c1)), .unset, .unset] [(.int (-1 : Int32))]))
          refine F _ (Jvm.JW.ret X16 hlk (v := some (.int (-1 : Int32))) (fun h => by rw [hrt] at h; cases h) (fun fs hr => retOut X16 hx hrt rfl (Or.inl ⟨rfl, Or.inl rfl, _, rfl⟩) (hb hby d18_88) hr) e16 ?_ (by decide) (by decide))
          exact ⟨_, _, rfl, N14, (Keep.refl h0 [self]), E_self, F_chars, F_index, Or.inr (Or.inr ⟨c36_8, c50_11, Or.inl ⟨own_k1e hk hk2 c77_15, c84_17, rfl, rfl⟩⟩)⟩
        · refine A (XS.ifYes X16.here hx rfl (pc0 := 84) (pc' := 89) rfl (hb hby d18_84) rfl ((if0 _ _).trans (feq c84_17).2) (by decide) (by decide)) ?_
          show D (T16.setTop (mkF m 89 #[.val (.ref self), .val (.int (own_at kk c0 c1)), .unset, .unset] []))
          refine A (XS.aloadN X16.here hx rfl (hb hby d18_89) rfl rfl) ?_
          show D (T16.setTop (mkF m 90 #[.val (.ref self), .val (.int (own_at kk c0 c1)), .unset, .unset] [(.ref self)]))
          obtain ⟨T18, X18, e18, st18⟩ := getF X16 hx hZ hown (host := "") (Or.inl (hw _ (List.mem_of_getElem? (i := 68) rfl))) Via.refl e16 F_index (g := (mkF m 90 #[.val (.ref self), .val (.int (own_at kk c0 c1)), .unset, .unset] [(.ref self)])) rfl rfl (hb hby d18_90)
          refine A (st18 _) ?_
          show D (T18.setTop (mkF m 93 #[.val (.ref self), .val (.int (own_at kk c0 c1)), .unset, .unset] [(.int dx)]))
          refine A (XS.iconst X18.here hx rfl (hb hby d18_93)) ?_
          show D (T18.setTop (mkF m 94 #[.val (.ref self), .val (.int (own_at kk c0 c1)), .unset, .unset] [(.int (1 : Int32)), (.int dx)]))
          refine A (XS.iadd X18.here hx rfl (hb hby d18_94) rfl) ?_
          show D (T18.setTop (mkF m 95 #[.val (.ref self), .val (.int (own_at kk c0 c1)), .unset, .unset] [(.int (dx + (1 : Int32)))]))
          refine A (XS.aloadN X18.here hx rfl (hb hby d18_95) rfl rfl) ?_
          show D (T18.setTop (mkF m 96 #[.val (.ref self), .val (.int (own_at kk c0 c1)), .unset, .unset] [(.ref self), (.int (dx + (1 : Int32)))]))
          obtain ⟨T19, X19, e19, st19⟩ := getF X18 hx hZ hown (host := "") (Or.inl (hw _ (List.mem_of_getElem? (i := 61) rfl))) Via.refl e18 F_chars (g := (mkF m 96 #[.val (.ref self), .val (.int (own_at kk c0 c1)), .unset, .unset] [(.ref self), (.int (dx + (1 : Int32)))])) rfl rfl (hb hby d18_96)
          refine A (st19 _) ?_
          show D (T19.setTop (mkF m 99 #[.val (.ref self), .val (.int (own_at kk c0 c1)), .unset, .unset] [(.ref ca), (.int (dx + (1 : Int32)))]))
          refine Adv.callF A X19 hx hZ hown (xi := (⟨"java/lang/CharSequence", "length", "()I"⟩ : MethodName)) (y := (⟨"java/lang/String", "length", "()I"⟩ : MethodName)) (hw _ (List.mem_of_getElem? (i := 121) rfl)) (hw _ (List.mem_of_getElem? (i := 122) rfl)) (mvT hZ (hw _ (List.mem_of_getElem? (i := 123) rfl))) (hw _ (List.mem_of_getElem? (i := 124) rfl)) (hw _ (List.mem_of_getElem? (i := 125) rfl)) (hw _ (List.mem_of_getElem? (i := 126) rfl)) (hw _ (List.mem_of_getElem? (i := 127) rfl)) (hw _ (List.mem_of_getElem? (i := 128) rfl)) (hw _ (List.mem_of_getElem? (i := 4) rfl)) (hw _ (List.mem_of_getElem? (i := 129) rfl)) e19 E_ca (rm19 l Z a0 hw [] ca h0 n0 cd nb f cs hcs sf hsf S_sf S_cs S_ad S_hi S_lo E_ca FS_coder bb FS_value V_bb c0 c1 hSt) 1 (g := (mkF m 99 #[.val (.ref self), .val (.int (own_at kk c0 c1)), .unset, .unset] [(.ref ca), (.int (dx + (1 : Int32)))])) rfl (by rw [hml]; rfl) [] [(.int (dx + (1 : Int32)))] rfl (lenOf pd18_0 rfl) rfl (by show 2 * 0 + _ ≤ _; exact Nat.le_of_eq rfl) (hb hby d18_99) (by decide) (by decide) (by decide) (by decide) (by decide) ?_
          rintro T20 L20 _ X20 ⟨rfl, N20_q, e20⟩
          have N20 := Fr.app N14 N20_q
          show D (T20.setTop (mkF m 104 #[.val (.ref self), .val (.int (own_at kk c0 c1)), .unset, .unset] [(.int (2 : Int32)), (.int (dx + (1 : Int32)))]))
          refine A (XS.icmpYes X20.here hx rfl (pc0 := 104) (pc' := 128) rfl (hb hby d18_104) rfl (teq c77_15).1 (by decide) (by decide)) ?_
          show D (T20.setTop (mkF m 128 #[.val (.ref self), .val (.int (own_at kk c0 c1)), .unset, .unset] []))
          refine A (XS.aloadN X20.here hx rfl (hb hby d18_128) rfl rfl) ?_
          show D (T20.setTop (mkF m 129 #[.val (.ref self), .val (.int (own_at kk c0 c1)), .unset, .unset] [(.ref self)]))
          obtain ⟨T21, X21, e21, st21⟩ := getS X20 hx hZ hown (host := "") (hw _ (List.mem_of_getElem? (i := 227) rfl)) Via.refl e20 S_fh (g := (mkF m 129 #[.val (.ref self), .val (.int (own_at kk c0 c1)), .unset, .unset] [(.ref self)])) rfl (hb hby d18_129)
          refine A (st21 _) ?_
          show D (T21.setTop (mkF m 132 #[.val (.ref self), .val (.int (own_at kk c0 c1)), .unset, .unset] [(.ref fhi), (.ref self)]))
          refine A (XS.iconst X21.here hx rfl (hb hby d18_132)) ?_
          show D (T21.setTop (mkF m 133 #[.val (.ref self), .val (.int (own_at kk c0 c1)), .unset, .unset] [(.int (1 : Int32)), (.ref fhi), (.ref self)]))
          refine Adv.callU A X21 hx hZ hown (hw _ (List.mem_of_getElem? (i := 215) rfl)) (hw _ (List.mem_of_getElem? (i := 216) rfl)) (hw _ (List.mem_of_getElem? (i := 217) rfl)) (hw _ (List.mem_of_getElem? (i := 219) rfl)) (hw _ (List.mem_of_getElem? (i := 218) rfl)) (hw _ (List.mem_of_getElem? (i := 43) rfl)) (hw _ (List.mem_of_getElem? (i := 220) rfl)) e21 E_self (rm39 l Z a0 hw [] self fhi (1 : Int32) h0 n0 lb dx sv ca Z0 g_self E_self F_last F_chars F_index F_start F_fault F_subpart ) 0 (g := (mkF m 133 #[.val (.ref self), .val (.int (own_at kk c0 c1)), .unset, .unset] [(.int (1 : Int32)), (.ref fhi), (.ref self)])) rfl (by rw [hml]; rfl) [(.ref fhi), (.int (1 : Int32))] [] rfl (lenOf pd18_4 rfl) rfl (by show 2 * 0 + _ ≤ _; exact Nat.le_of_eq rfl) (hb hby d18_133) (by decide) (by decide) (by decide) (by decide) (by decide) ?_
          rintro T22 L22 _ X22 ⟨rfl, N22_q, K22, -, F22_last, F22_chars, F22_index, F22_start, F22_fault, F22_subpart⟩
          have N22 := Fr.app N20 N22_q
          have E_self_22 := E_self.keep K22
          have E_ca_22 := E_ca.keep K22
          have F_coder_ca_22 := FS_coder.keep K22 (ninS ne_ca nin0)
          have F_value_ca_22 := FS_value.keep K22 (ninS ne_ca nin0)
          have V_bb_22 := V_bb.keep K22 (ninS (Ne.symm (ne_ari E_self (hw _ (List.mem_of_getElem? (i := 32) rfl)) V_bb)) nin0)
          have S_sf_22 := own_stk S_sf K22 (own_nsc (own_nsE E_self) own_nsn)
          have S_cs_22 := own_stk S_cs K22 (own_nsc (own_nsE E_self) own_nsn)
          have S_ad_22 := own_stk S_ad K22 (own_nsc (own_nsE E_self) own_nsn)
          have S_hi_22 := own_stk S_hi K22 (own_nsc (own_nsE E_self) own_nsn)
          have S_lo_22 := own_stk S_lo K22 (own_nsc (own_nsE E_self) own_nsn)
          have S_fl_22 := own_stk S_fl K22 (own_nsc (own_nsE E_self) own_nsn)
          have S_fh_22 := own_stk S_fh K22 (own_nsc (own_nsE E_self) own_nsn)
          have Z_22 : n0 ≤ T22.heap.size := Nat.le_trans Z0 K22.1
          have KK_22 : Keep h0 T22.heap [self] := (Keep.refl h0 [self]).trans K22 (allS (Or.inl (List.mem_of_getElem? (i := 0) rfl)) all0)
          show D (T22.setTop (mkF m 136 #[.val (.ref self), .val (.int (own_at kk c0 c1)), .unset, .unset] [(.int (-2 : Int32))]))
          refine F _ (Jvm.JW.ret X22 hlk (v := some (.int (-2 : Int32))) (fun h => by rw [hrt] at h; cases h) (fun fs hr => retOut X22 hx hrt rfl (Or.inl ⟨rfl, Or.inl rfl, _, rfl⟩) (hb hby d18_136) hr) rfl ?_ (by decide) (by decide))
          exact ⟨_, _, rfl, N22, KK_22, E_self_22, F22_chars, F22_index, Or.inr (Or.inr ⟨c36_8, c50_11, Or.inr (Or.inl ⟨own_k1e hk hk2 c77_15, c84_17, rfl, rfl⟩)⟩)⟩
      · refine A (XS.icmpYes X14.here hx rfl (pc0 := 77) (pc' := 89) rfl (hb hby d18_77) rfl (feq c77_15).2 (by decide) (by decide)) ?_
        show D (T14.setTop (mkF m 89 #[.val (.ref self), .val (.int (own_at kk c0 c1)), .unset, .unset] []))
        refine A (XS.aloadN X14.here hx rfl (hb hby d18_89) rfl rfl) ?_
        show D (T14.setTop (mkF m 90 #[.val (.ref self), .val (.int (own_at kk c0 c1)), .unset, .unset] [(.ref self)]))
        obtain ⟨T23, X23, e23, st23⟩ := getF X14 hx hZ hown (host := "") (Or.inl (hw _ (List.mem_of_getElem? (i := 68) rfl))) Via.refl e14 F_index (g := (mkF m 90 #[.val (.ref self), .val (.int (own_at kk c0 c1)), .unset, .unset] [(.ref self)])) rfl rfl (hb hby d18_90)
        refine A (st23 _) ?_
        show D (T23.setTop (mkF m 93 #[.val (.ref self), .val (.int (own_at kk c0 c1)), .unset, .unset] [(.int dx)]))
        refine A (XS.iconst X23.here hx rfl (hb hby d18_93)) ?_
        show D (T23.setTop (mkF m 94 #[.val (.ref self), .val (.int (own_at kk c0 c1)), .unset, .unset] [(.int (1 : Int32)), (.int dx)]))
        refine A (XS.iadd X23.here hx rfl (hb hby d18_94) rfl) ?_
        show D (T23.setTop (mkF m 95 #[.val (.ref self), .val (.int (own_at kk c0 c1)), .unset, .unset] [(.int (dx + (1 : Int32)))]))
        refine A (XS.aloadN X23.here hx rfl (hb hby d18_95) rfl rfl) ?_
        show D (T23.setTop (mkF m 96 #[.val (.ref self), .val (.int (own_at kk c0 c1)), .unset, .unset] [(.ref self), (.int (dx + (1 : Int32)))]))
        obtain ⟨T24, X24, e24, st24⟩ := getF X23 hx hZ hown (host := "") (Or.inl (hw _ (List.mem_of_getElem? (i := 61) rfl))) Via.refl e23 F_chars (g := (mkF m 96 #[.val (.ref self), .val (.int (own_at kk c0 c1)), .unset, .unset] [(.ref self), (.int (dx + (1 : Int32)))])) rfl rfl (hb hby d18_96)
        refine A (st24 _) ?_
        show D (T24.setTop (mkF m 99 #[.val (.ref self), .val (.int (own_at kk c0 c1)), .unset, .unset] [(.ref ca), (.int (dx + (1 : Int32)))]))
        refine Adv.callF A X24 hx hZ hown (xi := (⟨"java/lang/CharSequence", "length", "()I"⟩ : MethodName)) (y := (⟨"java/lang/String", "length", "()I"⟩ : MethodName)) (hw _ (List.mem_of_getElem? (i := 121) rfl)) (hw _ (List.mem_of_getElem? (i := 122) rfl)) (mvT hZ (hw _ (List.mem_of_getElem? (i := 123) rfl))) (hw _ (List.mem_of_getElem? (i := 124) rfl)) (hw _ (List.mem_of_getElem? (i := 125) rfl)) (hw _ (List.mem_of_getElem? (i := 126) rfl)) (hw _ (List.mem_of_getElem? (i := 127) rfl)) (hw _ (List.mem_of_getElem? (i := 128) rfl)) (hw _ (List.mem_of_getElem? (i := 4) rfl)) (hw _ (List.mem_of_getElem? (i := 129) rfl)) e24 E_ca (rm19 l Z a0 hw [] ca h0 n0 cd nb f cs hcs sf hsf S_sf S_cs S_ad S_hi S_lo E_ca FS_coder bb FS_value V_bb c0 c1 hSt) 1 (g := (mkF m 99 #[.val (.ref self), .val (.int (own_at kk c0 c1)), .unset, .unset] [(.ref ca), (.int (dx + (1 : Int32)))])) rfl (by rw [hml]; rfl) [] [(.int (dx + (1 : Int32)))] rfl (lenOf pd18_0 rfl) rfl (by show 2 * 0 + _ ≤ _; exact Nat.le_of_eq rfl) (hb hby d18_99) (by decide) (by decide) (by decide) (by decide) (by decide) ?_
        rintro T25 L25 _ X25 ⟨rfl, N25_q, e25⟩
        have N25 := Fr.app N14 N25_q
        show D (T25.setTop (mkF m 104 #[.val (.ref self), .val (.int (own_at kk c0 c1)), .unset, .unset] [(.int (2 : Int32)), (.int (dx + (1 : Int32)))]))
        refine A (XS.icmpNo X25.here hx rfl (hb hby d18_104) rfl (feq c77_15).1) ?_
        show D (T25.setTop (mkF m 107 #[.val (.ref self), .val (.int (own_at kk c0 c1)), .unset, .unset] []))
        refine A (XS.aloadN X25.here hx rfl (hb hby d18_107) rfl rfl) ?_
        show D (T25.setTop (mkF m 108 #[.val (.ref self), .val (.int (own_at kk c0 c1)), .unset, .unset] [(.ref self)]))
        obtain ⟨T26, X26, e26, st26⟩ := getF X25 hx hZ hown (host := "") (Or.inl (hw _ (List.mem_of_getElem? (i := 61) rfl))) Via.refl e25 F_chars (g := (mkF m 108 #[.val (.ref self), .val (.int (own_at kk c0 c1)), .unset, .unset] [(.ref self)])) rfl rfl (hb hby d18_108)
        refine A (st26 _) ?_
        show D (T26.setTop (mkF m 111 #[.val (.ref self), .val (.int (own_at kk c0 c1)), .unset, .unset] [(.ref ca)]))
        refine A (XS.aloadN X26.here hx rfl (hb hby d18_111) rfl rfl) ?_
        show D (T26.setTop (mkF m 112 #[.val (.ref self), .val (.int (own_at kk c0 c1)), .unset, .unset] [(.ref self), (.ref ca)]))
        obtain ⟨T27, X27, e27, st27⟩ := getF X26 hx hZ hown (host := "") (Or.inl (hw _ (List.mem_of_getElem? (i := 68) rfl))) Via.refl e26 F_index (g := (mkF m 112 #[.val (.ref self), .val (.int (own_at kk c0 c1)), .unset, .unset] [(.ref self), (.ref ca)])) rfl rfl (hb hby d18_112)
        refine A (st27 _) ?_
        show D (T27.setTop (mkF m 115 #[.val (.ref self), .val (.int (own_at kk c0 c1)), .unset, .unset] [(.int dx), (.ref ca)]))
        refine A (XS.iconst X27.here hx rfl (hb hby d18_115)) ?_
        show D (T27.setTop (mkF m 116 #[.val (.ref self), .val (.int (own_at kk c0 c1)), .unset, .unset] [(.int (1 : Int32)), (.int dx), (.ref ca)]))
        refine A (XS.iadd X27.here hx rfl (hb hby d18_116) rfl) ?_
        show D (T27.setTop (mkF m 117 #[.val (.ref self), .val (.int (own_at kk c0 c1)), .unset, .unset] [(.int (dx + (1 : Int32))), (.ref ca)]))
        obtain ⟨hk', hk2'⟩ := own_k1 hk hk2 c77_15
        refine Adv.callF A X27 hx hZ hown (xi := (⟨"java/lang/CharSequence", "charAt", "(I)C"⟩ : MethodName)) (y := (⟨"java/lang/String", "charAt", "(I)C"⟩ : MethodName)) (hw _ (List.mem_of_getElem? (i := 135) rfl)) (hw _ (List.mem_of_getElem? (i := 136) rfl)) (mvT hZ (hw _ (List.mem_of_getElem? (i := 137) rfl))) (hw _ (List.mem_of_getElem? (i := 138) rfl)) (hw _ (List.mem_of_getElem? (i := 139) rfl)) (hw _ (List.mem_of_getElem? (i := 140) rfl)) (hw _ (List.mem_of_getElem? (i := 141) rfl)) (hw _ (List.mem_of_getElem? (i := 128) rfl)) (hw _ (List.mem_of_getElem? (i := 4) rfl)) (hw _ (List.mem_of_getElem? (i := 142) rfl)) e27 E_ca (rm21 l Z a0 hw [] ca (dx + (1 : Int32)) h0 n0 (kk + 1) hk' hk2' cd nb f cs hcs sf hsf S_sf S_cs S_ad S_hi S_lo E_ca FS_coder bb FS_value V_bb c0 c1 hSt) 0 (g := (mkF m 117 #[.val (.ref self), .val (.int (own_at kk c0 c1)), .unset, .unset] [(.int (dx + (1 : Int32))), (.ref ca)])) rfl (by rw [hml]; rfl) [(.int (dx + (1 : Int32)))] [] rfl (lenOf pd18_1 rfl) rfl (by show 2 * 0 + _ ≤ _; exact Nat.le_of_eq rfl) (hb hby d18_117) (by decide) (by decide) (by decide) (by decide) (by decide) ?_
        rintro T28 L28 _ X28 ⟨rfl, N28_q, e28⟩
        have N28 := Fr.app N25 N28_q
        show D (T28.setTop (mkF m 122 #[.val (.ref self), .val (.int (own_at kk c0 c1)), .unset, .unset] [(.int (own_at (kk + 1) c0 c1))]))
        refine Adv.callS A X28 hx hZ hown (hw _ (List.mem_of_getElem? (i := 210) rfl)) (hw _ (List.mem_of_getElem? (i := 211) rfl)) (hw _ (List.mem_of_getElem? (i := 162) rfl)) (hw _ (List.mem_of_getElem? (i := 212) rfl)) e28 (rm38 l Z a0 hw [] (own_at (kk + 1) c0 c1) h0 n0) 0 (g := (mkF m 122 #[.val (.ref self), .val (.int (own_at kk c0 c1)), .unset, .unset] [(.int (own_at (kk + 1) c0 c1))])) rfl (by rw [hml]; rfl) [(.int (own_at (kk + 1) c0 c1))] [] rfl (lenOf pd18_2 rfl) rfl (by show 2 * 0 + _ ≤ _; exact Nat.le_of_eq rfl) (hb hby d18_122) (by decide) (by decide) (by decide) (by decide) (by decide) ?_
        rintro T29 L29 _ X29 ⟨rfl, N29_q, e29⟩
        have N29 := Fr.app N28 N29_q
        show D (T29.setTop (mkF m 125 #[.val (.ref self), .val (.int (own_at kk c0 c1)), .unset, .unset] [(.int (f38 (own_at (kk + 1) c0 c1)))]))
        by_cases c125_30 : (f38 (own_at (kk + 1) c0 c1)) = (0 : Int32)
        · refine A (XS.ifNo X29.here hx rfl (hb hby d18_125) rfl ((if0 _ _).trans (teq c125_30).2)) ?_
          show D (T29.setTop (mkF m 128 #[.val (.ref self), .val (.int (own_at kk c0 c1)), .unset, .unset] []))
          refine A (XS.aloadN X29.here hx rfl (hb hby d18_128) rfl rfl) ?_
          show D (T29.setTop (mkF m 129 #[.val (.ref self), .val (.int (own_at kk c0 c1)), .unset, .unset] [(.ref self)]))
          obtain ⟨T31, X31, e31, st31⟩ := getS X29 hx hZ hown (host := "") (hw _ (List.mem_of_getElem? (i := 227) rfl)) Via.refl e29 S_fh (g := (mkF m 129 #[.val (.ref self), .val (.int (own_at kk c0 c1)), .unset, .unset] [(.ref self)])) rfl (hb hby d18_129)
          refine A (st31 _) ?_
          show D (T31.setTop (mkF m 132 #[.val (.ref self), .val (.int (own_at kk c0 c1)), .unset, .unset] [(.ref fhi), (.ref self)]))
          refine A (XS.iconst X31.here hx rfl (hb hby d18_132)) ?_
          show D (T31.setTop (mkF m 133 #[.val (.ref self), .val (.int (own_at kk c0 c1)), .unset, .unset] [(.int (1 : Int32)), (.ref fhi), (.ref self)]))
          refine Adv.callU A X31 hx hZ hown (hw _ (List.mem_of_getElem? (i := 215) rfl)) (hw _ (List.mem_of_getElem? (i := 216) rfl)) (hw _ (List.mem_of_getElem? (i := 217) rfl)) (hw _ (List.mem_of_getElem? (i := 219) rfl)) (hw _ (List.mem_of_getElem? (i := 218) rfl)) (hw _ (List.mem_of_getElem? (i := 43) rfl)) (hw _ (List.mem_of_getElem? (i := 220) rfl)) e31 E_self (rm39 l Z a0 hw [] self fhi (1 : Int32) h0 n0 lb dx sv ca Z0 g_self E_self F_last F_chars F_index F_start F_fault F_subpart ) 0 (g := (mkF m 133 #[.val (.ref self), .val (.int (own_at kk c0 c1)), .unset, .unset] [(.int (1 : Int32)), (.ref fhi), (.ref self)])) rfl (by rw [hml]; rfl) [(.ref fhi), (.int (1 : Int32))] [] rfl (lenOf pd18_4 rfl) rfl (by show 2 * 0 + _ ≤ _; exact Nat.le_of_eq rfl) (hb hby d18_133) (by decide) (by decide) (by decide) (by decide) (by decide) ?_
          rintro T32 L32 _ X32 ⟨rfl, N32_q, K32, -, F32_last, F32_chars, F32_index, F32_start, F32_fault, F32_subpart⟩
          have N32 := Fr.app N29 N32_q
          have E_self_32 := E_self.keep K32
          have E_ca_32 := E_ca.keep K32
          have F_coder_ca_32 := FS_coder.keep K32 (ninS ne_ca nin0)
          have F_value_ca_32 := FS_value.keep K32 (ninS ne_ca nin0)
          have V_bb_32 := V_bb.keep K32 (ninS (Ne.symm (ne_ari E_self (hw _ (List.mem_of_getElem? (i := 32) rfl)) V_bb)) nin0)
          have S_sf_32 := own_stk S_sf K32 (own_nsc (own_nsE E_self) own_nsn)
          have S_cs_32 := own_stk S_cs K32 (own_nsc (own_nsE E_self) own_nsn)
          have S_ad_32 := own_stk S_ad K32 (own_nsc (own_nsE E_self) own_nsn)
          have S_hi_32 := own_stk S_hi K32 (own_nsc (own_nsE E_self) own_nsn)
          have S_lo_32 := own_stk S_lo K32 (own_nsc (own_nsE E_self) own_nsn)
          have S_fl_32 := own_stk S_fl K32 (own_nsc (own_nsE E_self) own_nsn)
          have S_fh_32 := own_stk S_fh K32 (own_nsc (own_nsE E_self) own_nsn)
          have Z_32 : n0 ≤ T32.heap.size := Nat.le_trans Z0 K32.1
          have KK_32 : Keep h0 T32.heap [self] := (Keep.refl h0 [self]).trans K32 (allS (Or.inl (List.mem_of_getElem? (i := 0) rfl)) all0)
          show D (T32.setTop (mkF m 136 #[.val (.ref self), .val (.int (own_at kk c0 c1)), .unset, .unset] [(.int (-2 : Int32))]))
          refine F _ (Jvm.JW.ret X32 hlk (v := some (.int (-2 : Int32))) (fun h => by rw [hrt] at h; cases h) (fun fs hr => retOut X32 hx hrt rfl (Or.inl ⟨rfl, Or.inl rfl, _, rfl⟩) (hb hby d18_136) hr) rfl ?_ (by decide) (by decide))
          exact ⟨_, _, rfl, N32, KK_32, E_self_32, F32_chars, F32_index, Or.inr (Or.inr ⟨c36_8, c50_11, Or.inr (Or.inr (Or.inl ⟨by omega, (own_lc hk2' c125_30), rfl, rfl⟩))⟩)⟩
        · refine A (XS.ifYes X29.here hx rfl (pc0 := 125) (pc' := 137) rfl (hb hby d18_125) rfl ((if0 _ _).trans (feq c125_30).2) (by decide) (by decide)) ?_
          show D (T29.setTop (mkF m 137 #[.val (.ref self), .val (.int (own_at kk c0 c1)), .unset, .unset] []))
          refine A (XS.iconst X29.here hx rfl (hb hby d18_137)) ?_
          show D (T29.setTop (mkF m 138 #[.val (.ref self), .val (.int (own_at kk c0 c1)), .unset, .unset] [(.int (2 : Int32))]))
          refine A (XS.istoreN X29.here hx rfl (hb hby d18_138) rfl (l' := #[.val (.ref self), .val (.int (own_at kk c0 c1)), .val (.int (2 : Int32)), .unset]) rfl) ?_
          show D (T29.setTop (mkF m 139 #[.val (.ref self), .val (.int (own_at kk c0 c1)), .val (.int (2 : Int32)), .unset] []))
          refine A (XS.iloadN X29.here hx rfl (hb hby d18_139) rfl) ?_
          show D (T29.setTop (mkF m 140 #[.val (.ref self), .val (.int (own_at kk c0 c1)), .val (.int (2 : Int32)), .unset] [(.int (own_at kk c0 c1))]))
          refine A (XS.aloadN X29.here hx rfl (hb hby d18_140) rfl rfl) ?_
          show D (T29.setTop (mkF m 141 #[.val (.ref self), .val (.int (own_at kk c0 c1)), .val (.int (2 : Int32)), .unset] [(.ref self), (.int (own_at kk c0 c1))]))
          obtain ⟨T33, X33, e33, st33⟩ := getF X29 hx hZ hown (host := "") (Or.inl (hw _ (List.mem_of_getElem? (i := 61) rfl))) Via.refl e29 F_chars (g := (mkF m 141 #[.val (.ref self), .val (.int (own_at kk c0 c1)), .val (.int (2 : Int32)), .unset] [(.ref self), (.int (own_at kk c0 c1))])) rfl rfl (hb hby d18_141)
          refine A (st33 _) ?_
          show D (T33.setTop (mkF m 144 #[.val (.ref self), .val (.int (own_at kk c0 c1)), .val (.int (2 : Int32)), .unset] [(.ref ca), (.int (own_at kk c0 c1))]))
          refine A (XS.aloadN X33.here hx rfl (hb hby d18_144) rfl rfl) ?_
          show D (T33.setTop (mkF m 145 #[.val (.ref self), .val (.int (own_at kk c0 c1)), .val (.int (2 : Int32)), .unset] [(.ref self), (.ref ca), (.int (own_at kk c0 c1))]))
          obtain ⟨T34, X34, e34, st34⟩ := getF X33 hx hZ hown (host := "") (Or.inl (hw _ (List.mem_of_getElem? (i := 68) rfl))) Via.refl e33 F_index (g := (mkF m 145 #[.val (.ref self), .val (.int (own_at kk c0 c1)), .val (.int (2 : Int32)), .unset] [(.ref self), (.ref ca), (.int (own_at kk c0 c1))])) rfl rfl (hb hby d18_145)
          refine A (st34 _) ?_
          show D (T34.setTop (mkF m 148 #[.val (.ref self), .val (.int (own_at kk c0 c1)), .val (.int (2 : Int32)), .unset] [(.int dx), (.ref ca), (.int (own_at kk c0 c1))]))
          refine A (XS.iconst X34.here hx rfl (hb hby d18_148)) ?_
          show D (T34.setTop (mkF m 149 #[.val (.ref self), .val (.int (own_at kk c0 c1)), .val (.int (2 : Int32)), .unset] [(.int (1 : Int32)), (.int dx), (.ref ca), (.int (own_at kk c0 c1))]))
          refine A (XS.iadd X34.here hx rfl (hb hby d18_149) rfl) ?_
          show D (T34.setTop (mkF m 150 #[.val (.ref self), .val (.int (own_at kk c0 c1)), .val (.int (2 : Int32)), .unset] [(.int (dx + (1 : Int32))), (.ref ca), (.int (own_at kk c0 c1))]))
          refine Adv.callF A X34 hx hZ hown (xi := (⟨"java/lang/CharSequence", "charAt", "(I)C"⟩ : MethodName)) (y := (⟨"java/lang/String", "charAt", "(I)C"⟩ : MethodName)) (hw _ (List.mem_of_getElem? (i := 135) rfl)) (hw _ (List.mem_of_getElem? (i := 136) rfl)) (mvT hZ (hw _ (List.mem_of_getElem? (i := 137) rfl))) (hw _ (List.mem_of_getElem? (i := 138) rfl)) (hw _ (List.mem_of_getElem? (i := 139) rfl)) (hw _ (List.mem_of_getElem? (i := 140) rfl)) (hw _ (List.mem_of_getElem? (i := 141) rfl)) (hw _ (List.mem_of_getElem? (i := 128) rfl)) (hw _ (List.mem_of_getElem? (i := 4) rfl)) (hw _ (List.mem_of_getElem? (i := 142) rfl)) e34 E_ca (rm21 l Z a0 hw [] ca (dx + (1 : Int32)) h0 n0 (kk + 1) hk' hk2' cd nb f cs hcs sf hsf S_sf S_cs S_ad S_hi S_lo E_ca FS_coder bb FS_value V_bb c0 c1 hSt) 1 (g := (mkF m 150 #[.val (.ref self), .val (.int (own_at kk c0 c1)), .val (.int (2 : Int32)), .unset] [(.int (dx + (1 : Int32))), (.ref ca), (.int (own_at kk c0 c1))])) rfl (by rw [hml]; rfl) [(.int (dx + (1 : Int32)))] [(.int (own_at kk c0 c1))] rfl (lenOf pd18_1 rfl) rfl (by show 2 * 0 + _ ≤ _; exact Nat.le_of_eq rfl) (hb hby d18_150) (by decide) (by decide) (by decide) (by decide) (by decide) ?_
          rintro T35 L35 _ X35 ⟨rfl, N35_q, e35⟩
          have N35 := Fr.app N29 N35_q
          show D (T35.setTop (mkF m 155 #[.val (.ref self), .val (.int (own_at kk c0 c1)), .val (.int (2 : Int32)), .unset] [(.int (own_at (kk + 1) c0 c1)), (.int (own_at kk c0 c1))]))
          refine Adv.callS A X35 hx hZ hown (hw _ (List.mem_of_getElem? (i := 229) rfl)) (hw _ (List.mem_of_getElem? (i := 230) rfl)) (hw _ (List.mem_of_getElem? (i := 162) rfl)) (hw _ (List.mem_of_getElem? (i := 231) rfl)) e35 (rm40 l Z a0 hw [] (own_at kk c0 c1) (own_at (kk + 1) c0 c1) h0 n0) 0 (g := (mkF m 155 #[.val (.ref self), .val (.int (own_at kk c0 c1)), .val (.int (2 : Int32)), .unset] [(.int (own_at (kk + 1) c0 c1)), (.int (own_at kk c0 c1))])) rfl (by rw [hml]; rfl) [(.int (own_at kk c0 c1)), (.int (own_at (kk + 1) c0 c1))] [] rfl (lenOf pd18_5 rfl) rfl (by show 2 * 0 + _ ≤ _; exact Nat.le_of_eq rfl) (hb hby d18_155) (by decide) (by decide) (by decide) (by decide) (by decide) ?_
          rintro T36 L36 _ X36 ⟨rfl, N36_q, e36⟩
          have N36 := Fr.app N35 N36_q
          show D (T36.setTop (mkF m 158 #[.val (.ref self), .val (.int (own_at kk c0 c1)), .val (.int (2 : Int32)), .unset] [(.int (f40 (own_at kk c0 c1) (own_at (kk + 1) c0 c1)))]))
          refine A (XS.istoreN X36.here hx rfl (hb hby d18_158) rfl (l' := #[.val (.ref self), .val (.int (own_at kk c0 c1)), .val (.int (2 : Int32)), .val (.int (f40 (own_at kk c0 c1) (own_at (kk + 1) c0 c1)))]) rfl) ?_
          show D (T36.setTop (mkF m 159 #[.val (.ref self), .val (.int (own_at kk c0 c1)), .val (.int (2 : Int32)), .val (.int (f40 (own_at kk c0 c1) (own_at (kk + 1) c0 c1)))] []))
          refine A (XS.aloadN X36.here hx rfl (hb hby d18_159) rfl rfl) ?_
          show D (T36.setTop (mkF m 160 #[.val (.ref self), .val (.int (own_at kk c0 c1)), .val (.int (2 : Int32)), .val (.int (f40 (own_at kk c0 c1) (own_at (kk + 1) c0 c1)))] [(.ref self)]))
          refine A (XS.iloadN X36.here hx rfl (hb hby d18_160) rfl) ?_
          show D (T36.setTop (mkF m 161 #[.val (.ref self), .val (.int (own_at kk c0 c1)), .val (.int (2 : Int32)), .val (.int (f40 (own_at kk c0 c1) (own_at (kk + 1) c0 c1)))] [(.int (2 : Int32)), (.ref self)]))
          refine Adv.callV A X36 hx hZ hown (hw _ (List.mem_of_getElem? (i := 165) rfl)) (hw _ (List.mem_of_getElem? (i := 64) rfl)) (notFace_of_selects (args := #[]) (mvT hZ (hw _ (List.mem_of_getElem? (i := 66) rfl)))) (hw _ (List.mem_of_getElem? (i := 66) rfl)) (hw _ (List.mem_of_getElem? (i := 65) rfl)) (hw _ (List.mem_of_getElem? (i := 33) rfl)) (hw _ (List.mem_of_getElem? (i := 67) rfl)) e36 E_self (rm10 l Z a0 hw [] self (2 : Int32) h0 n0 lb dx sv ca Z0 g_self E_self F_last F_chars F_index F_start F_fault F_subpart ) 0 (g := (mkF m 161 #[.val (.ref self), .val (.int (own_at kk c0 c1)), .val (.int (2 : Int32)), .val (.int (f40 (own_at kk c0 c1) (own_at (kk + 1) c0 c1)))] [(.int (2 : Int32)), (.ref self)])) rfl (by rw [hml]; rfl) [(.int (2 : Int32))] [] rfl (lenOf pd18_3 rfl) rfl (by show 2 * 0 + _ ≤ _; exact Nat.le_of_eq rfl) (hb hby d18_161) (by decide) (by decide) (by decide) (by decide) (by decide) ?_
          rintro T37 L37 _ X37 ⟨rfl, N37_q, K37, -, F37_last, F37_chars, F37_index, F37_start, F37_fault, F37_subpart⟩
          have N37 := Fr.app N36 N37_q
          have E_self_37 := E_self.keep K37
          have E_ca_37 := E_ca.keep K37
          have F_coder_ca_37 := FS_coder.keep K37 (ninS ne_ca nin0)
          have F_value_ca_37 := FS_value.keep K37 (ninS ne_ca nin0)
          have V_bb_37 := V_bb.keep K37 (ninS (Ne.symm (ne_ari E_self (hw _ (List.mem_of_getElem? (i := 32) rfl)) V_bb)) nin0)
          have S_sf_37 := own_stk S_sf K37 (own_nsc (own_nsE E_self) own_nsn)
          have S_cs_37 := own_stk S_cs K37 (own_nsc (own_nsE E_self) own_nsn)
          have S_ad_37 := own_stk S_ad K37 (own_nsc (own_nsE E_self) own_nsn)
          have S_hi_37 := own_stk S_hi K37 (own_nsc (own_nsE E_self) own_nsn)
          have S_lo_37 := own_stk S_lo K37 (own_nsc (own_nsE E_self) own_nsn)
          have S_fl_37 := own_stk S_fl K37 (own_nsc (own_nsE E_self) own_nsn)
          have S_fh_37 := own_stk S_fh K37 (own_nsc (own_nsE E_self) own_nsn)
          have Z_37 : n0 ≤ T37.heap.size := Nat.le_trans Z0 K37.1
          have KK_37 : Keep h0 T37.heap [self] := (Keep.refl h0 [self]).trans K37 (allS (Or.inl (List.mem_of_getElem? (i := 0) rfl)) all0)
          show D (T37.setTop (mkF m 164 #[.val (.ref self), .val (.int (own_at kk c0 c1)), .val (.int (2 : Int32)), .val (.int (f40 (own_at kk c0 c1) (own_at (kk + 1) c0 c1)))] []))
          refine A (XS.iloadN X37.here hx rfl (hb hby d18_164) rfl) ?_
          show D (T37.setTop (mkF m 165 #[.val (.ref self), .val (.int (own_at kk c0 c1)), .val (.int (2 : Int32)), .val (.int (f40 (own_at kk c0 c1) (own_at (kk + 1) c0 c1)))] [(.int (f40 (own_at kk c0 c1) (own_at (kk + 1) c0 c1)))]))
          refine F _ (Jvm.JW.ret X37 hlk (v := some (.int (f40 (own_at kk c0 c1) (own_at (kk + 1) c0 c1)))) (fun h => by rw [hrt] at h; cases h) (fun fs hr => retOut X37 hx hrt rfl (Or.inl ⟨rfl, Or.inl rfl, _, rfl⟩) (hb hby d18_165) hr) rfl ?_ (by decide) (by decide))
          exact ⟨_, _, rfl, N37, KK_37, E_self_37, F37_chars, F37_index, Or.inr (Or.inr ⟨c36_8, c50_11, Or.inr (Or.inr (Or.inr ⟨by omega, (own_lcn hk2' c125_30), own_tc hk2', rfl⟩))⟩)⟩
    · refine A (XS.ifNo X10.here hx rfl (hb hby d18_50) rfl ((if0 _ _).trans (feq c50_11).1)) ?_
      show D (T10.setTop (mkF m 53 #[.val (.ref self), .val (.int (own_at kk c0 c1)), .unset, .unset] []))
      refine A (XS.aloadN X10.here hx rfl (hb hby d18_53) rfl rfl) ?_
      show D (T10.setTop (mkF m 54 #[.val (.ref self), .val (.int (own_at kk c0 c1)), .unset, .unset] [(.ref self)]))
      obtain ⟨T38, X38, e38, st38⟩ := getS X10 hx hZ hown (host := "") (hw _ (List.mem_of_getElem? (i := 214) rfl)) Via.refl e10 S_fl (g := (mkF m 54 #[.val (.ref self), .val (.int (own_at kk c0 c1)), .unset, .unset] [(.ref self)])) rfl (hb hby d18_54)
      refine A (st38 _) ?_
      show D (T38.setTop (mkF m 57 #[.val (.ref self), .val (.int (own_at kk c0 c1)), .unset, .unset] [(.ref flo), (.ref self)]))
      refine A (XS.iconst X38.here hx rfl (hb hby d18_57)) ?_
      show D (T38.setTop (mkF m 58 #[.val (.ref self), .val (.int (own_at kk c0 c1)), .unset, .unset] [(.int (1 : Int32)), (.ref flo), (.ref self)]))
      refine Adv.callU A X38 hx hZ hown (hw _ (List.mem_of_getElem? (i := 215) rfl)) (hw _ (List.mem_of_getElem? (i := 216) rfl)) (hw _ (List.mem_of_getElem? (i := 217) rfl)) (hw _ (List.mem_of_getElem? (i := 219) rfl)) (hw _ (List.mem_of_getElem? (i := 218) rfl)) (hw _ (List.mem_of_getElem? (i := 43) rfl)) (hw _ (List.mem_of_getElem? (i := 220) rfl)) e38 E_self (rm39 l Z a0 hw [] self flo (1 : Int32) h0 n0 lb dx sv ca Z0 g_self E_self F_last F_chars F_index F_start F_fault F_subpart ) 0 (g := (mkF m 58 #[.val (.ref self), .val (.int (own_at kk c0 c1)), .unset, .unset] [(.int (1 : Int32)), (.ref flo), (.ref self)])) rfl (by rw [hml]; rfl) [(.ref flo), (.int (1 : Int32))] [] rfl (lenOf pd18_4 rfl) rfl (by show 2 * 0 + _ ≤ _; exact Nat.le_of_eq rfl) (hb hby d18_58) (by decide) (by decide) (by decide) (by decide) (by decide) ?_
      rintro T39 L39 _ X39 ⟨rfl, N39_q, K39, -, F39_last, F39_chars, F39_index, F39_start, F39_fault, F39_subpart⟩
      have N39 := Fr.app N10 N39_q
      have E_self_39 := E_self.keep K39
      have E_ca_39 := E_ca.keep K39
      have F_coder_ca_39 := FS_coder.keep K39 (ninS ne_ca nin0)
      have F_value_ca_39 := FS_value.keep K39 (ninS ne_ca nin0)
      have V_bb_39 := V_bb.keep K39 (ninS (Ne.symm (ne_ari E_self (hw _ (List.mem_of_getElem? (i := 32) rfl)) V_bb)) nin0)
      have S_sf_39 := own_stk S_sf K39 (own_nsc (own_nsE E_self) own_nsn)
      have S_cs_39 := own_stk S_cs K39 (own_nsc (own_nsE E_self) own_nsn)
      have S_ad_39 := own_stk S_ad K39 (own_nsc (own_nsE E_self) own_nsn)
      have S_hi_39 := own_stk S_hi K39 (own_nsc (own_nsE E_self) own_nsn)
      have S_lo_39 := own_stk S_lo K39 (own_nsc (own_nsE E_self) own_nsn)
      have S_fl_39 := own_stk S_fl K39 (own_nsc (own_nsE E_self) own_nsn)
      have S_fh_39 := own_stk S_fh K39 (own_nsc (own_nsE E_self) own_nsn)
      have Z_39 : n0 ≤ T39.heap.size := Nat.le_trans Z0 K39.1
      have KK_39 : Keep h0 T39.heap [self] := (Keep.refl h0 [self]).trans K39 (allS (Or.inl (List.mem_of_getElem? (i := 0) rfl)) all0)
      show D (T39.setTop (mkF m 61 #[.val (.ref self), .val (.int (own_at kk c0 c1)), .unset, .unset] [(.int (-2 : Int32))]))
      refine F _ (Jvm.JW.ret X39 hlk (v := some (.int (-2 : Int32))) (fun h => by rw [hrt] at h; cases h) (fun fs hr => retOut X39 hx hrt rfl (Or.inl ⟨rfl, Or.inl rfl, _, rfl⟩) (hb hby d18_61) hr) rfl ?_ (by decide) (by decide))
      exact ⟨_, _, rfl, N39, KK_39, E_self_39, F39_chars, F39_index, Or.inr (Or.inl ⟨c36_8, c50_11, rfl, rfl⟩)⟩
theorem d14_0 : decode prog_34_method_1_code 0 = .ok (.aload_n 0, 1) := by decide +kernel
theorem d14_1 : decode prog_34_method_1_code 1 = .ok (.invokespecial 1, 3) := by decide +kernel
theorem d14_4 : decode prog_34_method_1_code 4 = .ok (.aload_n 0, 1) := by decide +kernel
theorem d14_5 : decode prog_34_method_1_code 5 = .ok (.lload_n 1, 1) := by decide +kernel
theorem d14_6 : decode prog_34_method_1_code 6 = .ok (.putfield 7, 3) := by decide +kernel
theorem d14_9 : decode prog_34_method_1_code 9 = .ok (.aload_n 0, 1) := by decide +kernel
theorem d14_10 : decode prog_34_method_1_code 10 = .ok (.aload_n 3, 1) := by decide +kernel
theorem d14_11 : decode prog_34_method_1_code 11 = .ok (.putfield 13, 3) := by decide +kernel
theorem d14_14 : decode prog_34_method_1_code 14 = .ok (.aload_n 0, 1) := by decide +kernel
theorem d14_15 : decode prog_34_method_1_code 15 = .ok (.aload 4, 2) := by decide +kernel
theorem d14_17 : decode prog_34_method_1_code 17 = .ok (.putfield 17, 3) := by decide +kernel
theorem d14_20 : decode prog_34_method_1_code 20 = .ok (.return_, 1) := by decide +kernel
theorem pn14 : plainFor (⟨"com/example/carmenta/carmenta/Validation", "<init>", "(JLcom/example/carmenta/carmenta/Fault;Ljava/lang/String;)V"⟩ : MethodName) = true := by decide +kernel
theorem ef14 (self : Addr) (p1 : Int64) (p2 : Addr) (p3 : Addr) (m : MethodId) : entryFrame m #[(.ref self), (.long p1), (.ref p2), (.ref p3)] 5 = mkF m 0 #[.val (.ref self), .val (.long p1), .second, .val (.ref p2), .val (.ref p3)] [] := by first | (simp [entryFrame, mkF, argsToLocals, Value.category]; done) | rfl
set_option maxRecDepth 65536 in
set_option maxHeartbeats 40000000 in
theorem rm14 (l : Launch) (Z : State) (a0 : Array Value) (hw : ∀ d ∈ tables_1, d.before a0 Z = true) (ws : List Jvm.Cond) (self : Addr) (p1 : Int64) (p2 : Addr) (p3 : Addr) (h0 : Heap) (n0 : Nat) (Z0 : n0 ≤ h0.size) (g_self : n0 ≤ self) (E_self : Exa Z h0 self "com/example/carmenta/carmenta/Validation") (F_offset : Fld Z h0 self "com/example/carmenta/carmenta/Validation" "offset" "J" (.long (0 : Int64))) (F_fault : Fld Z h0 self "com/example/carmenta/carmenta/Validation" "fault" "Lcom/example/carmenta/carmenta/Fault;" .null) (F_unit : Fld Z h0 self "com/example/carmenta/carmenta/Validation" "unit" "Ljava/lang/String;" .null) :
    JMet l Z (⟨"com/example/carmenta/carmenta/Validation", "<init>", "(JLcom/example/carmenta/carmenta/Fault;Ljava/lang/String;)V"⟩ : MethodName) prog_34_method_1_code 5 none ws ({ frames := 1, cells := 0, slots := 0, locals := 12 } : Room) #[(.ref self), (.long p1), (.ref p2), (.ref p3)] h0 (fun v h L => v = none ∧ Fr n0 L ∧ Keep h0 h [self] ∧ Exa Z h self "com/example/carmenta/carmenta/Validation" ∧ Fld Z h self "com/example/carmenta/carmenta/Validation" "offset" "J" (.long p1) ∧ Fld Z h self "com/example/carmenta/carmenta/Validation" "fault" "Lcom/example/carmenta/carmenta/Fault;" (.ref p2)) := by
  refine Jvm.JW.body #[.val (.ref self), .val (.long p1), .second, .val (.ref p2), .val (.ref p3)] pn14 (ef14 self p1 p2 p3) ?_
  intro p e s m below meth c T0 D A F X0 hx hZ hby hml hown hnm hrt hlk e0
  refine A (XS.aloadN X0.here hx rfl (hb hby d14_0) rfl rfl) ?_
  show D (T0.setTop (mkF m 1 #[.val (.ref self), .val (.long p1), .second, .val (.ref p2), .val (.ref p3)] [(.ref self)]))
  obtain ⟨T1, X1, e1, st1⟩ := initO X0 hx hZ hown (hw _ (List.mem_of_getElem? (i := 95) rfl)) (hw _ (List.mem_of_getElem? (i := 13) rfl)) (hw _ (List.mem_of_getElem? (i := 14) rfl)) e0 (g := (mkF m 1 #[.val (.ref self), .val (.long p1), .second, .val (.ref p2), .val (.ref p3)] [(.ref self)])) rfl (by rw [hml]; rfl) rfl (hb hby d14_1) (by decide) (W := 0) (by show 2 * 0 + _ ≤ _; exact Nat.le_of_eq rfl) (by decide)
  refine A (st1 _) ?_
  show D (T1.setTop (mkF m 4 #[.val (.ref self), .val (.long p1), .second, .val (.ref p2), .val (.ref p3)] []))
  refine A (XS.aloadN X1.here hx rfl (hb hby d14_4) rfl rfl) ?_
  show D (T1.setTop (mkF m 5 #[.val (.ref self), .val (.long p1), .second, .val (.ref p2), .val (.ref p3)] [(.ref self)]))
  refine A (XS.lloadN X1.here hx rfl (hb hby d14_5) rfl) ?_
  show D (T1.setTop (mkF m 6 #[.val (.ref self), .val (.long p1), .second, .val (.ref p2), .val (.ref p3)] [(.long p1), (.ref self)]))
  obtain ⟨T2, h2, X2, e2, W2, st2⟩ := putF X1 hx hZ hown (host := "") (Or.inl (hw _ (List.mem_of_getElem? (i := 96) rfl))) Via.refl e1 F_offset E_self (Or.inr ⟨(hw _ (List.mem_of_getElem? (i := 97) rfl)), rfl, hnm⟩) (hw _ (List.mem_of_getElem? (i := 90) rfl)) (ty := .long) (by decide) rfl rfl (g := (mkF m 6 #[.val (.ref self), .val (.long p1), .second, .val (.ref p2), .val (.ref p3)] [(.long p1), (.ref self)])) rfl rfl (hb hby d14_6)
  have N2 := Fr.snoc X2 (Fr.nil n0) g_self
  have FV_offset_self_2 := F_offset.same W2
  have E_self_2 := E_self.wr W2
  have FV_fault_self_2 := F_fault.other W2 (Or.inr (slot_ne (Or.inr (hw _ (List.mem_of_getElem? (i := 99) rfl))) (Or.inr (hw _ (List.mem_of_getElem? (i := 97) rfl))) (by decide) (t := (.object "com/example/carmenta/carmenta/Fault")) (t' := .long) (by decide) (by decide)))
  have FV_unit_self_2 := F_unit.other W2 (Or.inr (slot_ne (Or.inr (hw _ (List.mem_of_getElem? (i := 101) rfl))) (Or.inr (hw _ (List.mem_of_getElem? (i := 97) rfl))) (by decide) (t := (.object "java/lang/String")) (t' := .long) (by decide) (by decide)))
  have Z_2 : n0 ≤ h2.size := Nat.le_trans Z0 (Nat.le_of_eq W2.size.symm)
  have KK_2 : Keep h0 h2 [self] := (Keep.refl h0 [self]).wr W2 (Or.inl (List.mem_of_getElem? (i := 0) rfl))
  refine A (st2 _) ?_
  show D (T2.setTop (mkF m 9 #[.val (.ref self), .val (.long p1), .second, .val (.ref p2), .val (.ref p3)] []))
  refine A (XS.aloadN X2.here hx rfl (hb hby d14_9) rfl rfl) ?_
  show D (T2.setTop (mkF m 10 #[.val (.ref self), .val (.long p1), .second, .val (.ref p2), .val (.ref p3)] [(.ref self)]))
  refine A (XS.aloadN X2.here hx rfl (hb hby d14_10) rfl rfl) ?_
  show D (T2.setTop (mkF m 11 #[.val (.ref self), .val (.long p1), .second, .val (.ref p2), .val (.ref p3)] [(.ref p2), (.ref self)]))
  obtain ⟨T3, h3, X3, e3, W3, st3⟩ := putF X2 hx hZ hown (host := "") (Or.inl (hw _ (List.mem_of_getElem? (i := 98) rfl))) Via.refl e2 FV_fault_self_2 E_self_2 (Or.inr ⟨(hw _ (List.mem_of_getElem? (i := 99) rfl)), rfl, hnm⟩) (hw _ (List.mem_of_getElem? (i := 90) rfl)) (ty := (.object "com/example/carmenta/carmenta/Fault")) (by decide) rfl rfl (g := (mkF m 11 #[.val (.ref self), .val (.long p1), .second, .val (.ref p2), .val (.ref p3)] [(.ref p2), (.ref self)])) rfl rfl (hb hby d14_11)
  have N3 := Fr.snoc X3 N2 g_self
  have FV_fault_self_3 := FV_fault_self_2.same W3
  have E_self_3 := E_self_2.wr W3
  have FV_offset_self_3 := FV_offset_self_2.other W3 (Or.inr (slot_ne (Or.inr (hw _ (List.mem_of_getElem? (i := 97) rfl))) (Or.inr (hw _ (List.mem_of_getElem? (i := 99) rfl))) (by decide) (t := .long) (t' := (.object "com/example/carmenta/carmenta/Fault")) (by decide) (by decide)))
  have FV_unit_self_3 := FV_unit_self_2.other W3 (Or.inr (slot_ne (Or.inr (hw _ (List.mem_of_getElem? (i := 101) rfl))) (Or.inr (hw _ (List.mem_of_getElem? (i := 99) rfl))) (by decide) (t := (.object "java/lang/String")) (t' := (.object "com/example/carmenta/carmenta/Fault")) (by decide) (by decide)))
  have Z_3 : n0 ≤ h3.size := Nat.le_trans Z_2 (Nat.le_of_eq W3.size.symm)
  have KK_3 : Keep h0 h3 [self] := KK_2.wr W3 (Or.inl (List.mem_of_getElem? (i := 0) rfl))
  refine A (st3 _) ?_
  show D (T3.setTop (mkF m 14 #[.val (.ref self), .val (.long p1), .second, .val (.ref p2), .val (.ref p3)] []))
  refine A (XS.aloadN X3.here hx rfl (hb hby d14_14) rfl rfl) ?_
  show D (T3.setTop (mkF m 15 #[.val (.ref self), .val (.long p1), .second, .val (.ref p2), .val (.ref p3)] [(.ref self)]))
  refine A (XS.aload X3.here hx rfl (hb hby d14_15) rfl rfl) ?_
  show D (T3.setTop (mkF m 17 #[.val (.ref self), .val (.long p1), .second, .val (.ref p2), .val (.ref p3)] [(.ref p3), (.ref self)]))
  obtain ⟨T4, h4, X4, e4, W4, st4⟩ := putF X3 hx hZ hown (host := "") (Or.inl (hw _ (List.mem_of_getElem? (i := 100) rfl))) Via.refl e3 FV_unit_self_3 E_self_3 (Or.inr ⟨(hw _ (List.mem_of_getElem? (i := 101) rfl)), rfl, hnm⟩) (hw _ (List.mem_of_getElem? (i := 90) rfl)) (ty := (.object "java/lang/String")) (by decide) rfl rfl (g := (mkF m 17 #[.val (.ref self), .val (.long p1), .second, .val (.ref p2), .val (.ref p3)] [(.ref p3), (.ref self)])) rfl rfl (hb hby d14_17)
  have N4 := Fr.snoc X4 N3 g_self
  have FV_unit_self_4 := FV_unit_self_3.same W4
  have E_self_4 := E_self_3.wr W4
  have FV_offset_self_4 := FV_offset_self_3.other W4 (Or.inr (slot_ne (Or.inr (hw _ (List.mem_of_getElem? (i := 97) rfl))) (Or.inr (hw _ (List.mem_of_getElem? (i := 101) rfl))) (by decide) (t := .long) (t' := (.object "java/lang/String")) (by decide) (by decide)))
  have FV_fault_self_4 := FV_fault_self_3.other W4 (Or.inr (slot_ne (Or.inr (hw _ (List.mem_of_getElem? (i := 99) rfl))) (Or.inr (hw _ (List.mem_of_getElem? (i := 101) rfl))) (by decide) (t := (.object "com/example/carmenta/carmenta/Fault")) (t' := (.object "java/lang/String")) (by decide) (by decide)))
  have Z_4 : n0 ≤ h4.size := Nat.le_trans Z_3 (Nat.le_of_eq W4.size.symm)
  have KK_4 : Keep h0 h4 [self] := KK_3.wr W4 (Or.inl (List.mem_of_getElem? (i := 0) rfl))
  refine A (st4 _) ?_
  show D (T4.setTop (mkF m 20 #[.val (.ref self), .val (.long p1), .second, .val (.ref p2), .val (.ref p3)] []))
  exact F _ (Jvm.JW.ret X4 hlk (v := none) (fun _ => rfl) (fun fs hr => X4.returnOut hx hrt (hb hby d14_20) hr) e4 ⟨rfl, N4, KK_4, E_self_4, FV_offset_self_4, FV_fault_self_4⟩ (by decide) (by decide))
theorem d17_0 : decode prog_34_method_5_code 0 = .ok (.aload_n 0, 1) := by decide +kernel
theorem d17_1 : decode prog_34_method_5_code 1 = .ok (.getfield 13, 3) := by decide +kernel
theorem d17_4 : decode prog_34_method_5_code 4 = .ok (.ifnonnull 7, 3) := by decide +kernel
theorem d17_11 : decode prog_34_method_5_code 11 = .ok (.iconst 0, 1) := by decide +kernel
theorem d17_12 : decode prog_34_method_5_code 12 = .ok (.ireturn, 1) := by decide +kernel
theorem pn17 : plainFor (⟨"com/example/carmenta/carmenta/Validation", "isWellFormed", "()Z"⟩ : MethodName) = true := by decide +kernel
theorem ef17 (self : Addr) (m : MethodId) : entryFrame m #[(.ref self)] 1 = mkF m 0 #[.val (.ref self)] [] := by first | (simp [entryFrame, mkF, argsToLocals, Value.category]; done) | rfl
set_option maxRecDepth 65536 in
set_option maxHeartbeats 40000000 in
theorem rm17 (l : Launch) (Z : State) (a0 : Array Value) (hw : ∀ d ∈ tables_1, d.before a0 Z = true) (ws : List Jvm.Cond) (self : Addr) (h0 : Heap) (n0 : Nat) (fv : Addr) (E_self : Exa Z h0 self "com/example/carmenta/carmenta/Validation") (F_fault : Fld Z h0 self "com/example/carmenta/carmenta/Validation" "fault" "Lcom/example/carmenta/carmenta/Fault;" (.ref fv)) :
    JMet l Z (⟨"com/example/carmenta/carmenta/Validation", "isWellFormed", "()Z"⟩ : MethodName) prog_34_method_5_code 1 (some .boolean) ws ({ frames := 0, cells := 0, slots := 0, locals := 0 } : Room) #[(.ref self)] h0 (QP (.int (0 : Int32)) h0 n0) := by
  refine Jvm.JW.body #[.val (.ref self)] pn17 (ef17 self) ?_
  intro p e s m below meth c T0 D A F X0 hx hZ hby hml hown hnm hrt hlk e0
  refine A (XS.aloadN X0.here hx rfl (hb hby d17_0) rfl rfl) ?_
  show D (T0.setTop (mkF m 1 #[.val (.ref self)] [(.ref self)]))
  obtain ⟨T1, X1, e1, st1⟩ := getF X0 hx hZ hown (host := "") (Or.inl (hw _ (List.mem_of_getElem? (i := 98) rfl))) Via.refl e0 F_fault (g := (mkF m 1 #[.val (.ref self)] [(.ref self)])) rfl rfl (hb hby d17_1)
  refine A (st1 _) ?_
  show D (T1.setTop (mkF m 4 #[.val (.ref self)] [(.ref fv)]))
  refine A (XS.ifnonnullYes X1.here hx rfl (pc0 := 4) (pc' := 11) rfl (hb hby d17_4) rfl (by decide) (by decide)) ?_
  show D (T1.setTop (mkF m 11 #[.val (.ref self)] []))
  refine A (XS.iconst X1.here hx rfl (hb hby d17_11)) ?_
  show D (T1.setTop (mkF m 12 #[.val (.ref self)] [(.int (0 : Int32))]))
  refine F _ (Jvm.JW.ret X1 hlk (v := some (.int (0 : Int32))) (fun h => by rw [hrt] at h; cases h) (fun fs hr => retOut X1 hx hrt rfl (Or.inl ⟨rfl, Or.inr (Or.inl rfl), _, rfl⟩) (hb hby d17_12) hr) rfl ?_ (by decide) (by decide))
  exact ⟨rfl, (Fr.nil n0), e1⟩
theorem d16_0 : decode prog_34_method_9_code 0 = .ok (.aload_n 0, 1) := by decide +kernel
theorem d16_1 : decode prog_34_method_9_code 1 = .ok (.invokevirtual 35, 3) := by decide +kernel
theorem d16_4 : decode prog_34_method_9_code 4 = .ok (.ifCond .eq 13, 3) := by decide +kernel
theorem d16_17 : decode prog_34_method_9_code 17 = .ok (.return_, 1) := by decide +kernel
theorem pn16 : plainFor (⟨"com/example/carmenta/carmenta/Validation", "requireIllFormed", "()V"⟩ : MethodName) = true := by decide +kernel
theorem pd16_0 : parseMethodDescriptor "()Z" = some ⟨[], some .boolean⟩ := by decide +kernel
theorem ef16 (self : Addr) (m : MethodId) : entryFrame m #[(.ref self)] 1 = mkF m 0 #[.val (.ref self)] [] := by first | (simp [entryFrame, mkF, argsToLocals, Value.category]; done) | rfl
set_option maxRecDepth 65536 in
set_option maxHeartbeats 40000000 in
theorem rm16 (l : Launch) (Z : State) (a0 : Array Value) (hw : ∀ d ∈ tables_1, d.before a0 Z = true) (ws : List Jvm.Cond) (self : Addr) (h0 : Heap) (n0 : Nat) (fv : Addr) (E_self : Exa Z h0 self "com/example/carmenta/carmenta/Validation") (F_fault : Fld Z h0 self "com/example/carmenta/carmenta/Validation" "fault" "Lcom/example/carmenta/carmenta/Fault;" (.ref fv)) :
    JMet l Z (⟨"com/example/carmenta/carmenta/Validation", "requireIllFormed", "()V"⟩ : MethodName) prog_34_method_9_code 1 none ws ({ frames := 1, cells := 0, slots := 0, locals := 12 } : Room) #[(.ref self)] h0 (fun v h L => v = none ∧ Fr n0 L ∧ h = h0) := by
  refine Jvm.JW.body #[.val (.ref self)] pn16 (ef16 self) ?_
  intro p e s m below meth c T0 D A F X0 hx hZ hby hml hown hnm hrt hlk e0
  refine A (XS.aloadN X0.here hx rfl (hb hby d16_0) rfl rfl) ?_
  show D (T0.setTop (mkF m 1 #[.val (.ref self)] [(.ref self)]))
  refine Adv.callV A X0 hx hZ hown (hw _ (List.mem_of_getElem? (i := 111) rfl)) (hw _ (List.mem_of_getElem? (i := 112) rfl)) (notFace_of_selects (args := #[]) (mvT hZ (hw _ (List.mem_of_getElem? (i := 114) rfl)))) (hw _ (List.mem_of_getElem? (i := 114) rfl)) (hw _ (List.mem_of_getElem? (i := 113) rfl)) (hw _ (List.mem_of_getElem? (i := 53) rfl)) (hw _ (List.mem_of_getElem? (i := 115) rfl)) e0 E_self (rm17 l Z a0 hw [] self h0 n0 fv E_self F_fault) 0 (g := (mkF m 1 #[.val (.ref self)] [(.ref self)])) rfl (by rw [hml]; rfl) [] [] rfl (lenOf pd16_0 rfl) rfl (by show 2 * 0 + _ ≤ _; exact Nat.le_of_eq rfl) (hb hby d16_1) (by decide) (by decide) (by decide) (by decide) (by decide) ?_
  rintro T1 L1 _ X1 ⟨rfl, N1_q, e1⟩
  have N1 := Fr.app (Fr.nil n0) N1_q
  show D (T1.setTop (mkF m 4 #[.val (.ref self)] [(.int (0 : Int32))]))
  refine A (XS.ifYes X1.here hx rfl (pc0 := 4) (pc' := 17) rfl (hb hby d16_4) rfl ((if0 _ _).trans (teq (by decide : (0 : Int32) = (0 : Int32))).1) (by decide) (by decide)) ?_
  show D (T1.setTop (mkF m 17 #[.val (.ref self)] []))
  exact F _ (Jvm.JW.ret X1 hlk (v := none) (fun _ => rfl) (fun fs hr => X1.returnOut hx hrt (hb hby d16_17) hr) rfl ⟨rfl, N1, e1⟩ (by decide) (by decide))
theorem d15_0 : decode prog_34_method_6_code 0 = .ok (.aload_n 0, 1) := by decide +kernel
theorem d15_1 : decode prog_34_method_6_code 1 = .ok (.invokevirtual 32, 3) := by decide +kernel
theorem d15_4 : decode prog_34_method_6_code 4 = .ok (.aload_n 0, 1) := by decide +kernel
theorem d15_5 : decode prog_34_method_6_code 5 = .ok (.getfield 7, 3) := by decide +kernel
theorem d15_8 : decode prog_34_method_6_code 8 = .ok (.lreturn, 1) := by decide +kernel
theorem pn15 : plainFor (⟨"com/example/carmenta/carmenta/Validation", "offset", "()J"⟩ : MethodName) = true := by decide +kernel
theorem pd15_0 : parseMethodDescriptor "()V" = some ⟨[], none⟩ := by decide +kernel
theorem ef15 (self : Addr) (m : MethodId) : entryFrame m #[(.ref self)] 1 = mkF m 0 #[.val (.ref self)] [] := by first | (simp [entryFrame, mkF, argsToLocals, Value.category]; done) | rfl
set_option maxRecDepth 65536 in
set_option maxHeartbeats 40000000 in
theorem rm15 (l : Launch) (Z : State) (a0 : Array Value) (hw : ∀ d ∈ tables_1, d.before a0 Z = true) (ws : List Jvm.Cond) (self : Addr) (h0 : Heap) (n0 : Nat) (ov : Int64) (fv : Addr) (E_self : Exa Z h0 self "com/example/carmenta/carmenta/Validation") (F_offset : Fld Z h0 self "com/example/carmenta/carmenta/Validation" "offset" "J" (.long ov)) (F_fault : Fld Z h0 self "com/example/carmenta/carmenta/Validation" "fault" "Lcom/example/carmenta/carmenta/Fault;" (.ref fv)) :
    JMet l Z (⟨"com/example/carmenta/carmenta/Validation", "offset", "()J"⟩ : MethodName) prog_34_method_6_code 1 (some .long) ws ({ frames := 2, cells := 0, slots := 0, locals := 24 } : Room) #[(.ref self)] h0 (QP (.long ov) h0 n0) := by
  refine Jvm.JW.body #[.val (.ref self)] pn15 (ef15 self) ?_
  intro p e s m below meth c T0 D A F X0 hx hZ hby hml hown hnm hrt hlk e0
  refine A (XS.aloadN X0.here hx rfl (hb hby d15_0) rfl rfl) ?_
  show D (T0.setTop (mkF m 1 #[.val (.ref self)] [(.ref self)]))
  refine Adv.callP A X0 hx hZ hown (hw _ (List.mem_of_getElem? (i := 107) rfl)) (hw _ (List.mem_of_getElem? (i := 108) rfl)) (hw _ (List.mem_of_getElem? (i := 90) rfl)) (hw _ (List.mem_of_getElem? (i := 109) rfl)) (hw _ (List.mem_of_getElem? (i := 53) rfl)) (hw _ (List.mem_of_getElem? (i := 110) rfl)) e0 E_self (rm16 l Z a0 hw [] self h0 n0 fv E_self F_fault) 0 (g := (mkF m 1 #[.val (.ref self)] [(.ref self)])) rfl (by rw [hml]; rfl) [] [] rfl (lenOf pd15_0 rfl) rfl (by show 2 * 0 + _ ≤ _; exact Nat.le_of_eq rfl) (hb hby d15_1) (by decide) (by decide) (by decide) (by decide) (by decide) ?_
  rintro T1 L1 _ X1 ⟨rfl, N1_q, e1⟩
  have N1 := Fr.app (Fr.nil n0) N1_q
  show D (T1.setTop (mkF m 4 #[.val (.ref self)] []))
  refine A (XS.aloadN X1.here hx rfl (hb hby d15_4) rfl rfl) ?_
  show D (T1.setTop (mkF m 5 #[.val (.ref self)] [(.ref self)]))
  obtain ⟨T2, X2, e2, st2⟩ := getF X1 hx hZ hown (host := "") (Or.inl (hw _ (List.mem_of_getElem? (i := 96) rfl))) Via.refl e1 F_offset (g := (mkF m 5 #[.val (.ref self)] [(.ref self)])) rfl rfl (hb hby d15_5)
  refine A (st2 _) ?_
  show D (T2.setTop (mkF m 8 #[.val (.ref self)] [(.long ov)]))
  refine F _ (Jvm.JW.ret X2 hlk (v := some (.long ov)) (fun h => by rw [hrt] at h; cases h) (fun fs hr => retOut X2 hx hrt rfl (Or.inr (Or.inl ⟨rfl, rfl, _, rfl⟩)) (hb hby d15_8) hr) rfl ?_ (by decide) (by decide))
  exact ⟨rfl, N1, e2⟩
theorem d13_0 : decode prog_34_method_4_code 0 = .ok (.new 8, 3) := by decide +kernel
theorem d13_3 : decode prog_34_method_4_code 3 = .ok (.dup, 1) := by decide +kernel
theorem d13_4 : decode prog_34_method_4_code 4 = .ok (.lload_n 0, 1) := by decide +kernel
theorem d13_5 : decode prog_34_method_4_code 5 = .ok (.aload_n 2, 1) := by decide +kernel
theorem d13_6 : decode prog_34_method_4_code 6 = .ok (.ldc 30, 2) := by decide +kernel
theorem d13_8 : decode prog_34_method_4_code 8 = .ok (.invokespecial 27, 3) := by decide +kernel
theorem d13_11 : decode prog_34_method_4_code 11 = .ok (.areturn, 1) := by decide +kernel
theorem pn13 : plainFor (⟨"com/example/carmenta/carmenta/Validation", "illFormedAtChar", "(JLcom/example/carmenta/carmenta/Fault;)Lcom/example/carmenta/carmenta/Validation;"⟩ : MethodName) = true := by decide +kernel
theorem pd13_0 : parseMethodDescriptor "(JLcom/example/carmenta/carmenta/Fault;Ljava/lang/String;)V" = some ⟨[.long, (.object "com/example/carmenta/carmenta/Fault"), (.object "java/lang/String")], none⟩ := by decide +kernel
theorem ef13 (p1 : Int64) (p2 : Addr) (m : MethodId) : entryFrame m #[(.long p1), (.ref p2)] 3 = mkF m 0 #[.val (.long p1), .second, .val (.ref p2)] [] := by first | (simp [entryFrame, mkF, argsToLocals, Value.category]; done) | rfl
set_option maxRecDepth 65536 in
set_option maxHeartbeats 40000000 in
theorem rm13 (l : Launch) (Z : State) (a0 : Array Value) (hw : ∀ d ∈ tables_1, d.before a0 Z = true) (ws : List Jvm.Cond) (p1 : Int64) (p2 : Addr) (h0 : Heap) (n0 : Nat) (Z0 : n0 ≤ h0.size) :
    JMetW l Z (⟨"com/example/carmenta/carmenta/Validation", "illFormedAtChar", "(JLcom/example/carmenta/carmenta/Fault;)Lcom/example/carmenta/carmenta/Validation;"⟩ : MethodName) prog_34_method_4_code 3 (some (.object "com/example/carmenta/carmenta/Validation")) ws ({ frames := 2, cells := 3, slots := 23, locals := 29 } : Room) #[(.long p1), (.ref p2)] h0 (fun v h L => ∃ b : Addr, v = some (.ref b) ∧ Fr n0 L ∧ Keep h0 h [] ∧ h0.size ≤ b ∧ Exa Z h b "com/example/carmenta/carmenta/Validation" ∧ Fld Z h b "com/example/carmenta/carmenta/Validation" "offset" "J" (.long p1) ∧ Fld Z h b "com/example/carmenta/carmenta/Validation" "fault" "Lcom/example/carmenta/carmenta/Fault;" (.ref p2)) := by
  refine Jvm.JW.bodyW #[.val (.long p1), .second, .val (.ref p2)] pn13 (ef13 p1 p2) ?_
  intro p e s m below meth c T0 D A F X0 hx hS hZ hby hml hown hnm hrt hlk e0
  obtain ⟨T1, h1, X1, e1, E1, A1, D1, -, st1⟩ := newO X0 hx hZ hown (hw _ (List.mem_of_getElem? (i := 89) rfl)) (hw _ (List.mem_of_getElem? (i := 90) rfl)) (hw _ (List.mem_of_getElem? (i := 53) rfl)) e0 (g := (mkF m 0 #[.val (.long p1), .second, .val (.ref p2)] [])) rfl (hb hby d13_0) (by decide) (by decide)
  obtain ⟨b1, q_b1⟩ : ∃ z, z = h0.size := ⟨_, rfl⟩
  rw [← q_b1] at A1 D1 st1
  have g_b1 : n0 ≤ b1 := Nat.le_trans Z0 (Nat.le_of_eq q_b1.symm)
  have sz_b1 : h0.size ≤ b1 := Nat.le_trans (Keep.refl h0 []).1 (Nat.le_of_eq q_b1.symm)
  have Z_1 : n0 ≤ h1.size := Nat.le_trans Z0 E1.1
  have hk_1 := Nat.le_trans (Nat.zero_le _) (show _ ≤ h1.size from E1.1)
  have KK_1 : Keep h0 h1 [] := (Keep.refl h0 []).ext E1
  have F_offset_b1 : Fld Z h1 b1 "com/example/carmenta/carmenta/Validation" "offset" "J" (.long (0 : Int64)) := D1 (Or.inr (hw _ (List.mem_of_getElem? (i := 97) rfl))) (ty := .long) (by decide)
  have F_fault_b1 : Fld Z h1 b1 "com/example/carmenta/carmenta/Validation" "fault" "Lcom/example/carmenta/carmenta/Fault;" .null := D1 (Or.inr (hw _ (List.mem_of_getElem? (i := 99) rfl))) (ty := (.object "com/example/carmenta/carmenta/Fault")) (by decide)
  have F_unit_b1 : Fld Z h1 b1 "com/example/carmenta/carmenta/Validation" "unit" "Ljava/lang/String;" .null := D1 (Or.inr (hw _ (List.mem_of_getElem? (i := 101) rfl))) (ty := (.object "java/lang/String")) (by decide)
  refine A (st1 _) ?_
  show D (T1.setTop (mkF m 3 #[.val (.long p1), .second, .val (.ref p2)] [(.ref b1)]))
  refine A (XS.dup X1.here hx rfl (hb hby d13_3) rfl rfl) ?_
  show D (T1.setTop (mkF m 4 #[.val (.long p1), .second, .val (.ref p2)] [(.ref b1), (.ref b1)]))
  refine A (XS.lloadN X1.here hx rfl (hb hby d13_4) rfl) ?_
  show D (T1.setTop (mkF m 5 #[.val (.long p1), .second, .val (.ref p2)] [(.long p1), (.ref b1), (.ref b1)]))
  refine A (XS.aloadN X1.here hx rfl (hb hby d13_5) rfl rfl) ?_
  show D (T1.setTop (mkF m 6 #[.val (.long p1), .second, .val (.ref p2)] [(.ref p2), (.long p1), (.ref b1), (.ref b1)]))
  have wS2 : ∀ d ∈ Bundle.stringAtoms, d.before a0 Z = true := by
    intro d hd
    simp only [Bundle.stringAtoms, List.mem_cons, List.not_mem_nil, or_false] at hd
    rcases hd with rfl | rfl | rfl | rfl | rfl | rfl | rfl
    · exact (hw _ (List.mem_of_getElem? (i := 4) rfl))
    · exact (hw _ (List.mem_of_getElem? (i := 3) rfl))
    · exact (hw _ (List.mem_of_getElem? (i := 20) rfl))
    · exact (hw _ (List.mem_of_getElem? (i := 30) rfl))
    · exact (hw _ (List.mem_of_getElem? (i := 28) rfl))
    · exact (hw _ (List.mem_of_getElem? (i := 35) rfl))
    · exact (hw _ (List.mem_of_getElem? (i := 36) rfl))
  obtain ⟨sa2, T2, h2, k1, X2, e2, E2, hS, hk2, hZ, hown, st2⟩ := ldcS (s := s) X1 hx hZ hown (hw _ (List.mem_of_getElem? (i := 91) rfl)) wS2 e1 hS hk_1 (g := (mkF m 6 #[.val (.long p1), .second, .val (.ref p2)] [(.ref p2), (.long p1), (.ref b1), (.ref b1)])) rfl (hb hby d13_6) (n := 16) (by decide) (by decide) (by decide) (by decide)
  have E_b1_2 := A1.ext E2
  have F_offset_b1_2 := F_offset_b1.ext E2
  have F_fault_b1_2 := F_fault_b1.ext E2
  have F_unit_b1_2 := F_unit_b1.ext E2
  have Z_2 : n0 ≤ h2.size := Nat.le_trans Z_1 E2.1
  have KK_2 : Keep h0 h2 [] := KK_1.ext E2
  refine A (st2 _) ?_
  show D (T2.setTop (mkF m 8 #[.val (.long p1), .second, .val (.ref p2)] [(.ref sa2), (.ref p2), (.long p1), (.ref b1), (.ref b1)]))
  refine Adv.callI A X2 hx hZ hown rfl (hw _ (List.mem_of_getElem? (i := 92) rfl)) (hw _ (List.mem_of_getElem? (i := 93) rfl)) (hw _ (List.mem_of_getElem? (i := 53) rfl)) (hw _ (List.mem_of_getElem? (i := 94) rfl)) e2 (rm14 l Z a0 hw [] b1 p1 p2 sa2 h2 n0 Z_2 g_b1 E_b1_2 F_offset_b1_2 F_fault_b1_2 F_unit_b1_2) 1 (g := (mkF m 8 #[.val (.long p1), .second, .val (.ref p2)] [(.ref sa2), (.ref p2), (.long p1), (.ref b1), (.ref b1)])) rfl (by rw [hml]; rfl) b1 [(.long p1), (.ref p2), (.ref sa2)] [(.ref b1)] rfl (lenOf pd13_0 rfl) rfl (by show 2 * 0 + _ ≤ _; exact Nat.le_of_eq rfl) (hb hby d13_8) (by decide) (by decide) (by decide) (by decide) (by decide) ?_
  rintro T3 L3 _ X3 ⟨rfl, N3_q, K3, -, F3_o, F3_f⟩
  have N3 := Fr.app (Fr.nil n0) N3_q
  have E_b1_3 := E_b1_2.keep K3
  have Z_3 : n0 ≤ T3.heap.size := Nat.le_trans Z_2 K3.1
  have hk_3 := Nat.le_trans hk2 K3.1
  have KK_3 : Keep h0 T3.heap [] := KK_2.trans K3 (allS (Or.inr sz_b1) all0)
  show D (T3.setTop (mkF m 11 #[.val (.long p1), .second, .val (.ref p2)] [(.ref b1)]))
  refine F _ (Jvm.JW.retW X3 hS hlk (v := some (.ref b1)) (fun h => by rw [hrt] at h; cases h) (fun fs hr => retOut X3 hx hrt rfl (Or.inr (Or.inr (Or.inr (Or.inr ⟨rfl, rfl, rfl⟩)))) (hb hby d13_11) hr) rfl hk_3 ?_ (by decide) (by decide))
  exact ⟨b1, rfl, N3, KK_3, sz_b1, E_b1_3, F3_o, F3_f⟩
theorem d12_0 : decode prog_6_method_6_code 0 = .ok (.aload_n 0, 1) := by decide +kernel
theorem d12_1 : decode prog_6_method_6_code 1 = .ok (.getfield 17, 3) := by decide +kernel
theorem d12_4 : decode prog_6_method_6_code 4 = .ok (.aload_n 0, 1) := by decide +kernel
theorem d12_5 : decode prog_6_method_6_code 5 = .ok (.getfield 21, 3) := by decide +kernel
theorem d12_8 : decode prog_6_method_6_code 8 = .ok (.i2l, 1) := by decide +kernel
theorem d12_9 : decode prog_6_method_6_code 9 = .ok (.ladd, 1) := by decide +kernel
theorem d12_10 : decode prog_6_method_6_code 10 = .ok (.aload_n 1, 1) := by decide +kernel
theorem d12_11 : decode prog_6_method_6_code 11 = .ok (.invokestatic 65, 3) := by decide +kernel
theorem d12_14 : decode prog_6_method_6_code 14 = .ok (.areturn, 1) := by decide +kernel
theorem pn12 : plainFor (⟨"com/example/carmenta/carmenta/CharReader", "failure", "(Lcom/example/carmenta/carmenta/Fault;)Lcom/example/carmenta/carmenta/Validation;"⟩ : MethodName) = true := by decide +kernel
theorem pd12_0 : parseMethodDescriptor "(JLcom/example/carmenta/carmenta/Fault;)Lcom/example/carmenta/carmenta/Validation;" = some ⟨[.long, (.object "com/example/carmenta/carmenta/Fault")], some (.object "com/example/carmenta/carmenta/Validation")⟩ := by decide +kernel
theorem ef12 (self : Addr) (p1 : Addr) (m : MethodId) : entryFrame m #[(.ref self), (.ref p1)] 2 = mkF m 0 #[.val (.ref self), .val (.ref p1)] [] := by first | (simp [entryFrame, mkF, argsToLocals, Value.category]; done) | rfl
set_option maxRecDepth 65536 in
set_option maxHeartbeats 40000000 in
theorem rm12 (l : Launch) (Z : State) (a0 : Array Value) (hw : ∀ d ∈ tables_1, d.before a0 Z = true) (ws : List Jvm.Cond) (self : Addr) (p1 : Addr) (h0 : Heap) (n0 : Nat) (dx : Int32) (sv : Int64) (Z0 : n0 ≤ h0.size) (g_self : n0 ≤ self) (E_self : Exa Z h0 self "com/example/carmenta/carmenta/CharReader") (F_index : Fld Z h0 self "com/example/carmenta/carmenta/CharReader" "index" "I" (.int dx)) (F_start : Fld Z h0 self "com/example/carmenta/carmenta/CharReader" "start" "J" (.long sv)) :
    JMetW l Z (⟨"com/example/carmenta/carmenta/CharReader", "failure", "(Lcom/example/carmenta/carmenta/Fault;)Lcom/example/carmenta/carmenta/Validation;"⟩ : MethodName) prog_6_method_6_code 2 (some (.object "com/example/carmenta/carmenta/Validation")) ws ({ frames := 3, cells := 3, slots := 23, locals := 43 } : Room) #[(.ref self), (.ref p1)] h0 (fun v h L => ∃ b : Addr, v = some (.ref b) ∧ Fr n0 L ∧ Keep h0 h [] ∧ h0.size ≤ b ∧ Exa Z h b "com/example/carmenta/carmenta/Validation" ∧ Fld Z h b "com/example/carmenta/carmenta/Validation" "offset" "J" (.long (sv + dx.toInt64)) ∧ Fld Z h b "com/example/carmenta/carmenta/Validation" "fault" "Lcom/example/carmenta/carmenta/Fault;" (.ref p1)) := by
  refine Jvm.JW.bodyW #[.val (.ref self), .val (.ref p1)] pn12 (ef12 self p1) ?_
  intro p e s m below meth c T0 D A F X0 hx hS hZ hby hml hown hnm hrt hlk e0
  refine A (XS.aloadN X0.here hx rfl (hb hby d12_0) rfl rfl) ?_
  show D (T0.setTop (mkF m 1 #[.val (.ref self), .val (.ref p1)] [(.ref self)]))
  obtain ⟨T1, X1, e1, st1⟩ := getF X0 hx hZ hown (host := "") (Or.inl (hw _ (List.mem_of_getElem? (i := 76) rfl))) Via.refl e0 F_start (g := (mkF m 1 #[.val (.ref self), .val (.ref p1)] [(.ref self)])) rfl rfl (hb hby d12_1)
  refine A (st1 _) ?_
  show D (T1.setTop (mkF m 4 #[.val (.ref self), .val (.ref p1)] [(.long sv)]))
  refine A (XS.aloadN X1.here hx rfl (hb hby d12_4) rfl rfl) ?_
  show D (T1.setTop (mkF m 5 #[.val (.ref self), .val (.ref p1)] [(.ref self), (.long sv)]))
  obtain ⟨T2, X2, e2, st2⟩ := getF X1 hx hZ hown (host := "") (Or.inl (hw _ (List.mem_of_getElem? (i := 68) rfl))) Via.refl e1 F_index (g := (mkF m 5 #[.val (.ref self), .val (.ref p1)] [(.ref self), (.long sv)])) rfl rfl (hb hby d12_5)
  refine A (st2 _) ?_
  show D (T2.setTop (mkF m 8 #[.val (.ref self), .val (.ref p1)] [(.int dx), (.long sv)]))
  refine A (XS.i2l X2.here hx rfl (hb hby d12_8) rfl) ?_
  show D (T2.setTop (mkF m 9 #[.val (.ref self), .val (.ref p1)] [(.long (dx.toInt64)), (.long sv)]))
  refine A (XS.ladd X2.here hx rfl (hb hby d12_9) rfl) ?_
  show D (T2.setTop (mkF m 10 #[.val (.ref self), .val (.ref p1)] [(.long (sv + (dx.toInt64)))]))
  refine A (XS.aloadN X2.here hx rfl (hb hby d12_10) rfl rfl) ?_
  show D (T2.setTop (mkF m 11 #[.val (.ref self), .val (.ref p1)] [(.ref p1), (.long (sv + (dx.toInt64)))]))
  refine Adv.callSW A X2 hx hZ hown (hw _ (List.mem_of_getElem? (i := 86) rfl)) (hw _ (List.mem_of_getElem? (i := 87) rfl)) (hw _ (List.mem_of_getElem? (i := 53) rfl)) (hw _ (List.mem_of_getElem? (i := 88) rfl)) e2 hS (Nat.zero_le _) (rm13 l Z a0 hw [] (sv + (dx.toInt64)) p1 h0 n0 Z0) 0 (g := (mkF m 11 #[.val (.ref self), .val (.ref p1)] [(.ref p1), (.long (sv + (dx.toInt64)))])) rfl (by rw [hml]; rfl) [(.long (sv + (dx.toInt64))), (.ref p1)] [] rfl (lenOf pd12_0 rfl) rfl (by show 2 * 0 + _ ≤ _; exact Nat.le_of_eq rfl) (hb hby d12_11) (by decide) (by decide) (by decide) (by decide) (by decide) ?_
  rintro T3 L3 _ X3 hS hZ hown ⟨b3, rfl, N3_q, K3, szq_b3, E3_v, F3_o, F3_f⟩
  have N3 := Fr.app (Fr.nil n0) N3_q
  have ne_self_b3 : self ≠ b3 := Nat.ne_of_lt (Nat.lt_of_lt_of_le E_self.lt szq_b3)
  have g_b3 : n0 ≤ b3 := Nat.le_trans Z0 szq_b3
  have sz_b3 : h0.size ≤ b3 := Nat.le_trans (Keep.refl h0 []).1 szq_b3
  have E_self_3 := E_self.keep K3
  have F_index_self_3 := F_index.keep K3 nin0
  have F_start_self_3 := F_start.keep K3 nin0
  have Z_3 : n0 ≤ T3.heap.size := Nat.le_trans Z0 K3.1
  have KK_3 : Keep h0 T3.heap [] := (Keep.refl h0 []).trans K3 all0
  show D (T3.setTop (mkF m 14 #[.val (.ref self), .val (.ref p1)] [(.ref b3)]))
  refine F _ (Jvm.JW.retW X3 hS hlk (v := some (.ref b3)) (fun h => by rw [hrt] at h; cases h) (fun fs hr => retOut X3 hx hrt rfl (Or.inr (Or.inr (Or.inr (Or.inr ⟨rfl, rfl, rfl⟩)))) (hb hby d12_14) hr) rfl (Nat.le_refl _) ?_ (by decide) (by decide))
  exact ⟨b3, rfl, N3, KK_3, sz_b3, E3_v, F3_o, F3_f⟩
theorem own_chi (x : Int32) : own_chr (x.toUInt32.toUInt16.toUInt32.toInt32) := by
  have a := c_i2c x
  unfold own_chr
  omega
theorem own_hch (x y : Int32) : ∀ k, k < 2 → own_chr ((fun ix => if ix = 1 then y.toUInt32.toUInt16.toUInt32.toInt32 else (fun ix => if ix = 0 then x.toUInt32.toUInt16.toUInt32.toInt32 else (fun _ => 0) ix) ix) k) := by
  intro k hk
  rcases (by omega : k = 0 ∨ k = 1) with rfl | rfl
  · exact own_chi x
  · exact own_chi y
theorem own_cv {P : Prop} [Decidable P] {v a b : Int32} (h : v = (if P then (a.toUInt32.toUInt16.toUInt32.toInt32) else (b.toUInt32.toUInt16.toUInt32.toInt32))) : own_chr v := by
  rw [h]; split <;> exact own_chi _
theorem own_m4 {v x d : Int32} {n : Nat} (hd : d.toInt = ((n : Nat) : Int)) (hn : 0 < n) (h : v = ((x &&& (2147483647 : Int32)) % d)) : 0 ≤ v.toInt ∧ v.toInt < n := by
  have h1 := c_mask x 2147483647 31 (by decide) (by decide)
  have h2 := (c_irem (x &&& 2147483647) d (n : Int) hd).1 (by omega)
  rw [← h] at h2
  have h3 := Int.emod_nonneg (x &&& 2147483647).toInt (show (n : Int) ≠ 0 by omega)
  have h4 := Int.emod_lt_of_pos (x &&& 2147483647).toInt (show 0 < (n : Int) by omega)
  omega
theorem own_8 {v x : Int32} (h : v = (x &&& (1 : Int32))) : ∃ k : Nat, v.toInt = k ∧ k < 2 := by
  have h1 := c_mask x 1 1 (by decide) (by decide)
  rw [← h] at h1
  exact ⟨v.toInt.toNat, by omega, by omega⟩
theorem own_z8 {v : Int32} {k : Nat} (h : v.toInt = k) : ((0 : Int32) + v).toInt = k := by rw [Int32.zero_add]; exact h
theorem own_off {x5 x6 : Int32} (h5 : 0 ≤ x5.toInt ∧ x5.toInt < (4 : Nat)) (h6 : 0 ≤ x6.toInt ∧ x6.toInt < (3 : Nat)) : ((((0 : Int64) + ((0 : Int32) + x5).toInt64) + ((0 : Int32) + x6).toInt64) + ((0 : Int32)).toInt64) = (x5 + x6).toInt64 := by
  rw [Int32.zero_add, Int32.zero_add]
  have a := c_i2l x5
  have b := c_i2l x6
  have c := c_iadd x5 x6
  have rc := rng32 (x5 + x6)
  have d := c_i2l (x5 + x6)
  have z : ((0 : Int32)).toInt64 = 0 := rfl
  rw [z, Int64.add_zero, Int64.zero_add]
  have e := c_ladd x5.toInt64 x6.toInt64
  have re := rng64 (x5.toInt64 + x6.toInt64)
  exact Int64.toInt_inj.mp (by omega)
theorem own_lo_eq (x : Int32) : f38 x = f28 x := by
  unfold f38 f28
  simp only [Int32.lt_iff_toInt_lt, show (56320 : Int32).toInt = 56320 from rfl, show (57344 : Int32).toInt = 57344 from rfl, show (57343 : Int32).toInt = 57343 from rfl]
  repeat' split
  all_goals first | rfl | (exfalso; omega)
theorem own_su (x : Int32) : f26 x = 0 ↔ (f27 x = 0 ∧ f28 x = 0) := by
  unfold f26 f27 f28
  simp only [Int32.lt_iff_toInt_lt, show (55296 : Int32).toInt = 55296 from rfl, show (56319 : Int32).toInt = 56319 from rfl, show (56320 : Int32).toInt = 56320 from rfl, show (57344 : Int32).toInt = 57344 from rfl, show (57343 : Int32).toInt = 57343 from rfl]
  repeat' split
  all_goals first | decide | (exfalso; omega)
theorem own_cp0 {x y p q r t : Int} (hp : (p - (x - 55296) * 1024) % 4294967296 = 0) (hq : (q - (65536 + p)) % 4294967296 = 0) (hr : (r - (q + (y - 56320))) % 4294967296 = 0) (ht : (t - (x * 1024 + y - 56613888)) % 4294967296 = 0) (r1 : -2147483648 ≤ r ∧ r < 2147483648) (r2 : -2147483648 ≤ t ∧ t < 2147483648) : r = t := by omega
theorem own_mk {a b c : Int} (h1 : (a - b) % 4294967296 = 0) (h2 : (b - c) % 4294967296 = 0) : (a - c) % 4294967296 = 0 := by omega
theorem own_cp (x y : Int32) : (((65536 : Int32) + ((x - (55296 : Int32)) <<< ((10 : Int32) &&& 31))) + (y - (56320 : Int32))) = f40 x y := by
  unfold f40
  have a := c_isub x 55296
  have b := c_ishl (x - 55296) 10 10 (by decide)
  have c := c_isub y 56320
  have d := c_iadd 65536 ((x - (55296 : Int32)) <<< ((10 : Int32) &&& 31))
  have e := c_iadd ((65536 : Int32) + ((x - (55296 : Int32)) <<< ((10 : Int32) &&& 31))) (y - 56320)
  have f := c_ishl x 10 10 (by decide)
  have g := c_iadd (x <<< ((10 : Int32) &&& 31)) y
  have h := c_iadd ((x <<< ((10 : Int32) &&& 31)) + y) (-56613888)
  have r1 := rng32 (((65536 : Int32) + ((x - (55296 : Int32)) <<< ((10 : Int32) &&& 31))) + (y - (56320 : Int32)))
  have r2 := rng32 (((x <<< ((10 : Int32) &&& 31)) + y) + (-56613888 : Int32))
  have l1 : (55296 : Int32).toInt = 55296 := by decide
  have l2 : (56320 : Int32).toInt = 56320 := by decide
  have l3 : (65536 : Int32).toInt = 65536 := by decide
  have l4 : (-56613888 : Int32).toInt = -56613888 := by decide
  have l5 : ((2 ^ 10 : Nat) : Int) = 1024 := by decide
  apply Int32.toInt_inj.mp
  generalize (((65536 : Int32) + ((x - (55296 : Int32)) <<< ((10 : Int32) &&& 31))) + (y - (56320 : Int32))).toInt = R at *
  generalize (((x <<< ((10 : Int32) &&& 31)) + y) + (-56613888 : Int32)).toInt = T at *
  generalize ((65536 : Int32) + ((x - (55296 : Int32)) <<< ((10 : Int32) &&& 31))).toInt = Q at *
  generalize ((x - (55296 : Int32)) <<< ((10 : Int32) &&& 31)).toInt = P at *
  generalize ((x <<< ((10 : Int32) &&& 31)) + y).toInt = G at *
  generalize (x <<< ((10 : Int32) &&& 31)).toInt = H at *
  generalize (x - (55296 : Int32)).toInt = A at *
  generalize (y - (56320 : Int32)).toInt = B at *
  rw [l1] at a; rw [l2] at c; rw [l3] at d; rw [l4] at h; rw [l5] at b f
  generalize x.toInt = X at *
  generalize y.toInt = Y at *
  clear l1 l2 l3 l4 l5
  omega
theorem own_lb {P : Prop} [Decidable P] {v : Int32} (h : v = (if P then (0 : Int32) else (1 : Int32))) : (v &&& 1) = v := by
  rw [h]; split <;> decide
theorem own_fin {x8 lb x y u r jx : Int32} {kk : Nat} (h8 : x8.toInt = kk) (hkk : kk < 2) (hu : u = (if x8 = (0 : Int32) then x else y)) (hD : own_D kk lb x y ((0 : Int32) + x8) r jx) :
    (f27 u = 0 → f28 u = 0 → r = u ∧ ((2 : Int32) - jx) = (((2 : Int32) - x8) - (1 : Int32))) ∧ (¬ f28 u = 0 → r = -2 ∧ ((2 : Int32) - jx) = (((2 : Int32) - x8) - (0 : Int32))) ∧
    (¬ f27 u = 0 → f28 u = 0 → x8 = 1 → r = (if lb = (0 : Int32) then (-1 : Int32) else (-2 : Int32)) ∧ ((2 : Int32) - jx) = (((2 : Int32) - x8) - (0 : Int32))) ∧
    (¬ f27 u = 0 → f28 u = 0 → ¬ x8 = 1 → ¬ f28 y = 0 → r = f40 x y ∧ ((2 : Int32) - jx) = (((2 : Int32) - x8) - (2 : Int32))) ∧
    (¬ f27 u = 0 → f28 u = 0 → ¬ x8 = 1 → f28 y = 0 → r = -2 ∧ ((2 : Int32) - jx) = (((2 : Int32) - x8) - (0 : Int32))) := by
  have eu : own_at kk x y = u := by
    rw [hu]; unfold own_at
    by_cases q : kk = 0
    · rw [if_pos q, if_pos (Int32.toInt_inj.mp (by rw [h8, q]; rfl))]
    · rw [if_neg q, if_neg (fun z => q (by rw [z, show (0 : Int32).toInt = 0 from rfl] at h8; omega))]
  unfold own_D at hD
  rw [eu] at hD
  simp only [own_lo_eq, own_su] at hD
  have e01 : (kk = 0 ∧ x8 = 0) ∨ (kk = 1 ∧ x8 = 1) := by
    rcases (by omega : kk = 0 ∨ kk = 1) with q | q
    · exact Or.inl ⟨q, Int32.toInt_inj.mp (by rw [h8, q]; rfl)⟩
    · exact Or.inr ⟨q, Int32.toInt_inj.mp (by rw [h8, q]; rfl)⟩
  rcases e01 with ⟨rfl, rfl⟩ | ⟨rfl, rfl⟩
  · rcases hD with ⟨⟨a1, a2⟩, rfl, rfl⟩ | ⟨a1, a2, rfl, rfl⟩ | ⟨a1, a2, ⟨b1, -⟩ | ⟨b1, -⟩ | ⟨-, b2, rfl, rfl⟩ | ⟨-, b2, rfl, rfl⟩⟩
    · exact ⟨fun _ _ => ⟨rfl, by decide⟩, fun q => absurd a2 q, fun q => absurd a1 q, fun q => absurd a1 q, fun q => absurd a1 q⟩
    · exact ⟨fun _ q => absurd q a2, fun _ => ⟨rfl, by decide⟩, fun _ q => absurd q a2, fun _ q => absurd q a2, fun _ q => absurd q a2⟩
    · cases b1
    · cases b1
    · exact ⟨fun q q2 => absurd ⟨q, q2⟩ a1, fun q => absurd a2 q, fun _ _ q => absurd q (by decide), fun _ _ _ q => absurd b2 q, fun _ _ _ _ => ⟨rfl, by decide⟩⟩
    · exact ⟨fun q q2 => absurd ⟨q, q2⟩ a1, fun q => absurd a2 q, fun _ _ q => absurd q (by decide), fun _ _ _ _ => ⟨rfl, by decide⟩, fun _ _ _ q => absurd q b2⟩
  · rcases hD with ⟨⟨a1, a2⟩, rfl, rfl⟩ | ⟨a1, a2, rfl, rfl⟩ | ⟨a1, a2, ⟨-, b2, rfl, rfl⟩ | ⟨-, b2, rfl, rfl⟩ | ⟨b1, -⟩ | ⟨b1, -⟩⟩
    · exact ⟨fun _ _ => ⟨rfl, by decide⟩, fun q => absurd a2 q, fun q => absurd a1 q, fun q => absurd a1 q, fun q => absurd a1 q⟩
    · exact ⟨fun _ q => absurd q a2, fun _ => ⟨rfl, by decide⟩, fun _ q => absurd q a2, fun _ q => absurd q a2, fun _ q => absurd q a2⟩
    · exact ⟨fun q q2 => absurd ⟨q, q2⟩ a1, fun q => absurd a2 q, fun _ _ _ => ⟨(if_pos b2).symm, by decide⟩, fun _ _ q => absurd rfl q, fun _ _ q => absurd rfl q⟩
    · exact ⟨fun q q2 => absurd ⟨q, q2⟩ a1, fun q => absurd a2 q, fun _ _ _ => ⟨(if_neg b2).symm, by decide⟩, fun _ _ q => absurd rfl q, fun _ _ q => absurd rfl q⟩
    · cases b1
    · cases b1
theorem pn0 : plainFor x = true := by decide +kernel
theorem pd0_0 : parseMethodDescriptor "([C)V" = some ⟨[(.array .char)], none⟩ := by decide +kernel
theorem pd0_1 : parseMethodDescriptor "(Ljava/lang/CharSequence;)V" = some ⟨[(.object "java/lang/CharSequence")], none⟩ := by decide +kernel
theorem pd0_2 : parseMethodDescriptor "(I)V" = some ⟨[.int], none⟩ := by decide +kernel
theorem pd0_3 : parseMethodDescriptor "(Ljava/lang/CharSequence;Z)V" = some ⟨[(.object "java/lang/CharSequence"), .boolean], none⟩ := by decide +kernel
theorem pd0_4 : parseMethodDescriptor "(Lcom/example/carmenta/carmenta/Fault;)Lcom/example/carmenta/carmenta/Validation;" = some ⟨[(.object "com/example/carmenta/carmenta/Fault")], some (.object "com/example/carmenta/carmenta/Validation")⟩ := by decide +kernel
theorem pd0_5 : parseMethodDescriptor "()J" = some ⟨[], some .long⟩ := by decide +kernel
theorem pd0_6 : parseMethodDescriptor "()I" = some ⟨[], some .int⟩ := by decide +kernel
theorem pd0_7 : parseMethodDescriptor "(I)Z" = some ⟨[.int], some .boolean⟩ := by decide +kernel
theorem ef0 (p1 : Int32) (p2 : Int32) (p3 : Int32) (p4 : Int32) (p5 : Int32) (m : MethodId) : entryFrame m #[(.int p1), (.int p2), (.int p3), (.int p4), (.int p5)] maxLocals = mkF m 0 #[.val (.int p1), .val (.int p2), .val (.int p3), .val (.int p4), .val (.int p5), .unset, .unset, .unset, .unset, .unset, .unset, .unset, .unset, .unset, .unset, .unset, .unset, .unset, .unset, .unset, .unset, .unset] [] := by first | (simp [entryFrame, mkF, argsToLocals, Value.category, maxLocals]; done) | rfl
set_option maxRecDepth 65536 in
set_option maxHeartbeats 40000000 in
theorem rm0 (l : Launch) (Z : State) (a0 : Array Value) (hw : ∀ d ∈ tables_1, d.before a0 Z = true) (ws : List Jvm.Cond) (p1 : Int32) (p2 : Int32) (p3 : Int32) (p4 : Int32) (p5 : Int32) (h0 : Heap) (n0 : Nat) (Z0 : n0 ≤ h0.size) (cs : Int32) (hcs : ¬ cs = (0 : Int32)) (sf : Value) (hsf : sf.isRef = true) (rfu wf flo fhi : Addr) (S_cs : Sta Z h0 "java/lang/String" "COMPACT_STRINGS" "Z" (.int cs)) (S_sf : Sta Z h0 "jdk/internal/util/Preconditions" "SIOOBE_FORMATTER" "Ljava/util/function/BiFunction;" sf) (S_ad : Sta Z h0 "java/lang/StringUTF16" "$assertionsDisabled" "Z" (.int (1 : Int32))) (S_hi : Sta Z h0 "java/lang/StringUTF16" "HI_BYTE_SHIFT" "I" (.int (0 : Int32))) (S_lo : Sta Z h0 "java/lang/StringUTF16" "LO_BYTE_SHIFT" "I" (.int (8 : Int32))) (S_rf : Sta Z h0 "com/example/carmenta/carmenta/OnIllFormed" "REFUSE" "Lcom/example/carmenta/carmenta/OnIllFormed;" (.ref rfu)) (S_wf : Sta Z h0 "com/example/carmenta/carmenta/Validation" "WELL_FORMED" "Lcom/example/carmenta/carmenta/Validation;" (.ref wf)) (S_fl : Sta Z h0 "com/example/carmenta/carmenta/Fault" "UNPAIRED_LOW_SURROGATE" "Lcom/example/carmenta/carmenta/Fault;" (.ref flo)) (S_fh : Sta Z h0 "com/example/carmenta/carmenta/Fault" "UNPAIRED_HIGH_SURROGATE" "Lcom/example/carmenta/carmenta/Fault;" (.ref fhi)) :
    JMetW l Z x code maxLocals ret ws room_1 #[(.int p1), (.int p2), (.int p3), (.int p4), (.int p5)] h0 (QL n0) := by
  refine Jvm.JW.bodyW #[.val (.int p1), .val (.int p2), .val (.int p3), .val (.int p4), .val (.int p5), .unset, .unset, .unset, .unset, .unset, .unset, .unset, .unset, .unset, .unset, .unset, .unset, .unset, .unset, .unset, .unset, .unset] pn0 (ef0 p1 p2 p3 p4 p5) ?_
  intro p e s m below meth c T0 D A F X0 hx hS hZ hby hml hown hnm hrt hlk e0
  refine A (XS.iloadN X0.here hx rfl (hb hby at_0) rfl) ?_
  show D (T0.setTop (mkF m 1 #[.val (.int p1), .val (.int p2), .val (.int p3), .val (.int p4), .val (.int p5), .unset, .unset, .unset, .unset, .unset, .unset, .unset, .unset, .unset, .unset, .unset, .unset, .unset, .unset, .unset, .unset, .unset] [(.int p1)]))
  refine A (X0.ldcInt hx hown (mvT hZ (hw _ (List.mem_of_getElem? (i := 0) rfl))) (g := (mkF m 1 #[.val (.int p1), .val (.int p2), .val (.int p3), .val (.int p4), .val (.int p5), .unset, .unset, .unset, .unset, .unset, .unset, .unset, .unset, .unset, .unset, .unset, .unset, .unset, .unset, .unset, .unset, .unset] [(.int p1)])) rfl (hb hby at_1) _) ?_
  show D (T0.setTop (mkF m 3 #[.val (.int p1), .val (.int p2), .val (.int p3), .val (.int p4), .val (.int p5), .unset, .unset, .unset, .unset, .unset, .unset, .unset, .unset, .unset, .unset, .unset, .unset, .unset, .unset, .unset, .unset, .unset] [(.int (2147483647 : Int32)), (.int p1)]))
  refine A (XS.iand X0.here hx rfl (hb hby at_3) rfl) ?_
  show D (T0.setTop (mkF m 4 #[.val (.int p1), .val (.int p2), .val (.int p3), .val (.int p4), .val (.int p5), .unset, .unset, .unset, .unset, .unset, .unset, .unset, .unset, .unset, .unset, .unset, .unset, .unset, .unset, .unset, .unset, .unset] [(.int (p1 &&& (2147483647 : Int32)))]))
  refine A (XS.iconst X0.here hx rfl (hb hby at_4)) ?_
  show D (T0.setTop (mkF m 5 #[.val (.int p1), .val (.int p2), .val (.int p3), .val (.int p4), .val (.int p5), .unset, .unset, .unset, .unset, .unset, .unset, .unset, .unset, .unset, .unset, .unset, .unset, .unset, .unset, .unset, .unset, .unset] [(.int (4 : Int32)), (.int (p1 &&& (2147483647 : Int32)))]))
  refine A (iremM X0 hx rfl (hb hby at_5) rfl (by decide)) ?_
  show D (T0.setTop (mkF m 6 #[.val (.int p1), .val (.int p2), .val (.int p3), .val (.int p4), .val (.int p5), .unset, .unset, .unset, .unset, .unset, .unset, .unset, .unset, .unset, .unset, .unset, .unset, .unset, .unset, .unset, .unset, .unset] [(.int ((p1 &&& (2147483647 : Int32)) % (4 : Int32)))]))
  refine A (XS.istore X0.here hx rfl (hb hby at_6) rfl (l' := #[.val (.int p1), .val (.int p2), .val (.int p3), .val (.int p4), .val (.int p5), .val (.int ((p1 &&& (2147483647 : Int32)) % (4 : Int32))), .unset, .unset, .unset, .unset, .unset, .unset, .unset, .unset, .unset, .unset, .unset, .unset, .unset, .unset, .unset, .unset]) rfl) ?_
  show D (T0.setTop (mkF m 8 #[.val (.int p1), .val (.int p2), .val (.int p3), .val (.int p4), .val (.int p5), .val (.int ((p1 &&& (2147483647 : Int32)) % (4 : Int32))), .unset, .unset, .unset, .unset, .unset, .unset, .unset, .unset, .unset, .unset, .unset, .unset, .unset, .unset, .unset, .unset] []))
  suffices Kx5_8 : ∀ x5_8 : Int32, x5_8 = ((p1 &&& (2147483647 : Int32)) % (4 : Int32)) → D (T0.setTop (mkF m 8 #[.val (.int p1), .val (.int p2), .val (.int p3), .val (.int p4), .val (.int p5), .val (.int x5_8), .unset, .unset, .unset, .unset, .unset, .unset, .unset, .unset, .unset, .unset, .unset, .unset, .unset, .unset, .unset, .unset] [])) from Kx5_8 _ rfl
  intro x5_8 hx5_8
  have r5 := own_m4 (n := 4) (by decide) (by decide) hx5_8
  refine A (XS.iloadN X0.here hx rfl (hb hby at_8) rfl) ?_
  show D (T0.setTop (mkF m 9 #[.val (.int p1), .val (.int p2), .val (.int p3), .val (.int p4), .val (.int p5), .val (.int x5_8), .unset, .unset, .unset, .unset, .unset, .unset, .unset, .unset, .unset, .unset, .unset, .unset, .unset, .unset, .unset, .unset] [(.int p2)]))
  refine A (X0.ldcInt hx hown (mvT hZ (hw _ (List.mem_of_getElem? (i := 0) rfl))) (g := (mkF m 9 #[.val (.int p1), .val (.int p2), .val (.int p3), .val (.int p4), .val (.int p5), .val (.int x5_8), .unset, .unset, .unset, .unset, .unset, .unset, .unset, .unset, .unset, .unset, .unset, .unset, .unset, .unset, .unset, .unset] [(.int p2)])) rfl (hb hby at_9) _) ?_
  show D (T0.setTop (mkF m 11 #[.val (.int p1), .val (.int p2), .val (.int p3), .val (.int p4), .val (.int p5), .val (.int x5_8), .unset, .unset, .unset, .unset, .unset, .unset, .unset, .unset, .unset, .unset, .unset, .unset, .unset, .unset, .unset, .unset] [(.int (2147483647 : Int32)), (.int p2)]))
  refine A (XS.iand X0.here hx rfl (hb hby at_11) rfl) ?_
  show D (T0.setTop (mkF m 12 #[.val (.int p1), .val (.int p2), .val (.int p3), .val (.int p4), .val (.int p5), .val (.int x5_8), .unset, .unset, .unset, .unset, .unset, .unset, .unset, .unset, .unset, .unset, .unset, .unset, .unset, .unset, .unset, .unset] [(.int (p2 &&& (2147483647 : Int32)))]))
  refine A (XS.iconst X0.here hx rfl (hb hby at_12)) ?_
  show D (T0.setTop (mkF m 13 #[.val (.int p1), .val (.int p2), .val (.int p3), .val (.int p4), .val (.int p5), .val (.int x5_8), .unset, .unset, .unset, .unset, .unset, .unset, .unset, .unset, .unset, .unset, .unset, .unset, .unset, .unset, .unset, .unset] [(.int (3 : Int32)), (.int (p2 &&& (2147483647 : Int32)))]))
  refine A (iremM X0 hx rfl (hb hby at_13) rfl (by decide)) ?_
  show D (T0.setTop (mkF m 14 #[.val (.int p1), .val (.int p2), .val (.int p3), .val (.int p4), .val (.int p5), .val (.int x5_8), .unset, .unset, .unset, .unset, .unset, .unset, .unset, .unset, .unset, .unset, .unset, .unset, .unset, .unset, .unset, .unset] [(.int ((p2 &&& (2147483647 : Int32)) % (3 : Int32)))]))
  refine A (XS.istore X0.here hx rfl (hb hby at_14) rfl (l' := #[.val (.int p1), .val (.int p2), .val (.int p3), .val (.int p4), .val (.int p5), .val (.int x5_8), .val (.int ((p2 &&& (2147483647 : Int32)) % (3 : Int32))), .unset, .unset, .unset, .unset, .unset, .unset, .unset, .unset, .unset, .unset, .unset, .unset, .unset, .unset, .unset]) rfl) ?_
  show D (T0.setTop (mkF m 16 #[.val (.int p1), .val (.int p2), .val (.int p3), .val (.int p4), .val (.int p5), .val (.int x5_8), .val (.int ((p2 &&& (2147483647 : Int32)) % (3 : Int32))), .unset, .unset, .unset, .unset, .unset, .unset, .unset, .unset, .unset, .unset, .unset, .unset, .unset, .unset, .unset] []))
  suffices Kx6_16 : ∀ x6_16 : Int32, x6_16 = ((p2 &&& (2147483647 : Int32)) % (3 : Int32)) → D (T0.setTop (mkF m 16 #[.val (.int p1), .val (.int p2), .val (.int p3), .val (.int p4), .val (.int p5), .val (.int x5_8), .val (.int x6_16), .unset, .unset, .unset, .unset, .unset, .unset, .unset, .unset, .unset, .unset, .unset, .unset, .unset, .unset, .unset] [])) from Kx6_16 _ rfl
  intro x6_16 hx6_16
  have r6 := own_m4 (n := 3) (by decide) (by decide) hx6_16
  refine A (XS.iload X0.here hx rfl (hb hby at_16) rfl) ?_
  show D (T0.setTop (mkF m 18 #[.val (.int p1), .val (.int p2), .val (.int p3), .val (.int p4), .val (.int p5), .val (.int x5_8), .val (.int x6_16), .unset, .unset, .unset, .unset, .unset, .unset, .unset, .unset, .unset, .unset, .unset, .unset, .unset, .unset, .unset] [(.int p5)]))
  refine A (XS.iconst X0.here hx rfl (hb hby at_18)) ?_
  show D (T0.setTop (mkF m 19 #[.val (.int p1), .val (.int p2), .val (.int p3), .val (.int p4), .val (.int p5), .val (.int x5_8), .val (.int x6_16), .unset, .unset, .unset, .unset, .unset, .unset, .unset, .unset, .unset, .unset, .unset, .unset, .unset, .unset, .unset] [(.int (1 : Int32)), (.int p5)]))
  refine A (XS.iand X0.here hx rfl (hb hby at_19) rfl) ?_
  show D (T0.setTop (mkF m 20 #[.val (.int p1), .val (.int p2), .val (.int p3), .val (.int p4), .val (.int p5), .val (.int x5_8), .val (.int x6_16), .unset, .unset, .unset, .unset, .unset, .unset, .unset, .unset, .unset, .unset, .unset, .unset, .unset, .unset, .unset] [(.int (p5 &&& (1 : Int32)))]))
  suffices Km28_1 : ∀ (v28s0 : Int32), v28s0 = (if (p5 &&& (1 : Int32)) = (0 : Int32) then (0 : Int32) else (1 : Int32)) → D (T0.setTop (mkF m 28 #[.val (.int p1), .val (.int p2), .val (.int p3), .val (.int p4), .val (.int p5), .val (.int x5_8), .val (.int x6_16), .unset, .unset, .unset, .unset, .unset, .unset, .unset, .unset, .unset, .unset, .unset, .unset, .unset, .unset, .unset] [(.int v28s0)])) by
    by_cases c20_0 : (p5 &&& (1 : Int32)) = (0 : Int32)
    · refine A (XS.ifYes X0.here hx rfl (pc0 := 20) (pc' := 27) rfl (hb hby at_20) rfl ((if0 _ _).trans (teq c20_0).1) (by decide) (by decide)) ?_
      show D (T0.setTop (mkF m 27 #[.val (.int p1), .val (.int p2), .val (.int p3), .val (.int p4), .val (.int p5), .val (.int x5_8), .val (.int x6_16), .unset, .unset, .unset, .unset, .unset, .unset, .unset, .unset, .unset, .unset, .unset, .unset, .unset, .unset, .unset] []))
      refine A (XS.iconst X0.here hx rfl (hb hby at_27)) ?_
      show D (T0.setTop (mkF m 28 #[.val (.int p1), .val (.int p2), .val (.int p3), .val (.int p4), .val (.int p5), .val (.int x5_8), .val (.int x6_16), .unset, .unset, .unset, .unset, .unset, .unset, .unset, .unset, .unset, .unset, .unset, .unset, .unset, .unset, .unset] [(.int (0 : Int32))]))
      exact Km28_1 _ ((if_pos c20_0)).symm
    · refine A (XS.ifNo X0.here hx rfl (hb hby at_20) rfl ((if0 _ _).trans (feq c20_0).1)) ?_
      show D (T0.setTop (mkF m 23 #[.val (.int p1), .val (.int p2), .val (.int p3), .val (.int p4), .val (.int p5), .val (.int x5_8), .val (.int x6_16), .unset, .unset, .unset, .unset, .unset, .unset, .unset, .unset, .unset, .unset, .unset, .unset, .unset, .unset, .unset] []))
      refine A (XS.iconst X0.here hx rfl (hb hby at_23)) ?_
      show D (T0.setTop (mkF m 24 #[.val (.int p1), .val (.int p2), .val (.int p3), .val (.int p4), .val (.int p5), .val (.int x5_8), .val (.int x6_16), .unset, .unset, .unset, .unset, .unset, .unset, .unset, .unset, .unset, .unset, .unset, .unset, .unset, .unset, .unset] [(.int (1 : Int32))]))
      refine A (XS.goto X0.here hx rfl (pc0 := 24) (pc' := 28) rfl (hb hby at_24) (by decide) (by decide)) ?_
      show D (T0.setTop (mkF m 28 #[.val (.int p1), .val (.int p2), .val (.int p3), .val (.int p4), .val (.int p5), .val (.int x5_8), .val (.int x6_16), .unset, .unset, .unset, .unset, .unset, .unset, .unset, .unset, .unset, .unset, .unset, .unset, .unset, .unset, .unset] [(.int (1 : Int32))]))
      exact Km28_1 _ ((if_neg c20_0)).symm
  intro v28s0 hv28s0
  show D (T0.setTop (mkF m 28 #[.val (.int p1), .val (.int p2), .val (.int p3), .val (.int p4), .val (.int p5), .val (.int x5_8), .val (.int x6_16), .unset, .unset, .unset, .unset, .unset, .unset, .unset, .unset, .unset, .unset, .unset, .unset, .unset, .unset, .unset] [(.int v28s0)]))
  refine A (XS.istore X0.here hx rfl (hb hby at_28) rfl (l' := #[.val (.int p1), .val (.int p2), .val (.int p3), .val (.int p4), .val (.int p5), .val (.int x5_8), .val (.int x6_16), .val (.int v28s0), .unset, .unset, .unset, .unset, .unset, .unset, .unset, .unset, .unset, .unset, .unset, .unset, .unset, .unset]) rfl) ?_
  show D (T0.setTop (mkF m 30 #[.val (.int p1), .val (.int p2), .val (.int p3), .val (.int p4), .val (.int p5), .val (.int x5_8), .val (.int x6_16), .val (.int v28s0), .unset, .unset, .unset, .unset, .unset, .unset, .unset, .unset, .unset, .unset, .unset, .unset, .unset, .unset] []))
  refine A (XS.iload X0.here hx rfl (hb hby at_30) rfl) ?_
  show D (T0.setTop (mkF m 32 #[.val (.int p1), .val (.int p2), .val (.int p3), .val (.int p4), .val (.int p5), .val (.int x5_8), .val (.int x6_16), .val (.int v28s0), .unset, .unset, .unset, .unset, .unset, .unset, .unset, .unset, .unset, .unset, .unset, .unset, .unset, .unset] [(.int p5)]))
  refine A (XS.iconst X0.here hx rfl (hb hby at_32)) ?_
  show D (T0.setTop (mkF m 33 #[.val (.int p1), .val (.int p2), .val (.int p3), .val (.int p4), .val (.int p5), .val (.int x5_8), .val (.int x6_16), .val (.int v28s0), .unset, .unset, .unset, .unset, .unset, .unset, .unset, .unset, .unset, .unset, .unset, .unset, .unset, .unset] [(.int (1 : Int32)), (.int p5)]))
  refine A (XS.iushr X0.here hx rfl (hb hby at_33) rfl) ?_
  show D (T0.setTop (mkF m 34 #[.val (.int p1), .val (.int p2), .val (.int p3), .val (.int p4), .val (.int p5), .val (.int x5_8), .val (.int x6_16), .val (.int v28s0), .unset, .unset, .unset, .unset, .unset, .unset, .unset, .unset, .unset, .unset, .unset, .unset, .unset, .unset] [(.int ((p5.toUInt32 >>> ((1 : Int32) &&& 31).toUInt32).toInt32))]))
  refine A (XS.iconst X0.here hx rfl (hb hby at_34)) ?_
  show D (T0.setTop (mkF m 35 #[.val (.int p1), .val (.int p2), .val (.int p3), .val (.int p4), .val (.int p5), .val (.int x5_8), .val (.int x6_16), .val (.int v28s0), .unset, .unset, .unset, .unset, .unset, .unset, .unset, .unset, .unset, .unset, .unset, .unset, .unset, .unset] [(.int (1 : Int32)), (.int ((p5.toUInt32 >>> ((1 : Int32) &&& 31).toUInt32).toInt32))]))
  refine A (XS.iand X0.here hx rfl (hb hby at_35) rfl) ?_
  show D (T0.setTop (mkF m 36 #[.val (.int p1), .val (.int p2), .val (.int p3), .val (.int p4), .val (.int p5), .val (.int x5_8), .val (.int x6_16), .val (.int v28s0), .unset, .unset, .unset, .unset, .unset, .unset, .unset, .unset, .unset, .unset, .unset, .unset, .unset, .unset] [(.int (((p5.toUInt32 >>> ((1 : Int32) &&& 31).toUInt32).toInt32) &&& (1 : Int32)))]))
  refine A (XS.istore X0.here hx rfl (hb hby at_36) rfl (l' := #[.val (.int p1), .val (.int p2), .val (.int p3), .val (.int p4), .val (.int p5), .val (.int x5_8), .val (.int x6_16), .val (.int v28s0), .val (.int (((p5.toUInt32 >>> ((1 : Int32) &&& 31).toUInt32).toInt32) &&& (1 : Int32))), .unset, .unset, .unset, .unset, .unset, .unset, .unset, .unset, .unset, .unset, .unset, .unset, .unset]) rfl) ?_
  show D (T0.setTop (mkF m 38 #[.val (.int p1), .val (.int p2), .val (.int p3), .val (.int p4), .val (.int p5), .val (.int x5_8), .val (.int x6_16), .val (.int v28s0), .val (.int (((p5.toUInt32 >>> ((1 : Int32) &&& 31).toUInt32).toInt32) &&& (1 : Int32))), .unset, .unset, .unset, .unset, .unset, .unset, .unset, .unset, .unset, .unset, .unset, .unset, .unset] []))
  suffices Kx8_38 : ∀ x8_38 : Int32, x8_38 = (((p5.toUInt32 >>> ((1 : Int32) &&& 31).toUInt32).toInt32) &&& (1 : Int32)) → D (T0.setTop (mkF m 38 #[.val (.int p1), .val (.int p2), .val (.int p3), .val (.int p4), .val (.int p5), .val (.int x5_8), .val (.int x6_16), .val (.int v28s0), .val (.int x8_38), .unset, .unset, .unset, .unset, .unset, .unset, .unset, .unset, .unset, .unset, .unset, .unset, .unset] [])) from Kx8_38 _ rfl
  intro x8_38 hx8_38
  obtain ⟨k8, hk8, hk82⟩ := own_8 hx8_38
  refine A (XS.iload X0.here hx rfl (hb hby at_38) rfl) ?_
  show D (T0.setTop (mkF m 40 #[.val (.int p1), .val (.int p2), .val (.int p3), .val (.int p4), .val (.int p5), .val (.int x5_8), .val (.int x6_16), .val (.int v28s0), .val (.int x8_38), .unset, .unset, .unset, .unset, .unset, .unset, .unset, .unset, .unset, .unset, .unset, .unset, .unset] [(.int p5)]))
  refine A (XS.bipush X0.here hx rfl (hb hby at_40)) ?_
  show D (T0.setTop (mkF m 42 #[.val (.int p1), .val (.int p2), .val (.int p3), .val (.int p4), .val (.int p5), .val (.int x5_8), .val (.int x6_16), .val (.int v28s0), .val (.int x8_38), .unset, .unset, .unset, .unset, .unset, .unset, .unset, .unset, .unset, .unset, .unset, .unset, .unset] [(.int (16 : Int32)), (.int p5)]))
  refine A (XS.iand X0.here hx rfl (hb hby at_42) rfl) ?_
  show D (T0.setTop (mkF m 43 #[.val (.int p1), .val (.int p2), .val (.int p3), .val (.int p4), .val (.int p5), .val (.int x5_8), .val (.int x6_16), .val (.int v28s0), .val (.int x8_38), .unset, .unset, .unset, .unset, .unset, .unset, .unset, .unset, .unset, .unset, .unset, .unset, .unset] [(.int (p5 &&& (16 : Int32)))]))
  suffices Km51_2 : ∀ (v51s0 : Int32), v51s0 = (if (p5 &&& (16 : Int32)) = (0 : Int32) then (0 : Int32) else (1 : Int32)) → D (T0.setTop (mkF m 51 #[.val (.int p1), .val (.int p2), .val (.int p3), .val (.int p4), .val (.int p5), .val (.int x5_8), .val (.int x6_16), .val (.int v28s0), .val (.int x8_38), .unset, .unset, .unset, .unset, .unset, .unset, .unset, .unset, .unset, .unset, .unset, .unset, .unset] [(.int v51s0)])) by
    by_cases c43_0 : (p5 &&& (16 : Int32)) = (0 : Int32)
    · refine A (XS.ifYes X0.here hx rfl (pc0 := 43) (pc' := 50) rfl (hb hby at_43) rfl ((if0 _ _).trans (teq c43_0).1) (by decide) (by decide)) ?_
      show D (T0.setTop (mkF m 50 #[.val (.int p1), .val (.int p2), .val (.int p3), .val (.int p4), .val (.int p5), .val (.int x5_8), .val (.int x6_16), .val (.int v28s0), .val (.int x8_38), .unset, .unset, .unset, .unset, .unset, .unset, .unset, .unset, .unset, .unset, .unset, .unset, .unset] []))
      refine A (XS.iconst X0.here hx rfl (hb hby at_50)) ?_
      show D (T0.setTop (mkF m 51 #[.val (.int p1), .val (.int p2), .val (.int p3), .val (.int p4), .val (.int p5), .val (.int x5_8), .val (.int x6_16), .val (.int v28s0), .val (.int x8_38), .unset, .unset, .unset, .unset, .unset, .unset, .unset, .unset, .unset, .unset, .unset, .unset, .unset] [(.int (0 : Int32))]))
      exact Km51_2 _ ((if_pos c43_0)).symm
    · refine A (XS.ifNo X0.here hx rfl (hb hby at_43) rfl ((if0 _ _).trans (feq c43_0).1)) ?_
      show D (T0.setTop (mkF m 46 #[.val (.int p1), .val (.int p2), .val (.int p3), .val (.int p4), .val (.int p5), .val (.int x5_8), .val (.int x6_16), .val (.int v28s0), .val (.int x8_38), .unset, .unset, .unset, .unset, .unset, .unset, .unset, .unset, .unset, .unset, .unset, .unset, .unset] []))
      refine A (XS.iconst X0.here hx rfl (hb hby at_46)) ?_
      show D (T0.setTop (mkF m 47 #[.val (.int p1), .val (.int p2), .val (.int p3), .val (.int p4), .val (.int p5), .val (.int x5_8), .val (.int x6_16), .val (.int v28s0), .val (.int x8_38), .unset, .unset, .unset, .unset, .unset, .unset, .unset, .unset, .unset, .unset, .unset, .unset, .unset] [(.int (1 : Int32))]))
      refine A (XS.goto X0.here hx rfl (pc0 := 47) (pc' := 51) rfl (hb hby at_47) (by decide) (by decide)) ?_
      show D (T0.setTop (mkF m 51 #[.val (.int p1), .val (.int p2), .val (.int p3), .val (.int p4), .val (.int p5), .val (.int x5_8), .val (.int x6_16), .val (.int v28s0), .val (.int x8_38), .unset, .unset, .unset, .unset, .unset, .unset, .unset, .unset, .unset, .unset, .unset, .unset, .unset] [(.int (1 : Int32))]))
      exact Km51_2 _ ((if_neg c43_0)).symm
  intro v51s0 hv51s0
  show D (T0.setTop (mkF m 51 #[.val (.int p1), .val (.int p2), .val (.int p3), .val (.int p4), .val (.int p5), .val (.int x5_8), .val (.int x6_16), .val (.int v28s0), .val (.int x8_38), .unset, .unset, .unset, .unset, .unset, .unset, .unset, .unset, .unset, .unset, .unset, .unset, .unset] [(.int v51s0)]))
  refine A (XS.istore X0.here hx rfl (hb hby at_51) rfl (l' := #[.val (.int p1), .val (.int p2), .val (.int p3), .val (.int p4), .val (.int p5), .val (.int x5_8), .val (.int x6_16), .val (.int v28s0), .val (.int x8_38), .val (.int v51s0), .unset, .unset, .unset, .unset, .unset, .unset, .unset, .unset, .unset, .unset, .unset, .unset]) rfl) ?_
  show D (T0.setTop (mkF m 53 #[.val (.int p1), .val (.int p2), .val (.int p3), .val (.int p4), .val (.int p5), .val (.int x5_8), .val (.int x6_16), .val (.int v28s0), .val (.int x8_38), .val (.int v51s0), .unset, .unset, .unset, .unset, .unset, .unset, .unset, .unset, .unset, .unset, .unset, .unset] []))
  refine A (XS.iload X0.here hx rfl (hb hby at_53) rfl) ?_
  show D (T0.setTop (mkF m 55 #[.val (.int p1), .val (.int p2), .val (.int p3), .val (.int p4), .val (.int p5), .val (.int x5_8), .val (.int x6_16), .val (.int v28s0), .val (.int x8_38), .val (.int v51s0), .unset, .unset, .unset, .unset, .unset, .unset, .unset, .unset, .unset, .unset, .unset, .unset] [(.int p5)]))
  refine A (XS.iconst X0.here hx rfl (hb hby at_55)) ?_
  show D (T0.setTop (mkF m 56 #[.val (.int p1), .val (.int p2), .val (.int p3), .val (.int p4), .val (.int p5), .val (.int x5_8), .val (.int x6_16), .val (.int v28s0), .val (.int x8_38), .val (.int v51s0), .unset, .unset, .unset, .unset, .unset, .unset, .unset, .unset, .unset, .unset, .unset, .unset] [(.int (4 : Int32)), (.int p5)]))
  refine A (XS.iand X0.here hx rfl (hb hby at_56) rfl) ?_
  show D (T0.setTop (mkF m 57 #[.val (.int p1), .val (.int p2), .val (.int p3), .val (.int p4), .val (.int p5), .val (.int x5_8), .val (.int x6_16), .val (.int v28s0), .val (.int x8_38), .val (.int v51s0), .unset, .unset, .unset, .unset, .unset, .unset, .unset, .unset, .unset, .unset, .unset, .unset] [(.int (p5 &&& (4 : Int32)))]))
  suffices Km74_3 : ∀ (v74s0 : Int32), v74s0 = (if (p5 &&& (4 : Int32)) = (0 : Int32) then (p3.toUInt32.toUInt16.toUInt32.toInt32) else (((55296 : Int32) ||| (p3 &&& (1023 : Int32))).toUInt32.toUInt16.toUInt32.toInt32)) → D (T0.setTop (mkF m 74 #[.val (.int p1), .val (.int p2), .val (.int p3), .val (.int p4), .val (.int p5), .val (.int x5_8), .val (.int x6_16), .val (.int v28s0), .val (.int x8_38), .val (.int v51s0), .unset, .unset, .unset, .unset, .unset, .unset, .unset, .unset, .unset, .unset, .unset, .unset] [(.int v74s0)])) by
    by_cases c57_0 : (p5 &&& (4 : Int32)) = (0 : Int32)
    · refine A (XS.ifYes X0.here hx rfl (pc0 := 57) (pc' := 72) rfl (hb hby at_57) rfl ((if0 _ _).trans (teq c57_0).1) (by decide) (by decide)) ?_
      show D (T0.setTop (mkF m 72 #[.val (.int p1), .val (.int p2), .val (.int p3), .val (.int p4), .val (.int p5), .val (.int x5_8), .val (.int x6_16), .val (.int v28s0), .val (.int x8_38), .val (.int v51s0), .unset, .unset, .unset, .unset, .unset, .unset, .unset, .unset, .unset, .unset, .unset, .unset] []))
      refine A (XS.iloadN X0.here hx rfl (hb hby at_72) rfl) ?_
      show D (T0.setTop (mkF m 73 #[.val (.int p1), .val (.int p2), .val (.int p3), .val (.int p4), .val (.int p5), .val (.int x5_8), .val (.int x6_16), .val (.int v28s0), .val (.int x8_38), .val (.int v51s0), .unset, .unset, .unset, .unset, .unset, .unset, .unset, .unset, .unset, .unset, .unset, .unset] [(.int p3)]))
      refine A (XS.i2c X0.here hx rfl (hb hby at_73) rfl) ?_
      show D (T0.setTop (mkF m 74 #[.val (.int p1), .val (.int p2), .val (.int p3), .val (.int p4), .val (.int p5), .val (.int x5_8), .val (.int x6_16), .val (.int v28s0), .val (.int x8_38), .val (.int v51s0), .unset, .unset, .unset, .unset, .unset, .unset, .unset, .unset, .unset, .unset, .unset, .unset] [(.int (p3.toUInt32.toUInt16.toUInt32.toInt32))]))
      exact Km74_3 _ ((if_pos c57_0)).symm
    · refine A (XS.ifNo X0.here hx rfl (hb hby at_57) rfl ((if0 _ _).trans (feq c57_0).1)) ?_
      show D (T0.setTop (mkF m 60 #[.val (.int p1), .val (.int p2), .val (.int p3), .val (.int p4), .val (.int p5), .val (.int x5_8), .val (.int x6_16), .val (.int v28s0), .val (.int x8_38), .val (.int v51s0), .unset, .unset, .unset, .unset, .unset, .unset, .unset, .unset, .unset, .unset, .unset, .unset] []))
      refine A (X0.ldcInt hx hown (mvT hZ (hw _ (List.mem_of_getElem? (i := 170) rfl))) (g := (mkF m 60 #[.val (.int p1), .val (.int p2), .val (.int p3), .val (.int p4), .val (.int p5), .val (.int x5_8), .val (.int x6_16), .val (.int v28s0), .val (.int x8_38), .val (.int v51s0), .unset, .unset, .unset, .unset, .unset, .unset, .unset, .unset, .unset, .unset, .unset, .unset] [])) rfl (hb hby at_60) _) ?_
      show D (T0.setTop (mkF m 62 #[.val (.int p1), .val (.int p2), .val (.int p3), .val (.int p4), .val (.int p5), .val (.int x5_8), .val (.int x6_16), .val (.int v28s0), .val (.int x8_38), .val (.int v51s0), .unset, .unset, .unset, .unset, .unset, .unset, .unset, .unset, .unset, .unset, .unset, .unset] [(.int (55296 : Int32))]))
      refine A (XS.iloadN X0.here hx rfl (hb hby at_62) rfl) ?_
      show D (T0.setTop (mkF m 63 #[.val (.int p1), .val (.int p2), .val (.int p3), .val (.int p4), .val (.int p5), .val (.int x5_8), .val (.int x6_16), .val (.int v28s0), .val (.int x8_38), .val (.int v51s0), .unset, .unset, .unset, .unset, .unset, .unset, .unset, .unset, .unset, .unset, .unset, .unset] [(.int p3), (.int (55296 : Int32))]))
      refine A (XS.sipush X0.here hx rfl (hb hby at_63)) ?_
      show D (T0.setTop (mkF m 66 #[.val (.int p1), .val (.int p2), .val (.int p3), .val (.int p4), .val (.int p5), .val (.int x5_8), .val (.int x6_16), .val (.int v28s0), .val (.int x8_38), .val (.int v51s0), .unset, .unset, .unset, .unset, .unset, .unset, .unset, .unset, .unset, .unset, .unset, .unset] [(.int (1023 : Int32)), (.int p3), (.int (55296 : Int32))]))
      refine A (XS.iand X0.here hx rfl (hb hby at_66) rfl) ?_
      show D (T0.setTop (mkF m 67 #[.val (.int p1), .val (.int p2), .val (.int p3), .val (.int p4), .val (.int p5), .val (.int x5_8), .val (.int x6_16), .val (.int v28s0), .val (.int x8_38), .val (.int v51s0), .unset, .unset, .unset, .unset, .unset, .unset, .unset, .unset, .unset, .unset, .unset, .unset] [(.int (p3 &&& (1023 : Int32))), (.int (55296 : Int32))]))
      refine A (XS.ior X0.here hx rfl (hb hby at_67) rfl) ?_
      show D (T0.setTop (mkF m 68 #[.val (.int p1), .val (.int p2), .val (.int p3), .val (.int p4), .val (.int p5), .val (.int x5_8), .val (.int x6_16), .val (.int v28s0), .val (.int x8_38), .val (.int v51s0), .unset, .unset, .unset, .unset, .unset, .unset, .unset, .unset, .unset, .unset, .unset, .unset] [(.int ((55296 : Int32) ||| (p3 &&& (1023 : Int32))))]))
      refine A (XS.i2c X0.here hx rfl (hb hby at_68) rfl) ?_
      show D (T0.setTop (mkF m 69 #[.val (.int p1), .val (.int p2), .val (.int p3), .val (.int p4), .val (.int p5), .val (.int x5_8), .val (.int x6_16), .val (.int v28s0), .val (.int x8_38), .val (.int v51s0), .unset, .unset, .unset, .unset, .unset, .unset, .unset, .unset, .unset, .unset, .unset, .unset] [(.int (((55296 : Int32) ||| (p3 &&& (1023 : Int32))).toUInt32.toUInt16.toUInt32.toInt32))]))
      refine A (XS.goto X0.here hx rfl (pc0 := 69) (pc' := 74) rfl (hb hby at_69) (by decide) (by decide)) ?_
      show D (T0.setTop (mkF m 74 #[.val (.int p1), .val (.int p2), .val (.int p3), .val (.int p4), .val (.int p5), .val (.int x5_8), .val (.int x6_16), .val (.int v28s0), .val (.int x8_38), .val (.int v51s0), .unset, .unset, .unset, .unset, .unset, .unset, .unset, .unset, .unset, .unset, .unset, .unset] [(.int (((55296 : Int32) ||| (p3 &&& (1023 : Int32))).toUInt32.toUInt16.toUInt32.toInt32))]))
      exact Km74_3 _ ((if_neg c57_0)).symm
  intro v74s0 hv74s0
  show D (T0.setTop (mkF m 74 #[.val (.int p1), .val (.int p2), .val (.int p3), .val (.int p4), .val (.int p5), .val (.int x5_8), .val (.int x6_16), .val (.int v28s0), .val (.int x8_38), .val (.int v51s0), .unset, .unset, .unset, .unset, .unset, .unset, .unset, .unset, .unset, .unset, .unset, .unset] [(.int v74s0)]))
  refine A (XS.istore X0.here hx rfl (hb hby at_74) rfl (l' := #[.val (.int p1), .val (.int p2), .val (.int p3), .val (.int p4), .val (.int p5), .val (.int x5_8), .val (.int x6_16), .val (.int v28s0), .val (.int x8_38), .val (.int v51s0), .val (.int v74s0), .unset, .unset, .unset, .unset, .unset, .unset, .unset, .unset, .unset, .unset, .unset]) rfl) ?_
  show D (T0.setTop (mkF m 76 #[.val (.int p1), .val (.int p2), .val (.int p3), .val (.int p4), .val (.int p5), .val (.int x5_8), .val (.int x6_16), .val (.int v28s0), .val (.int x8_38), .val (.int v51s0), .val (.int v74s0), .unset, .unset, .unset, .unset, .unset, .unset, .unset, .unset, .unset, .unset, .unset] []))
  have hq0 := own_cv hv74s0
  refine A (XS.iload X0.here hx rfl (hb hby at_76) rfl) ?_
  show D (T0.setTop (mkF m 78 #[.val (.int p1), .val (.int p2), .val (.int p3), .val (.int p4), .val (.int p5), .val (.int x5_8), .val (.int x6_16), .val (.int v28s0), .val (.int x8_38), .val (.int v51s0), .val (.int v74s0), .unset, .unset, .unset, .unset, .unset, .unset, .unset, .unset, .unset, .unset, .unset] [(.int p5)]))
  refine A (XS.bipush X0.here hx rfl (hb hby at_78)) ?_
  show D (T0.setTop (mkF m 80 #[.val (.int p1), .val (.int p2), .val (.int p3), .val (.int p4), .val (.int p5), .val (.int x5_8), .val (.int x6_16), .val (.int v28s0), .val (.int x8_38), .val (.int v51s0), .val (.int v74s0), .unset, .unset, .unset, .unset, .unset, .unset, .unset, .unset, .unset, .unset, .unset] [(.int (8 : Int32)), (.int p5)]))
  refine A (XS.iand X0.here hx rfl (hb hby at_80) rfl) ?_
  show D (T0.setTop (mkF m 81 #[.val (.int p1), .val (.int p2), .val (.int p3), .val (.int p4), .val (.int p5), .val (.int x5_8), .val (.int x6_16), .val (.int v28s0), .val (.int x8_38), .val (.int v51s0), .val (.int v74s0), .unset, .unset, .unset, .unset, .unset, .unset, .unset, .unset, .unset, .unset, .unset] [(.int (p5 &&& (8 : Int32)))]))
  suffices Km98_4 : ∀ (v98s0 : Int32), v98s0 = (if (p5 &&& (8 : Int32)) = (0 : Int32) then (p4.toUInt32.toUInt16.toUInt32.toInt32) else (((56320 : Int32) ||| (p4 &&& (1023 : Int32))).toUInt32.toUInt16.toUInt32.toInt32)) → D (T0.setTop (mkF m 98 #[.val (.int p1), .val (.int p2), .val (.int p3), .val (.int p4), .val (.int p5), .val (.int x5_8), .val (.int x6_16), .val (.int v28s0), .val (.int x8_38), .val (.int v51s0), .val (.int v74s0), .unset, .unset, .unset, .unset, .unset, .unset, .unset, .unset, .unset, .unset, .unset] [(.int v98s0)])) by
    by_cases c81_0 : (p5 &&& (8 : Int32)) = (0 : Int32)
    · refine A (XS.ifYes X0.here hx rfl (pc0 := 81) (pc' := 96) rfl (hb hby at_81) rfl ((if0 _ _).trans (teq c81_0).1) (by decide) (by decide)) ?_
      show D (T0.setTop (mkF m 96 #[.val (.int p1), .val (.int p2), .val (.int p3), .val (.int p4), .val (.int p5), .val (.int x5_8), .val (.int x6_16), .val (.int v28s0), .val (.int x8_38), .val (.int v51s0), .val (.int v74s0), .unset, .unset, .unset, .unset, .unset, .unset, .unset, .unset, .unset, .unset, .unset] []))
      refine A (XS.iloadN X0.here hx rfl (hb hby at_96) rfl) ?_
      show D (T0.setTop (mkF m 97 #[.val (.int p1), .val (.int p2), .val (.int p3), .val (.int p4), .val (.int p5), .val (.int x5_8), .val (.int x6_16), .val (.int v28s0), .val (.int x8_38), .val (.int v51s0), .val (.int v74s0), .unset, .unset, .unset, .unset, .unset, .unset, .unset, .unset, .unset, .unset, .unset] [(.int p4)]))
      refine A (XS.i2c X0.here hx rfl (hb hby at_97) rfl) ?_
      show D (T0.setTop (mkF m 98 #[.val (.int p1), .val (.int p2), .val (.int p3), .val (.int p4), .val (.int p5), .val (.int x5_8), .val (.int x6_16), .val (.int v28s0), .val (.int x8_38), .val (.int v51s0), .val (.int v74s0), .unset, .unset, .unset, .unset, .unset, .unset, .unset, .unset, .unset, .unset, .unset] [(.int (p4.toUInt32.toUInt16.toUInt32.toInt32))]))
      exact Km98_4 _ ((if_pos c81_0)).symm
    · refine A (XS.ifNo X0.here hx rfl (hb hby at_81) rfl ((if0 _ _).trans (feq c81_0).1)) ?_
      show D (T0.setTop (mkF m 84 #[.val (.int p1), .val (.int p2), .val (.int p3), .val (.int p4), .val (.int p5), .val (.int x5_8), .val (.int x6_16), .val (.int v28s0), .val (.int x8_38), .val (.int v51s0), .val (.int v74s0), .unset, .unset, .unset, .unset, .unset, .unset, .unset, .unset, .unset, .unset, .unset] []))
      refine A (X0.ldcInt hx hown (mvT hZ (hw _ (List.mem_of_getElem? (i := 174) rfl))) (g := (mkF m 84 #[.val (.int p1), .val (.int p2), .val (.int p3), .val (.int p4), .val (.int p5), .val (.int x5_8), .val (.int x6_16), .val (.int v28s0), .val (.int x8_38), .val (.int v51s0), .val (.int v74s0), .unset, .unset, .unset, .unset, .unset, .unset, .unset, .unset, .unset, .unset, .unset] [])) rfl (hb hby at_84) _) ?_
      show D (T0.setTop (mkF m 86 #[.val (.int p1), .val (.int p2), .val (.int p3), .val (.int p4), .val (.int p5), .val (.int x5_8), .val (.int x6_16), .val (.int v28s0), .val (.int x8_38), .val (.int v51s0), .val (.int v74s0), .unset, .unset, .unset, .unset, .unset, .unset, .unset, .unset, .unset, .unset, .unset] [(.int (56320 : Int32))]))
      refine A (XS.iloadN X0.here hx rfl (hb hby at_86) rfl) ?_
      show D (T0.setTop (mkF m 87 #[.val (.int p1), .val (.int p2), .val (.int p3), .val (.int p4), .val (.int p5), .val (.int x5_8), .val (.int x6_16), .val (.int v28s0), .val (.int x8_38), .val (.int v51s0), .val (.int v74s0), .unset, .unset, .unset, .unset, .unset, .unset, .unset, .unset, .unset, .unset, .unset] [(.int p4), (.int (56320 : Int32))]))
      refine A (XS.sipush X0.here hx rfl (hb hby at_87)) ?_
      show D (T0.setTop (mkF m 90 #[.val (.int p1), .val (.int p2), .val (.int p3), .val (.int p4), .val (.int p5), .val (.int x5_8), .val (.int x6_16), .val (.int v28s0), .val (.int x8_38), .val (.int v51s0), .val (.int v74s0), .unset, .unset, .unset, .unset, .unset, .unset, .unset, .unset, .unset, .unset, .unset] [(.int (1023 : Int32)), (.int p4), (.int (56320 : Int32))]))
      refine A (XS.iand X0.here hx rfl (hb hby at_90) rfl) ?_
      show D (T0.setTop (mkF m 91 #[.val (.int p1), .val (.int p2), .val (.int p3), .val (.int p4), .val (.int p5), .val (.int x5_8), .val (.int x6_16), .val (.int v28s0), .val (.int x8_38), .val (.int v51s0), .val (.int v74s0), .unset, .unset, .unset, .unset, .unset, .unset, .unset, .unset, .unset, .unset, .unset] [(.int (p4 &&& (1023 : Int32))), (.int (56320 : Int32))]))
      refine A (XS.ior X0.here hx rfl (hb hby at_91) rfl) ?_
      show D (T0.setTop (mkF m 92 #[.val (.int p1), .val (.int p2), .val (.int p3), .val (.int p4), .val (.int p5), .val (.int x5_8), .val (.int x6_16), .val (.int v28s0), .val (.int x8_38), .val (.int v51s0), .val (.int v74s0), .unset, .unset, .unset, .unset, .unset, .unset, .unset, .unset, .unset, .unset, .unset] [(.int ((56320 : Int32) ||| (p4 &&& (1023 : Int32))))]))
      refine A (XS.i2c X0.here hx rfl (hb hby at_92) rfl) ?_
      show D (T0.setTop (mkF m 93 #[.val (.int p1), .val (.int p2), .val (.int p3), .val (.int p4), .val (.int p5), .val (.int x5_8), .val (.int x6_16), .val (.int v28s0), .val (.int x8_38), .val (.int v51s0), .val (.int v74s0), .unset, .unset, .unset, .unset, .unset, .unset, .unset, .unset, .unset, .unset, .unset] [(.int (((56320 : Int32) ||| (p4 &&& (1023 : Int32))).toUInt32.toUInt16.toUInt32.toInt32))]))
      refine A (XS.goto X0.here hx rfl (pc0 := 93) (pc' := 98) rfl (hb hby at_93) (by decide) (by decide)) ?_
      show D (T0.setTop (mkF m 98 #[.val (.int p1), .val (.int p2), .val (.int p3), .val (.int p4), .val (.int p5), .val (.int x5_8), .val (.int x6_16), .val (.int v28s0), .val (.int x8_38), .val (.int v51s0), .val (.int v74s0), .unset, .unset, .unset, .unset, .unset, .unset, .unset, .unset, .unset, .unset, .unset] [(.int (((56320 : Int32) ||| (p4 &&& (1023 : Int32))).toUInt32.toUInt16.toUInt32.toInt32))]))
      exact Km98_4 _ ((if_neg c81_0)).symm
  intro v98s0 hv98s0
  show D (T0.setTop (mkF m 98 #[.val (.int p1), .val (.int p2), .val (.int p3), .val (.int p4), .val (.int p5), .val (.int x5_8), .val (.int x6_16), .val (.int v28s0), .val (.int x8_38), .val (.int v51s0), .val (.int v74s0), .unset, .unset, .unset, .unset, .unset, .unset, .unset, .unset, .unset, .unset, .unset] [(.int v98s0)]))
  refine A (XS.istore X0.here hx rfl (hb hby at_98) rfl (l' := #[.val (.int p1), .val (.int p2), .val (.int p3), .val (.int p4), .val (.int p5), .val (.int x5_8), .val (.int x6_16), .val (.int v28s0), .val (.int x8_38), .val (.int v51s0), .val (.int v74s0), .val (.int v98s0), .unset, .unset, .unset, .unset, .unset, .unset, .unset, .unset, .unset, .unset]) rfl) ?_
  show D (T0.setTop (mkF m 100 #[.val (.int p1), .val (.int p2), .val (.int p3), .val (.int p4), .val (.int p5), .val (.int x5_8), .val (.int x6_16), .val (.int v28s0), .val (.int x8_38), .val (.int v51s0), .val (.int v74s0), .val (.int v98s0), .unset, .unset, .unset, .unset, .unset, .unset, .unset, .unset, .unset, .unset] []))
  have hq1 := own_cv hv98s0
  refine A (XS.iconst X0.here hx rfl (hb hby at_100)) ?_
  show D (T0.setTop (mkF m 101 #[.val (.int p1), .val (.int p2), .val (.int p3), .val (.int p4), .val (.int p5), .val (.int x5_8), .val (.int x6_16), .val (.int v28s0), .val (.int x8_38), .val (.int v51s0), .val (.int v74s0), .val (.int v98s0), .unset, .unset, .unset, .unset, .unset, .unset, .unset, .unset, .unset, .unset] [(.int (2 : Int32))]))
  refine Adv.newI A X0 hx hZ (aty := .char) (hw _ (List.mem_of_getElem? (i := 1) rfl)) e0 (n := 2) (by decide) 2 (by decide) (by decide) rfl (ad := "[C") (by decide) (by decide) (by decide) (g := (mkF m 101 #[.val (.int p1), .val (.int p2), .val (.int p3), .val (.int p4), .val (.int p5), .val (.int x5_8), .val (.int x6_16), .val (.int v28s0), .val (.int x8_38), .val (.int v51s0), .val (.int v74s0), .val (.int v98s0), .unset, .unset, .unset, .unset, .unset, .unset, .unset, .unset, .unset, .unset] [(.int (2 : Int32))])) rfl rfl (hb hby at_101) ?_
  intro T5 h5 b5 q_b5 X5 e5 E5 V_b5 EA_b5
  have g_b5 : n0 ≤ b5 := Nat.le_trans Z0 (Nat.le_of_eq q_b5.symm)
  have S_cs_5 := Sta.ext E5 S_cs
  have S_sf_5 := Sta.ext E5 S_sf
  have S_ad_5 := Sta.ext E5 S_ad
  have S_hi_5 := Sta.ext E5 S_hi
  have S_lo_5 := Sta.ext E5 S_lo
  have S_rf_5 := Sta.ext E5 S_rf
  have S_wf_5 := Sta.ext E5 S_wf
  have S_fl_5 := Sta.ext E5 S_fl
  have S_fh_5 := Sta.ext E5 S_fh
  have Z_5 : n0 ≤ h5.size := Nat.le_trans Z0 E5.1
  have hk_5 := Nat.le_trans (Nat.zero_le _) (show _ ≤ h5.size from E5.1)
  show D (T5.setTop (mkF m 103 #[.val (.int p1), .val (.int p2), .val (.int p3), .val (.int p4), .val (.int p5), .val (.int x5_8), .val (.int x6_16), .val (.int v28s0), .val (.int x8_38), .val (.int v51s0), .val (.int v74s0), .val (.int v98s0), .unset, .unset, .unset, .unset, .unset, .unset, .unset, .unset, .unset, .unset] [(.ref b5)]))
  refine A (XS.astore X5.here hx rfl (hb hby at_103) rfl rfl (l' := #[.val (.int p1), .val (.int p2), .val (.int p3), .val (.int p4), .val (.int p5), .val (.int x5_8), .val (.int x6_16), .val (.int v28s0), .val (.int x8_38), .val (.int v51s0), .val (.int v74s0), .val (.int v98s0), .val (.ref b5), .unset, .unset, .unset, .unset, .unset, .unset, .unset, .unset, .unset]) rfl) ?_
  show D (T5.setTop (mkF m 105 #[.val (.int p1), .val (.int p2), .val (.int p3), .val (.int p4), .val (.int p5), .val (.int x5_8), .val (.int x6_16), .val (.int v28s0), .val (.int x8_38), .val (.int v51s0), .val (.int v74s0), .val (.int v98s0), .val (.ref b5), .unset, .unset, .unset, .unset, .unset, .unset, .unset, .unset, .unset] []))
  refine A (XS.aload X5.here hx rfl (hb hby at_105) rfl rfl) ?_
  show D (T5.setTop (mkF m 107 #[.val (.int p1), .val (.int p2), .val (.int p3), .val (.int p4), .val (.int p5), .val (.int x5_8), .val (.int x6_16), .val (.int v28s0), .val (.int x8_38), .val (.int v51s0), .val (.int v74s0), .val (.int v98s0), .val (.ref b5), .unset, .unset, .unset, .unset, .unset, .unset, .unset, .unset, .unset] [(.ref b5)]))
  refine A (XS.iconst X5.here hx rfl (hb hby at_107)) ?_
  show D (T5.setTop (mkF m 108 #[.val (.int p1), .val (.int p2), .val (.int p3), .val (.int p4), .val (.int p5), .val (.int x5_8), .val (.int x6_16), .val (.int v28s0), .val (.int x8_38), .val (.int v51s0), .val (.int v74s0), .val (.int v98s0), .val (.ref b5), .unset, .unset, .unset, .unset, .unset, .unset, .unset, .unset, .unset] [(.int (0 : Int32)), (.ref b5)]))
  refine A (XS.iload X5.here hx rfl (hb hby at_108) rfl) ?_
  show D (T5.setTop (mkF m 110 #[.val (.int p1), .val (.int p2), .val (.int p3), .val (.int p4), .val (.int p5), .val (.int x5_8), .val (.int x6_16), .val (.int v28s0), .val (.int x8_38), .val (.int v51s0), .val (.int v74s0), .val (.int v98s0), .val (.ref b5), .unset, .unset, .unset, .unset, .unset, .unset, .unset, .unset, .unset] [(.int v74s0), (.int (0 : Int32)), (.ref b5)]))
  refine Adv.stC A X5 hx hZ e5 V_b5 (k := 0) (by decide) (by decide) (g := (mkF m 110 #[.val (.int p1), .val (.int p2), .val (.int p3), .val (.int p4), .val (.int p5), .val (.int x5_8), .val (.int x6_16), .val (.int v28s0), .val (.int x8_38), .val (.int v51s0), .val (.int v74s0), .val (.int v98s0), .val (.ref b5), .unset, .unset, .unset, .unset, .unset, .unset, .unset, .unset, .unset] [(.int v74s0), (.int (0 : Int32)), (.ref b5)])) rfl rfl (hb hby at_110) ?_
  intro T6 h6 X6 e6 W6 Vb5_6
  have N6 := Fr.snoc X6 (Fr.nil n0) g_b5
  have S_cs_6 := Sta.wr W6 S_cs_5
  have S_sf_6 := Sta.wr W6 S_sf_5
  have S_ad_6 := Sta.wr W6 S_ad_5
  have S_hi_6 := Sta.wr W6 S_hi_5
  have S_lo_6 := Sta.wr W6 S_lo_5
  have S_rf_6 := Sta.wr W6 S_rf_5
  have S_wf_6 := Sta.wr W6 S_wf_5
  have S_fl_6 := Sta.wr W6 S_fl_5
  have S_fh_6 := Sta.wr W6 S_fh_5
  have Z_6 : n0 ≤ h6.size := Nat.le_trans Z_5 (Nat.le_of_eq W6.size.symm)
  have hk_6 := Nat.le_trans hk_5 (Nat.le_of_eq W6.size.symm)
  show D (T6.setTop (mkF m 111 #[.val (.int p1), .val (.int p2), .val (.int p3), .val (.int p4), .val (.int p5), .val (.int x5_8), .val (.int x6_16), .val (.int v28s0), .val (.int x8_38), .val (.int v51s0), .val (.int v74s0), .val (.int v98s0), .val (.ref b5), .unset, .unset, .unset, .unset, .unset, .unset, .unset, .unset, .unset] []))
  refine A (XS.aload X6.here hx rfl (hb hby at_111) rfl rfl) ?_
  show D (T6.setTop (mkF m 113 #[.val (.int p1), .val (.int p2), .val (.int p3), .val (.int p4), .val (.int p5), .val (.int x5_8), .val (.int x6_16), .val (.int v28s0), .val (.int x8_38), .val (.int v51s0), .val (.int v74s0), .val (.int v98s0), .val (.ref b5), .unset, .unset, .unset, .unset, .unset, .unset, .unset, .unset, .unset] [(.ref b5)]))
  refine A (XS.iconst X6.here hx rfl (hb hby at_113)) ?_
  show D (T6.setTop (mkF m 114 #[.val (.int p1), .val (.int p2), .val (.int p3), .val (.int p4), .val (.int p5), .val (.int x5_8), .val (.int x6_16), .val (.int v28s0), .val (.int x8_38), .val (.int v51s0), .val (.int v74s0), .val (.int v98s0), .val (.ref b5), .unset, .unset, .unset, .unset, .unset, .unset, .unset, .unset, .unset] [(.int (1 : Int32)), (.ref b5)]))
  refine A (XS.iload X6.here hx rfl (hb hby at_114) rfl) ?_
  show D (T6.setTop (mkF m 116 #[.val (.int p1), .val (.int p2), .val (.int p3), .val (.int p4), .val (.int p5), .val (.int x5_8), .val (.int x6_16), .val (.int v28s0), .val (.int x8_38), .val (.int v51s0), .val (.int v74s0), .val (.int v98s0), .val (.ref b5), .unset, .unset, .unset, .unset, .unset, .unset, .unset, .unset, .unset] [(.int v98s0), (.int (1 : Int32)), (.ref b5)]))
  refine Adv.stC A X6 hx hZ e6 Vb5_6 (k := 1) (by decide) (by decide) (g := (mkF m 116 #[.val (.int p1), .val (.int p2), .val (.int p3), .val (.int p4), .val (.int p5), .val (.int x5_8), .val (.int x6_16), .val (.int v28s0), .val (.int x8_38), .val (.int v51s0), .val (.int v74s0), .val (.int v98s0), .val (.ref b5), .unset, .unset, .unset, .unset, .unset, .unset, .unset, .unset, .unset] [(.int v98s0), (.int (1 : Int32)), (.ref b5)])) rfl rfl (hb hby at_116) ?_
  intro T7 h7 X7 e7 W7 Vb5_7
  have N7 := Fr.snoc X7 N6 g_b5
  have S_cs_7 := Sta.wr W7 S_cs_6
  have S_sf_7 := Sta.wr W7 S_sf_6
  have S_ad_7 := Sta.wr W7 S_ad_6
  have S_hi_7 := Sta.wr W7 S_hi_6
  have S_lo_7 := Sta.wr W7 S_lo_6
  have S_rf_7 := Sta.wr W7 S_rf_6
  have S_wf_7 := Sta.wr W7 S_wf_6
  have S_fl_7 := Sta.wr W7 S_fl_6
  have S_fh_7 := Sta.wr W7 S_fh_6
  have Z_7 : n0 ≤ h7.size := Nat.le_trans Z_6 (Nat.le_of_eq W7.size.symm)
  have hk_7 := Nat.le_trans hk_6 (Nat.le_of_eq W7.size.symm)
  show D (T7.setTop (mkF m 117 #[.val (.int p1), .val (.int p2), .val (.int p3), .val (.int p4), .val (.int p5), .val (.int x5_8), .val (.int x6_16), .val (.int v28s0), .val (.int x8_38), .val (.int v51s0), .val (.int v74s0), .val (.int v98s0), .val (.ref b5), .unset, .unset, .unset, .unset, .unset, .unset, .unset, .unset, .unset] []))
  obtain ⟨T8, h8, X8, e8, E8, A8, D8, -, st8⟩ := newO X7 hx hZ hown (hw _ (List.mem_of_getElem? (i := 2) rfl)) (hw _ (List.mem_of_getElem? (i := 3) rfl)) (hw _ (List.mem_of_getElem? (i := 4) rfl)) e7 (g := (mkF m 117 #[.val (.int p1), .val (.int p2), .val (.int p3), .val (.int p4), .val (.int p5), .val (.int x5_8), .val (.int x6_16), .val (.int v28s0), .val (.int x8_38), .val (.int v51s0), .val (.int v74s0), .val (.int v98s0), .val (.ref b5), .unset, .unset, .unset, .unset, .unset, .unset, .unset, .unset, .unset] [])) rfl (hb hby at_117) (by decide) (by decide)
  obtain ⟨b8, q_b8⟩ : ∃ z, z = h7.size := ⟨_, rfl⟩
  rw [← q_b8] at A8 D8 st8
  have ne_b5_b8 : b5 ≠ b8 := Nat.ne_of_lt (Nat.lt_of_lt_of_le Vb5_7.lt (Nat.le_of_eq q_b8.symm))
  have g_b8 : n0 ≤ b8 := Nat.le_trans Z_7 (Nat.le_of_eq q_b8.symm)
  have V_b5_8 := Vb5_7.ext E8
  have S_cs_8 := Sta.ext E8 S_cs_7
  have S_sf_8 := Sta.ext E8 S_sf_7
  have S_ad_8 := Sta.ext E8 S_ad_7
  have S_hi_8 := Sta.ext E8 S_hi_7
  have S_lo_8 := Sta.ext E8 S_lo_7
  have S_rf_8 := Sta.ext E8 S_rf_7
  have S_wf_8 := Sta.ext E8 S_wf_7
  have S_fl_8 := Sta.ext E8 S_fl_7
  have S_fh_8 := Sta.ext E8 S_fh_7
  have Z_8 : n0 ≤ h8.size := Nat.le_trans Z_7 E8.1
  have hk_8 := Nat.le_trans hk_7 E8.1
  have F_coder_b8 : Fld Z h8 b8 "java/lang/String" "coder" "B" (.int (0 : Int32)) := D8 (Or.inr (hw _ (List.mem_of_getElem? (i := 28) rfl))) (ty := .byte) (by decide)
  have F_value_b8 : Fld Z h8 b8 "java/lang/String" "value" "[B" .null := D8 (Or.inr (hw _ (List.mem_of_getElem? (i := 30) rfl))) (ty := (.array .byte)) (by decide)
  refine A (st8 _) ?_
  show D (T8.setTop (mkF m 120 #[.val (.int p1), .val (.int p2), .val (.int p3), .val (.int p4), .val (.int p5), .val (.int x5_8), .val (.int x6_16), .val (.int v28s0), .val (.int x8_38), .val (.int v51s0), .val (.int v74s0), .val (.int v98s0), .val (.ref b5), .unset, .unset, .unset, .unset, .unset, .unset, .unset, .unset, .unset] [(.ref b8)]))
  refine A (XS.dup X8.here hx rfl (hb hby at_120) rfl rfl) ?_
  show D (T8.setTop (mkF m 121 #[.val (.int p1), .val (.int p2), .val (.int p3), .val (.int p4), .val (.int p5), .val (.int x5_8), .val (.int x6_16), .val (.int v28s0), .val (.int x8_38), .val (.int v51s0), .val (.int v74s0), .val (.int v98s0), .val (.ref b5), .unset, .unset, .unset, .unset, .unset, .unset, .unset, .unset, .unset] [(.ref b8), (.ref b8)]))
  refine A (XS.aload X8.here hx rfl (hb hby at_121) rfl rfl) ?_
  show D (T8.setTop (mkF m 123 #[.val (.int p1), .val (.int p2), .val (.int p3), .val (.int p4), .val (.int p5), .val (.int x5_8), .val (.int x6_16), .val (.int v28s0), .val (.int x8_38), .val (.int v51s0), .val (.int v74s0), .val (.int v98s0), .val (.ref b5), .unset, .unset, .unset, .unset, .unset, .unset, .unset, .unset, .unset] [(.ref b5), (.ref b8), (.ref b8)]))
  refine Adv.callI A X8 hx hZ hown rfl (hw _ (List.mem_of_getElem? (i := 5) rfl)) (hw _ (List.mem_of_getElem? (i := 6) rfl)) (hw _ (List.mem_of_getElem? (i := 4) rfl)) (hw _ (List.mem_of_getElem? (i := 7) rfl)) e8 (rm1 l Z a0 hw [] b8 b5 h8 n0 cs hcs (fun ix => if ix = 1 then v98s0.toUInt32.toUInt16.toUInt32.toInt32 else (fun ix => if ix = 0 then v74s0.toUInt32.toUInt16.toUInt32.toInt32 else (fun _ => 0) ix) ix) (own_hch v74s0 v98s0) Z_8 g_b8 A8 F_coder_b8 F_value_b8 V_b5_8 S_cs_8 S_ad_8 S_hi_8 S_lo_8) 1 (g := (mkF m 123 #[.val (.int p1), .val (.int p2), .val (.int p3), .val (.int p4), .val (.int p5), .val (.int x5_8), .val (.int x6_16), .val (.int v28s0), .val (.int x8_38), .val (.int v51s0), .val (.int v74s0), .val (.int v98s0), .val (.ref b5), .unset, .unset, .unset, .unset, .unset, .unset, .unset, .unset, .unset] [(.ref b5), (.ref b8), (.ref b8)])) rfl (by rw [hml]; rfl) b8 [(.ref b5)] [(.ref b8)] rfl (lenOf pd0_0 rfl) rfl (by show 2 * 0 + _ ≤ _; exact Nat.le_of_eq rfl) (hb hby at_123) (by decide) (by decide) (by decide) (by decide) (by decide) ?_
  rintro T9 L9 _ X9 ⟨rfl, b9, cd, nb, fb, N9_q, K9, -, F9_c, F9_v, V9_q, szq_b9, hSt⟩
  have N9 := Fr.app N7 N9_q
  have ne_b5_b9 : b5 ≠ b9 := Nat.ne_of_lt (Nat.lt_of_lt_of_le V_b5_8.lt szq_b9)
  have ne_b8_b9 : b8 ≠ b9 := Nat.ne_of_lt (Nat.lt_of_lt_of_le A8.lt szq_b9)
  have g_b9 : n0 ≤ b9 := Nat.le_trans Z_8 szq_b9
  have V_b5_9 := V_b5_8.keep K9 (ninS ne_b5_b8 nin0)
  have E_b8_9 := A8.keep K9
  have S_cs_9 := own_stk S_cs_8 K9 (own_nsc (own_nsE A8) own_nsn)
  have S_sf_9 := own_stk S_sf_8 K9 (own_nsc (own_nsE A8) own_nsn)
  have S_ad_9 := own_stk S_ad_8 K9 (own_nsc (own_nsE A8) own_nsn)
  have S_hi_9 := own_stk S_hi_8 K9 (own_nsc (own_nsE A8) own_nsn)
  have S_lo_9 := own_stk S_lo_8 K9 (own_nsc (own_nsE A8) own_nsn)
  have S_rf_9 := own_stk S_rf_8 K9 (own_nsc (own_nsE A8) own_nsn)
  have S_wf_9 := own_stk S_wf_8 K9 (own_nsc (own_nsE A8) own_nsn)
  have S_fl_9 := own_stk S_fl_8 K9 (own_nsc (own_nsE A8) own_nsn)
  have S_fh_9 := own_stk S_fh_8 K9 (own_nsc (own_nsE A8) own_nsn)
  have Z_9 : n0 ≤ T9.heap.size := Nat.le_trans Z_8 K9.1
  have hk_9 := Nat.le_trans hk_8 K9.1
  show D (T9.setTop (mkF m 126 #[.val (.int p1), .val (.int p2), .val (.int p3), .val (.int p4), .val (.int p5), .val (.int x5_8), .val (.int x6_16), .val (.int v28s0), .val (.int x8_38), .val (.int v51s0), .val (.int v74s0), .val (.int v98s0), .val (.ref b5), .unset, .unset, .unset, .unset, .unset, .unset, .unset, .unset, .unset] [(.ref b8)]))
  have hSt : own_S cd nb fb v74s0 v98s0 := by have z : own_S cd nb fb (own_i2c v74s0) (own_i2c v98s0) := hSt; rw [own_i2c_id hq0, own_i2c_id hq1] at z; exact z
  refine A (XS.astore X9.here hx rfl (hb hby at_126) rfl rfl (l' := #[.val (.int p1), .val (.int p2), .val (.int p3), .val (.int p4), .val (.int p5), .val (.int x5_8), .val (.int x6_16), .val (.int v28s0), .val (.int x8_38), .val (.int v51s0), .val (.int v74s0), .val (.int v98s0), .val (.ref b5), .val (.ref b8), .unset, .unset, .unset, .unset, .unset, .unset, .unset, .unset]) rfl) ?_
  show D (T9.setTop (mkF m 128 #[.val (.int p1), .val (.int p2), .val (.int p3), .val (.int p4), .val (.int p5), .val (.int x5_8), .val (.int x6_16), .val (.int v28s0), .val (.int x8_38), .val (.int v51s0), .val (.int v74s0), .val (.int v98s0), .val (.ref b5), .val (.ref b8), .unset, .unset, .unset, .unset, .unset, .unset, .unset, .unset] []))
  obtain ⟨T10, h10, X10, e10, E10, A10, D10, -, st10⟩ := newO X9 hx hZ hown (hw _ (List.mem_of_getElem? (i := 31) rfl)) (hw _ (List.mem_of_getElem? (i := 32) rfl)) (hw _ (List.mem_of_getElem? (i := 33) rfl)) rfl (g := (mkF m 128 #[.val (.int p1), .val (.int p2), .val (.int p3), .val (.int p4), .val (.int p5), .val (.int x5_8), .val (.int x6_16), .val (.int v28s0), .val (.int x8_38), .val (.int v51s0), .val (.int v74s0), .val (.int v98s0), .val (.ref b5), .val (.ref b8), .unset, .unset, .unset, .unset, .unset, .unset, .unset, .unset] [])) rfl (hb hby at_128) (by decide) (by decide)
  obtain ⟨b10, q_b10⟩ : ∃ z, z = T9.heap.size := ⟨_, rfl⟩
  rw [← q_b10] at A10 D10 st10
  have ne_b5_b10 : b5 ≠ b10 := Nat.ne_of_lt (Nat.lt_of_lt_of_le V_b5_9.lt (Nat.le_of_eq q_b10.symm))
  have ne_b8_b10 : b8 ≠ b10 := Nat.ne_of_lt (Nat.lt_of_lt_of_le E_b8_9.lt (Nat.le_of_eq q_b10.symm))
  have ne_b9_b10 : b9 ≠ b10 := Nat.ne_of_lt (Nat.lt_of_lt_of_le V9_q.lt (Nat.le_of_eq q_b10.symm))
  have g_b10 : n0 ≤ b10 := Nat.le_trans Z_9 (Nat.le_of_eq q_b10.symm)
  have V_b5_10 := V_b5_9.ext E10
  have E_b8_10 := E_b8_9.ext E10
  have F_coder_b8_10 := F9_c.ext E10
  have F_value_b8_10 := F9_v.ext E10
  have V_b9_10 := V9_q.ext E10
  have S_cs_10 := Sta.ext E10 S_cs_9
  have S_sf_10 := Sta.ext E10 S_sf_9
  have S_ad_10 := Sta.ext E10 S_ad_9
  have S_hi_10 := Sta.ext E10 S_hi_9
  have S_lo_10 := Sta.ext E10 S_lo_9
  have S_rf_10 := Sta.ext E10 S_rf_9
  have S_wf_10 := Sta.ext E10 S_wf_9
  have S_fl_10 := Sta.ext E10 S_fl_9
  have S_fh_10 := Sta.ext E10 S_fh_9
  have Z_10 : n0 ≤ h10.size := Nat.le_trans Z_9 E10.1
  have hk_10 := Nat.le_trans hk_9 E10.1
  have F_policy_b10 : Fld Z h10 b10 "com/example/carmenta/carmenta/ScalarReader" "policy" "Lcom/example/carmenta/carmenta/OnIllFormed;" .null := D10 (Or.inl (hw _ (List.mem_of_getElem? (i := 50) rfl))) (ty := (.object "com/example/carmenta/carmenta/OnIllFormed")) (by decide)
  have F_firstReplaced_b10 : Fld Z h10 b10 "com/example/carmenta/carmenta/ScalarReader" "firstReplaced" "Lcom/example/carmenta/carmenta/Validation;" .null := D10 (Or.inl (hw _ (List.mem_of_getElem? (i := 58) rfl))) (ty := (.object "com/example/carmenta/carmenta/Validation")) (by decide)
  have F_last_b10 : Fld Z h10 b10 "com/example/carmenta/carmenta/CharReader" "last" "Z" (.int (0 : Int32)) := D10 (Or.inl (hw _ (List.mem_of_getElem? (i := 60) rfl))) (ty := .boolean) (by decide)
  have F_chars_b10 : Fld Z h10 b10 "com/example/carmenta/carmenta/CharReader" "chars" "Ljava/lang/CharSequence;" .null := D10 (Or.inl (hw _ (List.mem_of_getElem? (i := 62) rfl))) (ty := (.object "java/lang/CharSequence")) (by decide)
  have F_index_b10 : Fld Z h10 b10 "com/example/carmenta/carmenta/CharReader" "index" "I" (.int (0 : Int32)) := D10 (Or.inl (hw _ (List.mem_of_getElem? (i := 69) rfl))) (ty := .int) (by decide)
  have F_start_b10 : Fld Z h10 b10 "com/example/carmenta/carmenta/CharReader" "start" "J" (.long (0 : Int64)) := D10 (Or.inl (hw _ (List.mem_of_getElem? (i := 77) rfl))) (ty := .long) (by decide)
  have F_fault_b10 : Fld Z h10 b10 "com/example/carmenta/carmenta/ScalarReader" "fault" "Lcom/example/carmenta/carmenta/Fault;" .null := D10 (Or.inl (hw _ (List.mem_of_getElem? (i := 222) rfl))) (ty := (.object "com/example/carmenta/carmenta/Fault")) (by decide)
  have F_subpart_b10 : Fld Z h10 b10 "com/example/carmenta/carmenta/ScalarReader" "subpart" "I" (.int (0 : Int32)) := D10 (Or.inl (hw _ (List.mem_of_getElem? (i := 224) rfl))) (ty := .int) (by decide)
  refine A (st10 _) ?_
  show D (T10.setTop (mkF m 131 #[.val (.int p1), .val (.int p2), .val (.int p3), .val (.int p4), .val (.int p5), .val (.int x5_8), .val (.int x6_16), .val (.int v28s0), .val (.int x8_38), .val (.int v51s0), .val (.int v74s0), .val (.int v98s0), .val (.ref b5), .val (.ref b8), .unset, .unset, .unset, .unset, .unset, .unset, .unset, .unset] [(.ref b10)]))
  refine A (XS.dup X10.here hx rfl (hb hby at_131) rfl rfl) ?_
  show D (T10.setTop (mkF m 132 #[.val (.int p1), .val (.int p2), .val (.int p3), .val (.int p4), .val (.int p5), .val (.int x5_8), .val (.int x6_16), .val (.int v28s0), .val (.int x8_38), .val (.int v51s0), .val (.int v74s0), .val (.int v98s0), .val (.ref b5), .val (.ref b8), .unset, .unset, .unset, .unset, .unset, .unset, .unset, .unset] [(.ref b10), (.ref b10)]))
  have wS11 : ∀ d ∈ Bundle.stringAtoms, d.before a0 Z = true := by
    intro d hd
    simp only [Bundle.stringAtoms, List.mem_cons, List.not_mem_nil, or_false] at hd
    rcases hd with rfl | rfl | rfl | rfl | rfl | rfl | rfl
    · exact (hw _ (List.mem_of_getElem? (i := 4) rfl))
    · exact (hw _ (List.mem_of_getElem? (i := 3) rfl))
    · exact (hw _ (List.mem_of_getElem? (i := 20) rfl))
    · exact (hw _ (List.mem_of_getElem? (i := 30) rfl))
    · exact (hw _ (List.mem_of_getElem? (i := 28) rfl))
    · exact (hw _ (List.mem_of_getElem? (i := 35) rfl))
    · exact (hw _ (List.mem_of_getElem? (i := 36) rfl))
  obtain ⟨sa11, T11, h11, k1, X11, e11, E11, hS, hk11, hZ, hown, st11⟩ := ldcS (s := s) X10 hx hZ hown (hw _ (List.mem_of_getElem? (i := 34) rfl)) wS11 e10 hS hk_10 (g := (mkF m 132 #[.val (.int p1), .val (.int p2), .val (.int p3), .val (.int p4), .val (.int p5), .val (.int x5_8), .val (.int x6_16), .val (.int v28s0), .val (.int x8_38), .val (.int v51s0), .val (.int v74s0), .val (.int v98s0), .val (.ref b5), .val (.ref b8), .unset, .unset, .unset, .unset, .unset, .unset, .unset, .unset] [(.ref b10), (.ref b10)])) rfl (hb hby at_132) (n := 12) (by decide) (by decide) (by decide) (by decide)
  have V_b5_11 := V_b5_10.ext E11
  have E_b8_11 := E_b8_10.ext E11
  have F_coder_b8_11 := F_coder_b8_10.ext E11
  have F_value_b8_11 := F_value_b8_10.ext E11
  have V_b9_11 := V_b9_10.ext E11
  have E_b10_11 := A10.ext E11
  have F_policy_b10_11 := F_policy_b10.ext E11
  have F_firstReplaced_b10_11 := F_firstReplaced_b10.ext E11
  have F_last_b10_11 := F_last_b10.ext E11
  have F_chars_b10_11 := F_chars_b10.ext E11
  have F_index_b10_11 := F_index_b10.ext E11
  have F_start_b10_11 := F_start_b10.ext E11
  have F_fault_b10_11 := F_fault_b10.ext E11
  have F_subpart_b10_11 := F_subpart_b10.ext E11
  have S_cs_11 := Sta.ext E11 S_cs_10
  have S_sf_11 := Sta.ext E11 S_sf_10
  have S_ad_11 := Sta.ext E11 S_ad_10
  have S_hi_11 := Sta.ext E11 S_hi_10
  have S_lo_11 := Sta.ext E11 S_lo_10
  have S_rf_11 := Sta.ext E11 S_rf_10
  have S_wf_11 := Sta.ext E11 S_wf_10
  have S_fl_11 := Sta.ext E11 S_fl_10
  have S_fh_11 := Sta.ext E11 S_fh_10
  have Z_11 : n0 ≤ h11.size := Nat.le_trans Z_10 E11.1
  refine A (st11 _) ?_
  show D (T11.setTop (mkF m 134 #[.val (.int p1), .val (.int p2), .val (.int p3), .val (.int p4), .val (.int p5), .val (.int x5_8), .val (.int x6_16), .val (.int v28s0), .val (.int x8_38), .val (.int v51s0), .val (.int v74s0), .val (.int v98s0), .val (.ref b5), .val (.ref b8), .unset, .unset, .unset, .unset, .unset, .unset, .unset, .unset] [(.ref sa11), (.ref b10), (.ref b10)]))
  refine Adv.callI A X11 hx hZ hown rfl (hw _ (List.mem_of_getElem? (i := 37) rfl)) (hw _ (List.mem_of_getElem? (i := 38) rfl)) (hw _ (List.mem_of_getElem? (i := 33) rfl)) (hw _ (List.mem_of_getElem? (i := 39) rfl)) e11 (rm7 l Z a0 hw [] b10 sa11 h11 n0 rfu wf Z_11 g_b10 E_b10_11 F_last_b10_11 F_chars_b10_11 F_index_b10_11 F_start_b10_11 F_fault_b10_11 F_subpart_b10_11 F_policy_b10_11 F_firstReplaced_b10_11 S_rf_11 S_wf_11) 1 (g := (mkF m 134 #[.val (.int p1), .val (.int p2), .val (.int p3), .val (.int p4), .val (.int p5), .val (.int x5_8), .val (.int x6_16), .val (.int v28s0), .val (.int x8_38), .val (.int v51s0), .val (.int v74s0), .val (.int v98s0), .val (.ref b5), .val (.ref b8), .unset, .unset, .unset, .unset, .unset, .unset, .unset, .unset] [(.ref sa11), (.ref b10), (.ref b10)])) rfl (by rw [hml]; rfl) b10 [(.ref sa11)] [(.ref b10)] rfl (lenOf pd0_1 rfl) rfl (by show 2 * 0 + _ ≤ _; exact Nat.le_of_eq rfl) (hb hby at_134) (by decide) (by decide) (by decide) (by decide) (by decide) ?_
  rintro T12 L12 _ X12 ⟨rfl, N12_q, K12, -, F12_last, F12_chars, F12_index, F12_start, F12_fault, F12_subpart⟩
  have N12 := Fr.app N9 N12_q
  have V_b5_12 := V_b5_11.keep K12 (ninS ne_b5_b10 nin0)
  have E_b8_12 := E_b8_11.keep K12
  have F_coder_b8_12 := F_coder_b8_11.keep K12 (ninS ne_b8_b10 nin0)
  have F_value_b8_12 := F_value_b8_11.keep K12 (ninS ne_b8_b10 nin0)
  have V_b9_12 := V_b9_11.keep K12 (ninS ne_b9_b10 nin0)
  have E_b10_12 := E_b10_11.keep K12
  have S_cs_12 := own_stk S_cs_11 K12 (own_nsc (own_nsE E_b10_11) own_nsn)
  have S_sf_12 := own_stk S_sf_11 K12 (own_nsc (own_nsE E_b10_11) own_nsn)
  have S_ad_12 := own_stk S_ad_11 K12 (own_nsc (own_nsE E_b10_11) own_nsn)
  have S_hi_12 := own_stk S_hi_11 K12 (own_nsc (own_nsE E_b10_11) own_nsn)
  have S_lo_12 := own_stk S_lo_11 K12 (own_nsc (own_nsE E_b10_11) own_nsn)
  have S_rf_12 := own_stk S_rf_11 K12 (own_nsc (own_nsE E_b10_11) own_nsn)
  have S_wf_12 := own_stk S_wf_11 K12 (own_nsc (own_nsE E_b10_11) own_nsn)
  have S_fl_12 := own_stk S_fl_11 K12 (own_nsc (own_nsE E_b10_11) own_nsn)
  have S_fh_12 := own_stk S_fh_11 K12 (own_nsc (own_nsE E_b10_11) own_nsn)
  have Z_12 : n0 ≤ T12.heap.size := Nat.le_trans Z_11 K12.1
  have hk_12 := Nat.le_trans hk11 K12.1
  show D (T12.setTop (mkF m 137 #[.val (.int p1), .val (.int p2), .val (.int p3), .val (.int p4), .val (.int p5), .val (.int x5_8), .val (.int x6_16), .val (.int v28s0), .val (.int x8_38), .val (.int v51s0), .val (.int v74s0), .val (.int v98s0), .val (.ref b5), .val (.ref b8), .unset, .unset, .unset, .unset, .unset, .unset, .unset, .unset] [(.ref b10)]))
  refine A (XS.astore X12.here hx rfl (hb hby at_137) rfl rfl (l' := #[.val (.int p1), .val (.int p2), .val (.int p3), .val (.int p4), .val (.int p5), .val (.int x5_8), .val (.int x6_16), .val (.int v28s0), .val (.int x8_38), .val (.int v51s0), .val (.int v74s0), .val (.int v98s0), .val (.ref b5), .val (.ref b8), .val (.ref b10), .unset, .unset, .unset, .unset, .unset, .unset, .unset]) rfl) ?_
  show D (T12.setTop (mkF m 139 #[.val (.int p1), .val (.int p2), .val (.int p3), .val (.int p4), .val (.int p5), .val (.int x5_8), .val (.int x6_16), .val (.int v28s0), .val (.int x8_38), .val (.int v51s0), .val (.int v74s0), .val (.int v98s0), .val (.ref b5), .val (.ref b8), .val (.ref b10), .unset, .unset, .unset, .unset, .unset, .unset, .unset] []))
  refine A (XS.aload X12.here hx rfl (hb hby at_139) rfl rfl) ?_
  show D (T12.setTop (mkF m 141 #[.val (.int p1), .val (.int p2), .val (.int p3), .val (.int p4), .val (.int p5), .val (.int x5_8), .val (.int x6_16), .val (.int v28s0), .val (.int x8_38), .val (.int v51s0), .val (.int v74s0), .val (.int v98s0), .val (.ref b5), .val (.ref b8), .val (.ref b10), .unset, .unset, .unset, .unset, .unset, .unset, .unset] [(.ref b10)]))
  refine A (XS.iload X12.here hx rfl (hb hby at_141) rfl) ?_
  show D (T12.setTop (mkF m 143 #[.val (.int p1), .val (.int p2), .val (.int p3), .val (.int p4), .val (.int p5), .val (.int x5_8), .val (.int x6_16), .val (.int v28s0), .val (.int x8_38), .val (.int v51s0), .val (.int v74s0), .val (.int v98s0), .val (.ref b5), .val (.ref b8), .val (.ref b10), .unset, .unset, .unset, .unset, .unset, .unset, .unset] [(.int x5_8), (.ref b10)]))
  refine Adv.callV A X12 hx hZ hown (hw _ (List.mem_of_getElem? (i := 63) rfl)) (hw _ (List.mem_of_getElem? (i := 64) rfl)) (notFace_of_selects (args := #[]) (mvT hZ (hw _ (List.mem_of_getElem? (i := 66) rfl)))) (hw _ (List.mem_of_getElem? (i := 66) rfl)) (hw _ (List.mem_of_getElem? (i := 65) rfl)) (hw _ (List.mem_of_getElem? (i := 33) rfl)) (hw _ (List.mem_of_getElem? (i := 67) rfl)) rfl E_b10_12 (rm10 l Z a0 hw [] b10 x5_8 T12.heap n0 (1 : Int32) (0 : Int32) (0 : Int64) sa11 Z_12 g_b10 E_b10_12 F12_last F12_chars F12_index F12_start F12_fault F12_subpart ) 0 (g := (mkF m 143 #[.val (.int p1), .val (.int p2), .val (.int p3), .val (.int p4), .val (.int p5), .val (.int x5_8), .val (.int x6_16), .val (.int v28s0), .val (.int x8_38), .val (.int v51s0), .val (.int v74s0), .val (.int v98s0), .val (.ref b5), .val (.ref b8), .val (.ref b10), .unset, .unset, .unset, .unset, .unset, .unset, .unset] [(.int x5_8), (.ref b10)])) rfl (by rw [hml]; rfl) [(.int x5_8)] [] rfl (lenOf pd0_2 rfl) rfl (by show 2 * 0 + _ ≤ _; exact Nat.le_of_eq rfl) (hb hby at_143) (by decide) (by decide) (by decide) (by decide) (by decide) ?_
  rintro T13 L13 _ X13 ⟨rfl, N13_q, K13, -, F13_last, F13_chars, F13_index, F13_start, F13_fault, F13_subpart⟩
  have N13 := Fr.app N12 N13_q
  have V_b5_13 := V_b5_12.keep K13 (ninS ne_b5_b10 nin0)
  have E_b8_13 := E_b8_12.keep K13
  have F_coder_b8_13 := F_coder_b8_12.keep K13 (ninS ne_b8_b10 nin0)
  have F_value_b8_13 := F_value_b8_12.keep K13 (ninS ne_b8_b10 nin0)
  have V_b9_13 := V_b9_12.keep K13 (ninS ne_b9_b10 nin0)
  have E_b10_13 := E_b10_12.keep K13
  have S_cs_13 := own_stk S_cs_12 K13 (own_nsc (own_nsE E_b10_12) own_nsn)
  have S_sf_13 := own_stk S_sf_12 K13 (own_nsc (own_nsE E_b10_12) own_nsn)
  have S_ad_13 := own_stk S_ad_12 K13 (own_nsc (own_nsE E_b10_12) own_nsn)
  have S_hi_13 := own_stk S_hi_12 K13 (own_nsc (own_nsE E_b10_12) own_nsn)
  have S_lo_13 := own_stk S_lo_12 K13 (own_nsc (own_nsE E_b10_12) own_nsn)
  have S_rf_13 := own_stk S_rf_12 K13 (own_nsc (own_nsE E_b10_12) own_nsn)
  have S_wf_13 := own_stk S_wf_12 K13 (own_nsc (own_nsE E_b10_12) own_nsn)
  have S_fl_13 := own_stk S_fl_12 K13 (own_nsc (own_nsE E_b10_12) own_nsn)
  have S_fh_13 := own_stk S_fh_12 K13 (own_nsc (own_nsE E_b10_12) own_nsn)
  have Z_13 : n0 ≤ T13.heap.size := Nat.le_trans Z_12 K13.1
  have hk_13 := Nat.le_trans hk_12 K13.1
  show D (T13.setTop (mkF m 146 #[.val (.int p1), .val (.int p2), .val (.int p3), .val (.int p4), .val (.int p5), .val (.int x5_8), .val (.int x6_16), .val (.int v28s0), .val (.int x8_38), .val (.int v51s0), .val (.int v74s0), .val (.int v98s0), .val (.ref b5), .val (.ref b8), .val (.ref b10), .unset, .unset, .unset, .unset, .unset, .unset, .unset] []))
  refine A (XS.aload X13.here hx rfl (hb hby at_146) rfl rfl) ?_
  show D (T13.setTop (mkF m 148 #[.val (.int p1), .val (.int p2), .val (.int p3), .val (.int p4), .val (.int p5), .val (.int x5_8), .val (.int x6_16), .val (.int v28s0), .val (.int x8_38), .val (.int v51s0), .val (.int v74s0), .val (.int v98s0), .val (.ref b5), .val (.ref b8), .val (.ref b10), .unset, .unset, .unset, .unset, .unset, .unset, .unset] [(.ref b10)]))
  have wS14 : ∀ d ∈ Bundle.stringAtoms, d.before a0 Z = true := by
    intro d hd
    simp only [Bundle.stringAtoms, List.mem_cons, List.not_mem_nil, or_false] at hd
    rcases hd with rfl | rfl | rfl | rfl | rfl | rfl | rfl
    · exact (hw _ (List.mem_of_getElem? (i := 4) rfl))
    · exact (hw _ (List.mem_of_getElem? (i := 3) rfl))
    · exact (hw _ (List.mem_of_getElem? (i := 20) rfl))
    · exact (hw _ (List.mem_of_getElem? (i := 30) rfl))
    · exact (hw _ (List.mem_of_getElem? (i := 28) rfl))
    · exact (hw _ (List.mem_of_getElem? (i := 35) rfl))
    · exact (hw _ (List.mem_of_getElem? (i := 36) rfl))
  obtain ⟨sa14, T14, h14, k1, X14, e14, E14, hS, hk14, hZ, hown, st14⟩ := ldcS (s := s) X13 hx hZ hown (hw _ (List.mem_of_getElem? (i := 70) rfl)) wS14 rfl hS hk_13 (g := (mkF m 148 #[.val (.int p1), .val (.int p2), .val (.int p3), .val (.int p4), .val (.int p5), .val (.int x5_8), .val (.int x6_16), .val (.int v28s0), .val (.int x8_38), .val (.int v51s0), .val (.int v74s0), .val (.int v98s0), .val (.ref b5), .val (.ref b8), .val (.ref b10), .unset, .unset, .unset, .unset, .unset, .unset, .unset] [(.ref b10)])) rfl (hb hby at_148) (n := 8) (by decide) (by decide) (by decide) (by decide)
  have V_b5_14 := V_b5_13.ext E14
  have E_b8_14 := E_b8_13.ext E14
  have F_coder_b8_14 := F_coder_b8_13.ext E14
  have F_value_b8_14 := F_value_b8_13.ext E14
  have V_b9_14 := V_b9_13.ext E14
  have E_b10_14 := E_b10_13.ext E14
  have F_last_b10_14 := F13_last.ext E14
  have F_chars_b10_14 := F13_chars.ext E14
  have F_index_b10_14 := F13_index.ext E14
  have F_start_b10_14 := F13_start.ext E14
  have F_fault_b10_14 := F13_fault.ext E14
  have F_subpart_b10_14 := F13_subpart.ext E14
  have S_cs_14 := Sta.ext E14 S_cs_13
  have S_sf_14 := Sta.ext E14 S_sf_13
  have S_ad_14 := Sta.ext E14 S_ad_13
  have S_hi_14 := Sta.ext E14 S_hi_13
  have S_lo_14 := Sta.ext E14 S_lo_13
  have S_rf_14 := Sta.ext E14 S_rf_13
  have S_wf_14 := Sta.ext E14 S_wf_13
  have S_fl_14 := Sta.ext E14 S_fl_13
  have S_fh_14 := Sta.ext E14 S_fh_13
  have Z_14 : n0 ≤ h14.size := Nat.le_trans Z_13 E14.1
  refine A (st14 _) ?_
  show D (T14.setTop (mkF m 150 #[.val (.int p1), .val (.int p2), .val (.int p3), .val (.int p4), .val (.int p5), .val (.int x5_8), .val (.int x6_16), .val (.int v28s0), .val (.int x8_38), .val (.int v51s0), .val (.int v74s0), .val (.int v98s0), .val (.ref b5), .val (.ref b8), .val (.ref b10), .unset, .unset, .unset, .unset, .unset, .unset, .unset] [(.ref sa14), (.ref b10)]))
  refine A (XS.iload X14.here hx rfl (hb hby at_150) rfl) ?_
  show D (T14.setTop (mkF m 152 #[.val (.int p1), .val (.int p2), .val (.int p3), .val (.int p4), .val (.int p5), .val (.int x5_8), .val (.int x6_16), .val (.int v28s0), .val (.int x8_38), .val (.int v51s0), .val (.int v74s0), .val (.int v98s0), .val (.ref b5), .val (.ref b8), .val (.ref b10), .unset, .unset, .unset, .unset, .unset, .unset, .unset] [(.int v51s0), (.ref sa14), (.ref b10)]))
  refine Adv.callV A X14 hx hZ hown (hw _ (List.mem_of_getElem? (i := 71) rfl)) (hw _ (List.mem_of_getElem? (i := 72) rfl)) (notFace_of_selects (args := #[]) (mvT hZ (hw _ (List.mem_of_getElem? (i := 74) rfl)))) (hw _ (List.mem_of_getElem? (i := 74) rfl)) (hw _ (List.mem_of_getElem? (i := 73) rfl)) (hw _ (List.mem_of_getElem? (i := 33) rfl)) (hw _ (List.mem_of_getElem? (i := 75) rfl)) e14 E_b10_14 (rm11 l Z a0 hw [] b10 sa14 v51s0 h14 n0 (1 : Int32) ((0 : Int32) + x5_8) (0 : Int64) sa11 Z_14 g_b10 E_b10_14 F_last_b10_14 F_chars_b10_14 F_index_b10_14 F_start_b10_14 F_fault_b10_14 F_subpart_b10_14 ) 0 (g := (mkF m 152 #[.val (.int p1), .val (.int p2), .val (.int p3), .val (.int p4), .val (.int p5), .val (.int x5_8), .val (.int x6_16), .val (.int v28s0), .val (.int x8_38), .val (.int v51s0), .val (.int v74s0), .val (.int v98s0), .val (.ref b5), .val (.ref b8), .val (.ref b10), .unset, .unset, .unset, .unset, .unset, .unset, .unset] [(.int v51s0), (.ref sa14), (.ref b10)])) rfl (by rw [hml]; rfl) [(.ref sa14), (.int v51s0)] [] rfl (lenOf pd0_3 rfl) rfl (by show 2 * 0 + _ ≤ _; exact Nat.le_of_eq rfl) (hb hby at_152) (by decide) (by decide) (by decide) (by decide) (by decide) ?_
  rintro T15 L15 _ X15 ⟨rfl, N15_q, K15, -, F15_last, F15_chars, F15_index, F15_start, F15_fault, F15_subpart⟩
  have N15 := Fr.app N13 N15_q
  have V_b5_15 := V_b5_14.keep K15 (ninS ne_b5_b10 nin0)
  have E_b8_15 := E_b8_14.keep K15
  have F_coder_b8_15 := F_coder_b8_14.keep K15 (ninS ne_b8_b10 nin0)
  have F_value_b8_15 := F_value_b8_14.keep K15 (ninS ne_b8_b10 nin0)
  have V_b9_15 := V_b9_14.keep K15 (ninS ne_b9_b10 nin0)
  have E_b10_15 := E_b10_14.keep K15
  have S_cs_15 := own_stk S_cs_14 K15 (own_nsc (own_nsE E_b10_14) own_nsn)
  have S_sf_15 := own_stk S_sf_14 K15 (own_nsc (own_nsE E_b10_14) own_nsn)
  have S_ad_15 := own_stk S_ad_14 K15 (own_nsc (own_nsE E_b10_14) own_nsn)
  have S_hi_15 := own_stk S_hi_14 K15 (own_nsc (own_nsE E_b10_14) own_nsn)
  have S_lo_15 := own_stk S_lo_14 K15 (own_nsc (own_nsE E_b10_14) own_nsn)
  have S_rf_15 := own_stk S_rf_14 K15 (own_nsc (own_nsE E_b10_14) own_nsn)
  have S_wf_15 := own_stk S_wf_14 K15 (own_nsc (own_nsE E_b10_14) own_nsn)
  have S_fl_15 := own_stk S_fl_14 K15 (own_nsc (own_nsE E_b10_14) own_nsn)
  have S_fh_15 := own_stk S_fh_14 K15 (own_nsc (own_nsE E_b10_14) own_nsn)
  have Z_15 : n0 ≤ T15.heap.size := Nat.le_trans Z_14 K15.1
  have hk_15 := Nat.le_trans hk14 K15.1
  show D (T15.setTop (mkF m 155 #[.val (.int p1), .val (.int p2), .val (.int p3), .val (.int p4), .val (.int p5), .val (.int x5_8), .val (.int x6_16), .val (.int v28s0), .val (.int x8_38), .val (.int v51s0), .val (.int v74s0), .val (.int v98s0), .val (.ref b5), .val (.ref b8), .val (.ref b10), .unset, .unset, .unset, .unset, .unset, .unset, .unset] []))
  refine A (XS.aload X15.here hx rfl (hb hby at_155) rfl rfl) ?_
  show D (T15.setTop (mkF m 157 #[.val (.int p1), .val (.int p2), .val (.int p3), .val (.int p4), .val (.int p5), .val (.int x5_8), .val (.int x6_16), .val (.int v28s0), .val (.int x8_38), .val (.int v51s0), .val (.int v74s0), .val (.int v98s0), .val (.ref b5), .val (.ref b8), .val (.ref b10), .unset, .unset, .unset, .unset, .unset, .unset, .unset] [(.ref b10)]))
  refine A (XS.iload X15.here hx rfl (hb hby at_157) rfl) ?_
  show D (T15.setTop (mkF m 159 #[.val (.int p1), .val (.int p2), .val (.int p3), .val (.int p4), .val (.int p5), .val (.int x5_8), .val (.int x6_16), .val (.int v28s0), .val (.int x8_38), .val (.int v51s0), .val (.int v74s0), .val (.int v98s0), .val (.ref b5), .val (.ref b8), .val (.ref b10), .unset, .unset, .unset, .unset, .unset, .unset, .unset] [(.int x6_16), (.ref b10)]))
  refine Adv.callV A X15 hx hZ hown (hw _ (List.mem_of_getElem? (i := 63) rfl)) (hw _ (List.mem_of_getElem? (i := 64) rfl)) (notFace_of_selects (args := #[]) (mvT hZ (hw _ (List.mem_of_getElem? (i := 66) rfl)))) (hw _ (List.mem_of_getElem? (i := 66) rfl)) (hw _ (List.mem_of_getElem? (i := 65) rfl)) (hw _ (List.mem_of_getElem? (i := 33) rfl)) (hw _ (List.mem_of_getElem? (i := 67) rfl)) rfl E_b10_15 (rm10 l Z a0 hw [] b10 x6_16 T15.heap n0 (v51s0 &&& 1) (0 : Int32) ((0 : Int64) + ((0 : Int32) + x5_8).toInt64) sa14 Z_15 g_b10 E_b10_15 F15_last F15_chars F15_index F15_start F15_fault F15_subpart ) 0 (g := (mkF m 159 #[.val (.int p1), .val (.int p2), .val (.int p3), .val (.int p4), .val (.int p5), .val (.int x5_8), .val (.int x6_16), .val (.int v28s0), .val (.int x8_38), .val (.int v51s0), .val (.int v74s0), .val (.int v98s0), .val (.ref b5), .val (.ref b8), .val (.ref b10), .unset, .unset, .unset, .unset, .unset, .unset, .unset] [(.int x6_16), (.ref b10)])) rfl (by rw [hml]; rfl) [(.int x6_16)] [] rfl (lenOf pd0_2 rfl) rfl (by show 2 * 0 + _ ≤ _; exact Nat.le_of_eq rfl) (hb hby at_159) (by decide) (by decide) (by decide) (by decide) (by decide) ?_
  rintro T16 L16 _ X16 ⟨rfl, N16_q, K16, -, F16_last, F16_chars, F16_index, F16_start, F16_fault, F16_subpart⟩
  have N16 := Fr.app N15 N16_q
  have V_b5_16 := V_b5_15.keep K16 (ninS ne_b5_b10 nin0)
  have E_b8_16 := E_b8_15.keep K16
  have F_coder_b8_16 := F_coder_b8_15.keep K16 (ninS ne_b8_b10 nin0)
  have F_value_b8_16 := F_value_b8_15.keep K16 (ninS ne_b8_b10 nin0)
  have V_b9_16 := V_b9_15.keep K16 (ninS ne_b9_b10 nin0)
  have E_b10_16 := E_b10_15.keep K16
  have S_cs_16 := own_stk S_cs_15 K16 (own_nsc (own_nsE E_b10_15) own_nsn)
  have S_sf_16 := own_stk S_sf_15 K16 (own_nsc (own_nsE E_b10_15) own_nsn)
  have S_ad_16 := own_stk S_ad_15 K16 (own_nsc (own_nsE E_b10_15) own_nsn)
  have S_hi_16 := own_stk S_hi_15 K16 (own_nsc (own_nsE E_b10_15) own_nsn)
  have S_lo_16 := own_stk S_lo_15 K16 (own_nsc (own_nsE E_b10_15) own_nsn)
  have S_rf_16 := own_stk S_rf_15 K16 (own_nsc (own_nsE E_b10_15) own_nsn)
  have S_wf_16 := own_stk S_wf_15 K16 (own_nsc (own_nsE E_b10_15) own_nsn)
  have S_fl_16 := own_stk S_fl_15 K16 (own_nsc (own_nsE E_b10_15) own_nsn)
  have S_fh_16 := own_stk S_fh_15 K16 (own_nsc (own_nsE E_b10_15) own_nsn)
  have Z_16 : n0 ≤ T16.heap.size := Nat.le_trans Z_15 K16.1
  have hk_16 := Nat.le_trans hk_15 K16.1
  show D (T16.setTop (mkF m 162 #[.val (.int p1), .val (.int p2), .val (.int p3), .val (.int p4), .val (.int p5), .val (.int x5_8), .val (.int x6_16), .val (.int v28s0), .val (.int x8_38), .val (.int v51s0), .val (.int v74s0), .val (.int v98s0), .val (.ref b5), .val (.ref b8), .val (.ref b10), .unset, .unset, .unset, .unset, .unset, .unset, .unset] []))
  refine A (XS.aload X16.here hx rfl (hb hby at_162) rfl rfl) ?_
  show D (T16.setTop (mkF m 164 #[.val (.int p1), .val (.int p2), .val (.int p3), .val (.int p4), .val (.int p5), .val (.int x5_8), .val (.int x6_16), .val (.int v28s0), .val (.int x8_38), .val (.int v51s0), .val (.int v74s0), .val (.int v98s0), .val (.ref b5), .val (.ref b8), .val (.ref b10), .unset, .unset, .unset, .unset, .unset, .unset, .unset] [(.ref b10)]))
  refine A (XS.aload X16.here hx rfl (hb hby at_164) rfl rfl) ?_
  show D (T16.setTop (mkF m 166 #[.val (.int p1), .val (.int p2), .val (.int p3), .val (.int p4), .val (.int p5), .val (.int x5_8), .val (.int x6_16), .val (.int v28s0), .val (.int x8_38), .val (.int v51s0), .val (.int v74s0), .val (.int v98s0), .val (.ref b5), .val (.ref b8), .val (.ref b10), .unset, .unset, .unset, .unset, .unset, .unset, .unset] [(.ref b8), (.ref b10)]))
  refine A (XS.iload X16.here hx rfl (hb hby at_166) rfl) ?_
  show D (T16.setTop (mkF m 168 #[.val (.int p1), .val (.int p2), .val (.int p3), .val (.int p4), .val (.int p5), .val (.int x5_8), .val (.int x6_16), .val (.int v28s0), .val (.int x8_38), .val (.int v51s0), .val (.int v74s0), .val (.int v98s0), .val (.ref b5), .val (.ref b8), .val (.ref b10), .unset, .unset, .unset, .unset, .unset, .unset, .unset] [(.int v28s0), (.ref b8), (.ref b10)]))
  refine Adv.callV A X16 hx hZ hown (hw _ (List.mem_of_getElem? (i := 71) rfl)) (hw _ (List.mem_of_getElem? (i := 72) rfl)) (notFace_of_selects (args := #[]) (mvT hZ (hw _ (List.mem_of_getElem? (i := 74) rfl)))) (hw _ (List.mem_of_getElem? (i := 74) rfl)) (hw _ (List.mem_of_getElem? (i := 73) rfl)) (hw _ (List.mem_of_getElem? (i := 33) rfl)) (hw _ (List.mem_of_getElem? (i := 75) rfl)) rfl E_b10_16 (rm11 l Z a0 hw [] b10 b8 v28s0 T16.heap n0 (v51s0 &&& 1) ((0 : Int32) + x6_16) ((0 : Int64) + ((0 : Int32) + x5_8).toInt64) sa14 Z_16 g_b10 E_b10_16 F16_last F16_chars F16_index F16_start F16_fault F16_subpart ) 0 (g := (mkF m 168 #[.val (.int p1), .val (.int p2), .val (.int p3), .val (.int p4), .val (.int p5), .val (.int x5_8), .val (.int x6_16), .val (.int v28s0), .val (.int x8_38), .val (.int v51s0), .val (.int v74s0), .val (.int v98s0), .val (.ref b5), .val (.ref b8), .val (.ref b10), .unset, .unset, .unset, .unset, .unset, .unset, .unset] [(.int v28s0), (.ref b8), (.ref b10)])) rfl (by rw [hml]; rfl) [(.ref b8), (.int v28s0)] [] rfl (lenOf pd0_3 rfl) rfl (by show 2 * 0 + _ ≤ _; exact Nat.le_of_eq rfl) (hb hby at_168) (by decide) (by decide) (by decide) (by decide) (by decide) ?_
  rintro T17 L17 _ X17 ⟨rfl, N17_q, K17, -, F17_last, F17_chars, F17_index, F17_start, F17_fault, F17_subpart⟩
  have N17 := Fr.app N16 N17_q
  have V_b5_17 := V_b5_16.keep K17 (ninS ne_b5_b10 nin0)
  have E_b8_17 := E_b8_16.keep K17
  have F_coder_b8_17 := F_coder_b8_16.keep K17 (ninS ne_b8_b10 nin0)
  have F_value_b8_17 := F_value_b8_16.keep K17 (ninS ne_b8_b10 nin0)
  have V_b9_17 := V_b9_16.keep K17 (ninS ne_b9_b10 nin0)
  have E_b10_17 := E_b10_16.keep K17
  have S_cs_17 := own_stk S_cs_16 K17 (own_nsc (own_nsE E_b10_16) own_nsn)
  have S_sf_17 := own_stk S_sf_16 K17 (own_nsc (own_nsE E_b10_16) own_nsn)
  have S_ad_17 := own_stk S_ad_16 K17 (own_nsc (own_nsE E_b10_16) own_nsn)
  have S_hi_17 := own_stk S_hi_16 K17 (own_nsc (own_nsE E_b10_16) own_nsn)
  have S_lo_17 := own_stk S_lo_16 K17 (own_nsc (own_nsE E_b10_16) own_nsn)
  have S_rf_17 := own_stk S_rf_16 K17 (own_nsc (own_nsE E_b10_16) own_nsn)
  have S_wf_17 := own_stk S_wf_16 K17 (own_nsc (own_nsE E_b10_16) own_nsn)
  have S_fl_17 := own_stk S_fl_16 K17 (own_nsc (own_nsE E_b10_16) own_nsn)
  have S_fh_17 := own_stk S_fh_16 K17 (own_nsc (own_nsE E_b10_16) own_nsn)
  have Z_17 : n0 ≤ T17.heap.size := Nat.le_trans Z_16 K17.1
  have hk_17 := Nat.le_trans hk_16 K17.1
  show D (T17.setTop (mkF m 171 #[.val (.int p1), .val (.int p2), .val (.int p3), .val (.int p4), .val (.int p5), .val (.int x5_8), .val (.int x6_16), .val (.int v28s0), .val (.int x8_38), .val (.int v51s0), .val (.int v74s0), .val (.int v98s0), .val (.ref b5), .val (.ref b8), .val (.ref b10), .unset, .unset, .unset, .unset, .unset, .unset, .unset] []))
  refine A (XS.aload X17.here hx rfl (hb hby at_171) rfl rfl) ?_
  show D (T17.setTop (mkF m 173 #[.val (.int p1), .val (.int p2), .val (.int p3), .val (.int p4), .val (.int p5), .val (.int x5_8), .val (.int x6_16), .val (.int v28s0), .val (.int x8_38), .val (.int v51s0), .val (.int v74s0), .val (.int v98s0), .val (.ref b5), .val (.ref b8), .val (.ref b10), .unset, .unset, .unset, .unset, .unset, .unset, .unset] [(.ref b10)]))
  obtain ⟨T18, X18, e18, st18⟩ := getS X17 hx hZ hown (host := "") (hw _ (List.mem_of_getElem? (i := 78) rfl)) Via.refl rfl S_fl_17 (g := (mkF m 173 #[.val (.int p1), .val (.int p2), .val (.int p3), .val (.int p4), .val (.int p5), .val (.int x5_8), .val (.int x6_16), .val (.int v28s0), .val (.int x8_38), .val (.int v51s0), .val (.int v74s0), .val (.int v98s0), .val (.ref b5), .val (.ref b8), .val (.ref b10), .unset, .unset, .unset, .unset, .unset, .unset, .unset] [(.ref b10)])) rfl (hb hby at_173)
  refine A (st18 _) ?_
  show D (T18.setTop (mkF m 176 #[.val (.int p1), .val (.int p2), .val (.int p3), .val (.int p4), .val (.int p5), .val (.int x5_8), .val (.int x6_16), .val (.int v28s0), .val (.int x8_38), .val (.int v51s0), .val (.int v74s0), .val (.int v98s0), .val (.ref b5), .val (.ref b8), .val (.ref b10), .unset, .unset, .unset, .unset, .unset, .unset, .unset] [(.ref flo), (.ref b10)]))
  refine Adv.callVW A X18 hx hZ hown (hw _ (List.mem_of_getElem? (i := 81) rfl)) (hw _ (List.mem_of_getElem? (i := 82) rfl)) (notFace_of_selects (args := #[]) (mvT hZ (hw _ (List.mem_of_getElem? (i := 84) rfl)))) (hw _ (List.mem_of_getElem? (i := 84) rfl)) (hw _ (List.mem_of_getElem? (i := 83) rfl)) (hw _ (List.mem_of_getElem? (i := 33) rfl)) (hw _ (List.mem_of_getElem? (i := 85) rfl)) e18 E_b10_17 hS hk_17 (rm12 l Z a0 hw [] b10 flo T17.heap n0 (0 : Int32) (((0 : Int64) + ((0 : Int32) + x5_8).toInt64) + ((0 : Int32) + x6_16).toInt64) Z_17 g_b10 E_b10_17 F17_index F17_start) 0 (g := (mkF m 176 #[.val (.int p1), .val (.int p2), .val (.int p3), .val (.int p4), .val (.int p5), .val (.int x5_8), .val (.int x6_16), .val (.int v28s0), .val (.int x8_38), .val (.int v51s0), .val (.int v74s0), .val (.int v98s0), .val (.ref b5), .val (.ref b8), .val (.ref b10), .unset, .unset, .unset, .unset, .unset, .unset, .unset] [(.ref flo), (.ref b10)])) rfl (by rw [hml]; rfl) [(.ref flo)] [] rfl (lenOf pd0_4 rfl) rfl (by show 2 * 0 + _ ≤ _; exact Nat.le_of_eq rfl) (hb hby at_176) (by decide) (by decide) (by decide) (by decide) (by decide) ?_
  rintro T19 L19 _ X19 hS hZ hown ⟨b19, rfl, N19_q, K19, szq_b19, E19_v, F19_o, F19_f⟩
  have N19 := Fr.app N17 N19_q
  have ne_b5_b19 : b5 ≠ b19 := Nat.ne_of_lt (Nat.lt_of_lt_of_le V_b5_17.lt szq_b19)
  have ne_b8_b19 : b8 ≠ b19 := Nat.ne_of_lt (Nat.lt_of_lt_of_le E_b8_17.lt szq_b19)
  have ne_b9_b19 : b9 ≠ b19 := Nat.ne_of_lt (Nat.lt_of_lt_of_le V_b9_17.lt szq_b19)
  have ne_b10_b19 : b10 ≠ b19 := Nat.ne_of_lt (Nat.lt_of_lt_of_le E_b10_17.lt szq_b19)
  have g_b19 : n0 ≤ b19 := Nat.le_trans Z_17 szq_b19
  have V_b5_19 := V_b5_17.keep K19 nin0
  have E_b8_19 := E_b8_17.keep K19
  have F_coder_b8_19 := F_coder_b8_17.keep K19 nin0
  have F_value_b8_19 := F_value_b8_17.keep K19 nin0
  have V_b9_19 := V_b9_17.keep K19 nin0
  have E_b10_19 := E_b10_17.keep K19
  have F_last_b10_19 := F17_last.keep K19 nin0
  have F_chars_b10_19 := F17_chars.keep K19 nin0
  have F_index_b10_19 := F17_index.keep K19 nin0
  have F_start_b10_19 := F17_start.keep K19 nin0
  have F_fault_b10_19 := F17_fault.keep K19 nin0
  have F_subpart_b10_19 := F17_subpart.keep K19 nin0
  have S_cs_19 := own_stk S_cs_17 K19 own_nsn
  have S_sf_19 := own_stk S_sf_17 K19 own_nsn
  have S_ad_19 := own_stk S_ad_17 K19 own_nsn
  have S_hi_19 := own_stk S_hi_17 K19 own_nsn
  have S_lo_19 := own_stk S_lo_17 K19 own_nsn
  have S_rf_19 := own_stk S_rf_17 K19 own_nsn
  have S_wf_19 := own_stk S_wf_17 K19 own_nsn
  have S_fl_19 := own_stk S_fl_17 K19 own_nsn
  have S_fh_19 := own_stk S_fh_17 K19 own_nsn
  have Z_19 : n0 ≤ T19.heap.size := Nat.le_trans Z_17 K19.1
  show D (T19.setTop (mkF m 179 #[.val (.int p1), .val (.int p2), .val (.int p3), .val (.int p4), .val (.int p5), .val (.int x5_8), .val (.int x6_16), .val (.int v28s0), .val (.int x8_38), .val (.int v51s0), .val (.int v74s0), .val (.int v98s0), .val (.ref b5), .val (.ref b8), .val (.ref b10), .unset, .unset, .unset, .unset, .unset, .unset, .unset] [(.ref b19)]))
  refine Adv.callV A X19 hx hZ hown (hw _ (List.mem_of_getElem? (i := 102) rfl)) (hw _ (List.mem_of_getElem? (i := 103) rfl)) (notFace_of_selects (args := #[]) (mvT hZ (hw _ (List.mem_of_getElem? (i := 105) rfl)))) (hw _ (List.mem_of_getElem? (i := 105) rfl)) (hw _ (List.mem_of_getElem? (i := 104) rfl)) (hw _ (List.mem_of_getElem? (i := 53) rfl)) (hw _ (List.mem_of_getElem? (i := 106) rfl)) rfl E19_v (rm15 l Z a0 hw [] b19 T19.heap n0 ((((0 : Int64) + ((0 : Int32) + x5_8).toInt64) + ((0 : Int32) + x6_16).toInt64) + (0 : Int32).toInt64) flo E19_v F19_o F19_f) 0 (g := (mkF m 179 #[.val (.int p1), .val (.int p2), .val (.int p3), .val (.int p4), .val (.int p5), .val (.int x5_8), .val (.int x6_16), .val (.int v28s0), .val (.int x8_38), .val (.int v51s0), .val (.int v74s0), .val (.int v98s0), .val (.ref b5), .val (.ref b8), .val (.ref b10), .unset, .unset, .unset, .unset, .unset, .unset, .unset] [(.ref b19)])) rfl (by rw [hml]; rfl) [] [] rfl (lenOf pd0_5 rfl) rfl (by show 2 * 0 + _ ≤ _; exact Nat.le_of_eq rfl) (hb hby at_179) (by decide) (by decide) (by decide) (by decide) (by decide) ?_
  rintro T20 L20 _ X20 ⟨rfl, N20_q, e20⟩
  have N20 := Fr.app N19 N20_q
  show D (T20.setTop (mkF m 182 #[.val (.int p1), .val (.int p2), .val (.int p3), .val (.int p4), .val (.int p5), .val (.int x5_8), .val (.int x6_16), .val (.int v28s0), .val (.int x8_38), .val (.int v51s0), .val (.int v74s0), .val (.int v98s0), .val (.ref b5), .val (.ref b8), .val (.ref b10), .unset, .unset, .unset, .unset, .unset, .unset, .unset] [(.long ((((0 : Int64) + ((0 : Int32) + x5_8).toInt64) + ((0 : Int32) + x6_16).toInt64) + (0 : Int32).toInt64))]))
  refine A (XS.lstore X20.here hx rfl (hb hby at_182) rfl (l' := #[.val (.int p1), .val (.int p2), .val (.int p3), .val (.int p4), .val (.int p5), .val (.int x5_8), .val (.int x6_16), .val (.int v28s0), .val (.int x8_38), .val (.int v51s0), .val (.int v74s0), .val (.int v98s0), .val (.ref b5), .val (.ref b8), .val (.ref b10), .val (.long ((((0 : Int64) + ((0 : Int32) + x5_8).toInt64) + ((0 : Int32) + x6_16).toInt64) + (0 : Int32).toInt64)), .second, .unset, .unset, .unset, .unset, .unset]) rfl) ?_
  show D (T20.setTop (mkF m 184 #[.val (.int p1), .val (.int p2), .val (.int p3), .val (.int p4), .val (.int p5), .val (.int x5_8), .val (.int x6_16), .val (.int v28s0), .val (.int x8_38), .val (.int v51s0), .val (.int v74s0), .val (.int v98s0), .val (.ref b5), .val (.ref b8), .val (.ref b10), .val (.long ((((0 : Int64) + ((0 : Int32) + x5_8).toInt64) + ((0 : Int32) + x6_16).toInt64) + (0 : Int32).toInt64)), .second, .unset, .unset, .unset, .unset, .unset] []))
  suffices Kx15_184 : ∀ x15_184 : Int64, x15_184 = ((((0 : Int64) + ((0 : Int32) + x5_8).toInt64) + ((0 : Int32) + x6_16).toInt64) + (0 : Int32).toInt64) → D (T20.setTop (mkF m 184 #[.val (.int p1), .val (.int p2), .val (.int p3), .val (.int p4), .val (.int p5), .val (.int x5_8), .val (.int x6_16), .val (.int v28s0), .val (.int x8_38), .val (.int v51s0), .val (.int v74s0), .val (.int v98s0), .val (.ref b5), .val (.ref b8), .val (.ref b10), .val (.long x15_184), .second, .unset, .unset, .unset, .unset, .unset] [])) from Kx15_184 _ rfl
  intro x15_184 hx15_184
  refine A (XS.lload X20.here hx rfl (hb hby at_184) rfl) ?_
  show D (T20.setTop (mkF m 186 #[.val (.int p1), .val (.int p2), .val (.int p3), .val (.int p4), .val (.int p5), .val (.int x5_8), .val (.int x6_16), .val (.int v28s0), .val (.int x8_38), .val (.int v51s0), .val (.int v74s0), .val (.int v98s0), .val (.ref b5), .val (.ref b8), .val (.ref b10), .val (.long x15_184), .second, .unset, .unset, .unset, .unset, .unset] [(.long x15_184)]))
  refine A (XS.iload X20.here hx rfl (hb hby at_186) rfl) ?_
  show D (T20.setTop (mkF m 188 #[.val (.int p1), .val (.int p2), .val (.int p3), .val (.int p4), .val (.int p5), .val (.int x5_8), .val (.int x6_16), .val (.int v28s0), .val (.int x8_38), .val (.int v51s0), .val (.int v74s0), .val (.int v98s0), .val (.ref b5), .val (.ref b8), .val (.ref b10), .val (.long x15_184), .second, .unset, .unset, .unset, .unset, .unset] [(.int x5_8), (.long x15_184)]))
  refine A (XS.iload X20.here hx rfl (hb hby at_188) rfl) ?_
  show D (T20.setTop (mkF m 190 #[.val (.int p1), .val (.int p2), .val (.int p3), .val (.int p4), .val (.int p5), .val (.int x5_8), .val (.int x6_16), .val (.int v28s0), .val (.int x8_38), .val (.int v51s0), .val (.int v74s0), .val (.int v98s0), .val (.ref b5), .val (.ref b8), .val (.ref b10), .val (.long x15_184), .second, .unset, .unset, .unset, .unset, .unset] [(.int x6_16), (.int x5_8), (.long x15_184)]))
  refine A (XS.iadd X20.here hx rfl (hb hby at_190) rfl) ?_
  show D (T20.setTop (mkF m 191 #[.val (.int p1), .val (.int p2), .val (.int p3), .val (.int p4), .val (.int p5), .val (.int x5_8), .val (.int x6_16), .val (.int v28s0), .val (.int x8_38), .val (.int v51s0), .val (.int v74s0), .val (.int v98s0), .val (.ref b5), .val (.ref b8), .val (.ref b10), .val (.long x15_184), .second, .unset, .unset, .unset, .unset, .unset] [(.int (x5_8 + x6_16)), (.long x15_184)]))
  refine A (XS.i2l X20.here hx rfl (hb hby at_191) rfl) ?_
  show D (T20.setTop (mkF m 192 #[.val (.int p1), .val (.int p2), .val (.int p3), .val (.int p4), .val (.int p5), .val (.int x5_8), .val (.int x6_16), .val (.int v28s0), .val (.int x8_38), .val (.int v51s0), .val (.int v74s0), .val (.int v98s0), .val (.ref b5), .val (.ref b8), .val (.ref b10), .val (.long x15_184), .second, .unset, .unset, .unset, .unset, .unset] [(.long ((x5_8 + x6_16).toInt64)), (.long x15_184)]))
  refine A (XS.lcmp X20.here hx rfl (hb hby at_192) rfl) ?_
  show D (T20.setTop (mkF m 193 #[.val (.int p1), .val (.int p2), .val (.int p3), .val (.int p4), .val (.int p5), .val (.int x5_8), .val (.int x6_16), .val (.int v28s0), .val (.int x8_38), .val (.int v51s0), .val (.int v74s0), .val (.int v98s0), .val (.ref b5), .val (.ref b8), .val (.ref b10), .val (.long x15_184), .second, .unset, .unset, .unset, .unset, .unset] [(.int (lcmpW x15_184 ((x5_8 + x6_16).toInt64)))]))
  suffices Km201_21 : ∀ (v201s0 : Int32), v201s0 = (if (lcmpW x15_184 ((x5_8 + x6_16).toInt64)) = (0 : Int32) then (1 : Int32) else (0 : Int32)) → D (T20.setTop (mkF m 201 #[.val (.int p1), .val (.int p2), .val (.int p3), .val (.int p4), .val (.int p5), .val (.int x5_8), .val (.int x6_16), .val (.int v28s0), .val (.int x8_38), .val (.int v51s0), .val (.int v74s0), .val (.int v98s0), .val (.ref b5), .val (.ref b8), .val (.ref b10), .val (.long x15_184), .second, .unset, .unset, .unset, .unset, .unset] [(.int v201s0)])) by
    by_cases c193_0 : (lcmpW x15_184 ((x5_8 + x6_16).toInt64)) = (0 : Int32)
    · refine A (XS.ifNo X20.here hx rfl (hb hby at_193) rfl ((if0 _ _).trans (teq c193_0).2)) ?_
      show D (T20.setTop (mkF m 196 #[.val (.int p1), .val (.int p2), .val (.int p3), .val (.int p4), .val (.int p5), .val (.int x5_8), .val (.int x6_16), .val (.int v28s0), .val (.int x8_38), .val (.int v51s0), .val (.int v74s0), .val (.int v98s0), .val (.ref b5), .val (.ref b8), .val (.ref b10), .val (.long x15_184), .second, .unset, .unset, .unset, .unset, .unset] []))
      refine A (XS.iconst X20.here hx rfl (hb hby at_196)) ?_
      show D (T20.setTop (mkF m 197 #[.val (.int p1), .val (.int p2), .val (.int p3), .val (.int p4), .val (.int p5), .val (.int x5_8), .val (.int x6_16), .val (.int v28s0), .val (.int x8_38), .val (.int v51s0), .val (.int v74s0), .val (.int v98s0), .val (.ref b5), .val (.ref b8), .val (.ref b10), .val (.long x15_184), .second, .unset, .unset, .unset, .unset, .unset] [(.int (1 : Int32))]))
      refine A (XS.goto X20.here hx rfl (pc0 := 197) (pc' := 201) rfl (hb hby at_197) (by decide) (by decide)) ?_
      show D (T20.setTop (mkF m 201 #[.val (.int p1), .val (.int p2), .val (.int p3), .val (.int p4), .val (.int p5), .val (.int x5_8), .val (.int x6_16), .val (.int v28s0), .val (.int x8_38), .val (.int v51s0), .val (.int v74s0), .val (.int v98s0), .val (.ref b5), .val (.ref b8), .val (.ref b10), .val (.long x15_184), .second, .unset, .unset, .unset, .unset, .unset] [(.int (1 : Int32))]))
      exact Km201_21 _ ((if_pos c193_0)).symm
    · refine A (XS.ifYes X20.here hx rfl (pc0 := 193) (pc' := 200) rfl (hb hby at_193) rfl ((if0 _ _).trans (feq c193_0).2) (by decide) (by decide)) ?_
      show D (T20.setTop (mkF m 200 #[.val (.int p1), .val (.int p2), .val (.int p3), .val (.int p4), .val (.int p5), .val (.int x5_8), .val (.int x6_16), .val (.int v28s0), .val (.int x8_38), .val (.int v51s0), .val (.int v74s0), .val (.int v98s0), .val (.ref b5), .val (.ref b8), .val (.ref b10), .val (.long x15_184), .second, .unset, .unset, .unset, .unset, .unset] []))
      refine A (XS.iconst X20.here hx rfl (hb hby at_200)) ?_
      show D (T20.setTop (mkF m 201 #[.val (.int p1), .val (.int p2), .val (.int p3), .val (.int p4), .val (.int p5), .val (.int x5_8), .val (.int x6_16), .val (.int v28s0), .val (.int x8_38), .val (.int v51s0), .val (.int v74s0), .val (.int v98s0), .val (.ref b5), .val (.ref b8), .val (.ref b10), .val (.long x15_184), .second, .unset, .unset, .unset, .unset, .unset] [(.int (0 : Int32))]))
      exact Km201_21 _ ((if_neg c193_0)).symm
  intro v201s0 hv201s0
  show D (T20.setTop (mkF m 201 #[.val (.int p1), .val (.int p2), .val (.int p3), .val (.int p4), .val (.int p5), .val (.int x5_8), .val (.int x6_16), .val (.int v28s0), .val (.int x8_38), .val (.int v51s0), .val (.int v74s0), .val (.int v98s0), .val (.ref b5), .val (.ref b8), .val (.ref b10), .val (.long x15_184), .second, .unset, .unset, .unset, .unset, .unset] [(.int v201s0)]))
  refine A (XS.istore X20.here hx rfl (hb hby at_201) rfl (l' := #[.val (.int p1), .val (.int p2), .val (.int p3), .val (.int p4), .val (.int p5), .val (.int x5_8), .val (.int x6_16), .val (.int v28s0), .val (.int x8_38), .val (.int v51s0), .val (.int v74s0), .val (.int v98s0), .val (.ref b5), .val (.ref b8), .val (.ref b10), .val (.long x15_184), .second, .val (.int v201s0), .unset, .unset, .unset, .unset]) rfl) ?_
  show D (T20.setTop (mkF m 203 #[.val (.int p1), .val (.int p2), .val (.int p3), .val (.int p4), .val (.int p5), .val (.int x5_8), .val (.int x6_16), .val (.int v28s0), .val (.int x8_38), .val (.int v51s0), .val (.int v74s0), .val (.int v98s0), .val (.ref b5), .val (.ref b8), .val (.ref b10), .val (.long x15_184), .second, .val (.int v201s0), .unset, .unset, .unset, .unset] []))
  refine A (XS.aload X20.here hx rfl (hb hby at_203) rfl rfl) ?_
  show D (T20.setTop (mkF m 205 #[.val (.int p1), .val (.int p2), .val (.int p3), .val (.int p4), .val (.int p5), .val (.int x5_8), .val (.int x6_16), .val (.int v28s0), .val (.int x8_38), .val (.int v51s0), .val (.int v74s0), .val (.int v98s0), .val (.ref b5), .val (.ref b8), .val (.ref b10), .val (.long x15_184), .second, .val (.int v201s0), .unset, .unset, .unset, .unset] [(.ref b10)]))
  refine A (XS.iload X20.here hx rfl (hb hby at_205) rfl) ?_
  show D (T20.setTop (mkF m 207 #[.val (.int p1), .val (.int p2), .val (.int p3), .val (.int p4), .val (.int p5), .val (.int x5_8), .val (.int x6_16), .val (.int v28s0), .val (.int x8_38), .val (.int v51s0), .val (.int v74s0), .val (.int v98s0), .val (.ref b5), .val (.ref b8), .val (.ref b10), .val (.long x15_184), .second, .val (.int v201s0), .unset, .unset, .unset, .unset] [(.int x8_38), (.ref b10)]))
  refine Adv.callV A X20 hx hZ hown (hw _ (List.mem_of_getElem? (i := 63) rfl)) (hw _ (List.mem_of_getElem? (i := 64) rfl)) (notFace_of_selects (args := #[]) (mvT hZ (hw _ (List.mem_of_getElem? (i := 66) rfl)))) (hw _ (List.mem_of_getElem? (i := 66) rfl)) (hw _ (List.mem_of_getElem? (i := 65) rfl)) (hw _ (List.mem_of_getElem? (i := 33) rfl)) (hw _ (List.mem_of_getElem? (i := 67) rfl)) e20 E_b10_19 (rm10 l Z a0 hw [] b10 x8_38 T19.heap n0 (v28s0 &&& 1) (0 : Int32) (((0 : Int64) + ((0 : Int32) + x5_8).toInt64) + ((0 : Int32) + x6_16).toInt64) b8 Z_19 g_b10 E_b10_19 F_last_b10_19 F_chars_b10_19 F_index_b10_19 F_start_b10_19 F_fault_b10_19 F_subpart_b10_19 ) 0 (g := (mkF m 207 #[.val (.int p1), .val (.int p2), .val (.int p3), .val (.int p4), .val (.int p5), .val (.int x5_8), .val (.int x6_16), .val (.int v28s0), .val (.int x8_38), .val (.int v51s0), .val (.int v74s0), .val (.int v98s0), .val (.ref b5), .val (.ref b8), .val (.ref b10), .val (.long x15_184), .second, .val (.int v201s0), .unset, .unset, .unset, .unset] [(.int x8_38), (.ref b10)])) rfl (by rw [hml]; rfl) [(.int x8_38)] [] rfl (lenOf pd0_2 rfl) rfl (by show 2 * 0 + _ ≤ _; exact Nat.le_of_eq rfl) (hb hby at_207) (by decide) (by decide) (by decide) (by decide) (by decide) ?_
  rintro T22 L22 _ X22 ⟨rfl, N22_q, K22, -, F22_last, F22_chars, F22_index, F22_start, F22_fault, F22_subpart⟩
  have N22 := Fr.app N20 N22_q
  have V_b5_22 := V_b5_19.keep K22 (ninS ne_b5_b10 nin0)
  have E_b8_22 := E_b8_19.keep K22
  have F_coder_b8_22 := F_coder_b8_19.keep K22 (ninS ne_b8_b10 nin0)
  have F_value_b8_22 := F_value_b8_19.keep K22 (ninS ne_b8_b10 nin0)
  have V_b9_22 := V_b9_19.keep K22 (ninS ne_b9_b10 nin0)
  have E_b10_22 := E_b10_19.keep K22
  have E_b19_22 := E19_v.keep K22
  have FV_offset_b19_22 := F19_o.keep K22 (ninS (Ne.symm ne_b10_b19) nin0)
  have FV_fault_b19_22 := F19_f.keep K22 (ninS (Ne.symm ne_b10_b19) nin0)
  have S_cs_22 := own_stk S_cs_19 K22 (own_nsc (own_nsE E_b10_19) own_nsn)
  have S_sf_22 := own_stk S_sf_19 K22 (own_nsc (own_nsE E_b10_19) own_nsn)
  have S_ad_22 := own_stk S_ad_19 K22 (own_nsc (own_nsE E_b10_19) own_nsn)
  have S_hi_22 := own_stk S_hi_19 K22 (own_nsc (own_nsE E_b10_19) own_nsn)
  have S_lo_22 := own_stk S_lo_19 K22 (own_nsc (own_nsE E_b10_19) own_nsn)
  have S_rf_22 := own_stk S_rf_19 K22 (own_nsc (own_nsE E_b10_19) own_nsn)
  have S_wf_22 := own_stk S_wf_19 K22 (own_nsc (own_nsE E_b10_19) own_nsn)
  have S_fl_22 := own_stk S_fl_19 K22 (own_nsc (own_nsE E_b10_19) own_nsn)
  have S_fh_22 := own_stk S_fh_19 K22 (own_nsc (own_nsE E_b10_19) own_nsn)
  have Z_22 : n0 ≤ T22.heap.size := Nat.le_trans Z_19 K22.1
  have hk_22 := Nat.le_trans (Nat.le_refl _) K22.1
  show D (T22.setTop (mkF m 210 #[.val (.int p1), .val (.int p2), .val (.int p3), .val (.int p4), .val (.int p5), .val (.int x5_8), .val (.int x6_16), .val (.int v28s0), .val (.int x8_38), .val (.int v51s0), .val (.int v74s0), .val (.int v98s0), .val (.ref b5), .val (.ref b8), .val (.ref b10), .val (.long x15_184), .second, .val (.int v201s0), .unset, .unset, .unset, .unset] []))
  refine A (XS.aload X22.here hx rfl (hb hby at_210) rfl rfl) ?_
  show D (T22.setTop (mkF m 212 #[.val (.int p1), .val (.int p2), .val (.int p3), .val (.int p4), .val (.int p5), .val (.int x5_8), .val (.int x6_16), .val (.int v28s0), .val (.int x8_38), .val (.int v51s0), .val (.int v74s0), .val (.int v98s0), .val (.ref b5), .val (.ref b8), .val (.ref b10), .val (.long x15_184), .second, .val (.int v201s0), .unset, .unset, .unset, .unset] [(.ref b10)]))
  refine Adv.callV A X22 hx hZ hown (hw _ (List.mem_of_getElem? (i := 116) rfl)) (hw _ (List.mem_of_getElem? (i := 117) rfl)) (notFace_of_selects (args := #[]) (mvT hZ (hw _ (List.mem_of_getElem? (i := 119) rfl)))) (hw _ (List.mem_of_getElem? (i := 119) rfl)) (hw _ (List.mem_of_getElem? (i := 118) rfl)) (hw _ (List.mem_of_getElem? (i := 33) rfl)) (hw _ (List.mem_of_getElem? (i := 120) rfl)) rfl E_b10_22 (rm18 l Z a0 hw [] b10 T22.heap n0 (v28s0 &&& 1) ((0 : Int32) + x8_38) (((0 : Int64) + ((0 : Int32) + x5_8).toInt64) + ((0 : Int32) + x6_16).toInt64) b8 Z_22 g_b10 E_b10_22 F22_last F22_chars F22_index F22_start F22_fault F22_subpart k8 (own_z8 hk8) hk82 ne_b8_b10 flo fhi cd nb fb cs hcs sf hsf b9 v74s0 v98s0 hSt S_sf_22 S_cs_22 S_ad_22 S_hi_22 S_lo_22 E_b8_22 F_coder_b8_22 F_value_b8_22 V_b9_22 S_fl_22 S_fh_22) 0 (g := (mkF m 212 #[.val (.int p1), .val (.int p2), .val (.int p3), .val (.int p4), .val (.int p5), .val (.int x5_8), .val (.int x6_16), .val (.int v28s0), .val (.int x8_38), .val (.int v51s0), .val (.int v74s0), .val (.int v98s0), .val (.ref b5), .val (.ref b8), .val (.ref b10), .val (.long x15_184), .second, .val (.int v201s0), .unset, .unset, .unset, .unset] [(.ref b10)])) rfl (by rw [hml]; rfl) [] [] rfl (lenOf pd0_6 rfl) rfl (by show 2 * 0 + _ ≤ _; exact Nat.le_of_eq rfl) (hb hby at_212) (by decide) (by decide) (by decide) (by decide) (by decide) ?_
  rintro T23 L23 _ X23 ⟨rd, jx, rfl, N23_q, K23, -, F23_chars, F23_index, hD⟩
  have N23 := Fr.app N22 N23_q
  have V_b5_23 := V_b5_22.keep K23 (ninS ne_b5_b10 nin0)
  have E_b8_23 := E_b8_22.keep K23
  have F_coder_b8_23 := F_coder_b8_22.keep K23 (ninS ne_b8_b10 nin0)
  have F_value_b8_23 := F_value_b8_22.keep K23 (ninS ne_b8_b10 nin0)
  have V_b9_23 := V_b9_22.keep K23 (ninS ne_b9_b10 nin0)
  have E_b10_23 := E_b10_22.keep K23
  have E_b19_23 := E_b19_22.keep K23
  have FV_offset_b19_23 := FV_offset_b19_22.keep K23 (ninS (Ne.symm ne_b10_b19) nin0)
  have FV_fault_b19_23 := FV_fault_b19_22.keep K23 (ninS (Ne.symm ne_b10_b19) nin0)
  have S_cs_23 := own_stk S_cs_22 K23 (own_nsc (own_nsE E_b10_22) own_nsn)
  have S_sf_23 := own_stk S_sf_22 K23 (own_nsc (own_nsE E_b10_22) own_nsn)
  have S_ad_23 := own_stk S_ad_22 K23 (own_nsc (own_nsE E_b10_22) own_nsn)
  have S_hi_23 := own_stk S_hi_22 K23 (own_nsc (own_nsE E_b10_22) own_nsn)
  have S_lo_23 := own_stk S_lo_22 K23 (own_nsc (own_nsE E_b10_22) own_nsn)
  have S_rf_23 := own_stk S_rf_22 K23 (own_nsc (own_nsE E_b10_22) own_nsn)
  have S_wf_23 := own_stk S_wf_22 K23 (own_nsc (own_nsE E_b10_22) own_nsn)
  have S_fl_23 := own_stk S_fl_22 K23 (own_nsc (own_nsE E_b10_22) own_nsn)
  have S_fh_23 := own_stk S_fh_22 K23 (own_nsc (own_nsE E_b10_22) own_nsn)
  have Z_23 : n0 ≤ T23.heap.size := Nat.le_trans Z_22 K23.1
  have hk_23 := Nat.le_trans hk_22 K23.1
  show D (T23.setTop (mkF m 215 #[.val (.int p1), .val (.int p2), .val (.int p3), .val (.int p4), .val (.int p5), .val (.int x5_8), .val (.int x6_16), .val (.int v28s0), .val (.int x8_38), .val (.int v51s0), .val (.int v74s0), .val (.int v98s0), .val (.ref b5), .val (.ref b8), .val (.ref b10), .val (.long x15_184), .second, .val (.int v201s0), .unset, .unset, .unset, .unset] [(.int rd)]))
  refine A (XS.istore X23.here hx rfl (hb hby at_215) rfl (l' := #[.val (.int p1), .val (.int p2), .val (.int p3), .val (.int p4), .val (.int p5), .val (.int x5_8), .val (.int x6_16), .val (.int v28s0), .val (.int x8_38), .val (.int v51s0), .val (.int v74s0), .val (.int v98s0), .val (.ref b5), .val (.ref b8), .val (.ref b10), .val (.long x15_184), .second, .val (.int v201s0), .val (.int rd), .unset, .unset, .unset]) rfl) ?_
  show D (T23.setTop (mkF m 217 #[.val (.int p1), .val (.int p2), .val (.int p3), .val (.int p4), .val (.int p5), .val (.int x5_8), .val (.int x6_16), .val (.int v28s0), .val (.int x8_38), .val (.int v51s0), .val (.int v74s0), .val (.int v98s0), .val (.ref b5), .val (.ref b8), .val (.ref b10), .val (.long x15_184), .second, .val (.int v201s0), .val (.int rd), .unset, .unset, .unset] []))
  refine A (XS.iload X23.here hx rfl (hb hby at_217) rfl) ?_
  show D (T23.setTop (mkF m 219 #[.val (.int p1), .val (.int p2), .val (.int p3), .val (.int p4), .val (.int p5), .val (.int x5_8), .val (.int x6_16), .val (.int v28s0), .val (.int x8_38), .val (.int v51s0), .val (.int v74s0), .val (.int v98s0), .val (.ref b5), .val (.ref b8), .val (.ref b10), .val (.long x15_184), .second, .val (.int v201s0), .val (.int rd), .unset, .unset, .unset] [(.int x8_38)]))
  suffices Km229_24 : ∀ (v229s0 : Int32), v229s0 = (if x8_38 = (0 : Int32) then v74s0 else v98s0) → D (T23.setTop (mkF m 229 #[.val (.int p1), .val (.int p2), .val (.int p3), .val (.int p4), .val (.int p5), .val (.int x5_8), .val (.int x6_16), .val (.int v28s0), .val (.int x8_38), .val (.int v51s0), .val (.int v74s0), .val (.int v98s0), .val (.ref b5), .val (.ref b8), .val (.ref b10), .val (.long x15_184), .second, .val (.int v201s0), .val (.int rd), .unset, .unset, .unset] [(.int v229s0)])) by
    by_cases c219_0 : x8_38 = (0 : Int32)
    · refine A (XS.ifNo X23.here hx rfl (hb hby at_219) rfl ((if0 _ _).trans (teq c219_0).2)) ?_
      show D (T23.setTop (mkF m 222 #[.val (.int p1), .val (.int p2), .val (.int p3), .val (.int p4), .val (.int p5), .val (.int x5_8), .val (.int x6_16), .val (.int v28s0), .val (.int x8_38), .val (.int v51s0), .val (.int v74s0), .val (.int v98s0), .val (.ref b5), .val (.ref b8), .val (.ref b10), .val (.long x15_184), .second, .val (.int v201s0), .val (.int rd), .unset, .unset, .unset] []))
      refine A (XS.iload X23.here hx rfl (hb hby at_222) rfl) ?_
      show D (T23.setTop (mkF m 224 #[.val (.int p1), .val (.int p2), .val (.int p3), .val (.int p4), .val (.int p5), .val (.int x5_8), .val (.int x6_16), .val (.int v28s0), .val (.int x8_38), .val (.int v51s0), .val (.int v74s0), .val (.int v98s0), .val (.ref b5), .val (.ref b8), .val (.ref b10), .val (.long x15_184), .second, .val (.int v201s0), .val (.int rd), .unset, .unset, .unset] [(.int v74s0)]))
      refine A (XS.goto X23.here hx rfl (pc0 := 224) (pc' := 229) rfl (hb hby at_224) (by decide) (by decide)) ?_
      show D (T23.setTop (mkF m 229 #[.val (.int p1), .val (.int p2), .val (.int p3), .val (.int p4), .val (.int p5), .val (.int x5_8), .val (.int x6_16), .val (.int v28s0), .val (.int x8_38), .val (.int v51s0), .val (.int v74s0), .val (.int v98s0), .val (.ref b5), .val (.ref b8), .val (.ref b10), .val (.long x15_184), .second, .val (.int v201s0), .val (.int rd), .unset, .unset, .unset] [(.int v74s0)]))
      exact Km229_24 _ ((if_pos c219_0)).symm
    · refine A (XS.ifYes X23.here hx rfl (pc0 := 219) (pc' := 227) rfl (hb hby at_219) rfl ((if0 _ _).trans (feq c219_0).2) (by decide) (by decide)) ?_
      show D (T23.setTop (mkF m 227 #[.val (.int p1), .val (.int p2), .val (.int p3), .val (.int p4), .val (.int p5), .val (.int x5_8), .val (.int x6_16), .val (.int v28s0), .val (.int x8_38), .val (.int v51s0), .val (.int v74s0), .val (.int v98s0), .val (.ref b5), .val (.ref b8), .val (.ref b10), .val (.long x15_184), .second, .val (.int v201s0), .val (.int rd), .unset, .unset, .unset] []))
      refine A (XS.iload X23.here hx rfl (hb hby at_227) rfl) ?_
      show D (T23.setTop (mkF m 229 #[.val (.int p1), .val (.int p2), .val (.int p3), .val (.int p4), .val (.int p5), .val (.int x5_8), .val (.int x6_16), .val (.int v28s0), .val (.int x8_38), .val (.int v51s0), .val (.int v74s0), .val (.int v98s0), .val (.ref b5), .val (.ref b8), .val (.ref b10), .val (.long x15_184), .second, .val (.int v201s0), .val (.int rd), .unset, .unset, .unset] [(.int v98s0)]))
      exact Km229_24 _ ((if_neg c219_0)).symm
  intro v229s0 hv229s0
  show D (T23.setTop (mkF m 229 #[.val (.int p1), .val (.int p2), .val (.int p3), .val (.int p4), .val (.int p5), .val (.int x5_8), .val (.int x6_16), .val (.int v28s0), .val (.int x8_38), .val (.int v51s0), .val (.int v74s0), .val (.int v98s0), .val (.ref b5), .val (.ref b8), .val (.ref b10), .val (.long x15_184), .second, .val (.int v201s0), .val (.int rd), .unset, .unset, .unset] [(.int v229s0)]))
  refine A (XS.istore X23.here hx rfl (hb hby at_229) rfl (l' := #[.val (.int p1), .val (.int p2), .val (.int p3), .val (.int p4), .val (.int p5), .val (.int x5_8), .val (.int x6_16), .val (.int v28s0), .val (.int x8_38), .val (.int v51s0), .val (.int v74s0), .val (.int v98s0), .val (.ref b5), .val (.ref b8), .val (.ref b10), .val (.long x15_184), .second, .val (.int v201s0), .val (.int rd), .val (.int v229s0), .unset, .unset]) rfl) ?_
  show D (T23.setTop (mkF m 231 #[.val (.int p1), .val (.int p2), .val (.int p3), .val (.int p4), .val (.int p5), .val (.int x5_8), .val (.int x6_16), .val (.int v28s0), .val (.int x8_38), .val (.int v51s0), .val (.int v74s0), .val (.int v98s0), .val (.ref b5), .val (.ref b8), .val (.ref b10), .val (.long x15_184), .second, .val (.int v201s0), .val (.int rd), .val (.int v229s0), .unset, .unset] []))
  refine A (XS.iload X23.here hx rfl (hb hby at_231) rfl) ?_
  show D (T23.setTop (mkF m 233 #[.val (.int p1), .val (.int p2), .val (.int p3), .val (.int p4), .val (.int p5), .val (.int x5_8), .val (.int x6_16), .val (.int v28s0), .val (.int x8_38), .val (.int v51s0), .val (.int v74s0), .val (.int v98s0), .val (.ref b5), .val (.ref b8), .val (.ref b10), .val (.long x15_184), .second, .val (.int v201s0), .val (.int rd), .val (.int v229s0), .unset, .unset] [(.int v229s0)]))
  refine Adv.callS A X23 hx hZ hown (hw _ (List.mem_of_getElem? (i := 166) rfl)) (hw _ (List.mem_of_getElem? (i := 167) rfl)) (hw _ (List.mem_of_getElem? (i := 168) rfl)) (hw _ (List.mem_of_getElem? (i := 169) rfl)) rfl (rm27 l Z a0 hw [] v229s0 T23.heap n0) 0 (g := (mkF m 233 #[.val (.int p1), .val (.int p2), .val (.int p3), .val (.int p4), .val (.int p5), .val (.int x5_8), .val (.int x6_16), .val (.int v28s0), .val (.int x8_38), .val (.int v51s0), .val (.int v74s0), .val (.int v98s0), .val (.ref b5), .val (.ref b8), .val (.ref b10), .val (.long x15_184), .second, .val (.int v201s0), .val (.int rd), .val (.int v229s0), .unset, .unset] [(.int v229s0)])) rfl (by rw [hml]; rfl) [(.int v229s0)] [] rfl (lenOf pd0_7 rfl) rfl (by show 2 * 0 + _ ≤ _; exact Nat.le_of_eq rfl) (hb hby at_233) (by decide) (by decide) (by decide) (by decide) (by decide) ?_
  rintro T25 L25 _ X25 ⟨rfl, N25_q, e25⟩
  have N25 := Fr.app N23 N25_q
  show D (T25.setTop (mkF m 236 #[.val (.int p1), .val (.int p2), .val (.int p3), .val (.int p4), .val (.int p5), .val (.int x5_8), .val (.int x6_16), .val (.int v28s0), .val (.int x8_38), .val (.int v51s0), .val (.int v74s0), .val (.int v98s0), .val (.ref b5), .val (.ref b8), .val (.ref b10), .val (.long x15_184), .second, .val (.int v201s0), .val (.int rd), .val (.int v229s0), .unset, .unset] [(.int (f27 v229s0))]))
  by_cases c236_26 : (f27 v229s0) = (0 : Int32)
  · refine A (XS.ifNo X25.here hx rfl (hb hby at_236) rfl ((if0 _ _).trans (teq c236_26).2)) ?_
    show D (T25.setTop (mkF m 239 #[.val (.int p1), .val (.int p2), .val (.int p3), .val (.int p4), .val (.int p5), .val (.int x5_8), .val (.int x6_16), .val (.int v28s0), .val (.int x8_38), .val (.int v51s0), .val (.int v74s0), .val (.int v98s0), .val (.ref b5), .val (.ref b8), .val (.ref b10), .val (.long x15_184), .second, .val (.int v201s0), .val (.int rd), .val (.int v229s0), .unset, .unset] []))
    refine A (XS.iload X25.here hx rfl (hb hby at_239) rfl) ?_
    show D (T25.setTop (mkF m 241 #[.val (.int p1), .val (.int p2), .val (.int p3), .val (.int p4), .val (.int p5), .val (.int x5_8), .val (.int x6_16), .val (.int v28s0), .val (.int x8_38), .val (.int v51s0), .val (.int v74s0), .val (.int v98s0), .val (.ref b5), .val (.ref b8), .val (.ref b10), .val (.long x15_184), .second, .val (.int v201s0), .val (.int rd), .val (.int v229s0), .unset, .unset] [(.int v229s0)]))
    refine Adv.callS A X25 hx hZ hown (hw _ (List.mem_of_getElem? (i := 171) rfl)) (hw _ (List.mem_of_getElem? (i := 172) rfl)) (hw _ (List.mem_of_getElem? (i := 168) rfl)) (hw _ (List.mem_of_getElem? (i := 173) rfl)) e25 (rm28 l Z a0 hw [] v229s0 T23.heap n0) 0 (g := (mkF m 241 #[.val (.int p1), .val (.int p2), .val (.int p3), .val (.int p4), .val (.int p5), .val (.int x5_8), .val (.int x6_16), .val (.int v28s0), .val (.int x8_38), .val (.int v51s0), .val (.int v74s0), .val (.int v98s0), .val (.ref b5), .val (.ref b8), .val (.ref b10), .val (.long x15_184), .second, .val (.int v201s0), .val (.int rd), .val (.int v229s0), .unset, .unset] [(.int v229s0)])) rfl (by rw [hml]; rfl) [(.int v229s0)] [] rfl (lenOf pd0_7 rfl) rfl (by show 2 * 0 + _ ≤ _; exact Nat.le_of_eq rfl) (hb hby at_241) (by decide) (by decide) (by decide) (by decide) (by decide) ?_
    rintro T27 L27 _ X27 ⟨rfl, N27_q, e27⟩
    have N27 := Fr.app N25 N27_q
    show D (T27.setTop (mkF m 244 #[.val (.int p1), .val (.int p2), .val (.int p3), .val (.int p4), .val (.int p5), .val (.int x5_8), .val (.int x6_16), .val (.int v28s0), .val (.int x8_38), .val (.int v51s0), .val (.int v74s0), .val (.int v98s0), .val (.ref b5), .val (.ref b8), .val (.ref b10), .val (.long x15_184), .second, .val (.int v201s0), .val (.int rd), .val (.int v229s0), .unset, .unset] [(.int (f28 v229s0))]))
    by_cases c244_28 : (f28 v229s0) = (0 : Int32)
    · refine A (XS.ifNo X27.here hx rfl (hb hby at_244) rfl ((if0 _ _).trans (teq c244_28).2)) ?_
      show D (T27.setTop (mkF m 247 #[.val (.int p1), .val (.int p2), .val (.int p3), .val (.int p4), .val (.int p5), .val (.int x5_8), .val (.int x6_16), .val (.int v28s0), .val (.int x8_38), .val (.int v51s0), .val (.int v74s0), .val (.int v98s0), .val (.ref b5), .val (.ref b8), .val (.ref b10), .val (.long x15_184), .second, .val (.int v201s0), .val (.int rd), .val (.int v229s0), .unset, .unset] []))
      refine A (XS.iload X27.here hx rfl (hb hby at_247) rfl) ?_
      show D (T27.setTop (mkF m 249 #[.val (.int p1), .val (.int p2), .val (.int p3), .val (.int p4), .val (.int p5), .val (.int x5_8), .val (.int x6_16), .val (.int v28s0), .val (.int x8_38), .val (.int v51s0), .val (.int v74s0), .val (.int v98s0), .val (.ref b5), .val (.ref b8), .val (.ref b10), .val (.long x15_184), .second, .val (.int v201s0), .val (.int rd), .val (.int v229s0), .unset, .unset] [(.int v229s0)]))
      refine A (XS.istore X27.here hx rfl (hb hby at_249) rfl (l' := #[.val (.int p1), .val (.int p2), .val (.int p3), .val (.int p4), .val (.int p5), .val (.int x5_8), .val (.int x6_16), .val (.int v28s0), .val (.int x8_38), .val (.int v51s0), .val (.int v74s0), .val (.int v98s0), .val (.ref b5), .val (.ref b8), .val (.ref b10), .val (.long x15_184), .second, .val (.int v201s0), .val (.int rd), .val (.int v229s0), .val (.int v229s0), .unset]) rfl) ?_
      show D (T27.setTop (mkF m 251 #[.val (.int p1), .val (.int p2), .val (.int p3), .val (.int p4), .val (.int p5), .val (.int x5_8), .val (.int x6_16), .val (.int v28s0), .val (.int x8_38), .val (.int v51s0), .val (.int v74s0), .val (.int v98s0), .val (.ref b5), .val (.ref b8), .val (.ref b10), .val (.long x15_184), .second, .val (.int v201s0), .val (.int rd), .val (.int v229s0), .val (.int v229s0), .unset] []))
      refine A (XS.iconst X27.here hx rfl (hb hby at_251)) ?_
      show D (T27.setTop (mkF m 252 #[.val (.int p1), .val (.int p2), .val (.int p3), .val (.int p4), .val (.int p5), .val (.int x5_8), .val (.int x6_16), .val (.int v28s0), .val (.int x8_38), .val (.int v51s0), .val (.int v74s0), .val (.int v98s0), .val (.ref b5), .val (.ref b8), .val (.ref b10), .val (.long x15_184), .second, .val (.int v201s0), .val (.int rd), .val (.int v229s0), .val (.int v229s0), .unset] [(.int (1 : Int32))]))
      refine A (XS.istore X27.here hx rfl (hb hby at_252) rfl (l' := #[.val (.int p1), .val (.int p2), .val (.int p3), .val (.int p4), .val (.int p5), .val (.int x5_8), .val (.int x6_16), .val (.int v28s0), .val (.int x8_38), .val (.int v51s0), .val (.int v74s0), .val (.int v98s0), .val (.ref b5), .val (.ref b8), .val (.ref b10), .val (.long x15_184), .second, .val (.int v201s0), .val (.int rd), .val (.int v229s0), .val (.int v229s0), .val (.int (1 : Int32))]) rfl) ?_
      show D (T27.setTop (mkF m 254 #[.val (.int p1), .val (.int p2), .val (.int p3), .val (.int p4), .val (.int p5), .val (.int x5_8), .val (.int x6_16), .val (.int v28s0), .val (.int x8_38), .val (.int v51s0), .val (.int v74s0), .val (.int v98s0), .val (.ref b5), .val (.ref b8), .val (.ref b10), .val (.long x15_184), .second, .val (.int v201s0), .val (.int rd), .val (.int v229s0), .val (.int v229s0), .val (.int (1 : Int32))] []))
      refine A (XS.goto X27.here hx rfl (pc0 := 254) (pc' := 340) rfl (hb hby at_254) (by decide) (by decide)) ?_
      show D (T27.setTop (mkF m 340 #[.val (.int p1), .val (.int p2), .val (.int p3), .val (.int p4), .val (.int p5), .val (.int x5_8), .val (.int x6_16), .val (.int v28s0), .val (.int x8_38), .val (.int v51s0), .val (.int v74s0), .val (.int v98s0), .val (.ref b5), .val (.ref b8), .val (.ref b10), .val (.long x15_184), .second, .val (.int v201s0), .val (.int rd), .val (.int v229s0), .val (.int v229s0), .val (.int (1 : Int32))] []))
      refine A (XS.iload X27.here hx rfl (hb hby at_340) rfl) ?_
      show D (T27.setTop (mkF m 342 #[.val (.int p1), .val (.int p2), .val (.int p3), .val (.int p4), .val (.int p5), .val (.int x5_8), .val (.int x6_16), .val (.int v28s0), .val (.int x8_38), .val (.int v51s0), .val (.int v74s0), .val (.int v98s0), .val (.ref b5), .val (.ref b8), .val (.ref b10), .val (.long x15_184), .second, .val (.int v201s0), .val (.int rd), .val (.int v229s0), .val (.int v229s0), .val (.int (1 : Int32))] [(.int v201s0)]))
      by_cases c342_29 : v201s0 = (0 : Int32)
      · refine A (XS.ifYes X27.here hx rfl (pc0 := 342) (pc' := 371) rfl (hb hby at_342) rfl ((if0 _ _).trans (teq c342_29).1) (by decide) (by decide)) ?_
        show D (T27.setTop (mkF m 371 #[.val (.int p1), .val (.int p2), .val (.int p3), .val (.int p4), .val (.int p5), .val (.int x5_8), .val (.int x6_16), .val (.int v28s0), .val (.int x8_38), .val (.int v51s0), .val (.int v74s0), .val (.int v98s0), .val (.ref b5), .val (.ref b8), .val (.ref b10), .val (.long x15_184), .second, .val (.int v201s0), .val (.int rd), .val (.int v229s0), .val (.int v229s0), .val (.int (1 : Int32))] []))
        refine A (XS.iconst X27.here hx rfl (hb hby at_371)) ?_
        show D (T27.setTop (mkF m 372 #[.val (.int p1), .val (.int p2), .val (.int p3), .val (.int p4), .val (.int p5), .val (.int x5_8), .val (.int x6_16), .val (.int v28s0), .val (.int x8_38), .val (.int v51s0), .val (.int v74s0), .val (.int v98s0), .val (.ref b5), .val (.ref b8), .val (.ref b10), .val (.long x15_184), .second, .val (.int v201s0), .val (.int rd), .val (.int v229s0), .val (.int v229s0), .val (.int (1 : Int32))] [(.int (0 : Int32))]))
        exfalso
        have hof : v201s0 = 1 := by rw [hv201s0, if_pos ((lw_eq _ _).mpr (by rw [hx15_184]; exact own_off r5 r6))]
        rw [hof] at c342_29; exact absurd c342_29 (by decide)
      · refine A (XS.ifNo X27.here hx rfl (hb hby at_342) rfl ((if0 _ _).trans (feq c342_29).1)) ?_
        show D (T27.setTop (mkF m 345 #[.val (.int p1), .val (.int p2), .val (.int p3), .val (.int p4), .val (.int p5), .val (.int x5_8), .val (.int x6_16), .val (.int v28s0), .val (.int x8_38), .val (.int v51s0), .val (.int v74s0), .val (.int v98s0), .val (.ref b5), .val (.ref b8), .val (.ref b10), .val (.long x15_184), .second, .val (.int v201s0), .val (.int rd), .val (.int v229s0), .val (.int v229s0), .val (.int (1 : Int32))] []))
        refine A (XS.iload X27.here hx rfl (hb hby at_345) rfl) ?_
        show D (T27.setTop (mkF m 347 #[.val (.int p1), .val (.int p2), .val (.int p3), .val (.int p4), .val (.int p5), .val (.int x5_8), .val (.int x6_16), .val (.int v28s0), .val (.int x8_38), .val (.int v51s0), .val (.int v74s0), .val (.int v98s0), .val (.ref b5), .val (.ref b8), .val (.ref b10), .val (.long x15_184), .second, .val (.int v201s0), .val (.int rd), .val (.int v229s0), .val (.int v229s0), .val (.int (1 : Int32))] [(.int rd)]))
        refine A (XS.iload X27.here hx rfl (hb hby at_347) rfl) ?_
        show D (T27.setTop (mkF m 349 #[.val (.int p1), .val (.int p2), .val (.int p3), .val (.int p4), .val (.int p5), .val (.int x5_8), .val (.int x6_16), .val (.int v28s0), .val (.int x8_38), .val (.int v51s0), .val (.int v74s0), .val (.int v98s0), .val (.ref b5), .val (.ref b8), .val (.ref b10), .val (.long x15_184), .second, .val (.int v201s0), .val (.int rd), .val (.int v229s0), .val (.int v229s0), .val (.int (1 : Int32))] [(.int v229s0), (.int rd)]))
        by_cases c349_30 : rd = v229s0
        · refine A (XS.icmpNo X27.here hx rfl (hb hby at_349) rfl (teq c349_30).2) ?_
          show D (T27.setTop (mkF m 352 #[.val (.int p1), .val (.int p2), .val (.int p3), .val (.int p4), .val (.int p5), .val (.int x5_8), .val (.int x6_16), .val (.int v28s0), .val (.int x8_38), .val (.int v51s0), .val (.int v74s0), .val (.int v98s0), .val (.ref b5), .val (.ref b8), .val (.ref b10), .val (.long x15_184), .second, .val (.int v201s0), .val (.int rd), .val (.int v229s0), .val (.int v229s0), .val (.int (1 : Int32))] []))
          refine A (XS.aload X27.here hx rfl (hb hby at_352) rfl rfl) ?_
          show D (T27.setTop (mkF m 354 #[.val (.int p1), .val (.int p2), .val (.int p3), .val (.int p4), .val (.int p5), .val (.int x5_8), .val (.int x6_16), .val (.int v28s0), .val (.int x8_38), .val (.int v51s0), .val (.int v74s0), .val (.int v98s0), .val (.ref b5), .val (.ref b8), .val (.ref b10), .val (.long x15_184), .second, .val (.int v201s0), .val (.int rd), .val (.int v229s0), .val (.int v229s0), .val (.int (1 : Int32))] [(.ref b10)]))
          refine Adv.callV A X27 hx hZ hown (hw _ (List.mem_of_getElem? (i := 175) rfl)) (hw _ (List.mem_of_getElem? (i := 176) rfl)) (notFace_of_selects (args := #[]) (mvT hZ (hw _ (List.mem_of_getElem? (i := 178) rfl)))) (hw _ (List.mem_of_getElem? (i := 178) rfl)) (hw _ (List.mem_of_getElem? (i := 177) rfl)) (hw _ (List.mem_of_getElem? (i := 33) rfl)) (hw _ (List.mem_of_getElem? (i := 179) rfl)) e27 E_b10_23 (rm29 l Z a0 hw [] b10 T23.heap n0 jx b8 Z_23 g_b10 E_b10_23 F23_chars F23_index cd nb fb cs hcs sf hsf b9 v74s0 v98s0 hSt S_sf_23 S_cs_23 S_ad_23 S_hi_23 S_lo_23 E_b8_23 F_coder_b8_23 F_value_b8_23 V_b9_23) 0 (g := (mkF m 354 #[.val (.int p1), .val (.int p2), .val (.int p3), .val (.int p4), .val (.int p5), .val (.int x5_8), .val (.int x6_16), .val (.int v28s0), .val (.int x8_38), .val (.int v51s0), .val (.int v74s0), .val (.int v98s0), .val (.ref b5), .val (.ref b8), .val (.ref b10), .val (.long x15_184), .second, .val (.int v201s0), .val (.int rd), .val (.int v229s0), .val (.int v229s0), .val (.int (1 : Int32))] [(.ref b10)])) rfl (by rw [hml]; rfl) [] [] rfl (lenOf pd0_6 rfl) rfl (by show 2 * 0 + _ ≤ _; exact Nat.le_of_eq rfl) (hb hby at_354) (by decide) (by decide) (by decide) (by decide) (by decide) ?_
          rintro T31 L31 _ X31 ⟨rfl, N31_q, e31⟩
          have N31 := Fr.app N27 N31_q
          show D (T31.setTop (mkF m 357 #[.val (.int p1), .val (.int p2), .val (.int p3), .val (.int p4), .val (.int p5), .val (.int x5_8), .val (.int x6_16), .val (.int v28s0), .val (.int x8_38), .val (.int v51s0), .val (.int v74s0), .val (.int v98s0), .val (.ref b5), .val (.ref b8), .val (.ref b10), .val (.long x15_184), .second, .val (.int v201s0), .val (.int rd), .val (.int v229s0), .val (.int v229s0), .val (.int (1 : Int32))] [(.int ((2 : Int32) - jx))]))
          refine A (XS.iconst X31.here hx rfl (hb hby at_357)) ?_
          show D (T31.setTop (mkF m 358 #[.val (.int p1), .val (.int p2), .val (.int p3), .val (.int p4), .val (.int p5), .val (.int x5_8), .val (.int x6_16), .val (.int v28s0), .val (.int x8_38), .val (.int v51s0), .val (.int v74s0), .val (.int v98s0), .val (.ref b5), .val (.ref b8), .val (.ref b10), .val (.long x15_184), .second, .val (.int v201s0), .val (.int rd), .val (.int v229s0), .val (.int v229s0), .val (.int (1 : Int32))] [(.int (2 : Int32)), (.int ((2 : Int32) - jx))]))
          refine A (XS.iload X31.here hx rfl (hb hby at_358) rfl) ?_
          show D (T31.setTop (mkF m 360 #[.val (.int p1), .val (.int p2), .val (.int p3), .val (.int p4), .val (.int p5), .val (.int x5_8), .val (.int x6_16), .val (.int v28s0), .val (.int x8_38), .val (.int v51s0), .val (.int v74s0), .val (.int v98s0), .val (.ref b5), .val (.ref b8), .val (.ref b10), .val (.long x15_184), .second, .val (.int v201s0), .val (.int rd), .val (.int v229s0), .val (.int v229s0), .val (.int (1 : Int32))] [(.int x8_38), (.int (2 : Int32)), (.int ((2 : Int32) - jx))]))
          refine A (XS.isub X31.here hx rfl (hb hby at_360) rfl) ?_
          show D (T31.setTop (mkF m 361 #[.val (.int p1), .val (.int p2), .val (.int p3), .val (.int p4), .val (.int p5), .val (.int x5_8), .val (.int x6_16), .val (.int v28s0), .val (.int x8_38), .val (.int v51s0), .val (.int v74s0), .val (.int v98s0), .val (.ref b5), .val (.ref b8), .val (.ref b10), .val (.long x15_184), .second, .val (.int v201s0), .val (.int rd), .val (.int v229s0), .val (.int v229s0), .val (.int (1 : Int32))] [(.int ((2 : Int32) - x8_38)), (.int ((2 : Int32) - jx))]))
          refine A (XS.iload X31.here hx rfl (hb hby at_361) rfl) ?_
          show D (T31.setTop (mkF m 363 #[.val (.int p1), .val (.int p2), .val (.int p3), .val (.int p4), .val (.int p5), .val (.int x5_8), .val (.int x6_16), .val (.int v28s0), .val (.int x8_38), .val (.int v51s0), .val (.int v74s0), .val (.int v98s0), .val (.ref b5), .val (.ref b8), .val (.ref b10), .val (.long x15_184), .second, .val (.int v201s0), .val (.int rd), .val (.int v229s0), .val (.int v229s0), .val (.int (1 : Int32))] [(.int (1 : Int32)), (.int ((2 : Int32) - x8_38)), (.int ((2 : Int32) - jx))]))
          refine A (XS.isub X31.here hx rfl (hb hby at_363) rfl) ?_
          show D (T31.setTop (mkF m 364 #[.val (.int p1), .val (.int p2), .val (.int p3), .val (.int p4), .val (.int p5), .val (.int x5_8), .val (.int x6_16), .val (.int v28s0), .val (.int x8_38), .val (.int v51s0), .val (.int v74s0), .val (.int v98s0), .val (.ref b5), .val (.ref b8), .val (.ref b10), .val (.long x15_184), .second, .val (.int v201s0), .val (.int rd), .val (.int v229s0), .val (.int v229s0), .val (.int (1 : Int32))] [(.int (((2 : Int32) - x8_38) - (1 : Int32))), (.int ((2 : Int32) - jx))]))
          suffices Km372_32 : ∀ (v372s0 : Int32), v372s0 = (if ((2 : Int32) - jx) = (((2 : Int32) - x8_38) - (1 : Int32)) then (1 : Int32) else (0 : Int32)) → D (T31.setTop (mkF m 372 #[.val (.int p1), .val (.int p2), .val (.int p3), .val (.int p4), .val (.int p5), .val (.int x5_8), .val (.int x6_16), .val (.int v28s0), .val (.int x8_38), .val (.int v51s0), .val (.int v74s0), .val (.int v98s0), .val (.ref b5), .val (.ref b8), .val (.ref b10), .val (.long x15_184), .second, .val (.int v201s0), .val (.int rd), .val (.int v229s0), .val (.int v229s0), .val (.int (1 : Int32))] [(.int v372s0)])) by
            by_cases c364_4 : ((2 : Int32) - jx) = (((2 : Int32) - x8_38) - (1 : Int32))
            · refine A (XS.icmpNo X31.here hx rfl (hb hby at_364) rfl (teq c364_4).2) ?_
              show D (T31.setTop (mkF m 367 #[.val (.int p1), .val (.int p2), .val (.int p3), .val (.int p4), .val (.int p5), .val (.int x5_8), .val (.int x6_16), .val (.int v28s0), .val (.int x8_38), .val (.int v51s0), .val (.int v74s0), .val (.int v98s0), .val (.ref b5), .val (.ref b8), .val (.ref b10), .val (.long x15_184), .second, .val (.int v201s0), .val (.int rd), .val (.int v229s0), .val (.int v229s0), .val (.int (1 : Int32))] []))
              refine A (XS.iconst X31.here hx rfl (hb hby at_367)) ?_
              show D (T31.setTop (mkF m 368 #[.val (.int p1), .val (.int p2), .val (.int p3), .val (.int p4), .val (.int p5), .val (.int x5_8), .val (.int x6_16), .val (.int v28s0), .val (.int x8_38), .val (.int v51s0), .val (.int v74s0), .val (.int v98s0), .val (.ref b5), .val (.ref b8), .val (.ref b10), .val (.long x15_184), .second, .val (.int v201s0), .val (.int rd), .val (.int v229s0), .val (.int v229s0), .val (.int (1 : Int32))] [(.int (1 : Int32))]))
              refine A (XS.goto X31.here hx rfl (pc0 := 368) (pc' := 372) rfl (hb hby at_368) (by decide) (by decide)) ?_
              show D (T31.setTop (mkF m 372 #[.val (.int p1), .val (.int p2), .val (.int p3), .val (.int p4), .val (.int p5), .val (.int x5_8), .val (.int x6_16), .val (.int v28s0), .val (.int x8_38), .val (.int v51s0), .val (.int v74s0), .val (.int v98s0), .val (.ref b5), .val (.ref b8), .val (.ref b10), .val (.long x15_184), .second, .val (.int v201s0), .val (.int rd), .val (.int v229s0), .val (.int v229s0), .val (.int (1 : Int32))] [(.int (1 : Int32))]))
              exact Km372_32 _ ((if_pos c364_4)).symm
            · refine A (XS.icmpYes X31.here hx rfl (pc0 := 364) (pc' := 371) rfl (hb hby at_364) rfl (feq c364_4).2 (by decide) (by decide)) ?_
              show D (T31.setTop (mkF m 371 #[.val (.int p1), .val (.int p2), .val (.int p3), .val (.int p4), .val (.int p5), .val (.int x5_8), .val (.int x6_16), .val (.int v28s0), .val (.int x8_38), .val (.int v51s0), .val (.int v74s0), .val (.int v98s0), .val (.ref b5), .val (.ref b8), .val (.ref b10), .val (.long x15_184), .second, .val (.int v201s0), .val (.int rd), .val (.int v229s0), .val (.int v229s0), .val (.int (1 : Int32))] []))
              refine A (XS.iconst X31.here hx rfl (hb hby at_371)) ?_
              show D (T31.setTop (mkF m 372 #[.val (.int p1), .val (.int p2), .val (.int p3), .val (.int p4), .val (.int p5), .val (.int x5_8), .val (.int x6_16), .val (.int v28s0), .val (.int x8_38), .val (.int v51s0), .val (.int v74s0), .val (.int v98s0), .val (.ref b5), .val (.ref b8), .val (.ref b10), .val (.long x15_184), .second, .val (.int v201s0), .val (.int rd), .val (.int v229s0), .val (.int v229s0), .val (.int (1 : Int32))] [(.int (0 : Int32))]))
              exact Km372_32 _ ((if_neg c364_4)).symm
          intro v372s0 hv372s0
          show D (T31.setTop (mkF m 372 #[.val (.int p1), .val (.int p2), .val (.int p3), .val (.int p4), .val (.int p5), .val (.int x5_8), .val (.int x6_16), .val (.int v28s0), .val (.int x8_38), .val (.int v51s0), .val (.int v74s0), .val (.int v98s0), .val (.ref b5), .val (.ref b8), .val (.ref b10), .val (.long x15_184), .second, .val (.int v201s0), .val (.int rd), .val (.int v229s0), .val (.int v229s0), .val (.int (1 : Int32))] [(.int v372s0)]))
          obtain rfl : v372s0 = (1 : Int32) := by
            have hof : v201s0 = 1 := by rw [hv201s0, if_pos ((lw_eq _ _).mpr (by rw [hx15_184]; exact own_off r5 r6))]
            have hf := own_fin hk8 hk82 hv229s0 hD
            have hg := (hf.1 c236_26 c244_28)
            have h20 : rd = v229s0 := hg.1
            rw [hv372s0, if_pos hg.2]
          show D (T31.setTop (mkF m 372 #[.val (.int p1), .val (.int p2), .val (.int p3), .val (.int p4), .val (.int p5), .val (.int x5_8), .val (.int x6_16), .val (.int v28s0), .val (.int x8_38), .val (.int v51s0), .val (.int v74s0), .val (.int v98s0), .val (.ref b5), .val (.ref b8), .val (.ref b10), .val (.long x15_184), .second, .val (.int v201s0), .val (.int rd), .val (.int v229s0), .val (.int v229s0), .val (.int (1 : Int32))] [(.int (1 : Int32))]))
          exact F _ (Jvm.JW.retW X31 hS hlk (v := some (.int (1 : Int32))) (fun h => by rw [hrt] at h; cases h) (fun fs hr => retOut X31 hx hrt rfl (Or.inl ⟨rfl, Or.inr (Or.inl rfl), _, rfl⟩) (hb hby at_372) hr) e31 hk_23 ⟨rfl, N31⟩ (by decide) (by decide))
        · refine A (XS.icmpYes X27.here hx rfl (pc0 := 349) (pc' := 371) rfl (hb hby at_349) rfl (feq c349_30).2 (by decide) (by decide)) ?_
          show D (T27.setTop (mkF m 371 #[.val (.int p1), .val (.int p2), .val (.int p3), .val (.int p4), .val (.int p5), .val (.int x5_8), .val (.int x6_16), .val (.int v28s0), .val (.int x8_38), .val (.int v51s0), .val (.int v74s0), .val (.int v98s0), .val (.ref b5), .val (.ref b8), .val (.ref b10), .val (.long x15_184), .second, .val (.int v201s0), .val (.int rd), .val (.int v229s0), .val (.int v229s0), .val (.int (1 : Int32))] []))
          refine A (XS.iconst X27.here hx rfl (hb hby at_371)) ?_
          show D (T27.setTop (mkF m 372 #[.val (.int p1), .val (.int p2), .val (.int p3), .val (.int p4), .val (.int p5), .val (.int x5_8), .val (.int x6_16), .val (.int v28s0), .val (.int x8_38), .val (.int v51s0), .val (.int v74s0), .val (.int v98s0), .val (.ref b5), .val (.ref b8), .val (.ref b10), .val (.long x15_184), .second, .val (.int v201s0), .val (.int rd), .val (.int v229s0), .val (.int v229s0), .val (.int (1 : Int32))] [(.int (0 : Int32))]))
          exfalso
          have hof : v201s0 = 1 := by rw [hv201s0, if_pos ((lw_eq _ _).mpr (by rw [hx15_184]; exact own_off r5 r6))]
          have hf := own_fin hk8 hk82 hv229s0 hD
          have hg := (hf.1 c236_26 c244_28)
          have h20 : rd = v229s0 := hg.1
          exact absurd h20 c349_30
    · refine A (XS.ifYes X27.here hx rfl (pc0 := 244) (pc' := 257) rfl (hb hby at_244) rfl ((if0 _ _).trans (feq c244_28).2) (by decide) (by decide)) ?_
      show D (T27.setTop (mkF m 257 #[.val (.int p1), .val (.int p2), .val (.int p3), .val (.int p4), .val (.int p5), .val (.int x5_8), .val (.int x6_16), .val (.int v28s0), .val (.int x8_38), .val (.int v51s0), .val (.int v74s0), .val (.int v98s0), .val (.ref b5), .val (.ref b8), .val (.ref b10), .val (.long x15_184), .second, .val (.int v201s0), .val (.int rd), .val (.int v229s0), .unset, .unset] []))
      refine A (XS.iload X27.here hx rfl (hb hby at_257) rfl) ?_
      show D (T27.setTop (mkF m 259 #[.val (.int p1), .val (.int p2), .val (.int p3), .val (.int p4), .val (.int p5), .val (.int x5_8), .val (.int x6_16), .val (.int v28s0), .val (.int x8_38), .val (.int v51s0), .val (.int v74s0), .val (.int v98s0), .val (.ref b5), .val (.ref b8), .val (.ref b10), .val (.long x15_184), .second, .val (.int v201s0), .val (.int rd), .val (.int v229s0), .unset, .unset] [(.int v229s0)]))
      refine Adv.callS A X27 hx hZ hown (hw _ (List.mem_of_getElem? (i := 171) rfl)) (hw _ (List.mem_of_getElem? (i := 172) rfl)) (hw _ (List.mem_of_getElem? (i := 168) rfl)) (hw _ (List.mem_of_getElem? (i := 173) rfl)) e27 (rm28 l Z a0 hw [] v229s0 T23.heap n0) 0 (g := (mkF m 259 #[.val (.int p1), .val (.int p2), .val (.int p3), .val (.int p4), .val (.int p5), .val (.int x5_8), .val (.int x6_16), .val (.int v28s0), .val (.int x8_38), .val (.int v51s0), .val (.int v74s0), .val (.int v98s0), .val (.ref b5), .val (.ref b8), .val (.ref b10), .val (.long x15_184), .second, .val (.int v201s0), .val (.int rd), .val (.int v229s0), .unset, .unset] [(.int v229s0)])) rfl (by rw [hml]; rfl) [(.int v229s0)] [] rfl (lenOf pd0_7 rfl) rfl (by show 2 * 0 + _ ≤ _; exact Nat.le_of_eq rfl) (hb hby at_259) (by decide) (by decide) (by decide) (by decide) (by decide) ?_
      rintro T33 L33 _ X33 ⟨rfl, N33_q, e33⟩
      have N33 := Fr.app N27 N33_q
      show D (T33.setTop (mkF m 262 #[.val (.int p1), .val (.int p2), .val (.int p3), .val (.int p4), .val (.int p5), .val (.int x5_8), .val (.int x6_16), .val (.int v28s0), .val (.int x8_38), .val (.int v51s0), .val (.int v74s0), .val (.int v98s0), .val (.ref b5), .val (.ref b8), .val (.ref b10), .val (.long x15_184), .second, .val (.int v201s0), .val (.int rd), .val (.int v229s0), .unset, .unset] [(.int (f28 v229s0))]))
      refine A (XS.ifNo X33.here hx rfl (hb hby at_262) rfl ((if0 _ _).trans (feq c244_28).1)) ?_
      show D (T33.setTop (mkF m 265 #[.val (.int p1), .val (.int p2), .val (.int p3), .val (.int p4), .val (.int p5), .val (.int x5_8), .val (.int x6_16), .val (.int v28s0), .val (.int x8_38), .val (.int v51s0), .val (.int v74s0), .val (.int v98s0), .val (.ref b5), .val (.ref b8), .val (.ref b10), .val (.long x15_184), .second, .val (.int v201s0), .val (.int rd), .val (.int v229s0), .unset, .unset] []))
      refine A (XS.bipush X33.here hx rfl (hb hby at_265)) ?_
      show D (T33.setTop (mkF m 267 #[.val (.int p1), .val (.int p2), .val (.int p3), .val (.int p4), .val (.int p5), .val (.int x5_8), .val (.int x6_16), .val (.int v28s0), .val (.int x8_38), .val (.int v51s0), .val (.int v74s0), .val (.int v98s0), .val (.ref b5), .val (.ref b8), .val (.ref b10), .val (.long x15_184), .second, .val (.int v201s0), .val (.int rd), .val (.int v229s0), .unset, .unset] [(.int (-2 : Int32))]))
      refine A (XS.istore X33.here hx rfl (hb hby at_267) rfl (l' := #[.val (.int p1), .val (.int p2), .val (.int p3), .val (.int p4), .val (.int p5), .val (.int x5_8), .val (.int x6_16), .val (.int v28s0), .val (.int x8_38), .val (.int v51s0), .val (.int v74s0), .val (.int v98s0), .val (.ref b5), .val (.ref b8), .val (.ref b10), .val (.long x15_184), .second, .val (.int v201s0), .val (.int rd), .val (.int v229s0), .val (.int (-2 : Int32)), .unset]) rfl) ?_
      show D (T33.setTop (mkF m 269 #[.val (.int p1), .val (.int p2), .val (.int p3), .val (.int p4), .val (.int p5), .val (.int x5_8), .val (.int x6_16), .val (.int v28s0), .val (.int x8_38), .val (.int v51s0), .val (.int v74s0), .val (.int v98s0), .val (.ref b5), .val (.ref b8), .val (.ref b10), .val (.long x15_184), .second, .val (.int v201s0), .val (.int rd), .val (.int v229s0), .val (.int (-2 : Int32)), .unset] []))
      refine A (XS.iconst X33.here hx rfl (hb hby at_269)) ?_
      show D (T33.setTop (mkF m 270 #[.val (.int p1), .val (.int p2), .val (.int p3), .val (.int p4), .val (.int p5), .val (.int x5_8), .val (.int x6_16), .val (.int v28s0), .val (.int x8_38), .val (.int v51s0), .val (.int v74s0), .val (.int v98s0), .val (.ref b5), .val (.ref b8), .val (.ref b10), .val (.long x15_184), .second, .val (.int v201s0), .val (.int rd), .val (.int v229s0), .val (.int (-2 : Int32)), .unset] [(.int (0 : Int32))]))
      refine A (XS.istore X33.here hx rfl (hb hby at_270) rfl (l' := #[.val (.int p1), .val (.int p2), .val (.int p3), .val (.int p4), .val (.int p5), .val (.int x5_8), .val (.int x6_16), .val (.int v28s0), .val (.int x8_38), .val (.int v51s0), .val (.int v74s0), .val (.int v98s0), .val (.ref b5), .val (.ref b8), .val (.ref b10), .val (.long x15_184), .second, .val (.int v201s0), .val (.int rd), .val (.int v229s0), .val (.int (-2 : Int32)), .val (.int (0 : Int32))]) rfl) ?_
      show D (T33.setTop (mkF m 272 #[.val (.int p1), .val (.int p2), .val (.int p3), .val (.int p4), .val (.int p5), .val (.int x5_8), .val (.int x6_16), .val (.int v28s0), .val (.int x8_38), .val (.int v51s0), .val (.int v74s0), .val (.int v98s0), .val (.ref b5), .val (.ref b8), .val (.ref b10), .val (.long x15_184), .second, .val (.int v201s0), .val (.int rd), .val (.int v229s0), .val (.int (-2 : Int32)), .val (.int (0 : Int32))] []))
      refine A (XS.goto X33.here hx rfl (pc0 := 272) (pc' := 340) rfl (hb hby at_272) (by decide) (by decide)) ?_
      show D (T33.setTop (mkF m 340 #[.val (.int p1), .val (.int p2), .val (.int p3), .val (.int p4), .val (.int p5), .val (.int x5_8), .val (.int x6_16), .val (.int v28s0), .val (.int x8_38), .val (.int v51s0), .val (.int v74s0), .val (.int v98s0), .val (.ref b5), .val (.ref b8), .val (.ref b10), .val (.long x15_184), .second, .val (.int v201s0), .val (.int rd), .val (.int v229s0), .val (.int (-2 : Int32)), .val (.int (0 : Int32))] []))
      refine A (XS.iload X33.here hx rfl (hb hby at_340) rfl) ?_
      show D (T33.setTop (mkF m 342 #[.val (.int p1), .val (.int p2), .val (.int p3), .val (.int p4), .val (.int p5), .val (.int x5_8), .val (.int x6_16), .val (.int v28s0), .val (.int x8_38), .val (.int v51s0), .val (.int v74s0), .val (.int v98s0), .val (.ref b5), .val (.ref b8), .val (.ref b10), .val (.long x15_184), .second, .val (.int v201s0), .val (.int rd), .val (.int v229s0), .val (.int (-2 : Int32)), .val (.int (0 : Int32))] [(.int v201s0)]))
      by_cases c342_34 : v201s0 = (0 : Int32)
      · refine A (XS.ifYes X33.here hx rfl (pc0 := 342) (pc' := 371) rfl (hb hby at_342) rfl ((if0 _ _).trans (teq c342_34).1) (by decide) (by decide)) ?_
        show D (T33.setTop (mkF m 371 #[.val (.int p1), .val (.int p2), .val (.int p3), .val (.int p4), .val (.int p5), .val (.int x5_8), .val (.int x6_16), .val (.int v28s0), .val (.int x8_38), .val (.int v51s0), .val (.int v74s0), .val (.int v98s0), .val (.ref b5), .val (.ref b8), .val (.ref b10), .val (.long x15_184), .second, .val (.int v201s0), .val (.int rd), .val (.int v229s0), .val (.int (-2 : Int32)), .val (.int (0 : Int32))] []))
        refine A (XS.iconst X33.here hx rfl (hb hby at_371)) ?_
        show D (T33.setTop (mkF m 372 #[.val (.int p1), .val (.int p2), .val (.int p3), .val (.int p4), .val (.int p5), .val (.int x5_8), .val (.int x6_16), .val (.int v28s0), .val (.int x8_38), .val (.int v51s0), .val (.int v74s0), .val (.int v98s0), .val (.ref b5), .val (.ref b8), .val (.ref b10), .val (.long x15_184), .second, .val (.int v201s0), .val (.int rd), .val (.int v229s0), .val (.int (-2 : Int32)), .val (.int (0 : Int32))] [(.int (0 : Int32))]))
        exfalso
        have hof : v201s0 = 1 := by rw [hv201s0, if_pos ((lw_eq _ _).mpr (by rw [hx15_184]; exact own_off r5 r6))]
        rw [hof] at c342_34; exact absurd c342_34 (by decide)
      · refine A (XS.ifNo X33.here hx rfl (hb hby at_342) rfl ((if0 _ _).trans (feq c342_34).1)) ?_
        show D (T33.setTop (mkF m 345 #[.val (.int p1), .val (.int p2), .val (.int p3), .val (.int p4), .val (.int p5), .val (.int x5_8), .val (.int x6_16), .val (.int v28s0), .val (.int x8_38), .val (.int v51s0), .val (.int v74s0), .val (.int v98s0), .val (.ref b5), .val (.ref b8), .val (.ref b10), .val (.long x15_184), .second, .val (.int v201s0), .val (.int rd), .val (.int v229s0), .val (.int (-2 : Int32)), .val (.int (0 : Int32))] []))
        refine A (XS.iload X33.here hx rfl (hb hby at_345) rfl) ?_
        show D (T33.setTop (mkF m 347 #[.val (.int p1), .val (.int p2), .val (.int p3), .val (.int p4), .val (.int p5), .val (.int x5_8), .val (.int x6_16), .val (.int v28s0), .val (.int x8_38), .val (.int v51s0), .val (.int v74s0), .val (.int v98s0), .val (.ref b5), .val (.ref b8), .val (.ref b10), .val (.long x15_184), .second, .val (.int v201s0), .val (.int rd), .val (.int v229s0), .val (.int (-2 : Int32)), .val (.int (0 : Int32))] [(.int rd)]))
        refine A (XS.iload X33.here hx rfl (hb hby at_347) rfl) ?_
        show D (T33.setTop (mkF m 349 #[.val (.int p1), .val (.int p2), .val (.int p3), .val (.int p4), .val (.int p5), .val (.int x5_8), .val (.int x6_16), .val (.int v28s0), .val (.int x8_38), .val (.int v51s0), .val (.int v74s0), .val (.int v98s0), .val (.ref b5), .val (.ref b8), .val (.ref b10), .val (.long x15_184), .second, .val (.int v201s0), .val (.int rd), .val (.int v229s0), .val (.int (-2 : Int32)), .val (.int (0 : Int32))] [(.int (-2 : Int32)), (.int rd)]))
        by_cases c349_35 : rd = (-2 : Int32)
        · refine A (XS.icmpNo X33.here hx rfl (hb hby at_349) rfl (teq c349_35).2) ?_
          show D (T33.setTop (mkF m 352 #[.val (.int p1), .val (.int p2), .val (.int p3), .val (.int p4), .val (.int p5), .val (.int x5_8), .val (.int x6_16), .val (.int v28s0), .val (.int x8_38), .val (.int v51s0), .val (.int v74s0), .val (.int v98s0), .val (.ref b5), .val (.ref b8), .val (.ref b10), .val (.long x15_184), .second, .val (.int v201s0), .val (.int rd), .val (.int v229s0), .val (.int (-2 : Int32)), .val (.int (0 : Int32))] []))
          refine A (XS.aload X33.here hx rfl (hb hby at_352) rfl rfl) ?_
          show D (T33.setTop (mkF m 354 #[.val (.int p1), .val (.int p2), .val (.int p3), .val (.int p4), .val (.int p5), .val (.int x5_8), .val (.int x6_16), .val (.int v28s0), .val (.int x8_38), .val (.int v51s0), .val (.int v74s0), .val (.int v98s0), .val (.ref b5), .val (.ref b8), .val (.ref b10), .val (.long x15_184), .second, .val (.int v201s0), .val (.int rd), .val (.int v229s0), .val (.int (-2 : Int32)), .val (.int (0 : Int32))] [(.ref b10)]))
          refine Adv.callV A X33 hx hZ hown (hw _ (List.mem_of_getElem? (i := 175) rfl)) (hw _ (List.mem_of_getElem? (i := 176) rfl)) (notFace_of_selects (args := #[]) (mvT hZ (hw _ (List.mem_of_getElem? (i := 178) rfl)))) (hw _ (List.mem_of_getElem? (i := 178) rfl)) (hw _ (List.mem_of_getElem? (i := 177) rfl)) (hw _ (List.mem_of_getElem? (i := 33) rfl)) (hw _ (List.mem_of_getElem? (i := 179) rfl)) e33 E_b10_23 (rm29 l Z a0 hw [] b10 T23.heap n0 jx b8 Z_23 g_b10 E_b10_23 F23_chars F23_index cd nb fb cs hcs sf hsf b9 v74s0 v98s0 hSt S_sf_23 S_cs_23 S_ad_23 S_hi_23 S_lo_23 E_b8_23 F_coder_b8_23 F_value_b8_23 V_b9_23) 0 (g := (mkF m 354 #[.val (.int p1), .val (.int p2), .val (.int p3), .val (.int p4), .val (.int p5), .val (.int x5_8), .val (.int x6_16), .val (.int v28s0), .val (.int x8_38), .val (.int v51s0), .val (.int v74s0), .val (.int v98s0), .val (.ref b5), .val (.ref b8), .val (.ref b10), .val (.long x15_184), .second, .val (.int v201s0), .val (.int rd), .val (.int v229s0), .val (.int (-2 : Int32)), .val (.int (0 : Int32))] [(.ref b10)])) rfl (by rw [hml]; rfl) [] [] rfl (lenOf pd0_6 rfl) rfl (by show 2 * 0 + _ ≤ _; exact Nat.le_of_eq rfl) (hb hby at_354) (by decide) (by decide) (by decide) (by decide) (by decide) ?_
          rintro T36 L36 _ X36 ⟨rfl, N36_q, e36⟩
          have N36 := Fr.app N33 N36_q
          show D (T36.setTop (mkF m 357 #[.val (.int p1), .val (.int p2), .val (.int p3), .val (.int p4), .val (.int p5), .val (.int x5_8), .val (.int x6_16), .val (.int v28s0), .val (.int x8_38), .val (.int v51s0), .val (.int v74s0), .val (.int v98s0), .val (.ref b5), .val (.ref b8), .val (.ref b10), .val (.long x15_184), .second, .val (.int v201s0), .val (.int rd), .val (.int v229s0), .val (.int (-2 : Int32)), .val (.int (0 : Int32))] [(.int ((2 : Int32) - jx))]))
          refine A (XS.iconst X36.here hx rfl (hb hby at_357)) ?_
          show D (T36.setTop (mkF m 358 #[.val (.int p1), .val (.int p2), .val (.int p3), .val (.int p4), .val (.int p5), .val (.int x5_8), .val (.int x6_16), .val (.int v28s0), .val (.int x8_38), .val (.int v51s0), .val (.int v74s0), .val (.int v98s0), .val (.ref b5), .val (.ref b8), .val (.ref b10), .val (.long x15_184), .second, .val (.int v201s0), .val (.int rd), .val (.int v229s0), .val (.int (-2 : Int32)), .val (.int (0 : Int32))] [(.int (2 : Int32)), (.int ((2 : Int32) - jx))]))
          refine A (XS.iload X36.here hx rfl (hb hby at_358) rfl) ?_
          show D (T36.setTop (mkF m 360 #[.val (.int p1), .val (.int p2), .val (.int p3), .val (.int p4), .val (.int p5), .val (.int x5_8), .val (.int x6_16), .val (.int v28s0), .val (.int x8_38), .val (.int v51s0), .val (.int v74s0), .val (.int v98s0), .val (.ref b5), .val (.ref b8), .val (.ref b10), .val (.long x15_184), .second, .val (.int v201s0), .val (.int rd), .val (.int v229s0), .val (.int (-2 : Int32)), .val (.int (0 : Int32))] [(.int x8_38), (.int (2 : Int32)), (.int ((2 : Int32) - jx))]))
          refine A (XS.isub X36.here hx rfl (hb hby at_360) rfl) ?_
          show D (T36.setTop (mkF m 361 #[.val (.int p1), .val (.int p2), .val (.int p3), .val (.int p4), .val (.int p5), .val (.int x5_8), .val (.int x6_16), .val (.int v28s0), .val (.int x8_38), .val (.int v51s0), .val (.int v74s0), .val (.int v98s0), .val (.ref b5), .val (.ref b8), .val (.ref b10), .val (.long x15_184), .second, .val (.int v201s0), .val (.int rd), .val (.int v229s0), .val (.int (-2 : Int32)), .val (.int (0 : Int32))] [(.int ((2 : Int32) - x8_38)), (.int ((2 : Int32) - jx))]))
          refine A (XS.iload X36.here hx rfl (hb hby at_361) rfl) ?_
          show D (T36.setTop (mkF m 363 #[.val (.int p1), .val (.int p2), .val (.int p3), .val (.int p4), .val (.int p5), .val (.int x5_8), .val (.int x6_16), .val (.int v28s0), .val (.int x8_38), .val (.int v51s0), .val (.int v74s0), .val (.int v98s0), .val (.ref b5), .val (.ref b8), .val (.ref b10), .val (.long x15_184), .second, .val (.int v201s0), .val (.int rd), .val (.int v229s0), .val (.int (-2 : Int32)), .val (.int (0 : Int32))] [(.int (0 : Int32)), (.int ((2 : Int32) - x8_38)), (.int ((2 : Int32) - jx))]))
          refine A (XS.isub X36.here hx rfl (hb hby at_363) rfl) ?_
          show D (T36.setTop (mkF m 364 #[.val (.int p1), .val (.int p2), .val (.int p3), .val (.int p4), .val (.int p5), .val (.int x5_8), .val (.int x6_16), .val (.int v28s0), .val (.int x8_38), .val (.int v51s0), .val (.int v74s0), .val (.int v98s0), .val (.ref b5), .val (.ref b8), .val (.ref b10), .val (.long x15_184), .second, .val (.int v201s0), .val (.int rd), .val (.int v229s0), .val (.int (-2 : Int32)), .val (.int (0 : Int32))] [(.int (((2 : Int32) - x8_38) - (0 : Int32))), (.int ((2 : Int32) - jx))]))
          suffices Km372_37 : ∀ (v372s0a : Int32), v372s0a = (if ((2 : Int32) - jx) = (((2 : Int32) - x8_38) - (0 : Int32)) then (1 : Int32) else (0 : Int32)) → D (T36.setTop (mkF m 372 #[.val (.int p1), .val (.int p2), .val (.int p3), .val (.int p4), .val (.int p5), .val (.int x5_8), .val (.int x6_16), .val (.int v28s0), .val (.int x8_38), .val (.int v51s0), .val (.int v74s0), .val (.int v98s0), .val (.ref b5), .val (.ref b8), .val (.ref b10), .val (.long x15_184), .second, .val (.int v201s0), .val (.int rd), .val (.int v229s0), .val (.int (-2 : Int32)), .val (.int (0 : Int32))] [(.int v372s0a)])) by
            by_cases c364_4 : ((2 : Int32) - jx) = (((2 : Int32) - x8_38) - (0 : Int32))
            · refine A (XS.icmpNo X36.here hx rfl (hb hby at_364) rfl (teq c364_4).2) ?_
              show D (T36.setTop (mkF m 367 #[.val (.int p1), .val (.int p2), .val (.int p3), .val (.int p4), .val (.int p5), .val (.int x5_8), .val (.int x6_16), .val (.int v28s0), .val (.int x8_38), .val (.int v51s0), .val (.int v74s0), .val (.int v98s0), .val (.ref b5), .val (.ref b8), .val (.ref b10), .val (.long x15_184), .second, .val (.int v201s0), .val (.int rd), .val (.int v229s0), .val (.int (-2 : Int32)), .val (.int (0 : Int32))] []))
              refine A (XS.iconst X36.here hx rfl (hb hby at_367)) ?_
              show D (T36.setTop (mkF m 368 #[.val (.int p1), .val (.int p2), .val (.int p3), .val (.int p4), .val (.int p5), .val (.int x5_8), .val (.int x6_16), .val (.int v28s0), .val (.int x8_38), .val (.int v51s0), .val (.int v74s0), .val (.int v98s0), .val (.ref b5), .val (.ref b8), .val (.ref b10), .val (.long x15_184), .second, .val (.int v201s0), .val (.int rd), .val (.int v229s0), .val (.int (-2 : Int32)), .val (.int (0 : Int32))] [(.int (1 : Int32))]))
              refine A (XS.goto X36.here hx rfl (pc0 := 368) (pc' := 372) rfl (hb hby at_368) (by decide) (by decide)) ?_
              show D (T36.setTop (mkF m 372 #[.val (.int p1), .val (.int p2), .val (.int p3), .val (.int p4), .val (.int p5), .val (.int x5_8), .val (.int x6_16), .val (.int v28s0), .val (.int x8_38), .val (.int v51s0), .val (.int v74s0), .val (.int v98s0), .val (.ref b5), .val (.ref b8), .val (.ref b10), .val (.long x15_184), .second, .val (.int v201s0), .val (.int rd), .val (.int v229s0), .val (.int (-2 : Int32)), .val (.int (0 : Int32))] [(.int (1 : Int32))]))
              exact Km372_37 _ ((if_pos c364_4)).symm
            · refine A (XS.icmpYes X36.here hx rfl (pc0 := 364) (pc' := 371) rfl (hb hby at_364) rfl (feq c364_4).2 (by decide) (by decide)) ?_
              show D (T36.setTop (mkF m 371 #[.val (.int p1), .val (.int p2), .val (.int p3), .val (.int p4), .val (.int p5), .val (.int x5_8), .val (.int x6_16), .val (.int v28s0), .val (.int x8_38), .val (.int v51s0), .val (.int v74s0), .val (.int v98s0), .val (.ref b5), .val (.ref b8), .val (.ref b10), .val (.long x15_184), .second, .val (.int v201s0), .val (.int rd), .val (.int v229s0), .val (.int (-2 : Int32)), .val (.int (0 : Int32))] []))
              refine A (XS.iconst X36.here hx rfl (hb hby at_371)) ?_
              show D (T36.setTop (mkF m 372 #[.val (.int p1), .val (.int p2), .val (.int p3), .val (.int p4), .val (.int p5), .val (.int x5_8), .val (.int x6_16), .val (.int v28s0), .val (.int x8_38), .val (.int v51s0), .val (.int v74s0), .val (.int v98s0), .val (.ref b5), .val (.ref b8), .val (.ref b10), .val (.long x15_184), .second, .val (.int v201s0), .val (.int rd), .val (.int v229s0), .val (.int (-2 : Int32)), .val (.int (0 : Int32))] [(.int (0 : Int32))]))
              exact Km372_37 _ ((if_neg c364_4)).symm
          intro v372s0a hv372s0a
          show D (T36.setTop (mkF m 372 #[.val (.int p1), .val (.int p2), .val (.int p3), .val (.int p4), .val (.int p5), .val (.int x5_8), .val (.int x6_16), .val (.int v28s0), .val (.int x8_38), .val (.int v51s0), .val (.int v74s0), .val (.int v98s0), .val (.ref b5), .val (.ref b8), .val (.ref b10), .val (.long x15_184), .second, .val (.int v201s0), .val (.int rd), .val (.int v229s0), .val (.int (-2 : Int32)), .val (.int (0 : Int32))] [(.int v372s0a)]))
          obtain rfl : v372s0a = (1 : Int32) := by
            have hof : v201s0 = 1 := by rw [hv201s0, if_pos ((lw_eq _ _).mpr (by rw [hx15_184]; exact own_off r5 r6))]
            have hf := own_fin hk8 hk82 hv229s0 hD
            have hg := (hf.2.1 c244_28)
            have h20 : rd = (-2 : Int32) := hg.1
            rw [hv372s0a, if_pos hg.2]
          show D (T36.setTop (mkF m 372 #[.val (.int p1), .val (.int p2), .val (.int p3), .val (.int p4), .val (.int p5), .val (.int x5_8), .val (.int x6_16), .val (.int v28s0), .val (.int x8_38), .val (.int v51s0), .val (.int v74s0), .val (.int v98s0), .val (.ref b5), .val (.ref b8), .val (.ref b10), .val (.long x15_184), .second, .val (.int v201s0), .val (.int rd), .val (.int v229s0), .val (.int (-2 : Int32)), .val (.int (0 : Int32))] [(.int (1 : Int32))]))
          exact F _ (Jvm.JW.retW X36 hS hlk (v := some (.int (1 : Int32))) (fun h => by rw [hrt] at h; cases h) (fun fs hr => retOut X36 hx hrt rfl (Or.inl ⟨rfl, Or.inr (Or.inl rfl), _, rfl⟩) (hb hby at_372) hr) e36 hk_23 ⟨rfl, N36⟩ (by decide) (by decide))
        · refine A (XS.icmpYes X33.here hx rfl (pc0 := 349) (pc' := 371) rfl (hb hby at_349) rfl (feq c349_35).2 (by decide) (by decide)) ?_
          show D (T33.setTop (mkF m 371 #[.val (.int p1), .val (.int p2), .val (.int p3), .val (.int p4), .val (.int p5), .val (.int x5_8), .val (.int x6_16), .val (.int v28s0), .val (.int x8_38), .val (.int v51s0), .val (.int v74s0), .val (.int v98s0), .val (.ref b5), .val (.ref b8), .val (.ref b10), .val (.long x15_184), .second, .val (.int v201s0), .val (.int rd), .val (.int v229s0), .val (.int (-2 : Int32)), .val (.int (0 : Int32))] []))
          refine A (XS.iconst X33.here hx rfl (hb hby at_371)) ?_
          show D (T33.setTop (mkF m 372 #[.val (.int p1), .val (.int p2), .val (.int p3), .val (.int p4), .val (.int p5), .val (.int x5_8), .val (.int x6_16), .val (.int v28s0), .val (.int x8_38), .val (.int v51s0), .val (.int v74s0), .val (.int v98s0), .val (.ref b5), .val (.ref b8), .val (.ref b10), .val (.long x15_184), .second, .val (.int v201s0), .val (.int rd), .val (.int v229s0), .val (.int (-2 : Int32)), .val (.int (0 : Int32))] [(.int (0 : Int32))]))
          exfalso
          have hof : v201s0 = 1 := by rw [hv201s0, if_pos ((lw_eq _ _).mpr (by rw [hx15_184]; exact own_off r5 r6))]
          have hf := own_fin hk8 hk82 hv229s0 hD
          have hg := (hf.2.1 c244_28)
          have h20 : rd = (-2 : Int32) := hg.1
          exact absurd h20 c349_35
  · refine A (XS.ifYes X25.here hx rfl (pc0 := 236) (pc' := 257) rfl (hb hby at_236) rfl ((if0 _ _).trans (feq c236_26).2) (by decide) (by decide)) ?_
    show D (T25.setTop (mkF m 257 #[.val (.int p1), .val (.int p2), .val (.int p3), .val (.int p4), .val (.int p5), .val (.int x5_8), .val (.int x6_16), .val (.int v28s0), .val (.int x8_38), .val (.int v51s0), .val (.int v74s0), .val (.int v98s0), .val (.ref b5), .val (.ref b8), .val (.ref b10), .val (.long x15_184), .second, .val (.int v201s0), .val (.int rd), .val (.int v229s0), .unset, .unset] []))
    refine A (XS.iload X25.here hx rfl (hb hby at_257) rfl) ?_
    show D (T25.setTop (mkF m 259 #[.val (.int p1), .val (.int p2), .val (.int p3), .val (.int p4), .val (.int p5), .val (.int x5_8), .val (.int x6_16), .val (.int v28s0), .val (.int x8_38), .val (.int v51s0), .val (.int v74s0), .val (.int v98s0), .val (.ref b5), .val (.ref b8), .val (.ref b10), .val (.long x15_184), .second, .val (.int v201s0), .val (.int rd), .val (.int v229s0), .unset, .unset] [(.int v229s0)]))
    refine Adv.callS A X25 hx hZ hown (hw _ (List.mem_of_getElem? (i := 171) rfl)) (hw _ (List.mem_of_getElem? (i := 172) rfl)) (hw _ (List.mem_of_getElem? (i := 168) rfl)) (hw _ (List.mem_of_getElem? (i := 173) rfl)) e25 (rm28 l Z a0 hw [] v229s0 T23.heap n0) 0 (g := (mkF m 259 #[.val (.int p1), .val (.int p2), .val (.int p3), .val (.int p4), .val (.int p5), .val (.int x5_8), .val (.int x6_16), .val (.int v28s0), .val (.int x8_38), .val (.int v51s0), .val (.int v74s0), .val (.int v98s0), .val (.ref b5), .val (.ref b8), .val (.ref b10), .val (.long x15_184), .second, .val (.int v201s0), .val (.int rd), .val (.int v229s0), .unset, .unset] [(.int v229s0)])) rfl (by rw [hml]; rfl) [(.int v229s0)] [] rfl (lenOf pd0_7 rfl) rfl (by show 2 * 0 + _ ≤ _; exact Nat.le_of_eq rfl) (hb hby at_259) (by decide) (by decide) (by decide) (by decide) (by decide) ?_
    rintro T38 L38 _ X38 ⟨rfl, N38_q, e38⟩
    have N38 := Fr.app N25 N38_q
    show D (T38.setTop (mkF m 262 #[.val (.int p1), .val (.int p2), .val (.int p3), .val (.int p4), .val (.int p5), .val (.int x5_8), .val (.int x6_16), .val (.int v28s0), .val (.int x8_38), .val (.int v51s0), .val (.int v74s0), .val (.int v98s0), .val (.ref b5), .val (.ref b8), .val (.ref b10), .val (.long x15_184), .second, .val (.int v201s0), .val (.int rd), .val (.int v229s0), .unset, .unset] [(.int (f28 v229s0))]))
    by_cases c262_39 : (f28 v229s0) = (0 : Int32)
    · refine A (XS.ifYes X38.here hx rfl (pc0 := 262) (pc' := 275) rfl (hb hby at_262) rfl ((if0 _ _).trans (teq c262_39).1) (by decide) (by decide)) ?_
      show D (T38.setTop (mkF m 275 #[.val (.int p1), .val (.int p2), .val (.int p3), .val (.int p4), .val (.int p5), .val (.int x5_8), .val (.int x6_16), .val (.int v28s0), .val (.int x8_38), .val (.int v51s0), .val (.int v74s0), .val (.int v98s0), .val (.ref b5), .val (.ref b8), .val (.ref b10), .val (.long x15_184), .second, .val (.int v201s0), .val (.int rd), .val (.int v229s0), .unset, .unset] []))
      refine A (XS.iload X38.here hx rfl (hb hby at_275) rfl) ?_
      show D (T38.setTop (mkF m 277 #[.val (.int p1), .val (.int p2), .val (.int p3), .val (.int p4), .val (.int p5), .val (.int x5_8), .val (.int x6_16), .val (.int v28s0), .val (.int x8_38), .val (.int v51s0), .val (.int v74s0), .val (.int v98s0), .val (.ref b5), .val (.ref b8), .val (.ref b10), .val (.long x15_184), .second, .val (.int v201s0), .val (.int rd), .val (.int v229s0), .unset, .unset] [(.int x8_38)]))
      refine A (XS.iconst X38.here hx rfl (hb hby at_277)) ?_
      show D (T38.setTop (mkF m 278 #[.val (.int p1), .val (.int p2), .val (.int p3), .val (.int p4), .val (.int p5), .val (.int x5_8), .val (.int x6_16), .val (.int v28s0), .val (.int x8_38), .val (.int v51s0), .val (.int v74s0), .val (.int v98s0), .val (.ref b5), .val (.ref b8), .val (.ref b10), .val (.long x15_184), .second, .val (.int v201s0), .val (.int rd), .val (.int v229s0), .unset, .unset] [(.int (1 : Int32)), (.int x8_38)]))
      by_cases c278_40 : x8_38 = (1 : Int32)
      · refine A (XS.icmpNo X38.here hx rfl (hb hby at_278) rfl (teq c278_40).2) ?_
        show D (T38.setTop (mkF m 281 #[.val (.int p1), .val (.int p2), .val (.int p3), .val (.int p4), .val (.int p5), .val (.int x5_8), .val (.int x6_16), .val (.int v28s0), .val (.int x8_38), .val (.int v51s0), .val (.int v74s0), .val (.int v98s0), .val (.ref b5), .val (.ref b8), .val (.ref b10), .val (.long x15_184), .second, .val (.int v201s0), .val (.int rd), .val (.int v229s0), .unset, .unset] []))
        refine A (XS.iload X38.here hx rfl (hb hby at_281) rfl) ?_
        show D (T38.setTop (mkF m 283 #[.val (.int p1), .val (.int p2), .val (.int p3), .val (.int p4), .val (.int p5), .val (.int x5_8), .val (.int x6_16), .val (.int v28s0), .val (.int x8_38), .val (.int v51s0), .val (.int v74s0), .val (.int v98s0), .val (.ref b5), .val (.ref b8), .val (.ref b10), .val (.long x15_184), .second, .val (.int v201s0), .val (.int rd), .val (.int v229s0), .unset, .unset] [(.int v28s0)]))
        suffices Km292_41 : ∀ (v292s0 : Int32), v292s0 = (if v28s0 = (0 : Int32) then (-1 : Int32) else (-2 : Int32)) → D (T38.setTop (mkF m 292 #[.val (.int p1), .val (.int p2), .val (.int p3), .val (.int p4), .val (.int p5), .val (.int x5_8), .val (.int x6_16), .val (.int v28s0), .val (.int x8_38), .val (.int v51s0), .val (.int v74s0), .val (.int v98s0), .val (.ref b5), .val (.ref b8), .val (.ref b10), .val (.long x15_184), .second, .val (.int v201s0), .val (.int rd), .val (.int v229s0), .unset, .unset] [(.int v292s0)])) by
          by_cases c283_3 : v28s0 = (0 : Int32)
          · refine A (XS.ifYes X38.here hx rfl (pc0 := 283) (pc' := 291) rfl (hb hby at_283) rfl ((if0 _ _).trans (teq c283_3).1) (by decide) (by decide)) ?_
            show D (T38.setTop (mkF m 291 #[.val (.int p1), .val (.int p2), .val (.int p3), .val (.int p4), .val (.int p5), .val (.int x5_8), .val (.int x6_16), .val (.int v28s0), .val (.int x8_38), .val (.int v51s0), .val (.int v74s0), .val (.int v98s0), .val (.ref b5), .val (.ref b8), .val (.ref b10), .val (.long x15_184), .second, .val (.int v201s0), .val (.int rd), .val (.int v229s0), .unset, .unset] []))
            refine A (XS.iconst X38.here hx rfl (hb hby at_291)) ?_
            show D (T38.setTop (mkF m 292 #[.val (.int p1), .val (.int p2), .val (.int p3), .val (.int p4), .val (.int p5), .val (.int x5_8), .val (.int x6_16), .val (.int v28s0), .val (.int x8_38), .val (.int v51s0), .val (.int v74s0), .val (.int v98s0), .val (.ref b5), .val (.ref b8), .val (.ref b10), .val (.long x15_184), .second, .val (.int v201s0), .val (.int rd), .val (.int v229s0), .unset, .unset] [(.int (-1 : Int32))]))
            exact Km292_41 _ ((if_pos c283_3)).symm
          · refine A (XS.ifNo X38.here hx rfl (hb hby at_283) rfl ((if0 _ _).trans (feq c283_3).1)) ?_
            show D (T38.setTop (mkF m 286 #[.val (.int p1), .val (.int p2), .val (.int p3), .val (.int p4), .val (.int p5), .val (.int x5_8), .val (.int x6_16), .val (.int v28s0), .val (.int x8_38), .val (.int v51s0), .val (.int v74s0), .val (.int v98s0), .val (.ref b5), .val (.ref b8), .val (.ref b10), .val (.long x15_184), .second, .val (.int v201s0), .val (.int rd), .val (.int v229s0), .unset, .unset] []))
            refine A (XS.bipush X38.here hx rfl (hb hby at_286)) ?_
            show D (T38.setTop (mkF m 288 #[.val (.int p1), .val (.int p2), .val (.int p3), .val (.int p4), .val (.int p5), .val (.int x5_8), .val (.int x6_16), .val (.int v28s0), .val (.int x8_38), .val (.int v51s0), .val (.int v74s0), .val (.int v98s0), .val (.ref b5), .val (.ref b8), .val (.ref b10), .val (.long x15_184), .second, .val (.int v201s0), .val (.int rd), .val (.int v229s0), .unset, .unset] [(.int (-2 : Int32))]))
            refine A (XS.goto X38.here hx rfl (pc0 := 288) (pc' := 292) rfl (hb hby at_288) (by decide) (by decide)) ?_
            show D (T38.setTop (mkF m 292 #[.val (.int p1), .val (.int p2), .val (.int p3), .val (.int p4), .val (.int p5), .val (.int x5_8), .val (.int x6_16), .val (.int v28s0), .val (.int x8_38), .val (.int v51s0), .val (.int v74s0), .val (.int v98s0), .val (.ref b5), .val (.ref b8), .val (.ref b10), .val (.long x15_184), .second, .val (.int v201s0), .val (.int rd), .val (.int v229s0), .unset, .unset] [(.int (-2 : Int32))]))
            exact Km292_41 _ ((if_neg c283_3)).symm
        intro v292s0 hv292s0
        show D (T38.setTop (mkF m 292 #[.val (.int p1), .val (.int p2), .val (.int p3), .val (.int p4), .val (.int p5), .val (.int x5_8), .val (.int x6_16), .val (.int v28s0), .val (.int x8_38), .val (.int v51s0), .val (.int v74s0), .val (.int v98s0), .val (.ref b5), .val (.ref b8), .val (.ref b10), .val (.long x15_184), .second, .val (.int v201s0), .val (.int rd), .val (.int v229s0), .unset, .unset] [(.int v292s0)]))
        refine A (XS.istore X38.here hx rfl (hb hby at_292) rfl (l' := #[.val (.int p1), .val (.int p2), .val (.int p3), .val (.int p4), .val (.int p5), .val (.int x5_8), .val (.int x6_16), .val (.int v28s0), .val (.int x8_38), .val (.int v51s0), .val (.int v74s0), .val (.int v98s0), .val (.ref b5), .val (.ref b8), .val (.ref b10), .val (.long x15_184), .second, .val (.int v201s0), .val (.int rd), .val (.int v229s0), .val (.int v292s0), .unset]) rfl) ?_
        show D (T38.setTop (mkF m 294 #[.val (.int p1), .val (.int p2), .val (.int p3), .val (.int p4), .val (.int p5), .val (.int x5_8), .val (.int x6_16), .val (.int v28s0), .val (.int x8_38), .val (.int v51s0), .val (.int v74s0), .val (.int v98s0), .val (.ref b5), .val (.ref b8), .val (.ref b10), .val (.long x15_184), .second, .val (.int v201s0), .val (.int rd), .val (.int v229s0), .val (.int v292s0), .unset] []))
        refine A (XS.iconst X38.here hx rfl (hb hby at_294)) ?_
        show D (T38.setTop (mkF m 295 #[.val (.int p1), .val (.int p2), .val (.int p3), .val (.int p4), .val (.int p5), .val (.int x5_8), .val (.int x6_16), .val (.int v28s0), .val (.int x8_38), .val (.int v51s0), .val (.int v74s0), .val (.int v98s0), .val (.ref b5), .val (.ref b8), .val (.ref b10), .val (.long x15_184), .second, .val (.int v201s0), .val (.int rd), .val (.int v229s0), .val (.int v292s0), .unset] [(.int (0 : Int32))]))
        refine A (XS.istore X38.here hx rfl (hb hby at_295) rfl (l' := #[.val (.int p1), .val (.int p2), .val (.int p3), .val (.int p4), .val (.int p5), .val (.int x5_8), .val (.int x6_16), .val (.int v28s0), .val (.int x8_38), .val (.int v51s0), .val (.int v74s0), .val (.int v98s0), .val (.ref b5), .val (.ref b8), .val (.ref b10), .val (.long x15_184), .second, .val (.int v201s0), .val (.int rd), .val (.int v229s0), .val (.int v292s0), .val (.int (0 : Int32))]) rfl) ?_
        show D (T38.setTop (mkF m 297 #[.val (.int p1), .val (.int p2), .val (.int p3), .val (.int p4), .val (.int p5), .val (.int x5_8), .val (.int x6_16), .val (.int v28s0), .val (.int x8_38), .val (.int v51s0), .val (.int v74s0), .val (.int v98s0), .val (.ref b5), .val (.ref b8), .val (.ref b10), .val (.long x15_184), .second, .val (.int v201s0), .val (.int rd), .val (.int v229s0), .val (.int v292s0), .val (.int (0 : Int32))] []))
        refine A (XS.goto X38.here hx rfl (pc0 := 297) (pc' := 340) rfl (hb hby at_297) (by decide) (by decide)) ?_
        show D (T38.setTop (mkF m 340 #[.val (.int p1), .val (.int p2), .val (.int p3), .val (.int p4), .val (.int p5), .val (.int x5_8), .val (.int x6_16), .val (.int v28s0), .val (.int x8_38), .val (.int v51s0), .val (.int v74s0), .val (.int v98s0), .val (.ref b5), .val (.ref b8), .val (.ref b10), .val (.long x15_184), .second, .val (.int v201s0), .val (.int rd), .val (.int v229s0), .val (.int v292s0), .val (.int (0 : Int32))] []))
        refine A (XS.iload X38.here hx rfl (hb hby at_340) rfl) ?_
        show D (T38.setTop (mkF m 342 #[.val (.int p1), .val (.int p2), .val (.int p3), .val (.int p4), .val (.int p5), .val (.int x5_8), .val (.int x6_16), .val (.int v28s0), .val (.int x8_38), .val (.int v51s0), .val (.int v74s0), .val (.int v98s0), .val (.ref b5), .val (.ref b8), .val (.ref b10), .val (.long x15_184), .second, .val (.int v201s0), .val (.int rd), .val (.int v229s0), .val (.int v292s0), .val (.int (0 : Int32))] [(.int v201s0)]))
        by_cases c342_42 : v201s0 = (0 : Int32)
        · refine A (XS.ifYes X38.here hx rfl (pc0 := 342) (pc' := 371) rfl (hb hby at_342) rfl ((if0 _ _).trans (teq c342_42).1) (by decide) (by decide)) ?_
          show D (T38.setTop (mkF m 371 #[.val (.int p1), .val (.int p2), .val (.int p3), .val (.int p4), .val (.int p5), .val (.int x5_8), .val (.int x6_16), .val (.int v28s0), .val (.int x8_38), .val (.int v51s0), .val (.int v74s0), .val (.int v98s0), .val (.ref b5), .val (.ref b8), .val (.ref b10), .val (.long x15_184), .second, .val (.int v201s0), .val (.int rd), .val (.int v229s0), .val (.int v292s0), .val (.int (0 : Int32))] []))
          refine A (XS.iconst X38.here hx rfl (hb hby at_371)) ?_
          show D (T38.setTop (mkF m 372 #[.val (.int p1), .val (.int p2), .val (.int p3), .val (.int p4), .val (.int p5), .val (.int x5_8), .val (.int x6_16), .val (.int v28s0), .val (.int x8_38), .val (.int v51s0), .val (.int v74s0), .val (.int v98s0), .val (.ref b5), .val (.ref b8), .val (.ref b10), .val (.long x15_184), .second, .val (.int v201s0), .val (.int rd), .val (.int v229s0), .val (.int v292s0), .val (.int (0 : Int32))] [(.int (0 : Int32))]))
          exfalso
          have hof : v201s0 = 1 := by rw [hv201s0, if_pos ((lw_eq _ _).mpr (by rw [hx15_184]; exact own_off r5 r6))]
          rw [hof] at c342_42; exact absurd c342_42 (by decide)
        · refine A (XS.ifNo X38.here hx rfl (hb hby at_342) rfl ((if0 _ _).trans (feq c342_42).1)) ?_
          show D (T38.setTop (mkF m 345 #[.val (.int p1), .val (.int p2), .val (.int p3), .val (.int p4), .val (.int p5), .val (.int x5_8), .val (.int x6_16), .val (.int v28s0), .val (.int x8_38), .val (.int v51s0), .val (.int v74s0), .val (.int v98s0), .val (.ref b5), .val (.ref b8), .val (.ref b10), .val (.long x15_184), .second, .val (.int v201s0), .val (.int rd), .val (.int v229s0), .val (.int v292s0), .val (.int (0 : Int32))] []))
          refine A (XS.iload X38.here hx rfl (hb hby at_345) rfl) ?_
          show D (T38.setTop (mkF m 347 #[.val (.int p1), .val (.int p2), .val (.int p3), .val (.int p4), .val (.int p5), .val (.int x5_8), .val (.int x6_16), .val (.int v28s0), .val (.int x8_38), .val (.int v51s0), .val (.int v74s0), .val (.int v98s0), .val (.ref b5), .val (.ref b8), .val (.ref b10), .val (.long x15_184), .second, .val (.int v201s0), .val (.int rd), .val (.int v229s0), .val (.int v292s0), .val (.int (0 : Int32))] [(.int rd)]))
          refine A (XS.iload X38.here hx rfl (hb hby at_347) rfl) ?_
          show D (T38.setTop (mkF m 349 #[.val (.int p1), .val (.int p2), .val (.int p3), .val (.int p4), .val (.int p5), .val (.int x5_8), .val (.int x6_16), .val (.int v28s0), .val (.int x8_38), .val (.int v51s0), .val (.int v74s0), .val (.int v98s0), .val (.ref b5), .val (.ref b8), .val (.ref b10), .val (.long x15_184), .second, .val (.int v201s0), .val (.int rd), .val (.int v229s0), .val (.int v292s0), .val (.int (0 : Int32))] [(.int v292s0), (.int rd)]))
          by_cases c349_43 : rd = v292s0
          · refine A (XS.icmpNo X38.here hx rfl (hb hby at_349) rfl (teq c349_43).2) ?_
            show D (T38.setTop (mkF m 352 #[.val (.int p1), .val (.int p2), .val (.int p3), .val (.int p4), .val (.int p5), .val (.int x5_8), .val (.int x6_16), .val (.int v28s0), .val (.int x8_38), .val (.int v51s0), .val (.int v74s0), .val (.int v98s0), .val (.ref b5), .val (.ref b8), .val (.ref b10), .val (.long x15_184), .second, .val (.int v201s0), .val (.int rd), .val (.int v229s0), .val (.int v292s0), .val (.int (0 : Int32))] []))
            refine A (XS.aload X38.here hx rfl (hb hby at_352) rfl rfl) ?_
            show D (T38.setTop (mkF m 354 #[.val (.int p1), .val (.int p2), .val (.int p3), .val (.int p4), .val (.int p5), .val (.int x5_8), .val (.int x6_16), .val (.int v28s0), .val (.int x8_38), .val (.int v51s0), .val (.int v74s0), .val (.int v98s0), .val (.ref b5), .val (.ref b8), .val (.ref b10), .val (.long x15_184), .second, .val (.int v201s0), .val (.int rd), .val (.int v229s0), .val (.int v292s0), .val (.int (0 : Int32))] [(.ref b10)]))
            refine Adv.callV A X38 hx hZ hown (hw _ (List.mem_of_getElem? (i := 175) rfl)) (hw _ (List.mem_of_getElem? (i := 176) rfl)) (notFace_of_selects (args := #[]) (mvT hZ (hw _ (List.mem_of_getElem? (i := 178) rfl)))) (hw _ (List.mem_of_getElem? (i := 178) rfl)) (hw _ (List.mem_of_getElem? (i := 177) rfl)) (hw _ (List.mem_of_getElem? (i := 33) rfl)) (hw _ (List.mem_of_getElem? (i := 179) rfl)) e38 E_b10_23 (rm29 l Z a0 hw [] b10 T23.heap n0 jx b8 Z_23 g_b10 E_b10_23 F23_chars F23_index cd nb fb cs hcs sf hsf b9 v74s0 v98s0 hSt S_sf_23 S_cs_23 S_ad_23 S_hi_23 S_lo_23 E_b8_23 F_coder_b8_23 F_value_b8_23 V_b9_23) 0 (g := (mkF m 354 #[.val (.int p1), .val (.int p2), .val (.int p3), .val (.int p4), .val (.int p5), .val (.int x5_8), .val (.int x6_16), .val (.int v28s0), .val (.int x8_38), .val (.int v51s0), .val (.int v74s0), .val (.int v98s0), .val (.ref b5), .val (.ref b8), .val (.ref b10), .val (.long x15_184), .second, .val (.int v201s0), .val (.int rd), .val (.int v229s0), .val (.int v292s0), .val (.int (0 : Int32))] [(.ref b10)])) rfl (by rw [hml]; rfl) [] [] rfl (lenOf pd0_6 rfl) rfl (by show 2 * 0 + _ ≤ _; exact Nat.le_of_eq rfl) (hb hby at_354) (by decide) (by decide) (by decide) (by decide) (by decide) ?_
            rintro T44 L44 _ X44 ⟨rfl, N44_q, e44⟩
            have N44 := Fr.app N38 N44_q
            show D (T44.setTop (mkF m 357 #[.val (.int p1), .val (.int p2), .val (.int p3), .val (.int p4), .val (.int p5), .val (.int x5_8), .val (.int x6_16), .val (.int v28s0), .val (.int x8_38), .val (.int v51s0), .val (.int v74s0), .val (.int v98s0), .val (.ref b5), .val (.ref b8), .val (.ref b10), .val (.long x15_184), .second, .val (.int v201s0), .val (.int rd), .val (.int v229s0), .val (.int v292s0), .val (.int (0 : Int32))] [(.int ((2 : Int32) - jx))]))
            refine A (XS.iconst X44.here hx rfl (hb hby at_357)) ?_
            show D (T44.setTop (mkF m 358 #[.val (.int p1), .val (.int p2), .val (.int p3), .val (.int p4), .val (.int p5), .val (.int x5_8), .val (.int x6_16), .val (.int v28s0), .val (.int x8_38), .val (.int v51s0), .val (.int v74s0), .val (.int v98s0), .val (.ref b5), .val (.ref b8), .val (.ref b10), .val (.long x15_184), .second, .val (.int v201s0), .val (.int rd), .val (.int v229s0), .val (.int v292s0), .val (.int (0 : Int32))] [(.int (2 : Int32)), (.int ((2 : Int32) - jx))]))
            refine A (XS.iload X44.here hx rfl (hb hby at_358) rfl) ?_
            show D (T44.setTop (mkF m 360 #[.val (.int p1), .val (.int p2), .val (.int p3), .val (.int p4), .val (.int p5), .val (.int x5_8), .val (.int x6_16), .val (.int v28s0), .val (.int x8_38), .val (.int v51s0), .val (.int v74s0), .val (.int v98s0), .val (.ref b5), .val (.ref b8), .val (.ref b10), .val (.long x15_184), .second, .val (.int v201s0), .val (.int rd), .val (.int v229s0), .val (.int v292s0), .val (.int (0 : Int32))] [(.int x8_38), (.int (2 : Int32)), (.int ((2 : Int32) - jx))]))
            refine A (XS.isub X44.here hx rfl (hb hby at_360) rfl) ?_
            show D (T44.setTop (mkF m 361 #[.val (.int p1), .val (.int p2), .val (.int p3), .val (.int p4), .val (.int p5), .val (.int x5_8), .val (.int x6_16), .val (.int v28s0), .val (.int x8_38), .val (.int v51s0), .val (.int v74s0), .val (.int v98s0), .val (.ref b5), .val (.ref b8), .val (.ref b10), .val (.long x15_184), .second, .val (.int v201s0), .val (.int rd), .val (.int v229s0), .val (.int v292s0), .val (.int (0 : Int32))] [(.int ((2 : Int32) - x8_38)), (.int ((2 : Int32) - jx))]))
            refine A (XS.iload X44.here hx rfl (hb hby at_361) rfl) ?_
            show D (T44.setTop (mkF m 363 #[.val (.int p1), .val (.int p2), .val (.int p3), .val (.int p4), .val (.int p5), .val (.int x5_8), .val (.int x6_16), .val (.int v28s0), .val (.int x8_38), .val (.int v51s0), .val (.int v74s0), .val (.int v98s0), .val (.ref b5), .val (.ref b8), .val (.ref b10), .val (.long x15_184), .second, .val (.int v201s0), .val (.int rd), .val (.int v229s0), .val (.int v292s0), .val (.int (0 : Int32))] [(.int (0 : Int32)), (.int ((2 : Int32) - x8_38)), (.int ((2 : Int32) - jx))]))
            refine A (XS.isub X44.here hx rfl (hb hby at_363) rfl) ?_
            show D (T44.setTop (mkF m 364 #[.val (.int p1), .val (.int p2), .val (.int p3), .val (.int p4), .val (.int p5), .val (.int x5_8), .val (.int x6_16), .val (.int v28s0), .val (.int x8_38), .val (.int v51s0), .val (.int v74s0), .val (.int v98s0), .val (.ref b5), .val (.ref b8), .val (.ref b10), .val (.long x15_184), .second, .val (.int v201s0), .val (.int rd), .val (.int v229s0), .val (.int v292s0), .val (.int (0 : Int32))] [(.int (((2 : Int32) - x8_38) - (0 : Int32))), (.int ((2 : Int32) - jx))]))
            suffices Km372_45 : ∀ (v372s0aa : Int32), v372s0aa = (if ((2 : Int32) - jx) = (((2 : Int32) - x8_38) - (0 : Int32)) then (1 : Int32) else (0 : Int32)) → D (T44.setTop (mkF m 372 #[.val (.int p1), .val (.int p2), .val (.int p3), .val (.int p4), .val (.int p5), .val (.int x5_8), .val (.int x6_16), .val (.int v28s0), .val (.int x8_38), .val (.int v51s0), .val (.int v74s0), .val (.int v98s0), .val (.ref b5), .val (.ref b8), .val (.ref b10), .val (.long x15_184), .second, .val (.int v201s0), .val (.int rd), .val (.int v229s0), .val (.int v292s0), .val (.int (0 : Int32))] [(.int v372s0aa)])) by
              by_cases c364_5 : ((2 : Int32) - jx) = (((2 : Int32) - x8_38) - (0 : Int32))
              · refine A (XS.icmpNo X44.here hx rfl (hb hby at_364) rfl (teq c364_5).2) ?_
                show D (T44.setTop (mkF m 367 #[.val (.int p1), .val (.int p2), .val (.int p3), .val (.int p4), .val (.int p5), .val (.int x5_8), .val (.int x6_16), .val (.int v28s0), .val (.int x8_38), .val (.int v51s0), .val (.int v74s0), .val (.int v98s0), .val (.ref b5), .val (.ref b8), .val (.ref b10), .val (.long x15_184), .second, .val (.int v201s0), .val (.int rd), .val (.int v229s0), .val (.int v292s0), .val (.int (0 : Int32))] []))
                refine A (XS.iconst X44.here hx rfl (hb hby at_367)) ?_
                show D (T44.setTop (mkF m 368 #[.val (.int p1), .val (.int p2), .val (.int p3), .val (.int p4), .val (.int p5), .val (.int x5_8), .val (.int x6_16), .val (.int v28s0), .val (.int x8_38), .val (.int v51s0), .val (.int v74s0), .val (.int v98s0), .val (.ref b5), .val (.ref b8), .val (.ref b10), .val (.long x15_184), .second, .val (.int v201s0), .val (.int rd), .val (.int v229s0), .val (.int v292s0), .val (.int (0 : Int32))] [(.int (1 : Int32))]))
                refine A (XS.goto X44.here hx rfl (pc0 := 368) (pc' := 372) rfl (hb hby at_368) (by decide) (by decide)) ?_
                show D (T44.setTop (mkF m 372 #[.val (.int p1), .val (.int p2), .val (.int p3), .val (.int p4), .val (.int p5), .val (.int x5_8), .val (.int x6_16), .val (.int v28s0), .val (.int x8_38), .val (.int v51s0), .val (.int v74s0), .val (.int v98s0), .val (.ref b5), .val (.ref b8), .val (.ref b10), .val (.long x15_184), .second, .val (.int v201s0), .val (.int rd), .val (.int v229s0), .val (.int v292s0), .val (.int (0 : Int32))] [(.int (1 : Int32))]))
                exact Km372_45 _ ((if_pos c364_5)).symm
              · refine A (XS.icmpYes X44.here hx rfl (pc0 := 364) (pc' := 371) rfl (hb hby at_364) rfl (feq c364_5).2 (by decide) (by decide)) ?_
                show D (T44.setTop (mkF m 371 #[.val (.int p1), .val (.int p2), .val (.int p3), .val (.int p4), .val (.int p5), .val (.int x5_8), .val (.int x6_16), .val (.int v28s0), .val (.int x8_38), .val (.int v51s0), .val (.int v74s0), .val (.int v98s0), .val (.ref b5), .val (.ref b8), .val (.ref b10), .val (.long x15_184), .second, .val (.int v201s0), .val (.int rd), .val (.int v229s0), .val (.int v292s0), .val (.int (0 : Int32))] []))
                refine A (XS.iconst X44.here hx rfl (hb hby at_371)) ?_
                show D (T44.setTop (mkF m 372 #[.val (.int p1), .val (.int p2), .val (.int p3), .val (.int p4), .val (.int p5), .val (.int x5_8), .val (.int x6_16), .val (.int v28s0), .val (.int x8_38), .val (.int v51s0), .val (.int v74s0), .val (.int v98s0), .val (.ref b5), .val (.ref b8), .val (.ref b10), .val (.long x15_184), .second, .val (.int v201s0), .val (.int rd), .val (.int v229s0), .val (.int v292s0), .val (.int (0 : Int32))] [(.int (0 : Int32))]))
                exact Km372_45 _ ((if_neg c364_5)).symm
            intro v372s0aa hv372s0aa
            show D (T44.setTop (mkF m 372 #[.val (.int p1), .val (.int p2), .val (.int p3), .val (.int p4), .val (.int p5), .val (.int x5_8), .val (.int x6_16), .val (.int v28s0), .val (.int x8_38), .val (.int v51s0), .val (.int v74s0), .val (.int v98s0), .val (.ref b5), .val (.ref b8), .val (.ref b10), .val (.long x15_184), .second, .val (.int v201s0), .val (.int rd), .val (.int v229s0), .val (.int v292s0), .val (.int (0 : Int32))] [(.int v372s0aa)]))
            obtain rfl : v372s0aa = (1 : Int32) := by
              have hof : v201s0 = 1 := by rw [hv201s0, if_pos ((lw_eq _ _).mpr (by rw [hx15_184]; exact own_off r5 r6))]
              have hf := own_fin hk8 hk82 hv229s0 hD
              have hg := (hf.2.2.1 c236_26 c262_39 c278_40)
              rw [own_lb hv28s0] at hg
              have h20 : rd = v292s0 := by rw [hv292s0]; exact hg.1
              rw [hv372s0aa, if_pos hg.2]
            show D (T44.setTop (mkF m 372 #[.val (.int p1), .val (.int p2), .val (.int p3), .val (.int p4), .val (.int p5), .val (.int x5_8), .val (.int x6_16), .val (.int v28s0), .val (.int x8_38), .val (.int v51s0), .val (.int v74s0), .val (.int v98s0), .val (.ref b5), .val (.ref b8), .val (.ref b10), .val (.long x15_184), .second, .val (.int v201s0), .val (.int rd), .val (.int v229s0), .val (.int v292s0), .val (.int (0 : Int32))] [(.int (1 : Int32))]))
            exact F _ (Jvm.JW.retW X44 hS hlk (v := some (.int (1 : Int32))) (fun h => by rw [hrt] at h; cases h) (fun fs hr => retOut X44 hx hrt rfl (Or.inl ⟨rfl, Or.inr (Or.inl rfl), _, rfl⟩) (hb hby at_372) hr) e44 hk_23 ⟨rfl, N44⟩ (by decide) (by decide))
          · refine A (XS.icmpYes X38.here hx rfl (pc0 := 349) (pc' := 371) rfl (hb hby at_349) rfl (feq c349_43).2 (by decide) (by decide)) ?_
            show D (T38.setTop (mkF m 371 #[.val (.int p1), .val (.int p2), .val (.int p3), .val (.int p4), .val (.int p5), .val (.int x5_8), .val (.int x6_16), .val (.int v28s0), .val (.int x8_38), .val (.int v51s0), .val (.int v74s0), .val (.int v98s0), .val (.ref b5), .val (.ref b8), .val (.ref b10), .val (.long x15_184), .second, .val (.int v201s0), .val (.int rd), .val (.int v229s0), .val (.int v292s0), .val (.int (0 : Int32))] []))
            refine A (XS.iconst X38.here hx rfl (hb hby at_371)) ?_
            show D (T38.setTop (mkF m 372 #[.val (.int p1), .val (.int p2), .val (.int p3), .val (.int p4), .val (.int p5), .val (.int x5_8), .val (.int x6_16), .val (.int v28s0), .val (.int x8_38), .val (.int v51s0), .val (.int v74s0), .val (.int v98s0), .val (.ref b5), .val (.ref b8), .val (.ref b10), .val (.long x15_184), .second, .val (.int v201s0), .val (.int rd), .val (.int v229s0), .val (.int v292s0), .val (.int (0 : Int32))] [(.int (0 : Int32))]))
            exfalso
            have hof : v201s0 = 1 := by rw [hv201s0, if_pos ((lw_eq _ _).mpr (by rw [hx15_184]; exact own_off r5 r6))]
            have hf := own_fin hk8 hk82 hv229s0 hD
            have hg := (hf.2.2.1 c236_26 c262_39 c278_40)
            rw [own_lb hv28s0] at hg
            have h20 : rd = v292s0 := by rw [hv292s0]; exact hg.1
            exact absurd h20 c349_43
      · refine A (XS.icmpYes X38.here hx rfl (pc0 := 278) (pc' := 300) rfl (hb hby at_278) rfl (feq c278_40).2 (by decide) (by decide)) ?_
        show D (T38.setTop (mkF m 300 #[.val (.int p1), .val (.int p2), .val (.int p3), .val (.int p4), .val (.int p5), .val (.int x5_8), .val (.int x6_16), .val (.int v28s0), .val (.int x8_38), .val (.int v51s0), .val (.int v74s0), .val (.int v98s0), .val (.ref b5), .val (.ref b8), .val (.ref b10), .val (.long x15_184), .second, .val (.int v201s0), .val (.int rd), .val (.int v229s0), .unset, .unset] []))
        refine A (XS.iload X38.here hx rfl (hb hby at_300) rfl) ?_
        show D (T38.setTop (mkF m 302 #[.val (.int p1), .val (.int p2), .val (.int p3), .val (.int p4), .val (.int p5), .val (.int x5_8), .val (.int x6_16), .val (.int v28s0), .val (.int x8_38), .val (.int v51s0), .val (.int v74s0), .val (.int v98s0), .val (.ref b5), .val (.ref b8), .val (.ref b10), .val (.long x15_184), .second, .val (.int v201s0), .val (.int rd), .val (.int v229s0), .unset, .unset] [(.int v98s0)]))
        refine Adv.callS A X38 hx hZ hown (hw _ (List.mem_of_getElem? (i := 171) rfl)) (hw _ (List.mem_of_getElem? (i := 172) rfl)) (hw _ (List.mem_of_getElem? (i := 168) rfl)) (hw _ (List.mem_of_getElem? (i := 173) rfl)) e38 (rm28 l Z a0 hw [] v98s0 T23.heap n0) 0 (g := (mkF m 302 #[.val (.int p1), .val (.int p2), .val (.int p3), .val (.int p4), .val (.int p5), .val (.int x5_8), .val (.int x6_16), .val (.int v28s0), .val (.int x8_38), .val (.int v51s0), .val (.int v74s0), .val (.int v98s0), .val (.ref b5), .val (.ref b8), .val (.ref b10), .val (.long x15_184), .second, .val (.int v201s0), .val (.int rd), .val (.int v229s0), .unset, .unset] [(.int v98s0)])) rfl (by rw [hml]; rfl) [(.int v98s0)] [] rfl (lenOf pd0_7 rfl) rfl (by show 2 * 0 + _ ≤ _; exact Nat.le_of_eq rfl) (hb hby at_302) (by decide) (by decide) (by decide) (by decide) (by decide) ?_
        rintro T46 L46 _ X46 ⟨rfl, N46_q, e46⟩
        have N46 := Fr.app N38 N46_q
        show D (T46.setTop (mkF m 305 #[.val (.int p1), .val (.int p2), .val (.int p3), .val (.int p4), .val (.int p5), .val (.int x5_8), .val (.int x6_16), .val (.int v28s0), .val (.int x8_38), .val (.int v51s0), .val (.int v74s0), .val (.int v98s0), .val (.ref b5), .val (.ref b8), .val (.ref b10), .val (.long x15_184), .second, .val (.int v201s0), .val (.int rd), .val (.int v229s0), .unset, .unset] [(.int (f28 v98s0))]))
        suffices Km340_47 : ∀ (v340_20 : Int32) (v340_21 : Int32), v340_20 = (if (f28 v98s0) = (0 : Int32) then (-2 : Int32) else (((65536 : Int32) + ((v74s0 - (55296 : Int32)) <<< ((10 : Int32) &&& 31))) + (v98s0 - (56320 : Int32)))) → v340_21 = (if (f28 v98s0) = (0 : Int32) then (0 : Int32) else (2 : Int32)) → D (T46.setTop (mkF m 340 #[.val (.int p1), .val (.int p2), .val (.int p3), .val (.int p4), .val (.int p5), .val (.int x5_8), .val (.int x6_16), .val (.int v28s0), .val (.int x8_38), .val (.int v51s0), .val (.int v74s0), .val (.int v98s0), .val (.ref b5), .val (.ref b8), .val (.ref b10), .val (.long x15_184), .second, .val (.int v201s0), .val (.int rd), .val (.int v229s0), .val (.int v340_20), .val (.int v340_21)] [])) by
          by_cases c305_3 : (f28 v98s0) = (0 : Int32)
          · refine A (XS.ifYes X46.here hx rfl (pc0 := 305) (pc' := 333) rfl (hb hby at_305) rfl ((if0 _ _).trans (teq c305_3).1) (by decide) (by decide)) ?_
            show D (T46.setTop (mkF m 333 #[.val (.int p1), .val (.int p2), .val (.int p3), .val (.int p4), .val (.int p5), .val (.int x5_8), .val (.int x6_16), .val (.int v28s0), .val (.int x8_38), .val (.int v51s0), .val (.int v74s0), .val (.int v98s0), .val (.ref b5), .val (.ref b8), .val (.ref b10), .val (.long x15_184), .second, .val (.int v201s0), .val (.int rd), .val (.int v229s0), .unset, .unset] []))
            refine A (XS.bipush X46.here hx rfl (hb hby at_333)) ?_
            show D (T46.setTop (mkF m 335 #[.val (.int p1), .val (.int p2), .val (.int p3), .val (.int p4), .val (.int p5), .val (.int x5_8), .val (.int x6_16), .val (.int v28s0), .val (.int x8_38), .val (.int v51s0), .val (.int v74s0), .val (.int v98s0), .val (.ref b5), .val (.ref b8), .val (.ref b10), .val (.long x15_184), .second, .val (.int v201s0), .val (.int rd), .val (.int v229s0), .unset, .unset] [(.int (-2 : Int32))]))
            refine A (XS.istore X46.here hx rfl (hb hby at_335) rfl (l' := #[.val (.int p1), .val (.int p2), .val (.int p3), .val (.int p4), .val (.int p5), .val (.int x5_8), .val (.int x6_16), .val (.int v28s0), .val (.int x8_38), .val (.int v51s0), .val (.int v74s0), .val (.int v98s0), .val (.ref b5), .val (.ref b8), .val (.ref b10), .val (.long x15_184), .second, .val (.int v201s0), .val (.int rd), .val (.int v229s0), .val (.int (-2 : Int32)), .unset]) rfl) ?_
            show D (T46.setTop (mkF m 337 #[.val (.int p1), .val (.int p2), .val (.int p3), .val (.int p4), .val (.int p5), .val (.int x5_8), .val (.int x6_16), .val (.int v28s0), .val (.int x8_38), .val (.int v51s0), .val (.int v74s0), .val (.int v98s0), .val (.ref b5), .val (.ref b8), .val (.ref b10), .val (.long x15_184), .second, .val (.int v201s0), .val (.int rd), .val (.int v229s0), .val (.int (-2 : Int32)), .unset] []))
            refine A (XS.iconst X46.here hx rfl (hb hby at_337)) ?_
            show D (T46.setTop (mkF m 338 #[.val (.int p1), .val (.int p2), .val (.int p3), .val (.int p4), .val (.int p5), .val (.int x5_8), .val (.int x6_16), .val (.int v28s0), .val (.int x8_38), .val (.int v51s0), .val (.int v74s0), .val (.int v98s0), .val (.ref b5), .val (.ref b8), .val (.ref b10), .val (.long x15_184), .second, .val (.int v201s0), .val (.int rd), .val (.int v229s0), .val (.int (-2 : Int32)), .unset] [(.int (0 : Int32))]))
            refine A (XS.istore X46.here hx rfl (hb hby at_338) rfl (l' := #[.val (.int p1), .val (.int p2), .val (.int p3), .val (.int p4), .val (.int p5), .val (.int x5_8), .val (.int x6_16), .val (.int v28s0), .val (.int x8_38), .val (.int v51s0), .val (.int v74s0), .val (.int v98s0), .val (.ref b5), .val (.ref b8), .val (.ref b10), .val (.long x15_184), .second, .val (.int v201s0), .val (.int rd), .val (.int v229s0), .val (.int (-2 : Int32)), .val (.int (0 : Int32))]) rfl) ?_
            show D (T46.setTop (mkF m 340 #[.val (.int p1), .val (.int p2), .val (.int p3), .val (.int p4), .val (.int p5), .val (.int x5_8), .val (.int x6_16), .val (.int v28s0), .val (.int x8_38), .val (.int v51s0), .val (.int v74s0), .val (.int v98s0), .val (.ref b5), .val (.ref b8), .val (.ref b10), .val (.long x15_184), .second, .val (.int v201s0), .val (.int rd), .val (.int v229s0), .val (.int (-2 : Int32)), .val (.int (0 : Int32))] []))
            exact Km340_47 _ _ ((if_pos c305_3)).symm ((if_pos c305_3)).symm
          · refine A (XS.ifNo X46.here hx rfl (hb hby at_305) rfl ((if0 _ _).trans (feq c305_3).1)) ?_
            show D (T46.setTop (mkF m 308 #[.val (.int p1), .val (.int p2), .val (.int p3), .val (.int p4), .val (.int p5), .val (.int x5_8), .val (.int x6_16), .val (.int v28s0), .val (.int x8_38), .val (.int v51s0), .val (.int v74s0), .val (.int v98s0), .val (.ref b5), .val (.ref b8), .val (.ref b10), .val (.long x15_184), .second, .val (.int v201s0), .val (.int rd), .val (.int v229s0), .unset, .unset] []))
            refine A (X46.ldcInt hx hown (mvT hZ (hw _ (List.mem_of_getElem? (i := 233) rfl))) (g := (mkF m 308 #[.val (.int p1), .val (.int p2), .val (.int p3), .val (.int p4), .val (.int p5), .val (.int x5_8), .val (.int x6_16), .val (.int v28s0), .val (.int x8_38), .val (.int v51s0), .val (.int v74s0), .val (.int v98s0), .val (.ref b5), .val (.ref b8), .val (.ref b10), .val (.long x15_184), .second, .val (.int v201s0), .val (.int rd), .val (.int v229s0), .unset, .unset] [])) rfl (hb hby at_308) _) ?_
            show D (T46.setTop (mkF m 310 #[.val (.int p1), .val (.int p2), .val (.int p3), .val (.int p4), .val (.int p5), .val (.int x5_8), .val (.int x6_16), .val (.int v28s0), .val (.int x8_38), .val (.int v51s0), .val (.int v74s0), .val (.int v98s0), .val (.ref b5), .val (.ref b8), .val (.ref b10), .val (.long x15_184), .second, .val (.int v201s0), .val (.int rd), .val (.int v229s0), .unset, .unset] [(.int (65536 : Int32))]))
            refine A (XS.iload X46.here hx rfl (hb hby at_310) rfl) ?_
            show D (T46.setTop (mkF m 312 #[.val (.int p1), .val (.int p2), .val (.int p3), .val (.int p4), .val (.int p5), .val (.int x5_8), .val (.int x6_16), .val (.int v28s0), .val (.int x8_38), .val (.int v51s0), .val (.int v74s0), .val (.int v98s0), .val (.ref b5), .val (.ref b8), .val (.ref b10), .val (.long x15_184), .second, .val (.int v201s0), .val (.int rd), .val (.int v229s0), .unset, .unset] [(.int v74s0), (.int (65536 : Int32))]))
            refine A (X46.ldcInt hx hown (mvT hZ (hw _ (List.mem_of_getElem? (i := 170) rfl))) (g := (mkF m 312 #[.val (.int p1), .val (.int p2), .val (.int p3), .val (.int p4), .val (.int p5), .val (.int x5_8), .val (.int x6_16), .val (.int v28s0), .val (.int x8_38), .val (.int v51s0), .val (.int v74s0), .val (.int v98s0), .val (.ref b5), .val (.ref b8), .val (.ref b10), .val (.long x15_184), .second, .val (.int v201s0), .val (.int rd), .val (.int v229s0), .unset, .unset] [(.int v74s0), (.int (65536 : Int32))])) rfl (hb hby at_312) _) ?_
            show D (T46.setTop (mkF m 314 #[.val (.int p1), .val (.int p2), .val (.int p3), .val (.int p4), .val (.int p5), .val (.int x5_8), .val (.int x6_16), .val (.int v28s0), .val (.int x8_38), .val (.int v51s0), .val (.int v74s0), .val (.int v98s0), .val (.ref b5), .val (.ref b8), .val (.ref b10), .val (.long x15_184), .second, .val (.int v201s0), .val (.int rd), .val (.int v229s0), .unset, .unset] [(.int (55296 : Int32)), (.int v74s0), (.int (65536 : Int32))]))
            refine A (XS.isub X46.here hx rfl (hb hby at_314) rfl) ?_
            show D (T46.setTop (mkF m 315 #[.val (.int p1), .val (.int p2), .val (.int p3), .val (.int p4), .val (.int p5), .val (.int x5_8), .val (.int x6_16), .val (.int v28s0), .val (.int x8_38), .val (.int v51s0), .val (.int v74s0), .val (.int v98s0), .val (.ref b5), .val (.ref b8), .val (.ref b10), .val (.long x15_184), .second, .val (.int v201s0), .val (.int rd), .val (.int v229s0), .unset, .unset] [(.int (v74s0 - (55296 : Int32))), (.int (65536 : Int32))]))
            refine A (XS.bipush X46.here hx rfl (hb hby at_315)) ?_
            show D (T46.setTop (mkF m 317 #[.val (.int p1), .val (.int p2), .val (.int p3), .val (.int p4), .val (.int p5), .val (.int x5_8), .val (.int x6_16), .val (.int v28s0), .val (.int x8_38), .val (.int v51s0), .val (.int v74s0), .val (.int v98s0), .val (.ref b5), .val (.ref b8), .val (.ref b10), .val (.long x15_184), .second, .val (.int v201s0), .val (.int rd), .val (.int v229s0), .unset, .unset] [(.int (10 : Int32)), (.int (v74s0 - (55296 : Int32))), (.int (65536 : Int32))]))
            refine A (XS.ishl X46.here hx rfl (hb hby at_317) rfl) ?_
            show D (T46.setTop (mkF m 318 #[.val (.int p1), .val (.int p2), .val (.int p3), .val (.int p4), .val (.int p5), .val (.int x5_8), .val (.int x6_16), .val (.int v28s0), .val (.int x8_38), .val (.int v51s0), .val (.int v74s0), .val (.int v98s0), .val (.ref b5), .val (.ref b8), .val (.ref b10), .val (.long x15_184), .second, .val (.int v201s0), .val (.int rd), .val (.int v229s0), .unset, .unset] [(.int ((v74s0 - (55296 : Int32)) <<< ((10 : Int32) &&& 31))), (.int (65536 : Int32))]))
            refine A (XS.iadd X46.here hx rfl (hb hby at_318) rfl) ?_
            show D (T46.setTop (mkF m 319 #[.val (.int p1), .val (.int p2), .val (.int p3), .val (.int p4), .val (.int p5), .val (.int x5_8), .val (.int x6_16), .val (.int v28s0), .val (.int x8_38), .val (.int v51s0), .val (.int v74s0), .val (.int v98s0), .val (.ref b5), .val (.ref b8), .val (.ref b10), .val (.long x15_184), .second, .val (.int v201s0), .val (.int rd), .val (.int v229s0), .unset, .unset] [(.int ((65536 : Int32) + ((v74s0 - (55296 : Int32)) <<< ((10 : Int32) &&& 31))))]))
            refine A (XS.iload X46.here hx rfl (hb hby at_319) rfl) ?_
            show D (T46.setTop (mkF m 321 #[.val (.int p1), .val (.int p2), .val (.int p3), .val (.int p4), .val (.int p5), .val (.int x5_8), .val (.int x6_16), .val (.int v28s0), .val (.int x8_38), .val (.int v51s0), .val (.int v74s0), .val (.int v98s0), .val (.ref b5), .val (.ref b8), .val (.ref b10), .val (.long x15_184), .second, .val (.int v201s0), .val (.int rd), .val (.int v229s0), .unset, .unset] [(.int v98s0), (.int ((65536 : Int32) + ((v74s0 - (55296 : Int32)) <<< ((10 : Int32) &&& 31))))]))
            refine A (X46.ldcInt hx hown (mvT hZ (hw _ (List.mem_of_getElem? (i := 174) rfl))) (g := (mkF m 321 #[.val (.int p1), .val (.int p2), .val (.int p3), .val (.int p4), .val (.int p5), .val (.int x5_8), .val (.int x6_16), .val (.int v28s0), .val (.int x8_38), .val (.int v51s0), .val (.int v74s0), .val (.int v98s0), .val (.ref b5), .val (.ref b8), .val (.ref b10), .val (.long x15_184), .second, .val (.int v201s0), .val (.int rd), .val (.int v229s0), .unset, .unset] [(.int v98s0), (.int ((65536 : Int32) + ((v74s0 - (55296 : Int32)) <<< ((10 : Int32) &&& 31))))])) rfl (hb hby at_321) _) ?_
            show D (T46.setTop (mkF m 323 #[.val (.int p1), .val (.int p2), .val (.int p3), .val (.int p4), .val (.int p5), .val (.int x5_8), .val (.int x6_16), .val (.int v28s0), .val (.int x8_38), .val (.int v51s0), .val (.int v74s0), .val (.int v98s0), .val (.ref b5), .val (.ref b8), .val (.ref b10), .val (.long x15_184), .second, .val (.int v201s0), .val (.int rd), .val (.int v229s0), .unset, .unset] [(.int (56320 : Int32)), (.int v98s0), (.int ((65536 : Int32) + ((v74s0 - (55296 : Int32)) <<< ((10 : Int32) &&& 31))))]))
            refine A (XS.isub X46.here hx rfl (hb hby at_323) rfl) ?_
            show D (T46.setTop (mkF m 324 #[.val (.int p1), .val (.int p2), .val (.int p3), .val (.int p4), .val (.int p5), .val (.int x5_8), .val (.int x6_16), .val (.int v28s0), .val (.int x8_38), .val (.int v51s0), .val (.int v74s0), .val (.int v98s0), .val (.ref b5), .val (.ref b8), .val (.ref b10), .val (.long x15_184), .second, .val (.int v201s0), .val (.int rd), .val (.int v229s0), .unset, .unset] [(.int (v98s0 - (56320 : Int32))), (.int ((65536 : Int32) + ((v74s0 - (55296 : Int32)) <<< ((10 : Int32) &&& 31))))]))
            refine A (XS.iadd X46.here hx rfl (hb hby at_324) rfl) ?_
            show D (T46.setTop (mkF m 325 #[.val (.int p1), .val (.int p2), .val (.int p3), .val (.int p4), .val (.int p5), .val (.int x5_8), .val (.int x6_16), .val (.int v28s0), .val (.int x8_38), .val (.int v51s0), .val (.int v74s0), .val (.int v98s0), .val (.ref b5), .val (.ref b8), .val (.ref b10), .val (.long x15_184), .second, .val (.int v201s0), .val (.int rd), .val (.int v229s0), .unset, .unset] [(.int (((65536 : Int32) + ((v74s0 - (55296 : Int32)) <<< ((10 : Int32) &&& 31))) + (v98s0 - (56320 : Int32))))]))
            refine A (XS.istore X46.here hx rfl (hb hby at_325) rfl (l' := #[.val (.int p1), .val (.int p2), .val (.int p3), .val (.int p4), .val (.int p5), .val (.int x5_8), .val (.int x6_16), .val (.int v28s0), .val (.int x8_38), .val (.int v51s0), .val (.int v74s0), .val (.int v98s0), .val (.ref b5), .val (.ref b8), .val (.ref b10), .val (.long x15_184), .second, .val (.int v201s0), .val (.int rd), .val (.int v229s0), .val (.int (((65536 : Int32) + ((v74s0 - (55296 : Int32)) <<< ((10 : Int32) &&& 31))) + (v98s0 - (56320 : Int32)))), .unset]) rfl) ?_
            show D (T46.setTop (mkF m 327 #[.val (.int p1), .val (.int p2), .val (.int p3), .val (.int p4), .val (.int p5), .val (.int x5_8), .val (.int x6_16), .val (.int v28s0), .val (.int x8_38), .val (.int v51s0), .val (.int v74s0), .val (.int v98s0), .val (.ref b5), .val (.ref b8), .val (.ref b10), .val (.long x15_184), .second, .val (.int v201s0), .val (.int rd), .val (.int v229s0), .val (.int (((65536 : Int32) + ((v74s0 - (55296 : Int32)) <<< ((10 : Int32) &&& 31))) + (v98s0 - (56320 : Int32)))), .unset] []))
            refine A (XS.iconst X46.here hx rfl (hb hby at_327)) ?_
            show D (T46.setTop (mkF m 328 #[.val (.int p1), .val (.int p2), .val (.int p3), .val (.int p4), .val (.int p5), .val (.int x5_8), .val (.int x6_16), .val (.int v28s0), .val (.int x8_38), .val (.int v51s0), .val (.int v74s0), .val (.int v98s0), .val (.ref b5), .val (.ref b8), .val (.ref b10), .val (.long x15_184), .second, .val (.int v201s0), .val (.int rd), .val (.int v229s0), .val (.int (((65536 : Int32) + ((v74s0 - (55296 : Int32)) <<< ((10 : Int32) &&& 31))) + (v98s0 - (56320 : Int32)))), .unset] [(.int (2 : Int32))]))
            refine A (XS.istore X46.here hx rfl (hb hby at_328) rfl (l' := #[.val (.int p1), .val (.int p2), .val (.int p3), .val (.int p4), .val (.int p5), .val (.int x5_8), .val (.int x6_16), .val (.int v28s0), .val (.int x8_38), .val (.int v51s0), .val (.int v74s0), .val (.int v98s0), .val (.ref b5), .val (.ref b8), .val (.ref b10), .val (.long x15_184), .second, .val (.int v201s0), .val (.int rd), .val (.int v229s0), .val (.int (((65536 : Int32) + ((v74s0 - (55296 : Int32)) <<< ((10 : Int32) &&& 31))) + (v98s0 - (56320 : Int32)))), .val (.int (2 : Int32))]) rfl) ?_
            show D (T46.setTop (mkF m 330 #[.val (.int p1), .val (.int p2), .val (.int p3), .val (.int p4), .val (.int p5), .val (.int x5_8), .val (.int x6_16), .val (.int v28s0), .val (.int x8_38), .val (.int v51s0), .val (.int v74s0), .val (.int v98s0), .val (.ref b5), .val (.ref b8), .val (.ref b10), .val (.long x15_184), .second, .val (.int v201s0), .val (.int rd), .val (.int v229s0), .val (.int (((65536 : Int32) + ((v74s0 - (55296 : Int32)) <<< ((10 : Int32) &&& 31))) + (v98s0 - (56320 : Int32)))), .val (.int (2 : Int32))] []))
            refine A (XS.goto X46.here hx rfl (pc0 := 330) (pc' := 340) rfl (hb hby at_330) (by decide) (by decide)) ?_
            show D (T46.setTop (mkF m 340 #[.val (.int p1), .val (.int p2), .val (.int p3), .val (.int p4), .val (.int p5), .val (.int x5_8), .val (.int x6_16), .val (.int v28s0), .val (.int x8_38), .val (.int v51s0), .val (.int v74s0), .val (.int v98s0), .val (.ref b5), .val (.ref b8), .val (.ref b10), .val (.long x15_184), .second, .val (.int v201s0), .val (.int rd), .val (.int v229s0), .val (.int (((65536 : Int32) + ((v74s0 - (55296 : Int32)) <<< ((10 : Int32) &&& 31))) + (v98s0 - (56320 : Int32)))), .val (.int (2 : Int32))] []))
            exact Km340_47 _ _ ((if_neg c305_3)).symm ((if_neg c305_3)).symm
        intro v340_20 v340_21 hv340_20 hv340_21
        show D (T46.setTop (mkF m 340 #[.val (.int p1), .val (.int p2), .val (.int p3), .val (.int p4), .val (.int p5), .val (.int x5_8), .val (.int x6_16), .val (.int v28s0), .val (.int x8_38), .val (.int v51s0), .val (.int v74s0), .val (.int v98s0), .val (.ref b5), .val (.ref b8), .val (.ref b10), .val (.long x15_184), .second, .val (.int v201s0), .val (.int rd), .val (.int v229s0), .val (.int v340_20), .val (.int v340_21)] []))
        refine A (XS.iload X46.here hx rfl (hb hby at_340) rfl) ?_
        show D (T46.setTop (mkF m 342 #[.val (.int p1), .val (.int p2), .val (.int p3), .val (.int p4), .val (.int p5), .val (.int x5_8), .val (.int x6_16), .val (.int v28s0), .val (.int x8_38), .val (.int v51s0), .val (.int v74s0), .val (.int v98s0), .val (.ref b5), .val (.ref b8), .val (.ref b10), .val (.long x15_184), .second, .val (.int v201s0), .val (.int rd), .val (.int v229s0), .val (.int v340_20), .val (.int v340_21)] [(.int v201s0)]))
        by_cases c342_48 : v201s0 = (0 : Int32)
        · refine A (XS.ifYes X46.here hx rfl (pc0 := 342) (pc' := 371) rfl (hb hby at_342) rfl ((if0 _ _).trans (teq c342_48).1) (by decide) (by decide)) ?_
          show D (T46.setTop (mkF m 371 #[.val (.int p1), .val (.int p2), .val (.int p3), .val (.int p4), .val (.int p5), .val (.int x5_8), .val (.int x6_16), .val (.int v28s0), .val (.int x8_38), .val (.int v51s0), .val (.int v74s0), .val (.int v98s0), .val (.ref b5), .val (.ref b8), .val (.ref b10), .val (.long x15_184), .second, .val (.int v201s0), .val (.int rd), .val (.int v229s0), .val (.int v340_20), .val (.int v340_21)] []))
          refine A (XS.iconst X46.here hx rfl (hb hby at_371)) ?_
          show D (T46.setTop (mkF m 372 #[.val (.int p1), .val (.int p2), .val (.int p3), .val (.int p4), .val (.int p5), .val (.int x5_8), .val (.int x6_16), .val (.int v28s0), .val (.int x8_38), .val (.int v51s0), .val (.int v74s0), .val (.int v98s0), .val (.ref b5), .val (.ref b8), .val (.ref b10), .val (.long x15_184), .second, .val (.int v201s0), .val (.int rd), .val (.int v229s0), .val (.int v340_20), .val (.int v340_21)] [(.int (0 : Int32))]))
          exfalso
          have hof : v201s0 = 1 := by rw [hv201s0, if_pos ((lw_eq _ _).mpr (by rw [hx15_184]; exact own_off r5 r6))]
          rw [hof] at c342_48; exact absurd c342_48 (by decide)
        · refine A (XS.ifNo X46.here hx rfl (hb hby at_342) rfl ((if0 _ _).trans (feq c342_48).1)) ?_
          show D (T46.setTop (mkF m 345 #[.val (.int p1), .val (.int p2), .val (.int p3), .val (.int p4), .val (.int p5), .val (.int x5_8), .val (.int x6_16), .val (.int v28s0), .val (.int x8_38), .val (.int v51s0), .val (.int v74s0), .val (.int v98s0), .val (.ref b5), .val (.ref b8), .val (.ref b10), .val (.long x15_184), .second, .val (.int v201s0), .val (.int rd), .val (.int v229s0), .val (.int v340_20), .val (.int v340_21)] []))
          refine A (XS.iload X46.here hx rfl (hb hby at_345) rfl) ?_
          show D (T46.setTop (mkF m 347 #[.val (.int p1), .val (.int p2), .val (.int p3), .val (.int p4), .val (.int p5), .val (.int x5_8), .val (.int x6_16), .val (.int v28s0), .val (.int x8_38), .val (.int v51s0), .val (.int v74s0), .val (.int v98s0), .val (.ref b5), .val (.ref b8), .val (.ref b10), .val (.long x15_184), .second, .val (.int v201s0), .val (.int rd), .val (.int v229s0), .val (.int v340_20), .val (.int v340_21)] [(.int rd)]))
          refine A (XS.iload X46.here hx rfl (hb hby at_347) rfl) ?_
          show D (T46.setTop (mkF m 349 #[.val (.int p1), .val (.int p2), .val (.int p3), .val (.int p4), .val (.int p5), .val (.int x5_8), .val (.int x6_16), .val (.int v28s0), .val (.int x8_38), .val (.int v51s0), .val (.int v74s0), .val (.int v98s0), .val (.ref b5), .val (.ref b8), .val (.ref b10), .val (.long x15_184), .second, .val (.int v201s0), .val (.int rd), .val (.int v229s0), .val (.int v340_20), .val (.int v340_21)] [(.int v340_20), (.int rd)]))
          by_cases c349_49 : rd = v340_20
          · refine A (XS.icmpNo X46.here hx rfl (hb hby at_349) rfl (teq c349_49).2) ?_
            show D (T46.setTop (mkF m 352 #[.val (.int p1), .val (.int p2), .val (.int p3), .val (.int p4), .val (.int p5), .val (.int x5_8), .val (.int x6_16), .val (.int v28s0), .val (.int x8_38), .val (.int v51s0), .val (.int v74s0), .val (.int v98s0), .val (.ref b5), .val (.ref b8), .val (.ref b10), .val (.long x15_184), .second, .val (.int v201s0), .val (.int rd), .val (.int v229s0), .val (.int v340_20), .val (.int v340_21)] []))
            refine A (XS.aload X46.here hx rfl (hb hby at_352) rfl rfl) ?_
            show D (T46.setTop (mkF m 354 #[.val (.int p1), .val (.int p2), .val (.int p3), .val (.int p4), .val (.int p5), .val (.int x5_8), .val (.int x6_16), .val (.int v28s0), .val (.int x8_38), .val (.int v51s0), .val (.int v74s0), .val (.int v98s0), .val (.ref b5), .val (.ref b8), .val (.ref b10), .val (.long x15_184), .second, .val (.int v201s0), .val (.int rd), .val (.int v229s0), .val (.int v340_20), .val (.int v340_21)] [(.ref b10)]))
            refine Adv.callV A X46 hx hZ hown (hw _ (List.mem_of_getElem? (i := 175) rfl)) (hw _ (List.mem_of_getElem? (i := 176) rfl)) (notFace_of_selects (args := #[]) (mvT hZ (hw _ (List.mem_of_getElem? (i := 178) rfl)))) (hw _ (List.mem_of_getElem? (i := 178) rfl)) (hw _ (List.mem_of_getElem? (i := 177) rfl)) (hw _ (List.mem_of_getElem? (i := 33) rfl)) (hw _ (List.mem_of_getElem? (i := 179) rfl)) e46 E_b10_23 (rm29 l Z a0 hw [] b10 T23.heap n0 jx b8 Z_23 g_b10 E_b10_23 F23_chars F23_index cd nb fb cs hcs sf hsf b9 v74s0 v98s0 hSt S_sf_23 S_cs_23 S_ad_23 S_hi_23 S_lo_23 E_b8_23 F_coder_b8_23 F_value_b8_23 V_b9_23) 0 (g := (mkF m 354 #[.val (.int p1), .val (.int p2), .val (.int p3), .val (.int p4), .val (.int p5), .val (.int x5_8), .val (.int x6_16), .val (.int v28s0), .val (.int x8_38), .val (.int v51s0), .val (.int v74s0), .val (.int v98s0), .val (.ref b5), .val (.ref b8), .val (.ref b10), .val (.long x15_184), .second, .val (.int v201s0), .val (.int rd), .val (.int v229s0), .val (.int v340_20), .val (.int v340_21)] [(.ref b10)])) rfl (by rw [hml]; rfl) [] [] rfl (lenOf pd0_6 rfl) rfl (by show 2 * 0 + _ ≤ _; exact Nat.le_of_eq rfl) (hb hby at_354) (by decide) (by decide) (by decide) (by decide) (by decide) ?_
            rintro T50 L50 _ X50 ⟨rfl, N50_q, e50⟩
            have N50 := Fr.app N46 N50_q
            show D (T50.setTop (mkF m 357 #[.val (.int p1), .val (.int p2), .val (.int p3), .val (.int p4), .val (.int p5), .val (.int x5_8), .val (.int x6_16), .val (.int v28s0), .val (.int x8_38), .val (.int v51s0), .val (.int v74s0), .val (.int v98s0), .val (.ref b5), .val (.ref b8), .val (.ref b10), .val (.long x15_184), .second, .val (.int v201s0), .val (.int rd), .val (.int v229s0), .val (.int v340_20), .val (.int v340_21)] [(.int ((2 : Int32) - jx))]))
            refine A (XS.iconst X50.here hx rfl (hb hby at_357)) ?_
            show D (T50.setTop (mkF m 358 #[.val (.int p1), .val (.int p2), .val (.int p3), .val (.int p4), .val (.int p5), .val (.int x5_8), .val (.int x6_16), .val (.int v28s0), .val (.int x8_38), .val (.int v51s0), .val (.int v74s0), .val (.int v98s0), .val (.ref b5), .val (.ref b8), .val (.ref b10), .val (.long x15_184), .second, .val (.int v201s0), .val (.int rd), .val (.int v229s0), .val (.int v340_20), .val (.int v340_21)] [(.int (2 : Int32)), (.int ((2 : Int32) - jx))]))
            refine A (XS.iload X50.here hx rfl (hb hby at_358) rfl) ?_
            show D (T50.setTop (mkF m 360 #[.val (.int p1), .val (.int p2), .val (.int p3), .val (.int p4), .val (.int p5), .val (.int x5_8), .val (.int x6_16), .val (.int v28s0), .val (.int x8_38), .val (.int v51s0), .val (.int v74s0), .val (.int v98s0), .val (.ref b5), .val (.ref b8), .val (.ref b10), .val (.long x15_184), .second, .val (.int v201s0), .val (.int rd), .val (.int v229s0), .val (.int v340_20), .val (.int v340_21)] [(.int x8_38), (.int (2 : Int32)), (.int ((2 : Int32) - jx))]))
            refine A (XS.isub X50.here hx rfl (hb hby at_360) rfl) ?_
            show D (T50.setTop (mkF m 361 #[.val (.int p1), .val (.int p2), .val (.int p3), .val (.int p4), .val (.int p5), .val (.int x5_8), .val (.int x6_16), .val (.int v28s0), .val (.int x8_38), .val (.int v51s0), .val (.int v74s0), .val (.int v98s0), .val (.ref b5), .val (.ref b8), .val (.ref b10), .val (.long x15_184), .second, .val (.int v201s0), .val (.int rd), .val (.int v229s0), .val (.int v340_20), .val (.int v340_21)] [(.int ((2 : Int32) - x8_38)), (.int ((2 : Int32) - jx))]))
            refine A (XS.iload X50.here hx rfl (hb hby at_361) rfl) ?_
            show D (T50.setTop (mkF m 363 #[.val (.int p1), .val (.int p2), .val (.int p3), .val (.int p4), .val (.int p5), .val (.int x5_8), .val (.int x6_16), .val (.int v28s0), .val (.int x8_38), .val (.int v51s0), .val (.int v74s0), .val (.int v98s0), .val (.ref b5), .val (.ref b8), .val (.ref b10), .val (.long x15_184), .second, .val (.int v201s0), .val (.int rd), .val (.int v229s0), .val (.int v340_20), .val (.int v340_21)] [(.int v340_21), (.int ((2 : Int32) - x8_38)), (.int ((2 : Int32) - jx))]))
            refine A (XS.isub X50.here hx rfl (hb hby at_363) rfl) ?_
            show D (T50.setTop (mkF m 364 #[.val (.int p1), .val (.int p2), .val (.int p3), .val (.int p4), .val (.int p5), .val (.int x5_8), .val (.int x6_16), .val (.int v28s0), .val (.int x8_38), .val (.int v51s0), .val (.int v74s0), .val (.int v98s0), .val (.ref b5), .val (.ref b8), .val (.ref b10), .val (.long x15_184), .second, .val (.int v201s0), .val (.int rd), .val (.int v229s0), .val (.int v340_20), .val (.int v340_21)] [(.int (((2 : Int32) - x8_38) - v340_21)), (.int ((2 : Int32) - jx))]))
            suffices Km372_51 : ∀ (v372s0aaa : Int32), v372s0aaa = (if ((2 : Int32) - jx) = (((2 : Int32) - x8_38) - v340_21) then (1 : Int32) else (0 : Int32)) → D (T50.setTop (mkF m 372 #[.val (.int p1), .val (.int p2), .val (.int p3), .val (.int p4), .val (.int p5), .val (.int x5_8), .val (.int x6_16), .val (.int v28s0), .val (.int x8_38), .val (.int v51s0), .val (.int v74s0), .val (.int v98s0), .val (.ref b5), .val (.ref b8), .val (.ref b10), .val (.long x15_184), .second, .val (.int v201s0), .val (.int rd), .val (.int v229s0), .val (.int v340_20), .val (.int v340_21)] [(.int v372s0aaa)])) by
              by_cases c364_5 : ((2 : Int32) - jx) = (((2 : Int32) - x8_38) - v340_21)
              · refine A (XS.icmpNo X50.here hx rfl (hb hby at_364) rfl (teq c364_5).2) ?_
                show D (T50.setTop (mkF m 367 #[.val (.int p1), .val (.int p2), .val (.int p3), .val (.int p4), .val (.int p5), .val (.int x5_8), .val (.int x6_16), .val (.int v28s0), .val (.int x8_38), .val (.int v51s0), .val (.int v74s0), .val (.int v98s0), .val (.ref b5), .val (.ref b8), .val (.ref b10), .val (.long x15_184), .second, .val (.int v201s0), .val (.int rd), .val (.int v229s0), .val (.int v340_20), .val (.int v340_21)] []))
                refine A (XS.iconst X50.here hx rfl (hb hby at_367)) ?_
                show D (T50.setTop (mkF m 368 #[.val (.int p1), .val (.int p2), .val (.int p3), .val (.int p4), .val (.int p5), .val (.int x5_8), .val (.int x6_16), .val (.int v28s0), .val (.int x8_38), .val (.int v51s0), .val (.int v74s0), .val (.int v98s0), .val (.ref b5), .val (.ref b8), .val (.ref b10), .val (.long x15_184), .second, .val (.int v201s0), .val (.int rd), .val (.int v229s0), .val (.int v340_20), .val (.int v340_21)] [(.int (1 : Int32))]))
                refine A (XS.goto X50.here hx rfl (pc0 := 368) (pc' := 372) rfl (hb hby at_368) (by decide) (by decide)) ?_
                show D (T50.setTop (mkF m 372 #[.val (.int p1), .val (.int p2), .val (.int p3), .val (.int p4), .val (.int p5), .val (.int x5_8), .val (.int x6_16), .val (.int v28s0), .val (.int x8_38), .val (.int v51s0), .val (.int v74s0), .val (.int v98s0), .val (.ref b5), .val (.ref b8), .val (.ref b10), .val (.long x15_184), .second, .val (.int v201s0), .val (.int rd), .val (.int v229s0), .val (.int v340_20), .val (.int v340_21)] [(.int (1 : Int32))]))
                exact Km372_51 _ ((if_pos c364_5)).symm
              · refine A (XS.icmpYes X50.here hx rfl (pc0 := 364) (pc' := 371) rfl (hb hby at_364) rfl (feq c364_5).2 (by decide) (by decide)) ?_
                show D (T50.setTop (mkF m 371 #[.val (.int p1), .val (.int p2), .val (.int p3), .val (.int p4), .val (.int p5), .val (.int x5_8), .val (.int x6_16), .val (.int v28s0), .val (.int x8_38), .val (.int v51s0), .val (.int v74s0), .val (.int v98s0), .val (.ref b5), .val (.ref b8), .val (.ref b10), .val (.long x15_184), .second, .val (.int v201s0), .val (.int rd), .val (.int v229s0), .val (.int v340_20), .val (.int v340_21)] []))
                refine A (XS.iconst X50.here hx rfl (hb hby at_371)) ?_
                show D (T50.setTop (mkF m 372 #[.val (.int p1), .val (.int p2), .val (.int p3), .val (.int p4), .val (.int p5), .val (.int x5_8), .val (.int x6_16), .val (.int v28s0), .val (.int x8_38), .val (.int v51s0), .val (.int v74s0), .val (.int v98s0), .val (.ref b5), .val (.ref b8), .val (.ref b10), .val (.long x15_184), .second, .val (.int v201s0), .val (.int rd), .val (.int v229s0), .val (.int v340_20), .val (.int v340_21)] [(.int (0 : Int32))]))
                exact Km372_51 _ ((if_neg c364_5)).symm
            intro v372s0aaa hv372s0aaa
            show D (T50.setTop (mkF m 372 #[.val (.int p1), .val (.int p2), .val (.int p3), .val (.int p4), .val (.int p5), .val (.int x5_8), .val (.int x6_16), .val (.int v28s0), .val (.int x8_38), .val (.int v51s0), .val (.int v74s0), .val (.int v98s0), .val (.ref b5), .val (.ref b8), .val (.ref b10), .val (.long x15_184), .second, .val (.int v201s0), .val (.int rd), .val (.int v229s0), .val (.int v340_20), .val (.int v340_21)] [(.int v372s0aaa)]))
            obtain rfl : v372s0aaa = (1 : Int32) := by
              have hof : v201s0 = 1 := by rw [hv201s0, if_pos ((lw_eq _ _).mpr (by rw [hx15_184]; exact own_off r5 r6))]
              have hf := own_fin hk8 hk82 hv229s0 hD
              have hg : rd = v340_20 ∧ ((2 : Int32) - jx) = (((2 : Int32) - x8_38) - v340_21) := by
                by_cases q : f28 v98s0 = (0 : Int32)
                · have z := hf.2.2.2.2 c236_26 c262_39 c278_40 q
                  rw [hv340_20, hv340_21, if_pos q, if_pos q]; exact z
                · have z := hf.2.2.2.1 c236_26 c262_39 c278_40 q
                  rw [hv340_20, hv340_21, if_neg q, if_neg q, own_cp]; exact z
              have h20 := hg.1
              rw [hv372s0aaa, if_pos hg.2]
            show D (T50.setTop (mkF m 372 #[.val (.int p1), .val (.int p2), .val (.int p3), .val (.int p4), .val (.int p5), .val (.int x5_8), .val (.int x6_16), .val (.int v28s0), .val (.int x8_38), .val (.int v51s0), .val (.int v74s0), .val (.int v98s0), .val (.ref b5), .val (.ref b8), .val (.ref b10), .val (.long x15_184), .second, .val (.int v201s0), .val (.int rd), .val (.int v229s0), .val (.int v340_20), .val (.int v340_21)] [(.int (1 : Int32))]))
            exact F _ (Jvm.JW.retW X50 hS hlk (v := some (.int (1 : Int32))) (fun h => by rw [hrt] at h; cases h) (fun fs hr => retOut X50 hx hrt rfl (Or.inl ⟨rfl, Or.inr (Or.inl rfl), _, rfl⟩) (hb hby at_372) hr) e50 hk_23 ⟨rfl, N50⟩ (by decide) (by decide))
          · refine A (XS.icmpYes X46.here hx rfl (pc0 := 349) (pc' := 371) rfl (hb hby at_349) rfl (feq c349_49).2 (by decide) (by decide)) ?_
            show D (T46.setTop (mkF m 371 #[.val (.int p1), .val (.int p2), .val (.int p3), .val (.int p4), .val (.int p5), .val (.int x5_8), .val (.int x6_16), .val (.int v28s0), .val (.int x8_38), .val (.int v51s0), .val (.int v74s0), .val (.int v98s0), .val (.ref b5), .val (.ref b8), .val (.ref b10), .val (.long x15_184), .second, .val (.int v201s0), .val (.int rd), .val (.int v229s0), .val (.int v340_20), .val (.int v340_21)] []))
            refine A (XS.iconst X46.here hx rfl (hb hby at_371)) ?_
            show D (T46.setTop (mkF m 372 #[.val (.int p1), .val (.int p2), .val (.int p3), .val (.int p4), .val (.int p5), .val (.int x5_8), .val (.int x6_16), .val (.int v28s0), .val (.int x8_38), .val (.int v51s0), .val (.int v74s0), .val (.int v98s0), .val (.ref b5), .val (.ref b8), .val (.ref b10), .val (.long x15_184), .second, .val (.int v201s0), .val (.int rd), .val (.int v229s0), .val (.int v340_20), .val (.int v340_21)] [(.int (0 : Int32))]))
            exfalso
            have hof : v201s0 = 1 := by rw [hv201s0, if_pos ((lw_eq _ _).mpr (by rw [hx15_184]; exact own_off r5 r6))]
            have hf := own_fin hk8 hk82 hv229s0 hD
            have hg : rd = v340_20 ∧ ((2 : Int32) - jx) = (((2 : Int32) - x8_38) - v340_21) := by
              by_cases q : f28 v98s0 = (0 : Int32)
              · have z := hf.2.2.2.2 c236_26 c262_39 c278_40 q
                rw [hv340_20, hv340_21, if_pos q, if_pos q]; exact z
              · have z := hf.2.2.2.1 c236_26 c262_39 c278_40 q
                rw [hv340_20, hv340_21, if_neg q, if_neg q, own_cp]; exact z
            have h20 := hg.1
            exact absurd h20 c349_49
    · refine A (XS.ifNo X38.here hx rfl (hb hby at_262) rfl ((if0 _ _).trans (feq c262_39).1)) ?_
      show D (T38.setTop (mkF m 265 #[.val (.int p1), .val (.int p2), .val (.int p3), .val (.int p4), .val (.int p5), .val (.int x5_8), .val (.int x6_16), .val (.int v28s0), .val (.int x8_38), .val (.int v51s0), .val (.int v74s0), .val (.int v98s0), .val (.ref b5), .val (.ref b8), .val (.ref b10), .val (.long x15_184), .second, .val (.int v201s0), .val (.int rd), .val (.int v229s0), .unset, .unset] []))
      refine A (XS.bipush X38.here hx rfl (hb hby at_265)) ?_
      show D (T38.setTop (mkF m 267 #[.val (.int p1), .val (.int p2), .val (.int p3), .val (.int p4), .val (.int p5), .val (.int x5_8), .val (.int x6_16), .val (.int v28s0), .val (.int x8_38), .val (.int v51s0), .val (.int v74s0), .val (.int v98s0), .val (.ref b5), .val (.ref b8), .val (.ref b10), .val (.long x15_184), .second, .val (.int v201s0), .val (.int rd), .val (.int v229s0), .unset, .unset] [(.int (-2 : Int32))]))
      refine A (XS.istore X38.here hx rfl (hb hby at_267) rfl (l' := #[.val (.int p1), .val (.int p2), .val (.int p3), .val (.int p4), .val (.int p5), .val (.int x5_8), .val (.int x6_16), .val (.int v28s0), .val (.int x8_38), .val (.int v51s0), .val (.int v74s0), .val (.int v98s0), .val (.ref b5), .val (.ref b8), .val (.ref b10), .val (.long x15_184), .second, .val (.int v201s0), .val (.int rd), .val (.int v229s0), .val (.int (-2 : Int32)), .unset]) rfl) ?_
      show D (T38.setTop (mkF m 269 #[.val (.int p1), .val (.int p2), .val (.int p3), .val (.int p4), .val (.int p5), .val (.int x5_8), .val (.int x6_16), .val (.int v28s0), .val (.int x8_38), .val (.int v51s0), .val (.int v74s0), .val (.int v98s0), .val (.ref b5), .val (.ref b8), .val (.ref b10), .val (.long x15_184), .second, .val (.int v201s0), .val (.int rd), .val (.int v229s0), .val (.int (-2 : Int32)), .unset] []))
      refine A (XS.iconst X38.here hx rfl (hb hby at_269)) ?_
      show D (T38.setTop (mkF m 270 #[.val (.int p1), .val (.int p2), .val (.int p3), .val (.int p4), .val (.int p5), .val (.int x5_8), .val (.int x6_16), .val (.int v28s0), .val (.int x8_38), .val (.int v51s0), .val (.int v74s0), .val (.int v98s0), .val (.ref b5), .val (.ref b8), .val (.ref b10), .val (.long x15_184), .second, .val (.int v201s0), .val (.int rd), .val (.int v229s0), .val (.int (-2 : Int32)), .unset] [(.int (0 : Int32))]))
      refine A (XS.istore X38.here hx rfl (hb hby at_270) rfl (l' := #[.val (.int p1), .val (.int p2), .val (.int p3), .val (.int p4), .val (.int p5), .val (.int x5_8), .val (.int x6_16), .val (.int v28s0), .val (.int x8_38), .val (.int v51s0), .val (.int v74s0), .val (.int v98s0), .val (.ref b5), .val (.ref b8), .val (.ref b10), .val (.long x15_184), .second, .val (.int v201s0), .val (.int rd), .val (.int v229s0), .val (.int (-2 : Int32)), .val (.int (0 : Int32))]) rfl) ?_
      show D (T38.setTop (mkF m 272 #[.val (.int p1), .val (.int p2), .val (.int p3), .val (.int p4), .val (.int p5), .val (.int x5_8), .val (.int x6_16), .val (.int v28s0), .val (.int x8_38), .val (.int v51s0), .val (.int v74s0), .val (.int v98s0), .val (.ref b5), .val (.ref b8), .val (.ref b10), .val (.long x15_184), .second, .val (.int v201s0), .val (.int rd), .val (.int v229s0), .val (.int (-2 : Int32)), .val (.int (0 : Int32))] []))
      refine A (XS.goto X38.here hx rfl (pc0 := 272) (pc' := 340) rfl (hb hby at_272) (by decide) (by decide)) ?_
      show D (T38.setTop (mkF m 340 #[.val (.int p1), .val (.int p2), .val (.int p3), .val (.int p4), .val (.int p5), .val (.int x5_8), .val (.int x6_16), .val (.int v28s0), .val (.int x8_38), .val (.int v51s0), .val (.int v74s0), .val (.int v98s0), .val (.ref b5), .val (.ref b8), .val (.ref b10), .val (.long x15_184), .second, .val (.int v201s0), .val (.int rd), .val (.int v229s0), .val (.int (-2 : Int32)), .val (.int (0 : Int32))] []))
      refine A (XS.iload X38.here hx rfl (hb hby at_340) rfl) ?_
      show D (T38.setTop (mkF m 342 #[.val (.int p1), .val (.int p2), .val (.int p3), .val (.int p4), .val (.int p5), .val (.int x5_8), .val (.int x6_16), .val (.int v28s0), .val (.int x8_38), .val (.int v51s0), .val (.int v74s0), .val (.int v98s0), .val (.ref b5), .val (.ref b8), .val (.ref b10), .val (.long x15_184), .second, .val (.int v201s0), .val (.int rd), .val (.int v229s0), .val (.int (-2 : Int32)), .val (.int (0 : Int32))] [(.int v201s0)]))
      by_cases c342_52 : v201s0 = (0 : Int32)
      · refine A (XS.ifYes X38.here hx rfl (pc0 := 342) (pc' := 371) rfl (hb hby at_342) rfl ((if0 _ _).trans (teq c342_52).1) (by decide) (by decide)) ?_
        show D (T38.setTop (mkF m 371 #[.val (.int p1), .val (.int p2), .val (.int p3), .val (.int p4), .val (.int p5), .val (.int x5_8), .val (.int x6_16), .val (.int v28s0), .val (.int x8_38), .val (.int v51s0), .val (.int v74s0), .val (.int v98s0), .val (.ref b5), .val (.ref b8), .val (.ref b10), .val (.long x15_184), .second, .val (.int v201s0), .val (.int rd), .val (.int v229s0), .val (.int (-2 : Int32)), .val (.int (0 : Int32))] []))
        refine A (XS.iconst X38.here hx rfl (hb hby at_371)) ?_
        show D (T38.setTop (mkF m 372 #[.val (.int p1), .val (.int p2), .val (.int p3), .val (.int p4), .val (.int p5), .val (.int x5_8), .val (.int x6_16), .val (.int v28s0), .val (.int x8_38), .val (.int v51s0), .val (.int v74s0), .val (.int v98s0), .val (.ref b5), .val (.ref b8), .val (.ref b10), .val (.long x15_184), .second, .val (.int v201s0), .val (.int rd), .val (.int v229s0), .val (.int (-2 : Int32)), .val (.int (0 : Int32))] [(.int (0 : Int32))]))
        exfalso
        have hof : v201s0 = 1 := by rw [hv201s0, if_pos ((lw_eq _ _).mpr (by rw [hx15_184]; exact own_off r5 r6))]
        rw [hof] at c342_52; exact absurd c342_52 (by decide)
      · refine A (XS.ifNo X38.here hx rfl (hb hby at_342) rfl ((if0 _ _).trans (feq c342_52).1)) ?_
        show D (T38.setTop (mkF m 345 #[.val (.int p1), .val (.int p2), .val (.int p3), .val (.int p4), .val (.int p5), .val (.int x5_8), .val (.int x6_16), .val (.int v28s0), .val (.int x8_38), .val (.int v51s0), .val (.int v74s0), .val (.int v98s0), .val (.ref b5), .val (.ref b8), .val (.ref b10), .val (.long x15_184), .second, .val (.int v201s0), .val (.int rd), .val (.int v229s0), .val (.int (-2 : Int32)), .val (.int (0 : Int32))] []))
        refine A (XS.iload X38.here hx rfl (hb hby at_345) rfl) ?_
        show D (T38.setTop (mkF m 347 #[.val (.int p1), .val (.int p2), .val (.int p3), .val (.int p4), .val (.int p5), .val (.int x5_8), .val (.int x6_16), .val (.int v28s0), .val (.int x8_38), .val (.int v51s0), .val (.int v74s0), .val (.int v98s0), .val (.ref b5), .val (.ref b8), .val (.ref b10), .val (.long x15_184), .second, .val (.int v201s0), .val (.int rd), .val (.int v229s0), .val (.int (-2 : Int32)), .val (.int (0 : Int32))] [(.int rd)]))
        refine A (XS.iload X38.here hx rfl (hb hby at_347) rfl) ?_
        show D (T38.setTop (mkF m 349 #[.val (.int p1), .val (.int p2), .val (.int p3), .val (.int p4), .val (.int p5), .val (.int x5_8), .val (.int x6_16), .val (.int v28s0), .val (.int x8_38), .val (.int v51s0), .val (.int v74s0), .val (.int v98s0), .val (.ref b5), .val (.ref b8), .val (.ref b10), .val (.long x15_184), .second, .val (.int v201s0), .val (.int rd), .val (.int v229s0), .val (.int (-2 : Int32)), .val (.int (0 : Int32))] [(.int (-2 : Int32)), (.int rd)]))
        by_cases c349_53 : rd = (-2 : Int32)
        · refine A (XS.icmpNo X38.here hx rfl (hb hby at_349) rfl (teq c349_53).2) ?_
          show D (T38.setTop (mkF m 352 #[.val (.int p1), .val (.int p2), .val (.int p3), .val (.int p4), .val (.int p5), .val (.int x5_8), .val (.int x6_16), .val (.int v28s0), .val (.int x8_38), .val (.int v51s0), .val (.int v74s0), .val (.int v98s0), .val (.ref b5), .val (.ref b8), .val (.ref b10), .val (.long x15_184), .second, .val (.int v201s0), .val (.int rd), .val (.int v229s0), .val (.int (-2 : Int32)), .val (.int (0 : Int32))] []))
          refine A (XS.aload X38.here hx rfl (hb hby at_352) rfl rfl) ?_
          show D (T38.setTop (mkF m 354 #[.val (.int p1), .val (.int p2), .val (.int p3), .val (.int p4), .val (.int p5), .val (.int x5_8), .val (.int x6_16), .val (.int v28s0), .val (.int x8_38), .val (.int v51s0), .val (.int v74s0), .val (.int v98s0), .val (.ref b5), .val (.ref b8), .val (.ref b10), .val (.long x15_184), .second, .val (.int v201s0), .val (.int rd), .val (.int v229s0), .val (.int (-2 : Int32)), .val (.int (0 : Int32))] [(.ref b10)]))
          refine Adv.callV A X38 hx hZ hown (hw _ (List.mem_of_getElem? (i := 175) rfl)) (hw _ (List.mem_of_getElem? (i := 176) rfl)) (notFace_of_selects (args := #[]) (mvT hZ (hw _ (List.mem_of_getElem? (i := 178) rfl)))) (hw _ (List.mem_of_getElem? (i := 178) rfl)) (hw _ (List.mem_of_getElem? (i := 177) rfl)) (hw _ (List.mem_of_getElem? (i := 33) rfl)) (hw _ (List.mem_of_getElem? (i := 179) rfl)) e38 E_b10_23 (rm29 l Z a0 hw [] b10 T23.heap n0 jx b8 Z_23 g_b10 E_b10_23 F23_chars F23_index cd nb fb cs hcs sf hsf b9 v74s0 v98s0 hSt S_sf_23 S_cs_23 S_ad_23 S_hi_23 S_lo_23 E_b8_23 F_coder_b8_23 F_value_b8_23 V_b9_23) 0 (g := (mkF m 354 #[.val (.int p1), .val (.int p2), .val (.int p3), .val (.int p4), .val (.int p5), .val (.int x5_8), .val (.int x6_16), .val (.int v28s0), .val (.int x8_38), .val (.int v51s0), .val (.int v74s0), .val (.int v98s0), .val (.ref b5), .val (.ref b8), .val (.ref b10), .val (.long x15_184), .second, .val (.int v201s0), .val (.int rd), .val (.int v229s0), .val (.int (-2 : Int32)), .val (.int (0 : Int32))] [(.ref b10)])) rfl (by rw [hml]; rfl) [] [] rfl (lenOf pd0_6 rfl) rfl (by show 2 * 0 + _ ≤ _; exact Nat.le_of_eq rfl) (hb hby at_354) (by decide) (by decide) (by decide) (by decide) (by decide) ?_
          rintro T54 L54 _ X54 ⟨rfl, N54_q, e54⟩
          have N54 := Fr.app N38 N54_q
          show D (T54.setTop (mkF m 357 #[.val (.int p1), .val (.int p2), .val (.int p3), .val (.int p4), .val (.int p5), .val (.int x5_8), .val (.int x6_16), .val (.int v28s0), .val (.int x8_38), .val (.int v51s0), .val (.int v74s0), .val (.int v98s0), .val (.ref b5), .val (.ref b8), .val (.ref b10), .val (.long x15_184), .second, .val (.int v201s0), .val (.int rd), .val (.int v229s0), .val (.int (-2 : Int32)), .val (.int (0 : Int32))] [(.int ((2 : Int32) - jx))]))
          refine A (XS.iconst X54.here hx rfl (hb hby at_357)) ?_
          show D (T54.setTop (mkF m 358 #[.val (.int p1), .val (.int p2), .val (.int p3), .val (.int p4), .val (.int p5), .val (.int x5_8), .val (.int x6_16), .val (.int v28s0), .val (.int x8_38), .val (.int v51s0), .val (.int v74s0), .val (.int v98s0), .val (.ref b5), .val (.ref b8), .val (.ref b10), .val (.long x15_184), .second, .val (.int v201s0), .val (.int rd), .val (.int v229s0), .val (.int (-2 : Int32)), .val (.int (0 : Int32))] [(.int (2 : Int32)), (.int ((2 : Int32) - jx))]))
          refine A (XS.iload X54.here hx rfl (hb hby at_358) rfl) ?_
          show D (T54.setTop (mkF m 360 #[.val (.int p1), .val (.int p2), .val (.int p3), .val (.int p4), .val (.int p5), .val (.int x5_8), .val (.int x6_16), .val (.int v28s0), .val (.int x8_38), .val (.int v51s0), .val (.int v74s0), .val (.int v98s0), .val (.ref b5), .val (.ref b8), .val (.ref b10), .val (.long x15_184), .second, .val (.int v201s0), .val (.int rd), .val (.int v229s0), .val (.int (-2 : Int32)), .val (.int (0 : Int32))] [(.int x8_38), (.int (2 : Int32)), (.int ((2 : Int32) - jx))]))
          refine A (XS.isub X54.here hx rfl (hb hby at_360) rfl) ?_
          show D (T54.setTop (mkF m 361 #[.val (.int p1), .val (.int p2), .val (.int p3), .val (.int p4), .val (.int p5), .val (.int x5_8), .val (.int x6_16), .val (.int v28s0), .val (.int x8_38), .val (.int v51s0), .val (.int v74s0), .val (.int v98s0), .val (.ref b5), .val (.ref b8), .val (.ref b10), .val (.long x15_184), .second, .val (.int v201s0), .val (.int rd), .val (.int v229s0), .val (.int (-2 : Int32)), .val (.int (0 : Int32))] [(.int ((2 : Int32) - x8_38)), (.int ((2 : Int32) - jx))]))
          refine A (XS.iload X54.here hx rfl (hb hby at_361) rfl) ?_
          show D (T54.setTop (mkF m 363 #[.val (.int p1), .val (.int p2), .val (.int p3), .val (.int p4), .val (.int p5), .val (.int x5_8), .val (.int x6_16), .val (.int v28s0), .val (.int x8_38), .val (.int v51s0), .val (.int v74s0), .val (.int v98s0), .val (.ref b5), .val (.ref b8), .val (.ref b10), .val (.long x15_184), .second, .val (.int v201s0), .val (.int rd), .val (.int v229s0), .val (.int (-2 : Int32)), .val (.int (0 : Int32))] [(.int (0 : Int32)), (.int ((2 : Int32) - x8_38)), (.int ((2 : Int32) - jx))]))
          refine A (XS.isub X54.here hx rfl (hb hby at_363) rfl) ?_
          show D (T54.setTop (mkF m 364 #[.val (.int p1), .val (.int p2), .val (.int p3), .val (.int p4), .val (.int p5), .val (.int x5_8), .val (.int x6_16), .val (.int v28s0), .val (.int x8_38), .val (.int v51s0), .val (.int v74s0), .val (.int v98s0), .val (.ref b5), .val (.ref b8), .val (.ref b10), .val (.long x15_184), .second, .val (.int v201s0), .val (.int rd), .val (.int v229s0), .val (.int (-2 : Int32)), .val (.int (0 : Int32))] [(.int (((2 : Int32) - x8_38) - (0 : Int32))), (.int ((2 : Int32) - jx))]))
          suffices Km372_55 : ∀ (v372s0aaaa : Int32), v372s0aaaa = (if ((2 : Int32) - jx) = (((2 : Int32) - x8_38) - (0 : Int32)) then (1 : Int32) else (0 : Int32)) → D (T54.setTop (mkF m 372 #[.val (.int p1), .val (.int p2), .val (.int p3), .val (.int p4), .val (.int p5), .val (.int x5_8), .val (.int x6_16), .val (.int v28s0), .val (.int x8_38), .val (.int v51s0), .val (.int v74s0), .val (.int v98s0), .val (.ref b5), .val (.ref b8), .val (.ref b10), .val (.long x15_184), .second, .val (.int v201s0), .val (.int rd), .val (.int v229s0), .val (.int (-2 : Int32)), .val (.int (0 : Int32))] [(.int v372s0aaaa)])) by
            by_cases c364_4 : ((2 : Int32) - jx) = (((2 : Int32) - x8_38) - (0 : Int32))
            · refine A (XS.icmpNo X54.here hx rfl (hb hby at_364) rfl (teq c364_4).2) ?_
              show D (T54.setTop (mkF m 367 #[.val (.int p1), .val (.int p2), .val (.int p3), .val (.int p4), .val (.int p5), .val (.int x5_8), .val (.int x6_16), .val (.int v28s0), .val (.int x8_38), .val (.int v51s0), .val (.int v74s0), .val (.int v98s0), .val (.ref b5), .val (.ref b8), .val (.ref b10), .val (.long x15_184), .second, .val (.int v201s0), .val (.int rd), .val (.int v229s0), .val (.int (-2 : Int32)), .val (.int (0 : Int32))] []))
              refine A (XS.iconst X54.here hx rfl (hb hby at_367)) ?_
              show D (T54.setTop (mkF m 368 #[.val (.int p1), .val (.int p2), .val (.int p3), .val (.int p4), .val (.int p5), .val (.int x5_8), .val (.int x6_16), .val (.int v28s0), .val (.int x8_38), .val (.int v51s0), .val (.int v74s0), .val (.int v98s0), .val (.ref b5), .val (.ref b8), .val (.ref b10), .val (.long x15_184), .second, .val (.int v201s0), .val (.int rd), .val (.int v229s0), .val (.int (-2 : Int32)), .val (.int (0 : Int32))] [(.int (1 : Int32))]))
              refine A (XS.goto X54.here hx rfl (pc0 := 368) (pc' := 372) rfl (hb hby at_368) (by decide) (by decide)) ?_
              show D (T54.setTop (mkF m 372 #[.val (.int p1), .val (.int p2), .val (.int p3), .val (.int p4), .val (.int p5), .val (.int x5_8), .val (.int x6_16), .val (.int v28s0), .val (.int x8_38), .val (.int v51s0), .val (.int v74s0), .val (.int v98s0), .val (.ref b5), .val (.ref b8), .val (.ref b10), .val (.long x15_184), .second, .val (.int v201s0), .val (.int rd), .val (.int v229s0), .val (.int (-2 : Int32)), .val (.int (0 : Int32))] [(.int (1 : Int32))]))
              exact Km372_55 _ ((if_pos c364_4)).symm
            · refine A (XS.icmpYes X54.here hx rfl (pc0 := 364) (pc' := 371) rfl (hb hby at_364) rfl (feq c364_4).2 (by decide) (by decide)) ?_
              show D (T54.setTop (mkF m 371 #[.val (.int p1), .val (.int p2), .val (.int p3), .val (.int p4), .val (.int p5), .val (.int x5_8), .val (.int x6_16), .val (.int v28s0), .val (.int x8_38), .val (.int v51s0), .val (.int v74s0), .val (.int v98s0), .val (.ref b5), .val (.ref b8), .val (.ref b10), .val (.long x15_184), .second, .val (.int v201s0), .val (.int rd), .val (.int v229s0), .val (.int (-2 : Int32)), .val (.int (0 : Int32))] []))
              refine A (XS.iconst X54.here hx rfl (hb hby at_371)) ?_
              show D (T54.setTop (mkF m 372 #[.val (.int p1), .val (.int p2), .val (.int p3), .val (.int p4), .val (.int p5), .val (.int x5_8), .val (.int x6_16), .val (.int v28s0), .val (.int x8_38), .val (.int v51s0), .val (.int v74s0), .val (.int v98s0), .val (.ref b5), .val (.ref b8), .val (.ref b10), .val (.long x15_184), .second, .val (.int v201s0), .val (.int rd), .val (.int v229s0), .val (.int (-2 : Int32)), .val (.int (0 : Int32))] [(.int (0 : Int32))]))
              exact Km372_55 _ ((if_neg c364_4)).symm
          intro v372s0aaaa hv372s0aaaa
          show D (T54.setTop (mkF m 372 #[.val (.int p1), .val (.int p2), .val (.int p3), .val (.int p4), .val (.int p5), .val (.int x5_8), .val (.int x6_16), .val (.int v28s0), .val (.int x8_38), .val (.int v51s0), .val (.int v74s0), .val (.int v98s0), .val (.ref b5), .val (.ref b8), .val (.ref b10), .val (.long x15_184), .second, .val (.int v201s0), .val (.int rd), .val (.int v229s0), .val (.int (-2 : Int32)), .val (.int (0 : Int32))] [(.int v372s0aaaa)]))
          obtain rfl : v372s0aaaa = (1 : Int32) := by
            have hof : v201s0 = 1 := by rw [hv201s0, if_pos ((lw_eq _ _).mpr (by rw [hx15_184]; exact own_off r5 r6))]
            have hf := own_fin hk8 hk82 hv229s0 hD
            have hg := (hf.2.1 c262_39)
            have h20 : rd = (-2 : Int32) := hg.1
            rw [hv372s0aaaa, if_pos hg.2]
          show D (T54.setTop (mkF m 372 #[.val (.int p1), .val (.int p2), .val (.int p3), .val (.int p4), .val (.int p5), .val (.int x5_8), .val (.int x6_16), .val (.int v28s0), .val (.int x8_38), .val (.int v51s0), .val (.int v74s0), .val (.int v98s0), .val (.ref b5), .val (.ref b8), .val (.ref b10), .val (.long x15_184), .second, .val (.int v201s0), .val (.int rd), .val (.int v229s0), .val (.int (-2 : Int32)), .val (.int (0 : Int32))] [(.int (1 : Int32))]))
          exact F _ (Jvm.JW.retW X54 hS hlk (v := some (.int (1 : Int32))) (fun h => by rw [hrt] at h; cases h) (fun fs hr => retOut X54 hx hrt rfl (Or.inl ⟨rfl, Or.inr (Or.inl rfl), _, rfl⟩) (hb hby at_372) hr) e54 hk_23 ⟨rfl, N54⟩ (by decide) (by decide))
        · refine A (XS.icmpYes X38.here hx rfl (pc0 := 349) (pc' := 371) rfl (hb hby at_349) rfl (feq c349_53).2 (by decide) (by decide)) ?_
          show D (T38.setTop (mkF m 371 #[.val (.int p1), .val (.int p2), .val (.int p3), .val (.int p4), .val (.int p5), .val (.int x5_8), .val (.int x6_16), .val (.int v28s0), .val (.int x8_38), .val (.int v51s0), .val (.int v74s0), .val (.int v98s0), .val (.ref b5), .val (.ref b8), .val (.ref b10), .val (.long x15_184), .second, .val (.int v201s0), .val (.int rd), .val (.int v229s0), .val (.int (-2 : Int32)), .val (.int (0 : Int32))] []))
          refine A (XS.iconst X38.here hx rfl (hb hby at_371)) ?_
          show D (T38.setTop (mkF m 372 #[.val (.int p1), .val (.int p2), .val (.int p3), .val (.int p4), .val (.int p5), .val (.int x5_8), .val (.int x6_16), .val (.int v28s0), .val (.int x8_38), .val (.int v51s0), .val (.int v74s0), .val (.int v98s0), .val (.ref b5), .val (.ref b8), .val (.ref b10), .val (.long x15_184), .second, .val (.int v201s0), .val (.int rd), .val (.int v229s0), .val (.int (-2 : Int32)), .val (.int (0 : Int32))] [(.int (0 : Int32))]))
          exfalso
          have hof : v201s0 = 1 := by rw [hv201s0, if_pos ((lw_eq _ _).mpr (by rw [hx15_184]; exact own_off r5 r6))]
          have hf := own_fin hk8 hk82 hv229s0 hD
          have hg := (hf.2.1 c262_39)
          have h20 : rd = (-2 : Int32) := hg.1
          exact absurd h20 c349_53
theorem own_cs {args : Array Value} {s : State} {cs : Int32} {t : Term} (r2 : (Cond.not (Cond.eq t (Term.int (0 : Int32)))).value args s none s [] = some true) (ecs : t.eval args s none [] s = some (.int cs)) : ¬ cs = (0 : Int32) := by
  intro q
  subst q
  have e0 : (Term.int (0 : Int32)).eval args s none [] s = some (.int 0) := Term.int_eval 0
  simp [Cond.value, ecs, e0] at r2
theorem own_eqi {a b : Term} {args : Array Value} {first s : State} {oo : Option Outcome} {idx : List Nat} {x : Int32} (h : (Cond.eq a b).value args first oo s idx = some true) (hb : b.eval args first oo idx s = some (.int x)) : a.eval args first oo idx s = some (.int x) := by
  obtain ⟨u, w, e1, e2, k1, k2⟩ := cmp_v (Or.inl h)
  cases hb.symm.trans e2
  cases u <;> simp [Cond.value, e1, hb] at h
  rw [e1, h]
set_option maxRecDepth 65536 in
set_option maxHeartbeats 40000000 in
theorem comes_1 {Post : Tables → Env → Array Value → State → Outcome → State → Prop} (hpost : ∀ tb e args s v u, (limb_1_1.after args s (.returned v) u = true ∧ limb_1_2.after args s (.returned v) u = true ∧ True) → ReturnedEndW s (.returned v) u (Jvm.fieldLocs frame_1_writes args s ++ Jvm.arrayLocs frame_1_arrays args s ++ Jvm.staticLocs frame_1_statics s) 32 3200 → Post tb e args s (.returned v) u) :
    ArmFor flags0 classFile x code maxLocals ret World_1 tables_1 room_1 Calls_1 rest_1 Pre_1 Post := by
  intro l hfl _ _ p e ha hc hk s m args below hf hA hF happ hP
  obtain ⟨hcalls, hrest, hpre⟩ := hP
  obtain ⟨-, -, -, hnamed, -, -, -, hat⟩ := (Spec.applies_iff hf).mp happ
  obtain ⟨hg, hn⟩ := and_e (Cond.before_iff.mp (show (Jvm.Cond.and given_1 narrow_1).before args s = true from hpre))
  obtain ⟨g0, g1⟩ := and_e hg
  obtain ⟨t1, g2⟩ := and_e g1
  obtain ⟨t2, g3⟩ := and_e g2
  obtain ⟨t3, g4⟩ := and_e g3
  obtain ⟨t4, g5⟩ := and_e g4
  obtain ⟨w0, w1, w2, w3, w4, rfl⟩ : ∃ w0 w1 w2 w3 w4 : Value, args = #[w0, w1, w2, w3, w4] := by
    have hs : args.size = 5 := by simpa [Cond.value, given_1] using g0
    obtain ⟨L⟩ := args
    match L, hs with
    | [w0, w1, w2, w3, w4], _ => exact ⟨w0, w1, w2, w3, w4, rfl⟩
  have hw := fun d (hd : d ∈ tables_1) => atoms_spec (ws := Jvm.Cond.code x code maxLocals ret :: tables_1) hat d (List.mem_cons_of_mem _ hd)
  obtain ⟨z0, y1⟩ := and_e (Cond.before_iff.mp (show rest_1_c.before _ s = true from hrest))
  obtain ⟨z1, y2⟩ := and_e y1
  obtain ⟨z2, y3⟩ := and_e y2
  obtain ⟨z3, y4⟩ := and_e y3
  obtain ⟨z4, y5⟩ := and_e y4
  obtain ⟨z5, y6⟩ := and_e y5
  obtain ⟨z6, y7⟩ := and_e y6
  obtain ⟨z7, y8⟩ := and_e y7
  obtain ⟨z8, y9⟩ := and_e y8
  obtain ⟨z9, y10⟩ := and_e y9
  obtain ⟨z10, y11⟩ := and_e y10
  obtain ⟨z11, y12⟩ := and_e y11
  obtain ⟨z12, y13⟩ := and_e y12
  obtain ⟨z13, y14⟩ := and_e y13
  obtain ⟨z14, y15⟩ := and_e y14
  obtain ⟨z15, y16⟩ := and_e y15
  obtain ⟨z16, y17⟩ := and_e y16
  obtain ⟨z17, y18⟩ := and_e y17
  obtain ⟨z18, y19⟩ := and_e y18
  obtain ⟨cs, ecs⟩ := is_v z1
  obtain ⟨sf, esf, hsf⟩ := isR_v z8
  have hcs : ¬ cs = (0 : Int32) := own_cs z2 ecs
  obtain ⟨u1, m1⟩ := and_e hn
  obtain ⟨u2, m2⟩ := and_e m1
  obtain ⟨u3, u4⟩ := and_e m2
  obtain ⟨rfu, erf⟩ := exa_v u1
  obtain ⟨wf, ewf⟩ := exa_v u2
  obtain ⟨flo, efl⟩ := exa_v u3
  obtain ⟨fhi, efh⟩ := exa_v u4
  obtain ⟨i0, q0⟩ := is_v t1
  obtain rfl : w0 = (.int i0) := Option.some.inj q0
  obtain ⟨i1, q1⟩ := is_v t2
  obtain rfl : w1 = (.int i1) := Option.some.inj q1
  obtain ⟨i2, q2⟩ := is_v t3
  obtain rfl : w2 = (.int i2) := Option.some.inj q2
  obtain ⟨i3, q3⟩ := is_v t4
  obtain rfl : w3 = (.int i3) := Option.some.inj q3
  obtain ⟨i4, q4⟩ := is_v g5
  obtain rfl : w4 = (.int i4) := Option.some.inj q4
  obtain ⟨n, o, h1, h2, h3, _, L, rfl, ⟨rfl, N⟩, hq⟩ := rm0 l s _ hw tables_1 i0 i1 i2 i3 i4 s.heap s.heap.size (Nat.le_refl _) cs hcs sf hsf rfu wf flo fhi (Sta.start ecs (Or.inl (Cond.before_iff.mpr z0))) (Sta.start esf (Or.inl (Cond.before_iff.mpr z7))) (Sta.start (own_eqi z12 rfl) (Or.inl (Cond.before_iff.mpr z11))) (Sta.start (own_eqi z15 rfl) (Or.inl (Cond.before_iff.mpr z14))) (Sta.start (own_eqi z18 rfl) (Or.inl (Cond.before_iff.mpr z17))) (Sta.start erf (Or.inr ⟨(hw _ (List.mem_of_getElem? (i := 47) rfl)), (hw _ (List.mem_of_getElem? (i := 48) rfl))⟩)) (Sta.start ewf (Or.inr ⟨(hw _ (List.mem_of_getElem? (i := 53) rfl)), (hw _ (List.mem_of_getElem? (i := 56) rfl))⟩)) (Sta.start efl (Or.inr ⟨(hw _ (List.mem_of_getElem? (i := 79) rfl)), (hw _ (List.mem_of_getElem? (i := 80) rfl))⟩)) (Sta.start efh (Or.inr ⟨(hw _ (List.mem_of_getElem? (i := 79) rfl)), (hw _ (List.mem_of_getElem? (i := 228) rfl))⟩)) p e ha hc hk s m _ below hf ((Spec.applies_iff_loose hf).mp happ).1 ⟨rfl, State.Warmed39.refl s, rfl⟩ trivial
  refine ⟨n, _, h1, h2, h3, hpost _ _ _ _ _ _ ⟨Cond.after_iff.mpr rfl, Cond.after_iff.mpr (eq_i res_at (Term.int_eval (1)) rfl), trivial⟩ ⟨hq.1, hq.2.1, hq.2.2.1, (hq.2.2.2.sift fun y hy => Or.inr (N y hy)).mono (by decide) (by decide)⟩⟩
theorem main_1_1 : Claimed_1_1 := comes_1 fun _ _ _ _ _ _ h hF => ⟨h.1, hF⟩
theorem main_1_2 : Claimed_1_2 := comes_1 fun _ _ _ _ _ _ h hF => ⟨h.2.1, hF⟩
end Jvm.Pilot.@@N@@
namespace Jvm.Pilot.@@N@@
open Jvm Jvm.ClassFile Sem Op Lib Jvm.Free Jvm.Stand Jvm.Pilot.@@N@@.Jvm.D
/-! MADE BY PROGRAM (witnessworld.py) out of the Statement's table words and the real class files: 26 classes; the members and pool entries that the words name. The judged class is class 1, her method 3. -/
namespace start1
open Jvm.ClassFile
def u (s : String) : CpInfo := .utf8 (stringToUtf16 s)
/-- a pool by its gaps: so many unusable entries, then the entry; so many at the end -/
def gap : Nat → List CpInfo → List CpInfo
  | 0, r => r
  | n + 1, r => .unusable :: gap n r
def poolList (es : List (Nat × CpInfo)) (last : Nat) : List CpInfo := es.foldr (fun e r => gap e.1 (e.2 :: r)) (gap last [])
def pool (es : List (Nat × CpInfo)) (last : Nat) : Array CpInfo := ⟨poolList es last⟩
def fileOf (pool : Array CpInfo) (this : Nat) (attrs : Array Attribute := #[]) (ms : Array MethodInfo := #[]) (fl : Nat := 33) (sup : Nat := 0) (ifs : Array Nat := #[]) (fds : Array FieldInfo := #[]) : ClassFile where
  minorVersion := 0
  majorVersion := 65
  constantPool := pool
  accessFlags := fl
  thisClass := this
  superClass := sup
  interfaces := ifs
  fields := fds
  methods := ms
  attributes := attrs
def plain (name : String) (sup : Option ClassId) : Class where
  name := name
  kind := .ordinary
  loader := none
  accessFlags := 33
  super := sup
  interfaces := #[]
  cf := none
  fields := #[]
  methods := #[]
  instanceTypes := #[]
  staticTypes := #[]
  resolved := #[]
  callSites := []
  init := .initialized
  statics := none
  mirror := none

def pool0 : Array CpInfo := pool [(5, u "<init>"), (0, u "()V"), (1, .class_ 10), (1, u "java/lang/Object")] 113

def k0c0 : Code := { maxStack := 0, maxLocals := 1, code := object_method_1_code, exceptionTable := #[], attributes := #[] }
def k0m0 : Method := { name := "<init>", desc := "()V", sig := { parameters := [], returnType := none }, accessFlags := 1, code := some k0c0 }
/-- java/lang/Object -/
def k0 : Class := { plain "java/lang/Object" none with
  accessFlags := 33
  interfaces := #[]
  cf := some (fileOf pool0 8 #[] #[{ accessFlags := 1, nameIndex := 5, descriptorIndex := 6, attributes := #[] }] 33 0 #[] #[])
  fields := #[]
  methods := #[k0m0]
  instanceTypes := #[]
  staticTypes := #[]
  resolved := Array.replicate 124 none
  statics := none }

def pool1 : Array CpInfo := pool [(2, .class_ 4), (1, u "java/lang/Object"), (0, u "<init>"), (0, u "()V"), (0, .integer 55296), (0, .integer 56319), (0, .integer 56320), (0, .integer 57343), (0, .integer 2147483647), (0, .class_ 13), (0, u "java/lang/String"), (0, .methodref 12 15), (0, .nameAndType 5 16), (0, u "([C)V"), (0, .class_ 18), (0, u "com/example/carmenta/carmenta/CharReader"), (0, .string 20), (0, u "abc"), (0, .methodref 17 22), (0, .nameAndType 5 23), (0, u "(Ljava/lang/CharSequence;)V"), (0, .methodref 17 25), (0, .nameAndType 26 27), (0, u "advance"), (0, u "(I)V"), (0, .string 29), (0, u "xy"), (0, .methodref 17 31), (0, .nameAndType 32 33), (0, u "readOn"), (0, u "(Ljava/lang/CharSequence;Z)V"), (0, .fieldref 35 36), (0, .class_ 37), (0, .nameAndType 38 39), (0, u "com/example/carmenta/carmenta/Fault"), (0, u "UNPAIRED_LOW_SURROGATE"), (0, u "Lcom/example/carmenta/carmenta/Fault;"), (0, .methodref 17 41), (0, .nameAndType 42 43), (0, u "failure"), (0, u "(Lcom/example/carmenta/carmenta/Fault;)Lcom/example/carmenta/carmenta/Validation;"), (0, .methodref 45 46), (0, .class_ 47), (0, .nameAndType 48 49), (0, u "com/example/carmenta/carmenta/Validation"), (0, u "offset"), (0, u "()J"), (0, .methodref 17 51), (0, .nameAndType 52 53), (0, u "decode"), (0, u "()I"), (0, .methodref 55 56), (0, .class_ 57), (0, .nameAndType 58 59), (0, u "com/example/carmenta/carmenta/CharReaderReadOnPinLaw"), (0, u "isHigh"), (0, u "(I)Z"), (0, .methodref 55 61), (0, .nameAndType 62 59), (0, u "isLow"), (0, .integer 65536), (0, .methodref 17 65), (0, .nameAndType 66 53), (0, u "unread"), (3, u "law"), (0, u "(IIIII)Z")] 4

def k1m0 : Method := { name := "<init>", desc := "()V", sig := { parameters := [], returnType := none }, accessFlags := 2, code := none }
def k1c1 : Code := { maxStack := 2, maxLocals := 1, code := method_2_code, exceptionTable := #[], attributes := #[] }
def k1m1 : Method := { name := "isHigh", desc := "(I)Z", sig := { parameters := [.int], returnType := some .boolean }, accessFlags := 10, code := some k1c1 }
def k1c2 : Code := { maxStack := 2, maxLocals := 1, code := method_3_code, exceptionTable := #[], attributes := #[] }
def k1m2 : Method := { name := "isLow", desc := "(I)Z", sig := { parameters := [.int], returnType := some .boolean }, accessFlags := 10, code := some k1c2 }
def k1c3 : Code := { maxStack := 4, maxLocals := 22, code := code, exceptionTable := #[], attributes := #[] }
def k1m3 : Method := { name := "law", desc := "(IIIII)Z", sig := { parameters := [.int, .int, .int, .int, .int], returnType := some .boolean }, accessFlags := 9, code := some k1c3 }
/-- com/example/carmenta/carmenta/CharReaderReadOnPinLaw -/
def k1 : Class := { plain "com/example/carmenta/carmenta/CharReaderReadOnPinLaw" (some 0) with
  accessFlags := 49
  interfaces := #[]
  cf := some (fileOf pool1 55 #[] #[{ accessFlags := 2, nameIndex := 5, descriptorIndex := 6, attributes := #[] }, { accessFlags := 10, nameIndex := 58, descriptorIndex := 59, attributes := #[] }, { accessFlags := 10, nameIndex := 62, descriptorIndex := 59, attributes := #[] }, { accessFlags := 9, nameIndex := 70, descriptorIndex := 71, attributes := #[] }] 49 2 #[] #[])
  fields := #[]
  methods := #[k1m0, k1m1, k1m2, k1m3]
  instanceTypes := #[]
  staticTypes := #[]
  resolved := Array.replicate 76 none
  statics := none }

def pool2 : Array CpInfo := pool [(1, .class_ 2), (0, u "java/io/Serializable"), (0, .class_ 4), (0, u "java/lang/Object")] 2

/-- java/io/Serializable -/
def k2 : Class := { plain "java/io/Serializable" (some 0) with
  accessFlags := 1537
  interfaces := #[]
  cf := some (fileOf pool2 1 #[] #[] 1537 3 #[] #[])
  fields := #[]
  methods := #[]
  instanceTypes := #[]
  staticTypes := #[]
  resolved := Array.replicate 7 none
  statics := none }

def pool3 : Array CpInfo := pool [(1, .class_ 2), (0, u "java/lang/Comparable"), (0, .class_ 4), (0, u "java/lang/Object")] 7

/-- java/lang/Comparable -/
def k3 : Class := { plain "java/lang/Comparable" (some 0) with
  accessFlags := 1537
  interfaces := #[]
  cf := some (fileOf pool3 1 #[] #[] 1537 3 #[] #[])
  fields := #[]
  methods := #[]
  instanceTypes := #[]
  staticTypes := #[]
  resolved := Array.replicate 12 none
  statics := none }

def pool4 : Array CpInfo := pool [(2, .class_ 4), (1, u "java/lang/CharSequence"), (0, u "length"), (0, u "()I"), (38, u "charAt"), (0, u "(I)C"), (0, .class_ 48), (0, u "java/lang/CharSequence$1CodePointIterator"), (10, .class_ 60), (0, u "java/lang/CharSequence$1CharIterator"), (5, .class_ 67), (0, u "java/lang/Object")] 63

def k4m0 : Method := { name := "length", desc := "()I", sig := { parameters := [], returnType := some .int }, accessFlags := 1025, code := none }
def k4m1 : Method := { name := "charAt", desc := "(I)C", sig := { parameters := [.int], returnType := some .char }, accessFlags := 1025, code := none }
/-- java/lang/CharSequence -/
def k4 : Class := { plain "java/lang/CharSequence" (some 0) with
  accessFlags := 1537
  interfaces := #[]
  cf := some (fileOf pool4 2 #[.nestMembers #[47, 59]] #[{ accessFlags := 1025, nameIndex := 5, descriptorIndex := 6, attributes := #[] }, { accessFlags := 1025, nameIndex := 45, descriptorIndex := 46, attributes := #[] }] 1537 66 #[] #[])
  fields := #[]
  methods := #[k4m0, k4m1]
  instanceTypes := #[]
  staticTypes := #[]
  resolved := Array.replicate 131 none
  statics := none }

def pool5 : Array CpInfo := pool [(1, .class_ 2), (0, u "java/lang/constant/Constable"), (0, .class_ 4), (0, u "java/lang/Object")] 6

/-- java/lang/constant/Constable -/
def k5 : Class := { plain "java/lang/constant/Constable" (some 0) with
  accessFlags := 1537
  interfaces := #[]
  cf := some (fileOf pool5 1 #[] #[] 1537 3 #[] #[])
  fields := #[]
  methods := #[]
  instanceTypes := #[]
  staticTypes := #[]
  resolved := Array.replicate 11 none
  statics := none }

def pool6 : Array CpInfo := pool [(1, .class_ 2), (0, u "java/lang/constant/ConstantDesc"), (0, .class_ 4), (0, u "java/lang/Object")] 32

/-- java/lang/constant/ConstantDesc -/
def k6 : Class := { plain "java/lang/constant/ConstantDesc" (some 0) with
  accessFlags := 1537
  interfaces := #[]
  cf := some (fileOf pool6 1 #[] #[] 1537 3 #[] #[])
  fields := #[]
  methods := #[]
  instanceTypes := #[]
  staticTypes := #[]
  resolved := Array.replicate 37 none
  statics := none }

def pool7 : Array CpInfo := pool [(1, .methodref 2 3), (0, .class_ 4), (0, .nameAndType 5 6), (0, u "java/lang/Object"), (0, u "<init>"), (0, u "()V"), (2, .fieldref 10 11), (0, .class_ 12), (0, .nameAndType 13 14), (0, u "java/lang/String"), (0, u "value"), (0, u "[B"), (0, .fieldref 10 16), (0, .nameAndType 17 18), (0, u "coder"), (0, u "B"), (2, u "hash"), (0, u "I"), (2, u "hashIsZero"), (0, u "Z"), (0, .methodref 10 28), (0, .nameAndType 5 29), (0, u "([CIILjava/lang/Void;)V"), (8, .fieldref 10 39), (0, .nameAndType 40 26), (0, u "COMPACT_STRINGS"), (1, .class_ 44), (1, u "java/lang/StringUTF16"), (0, u "compress"), (1, .methodref 42 48), (0, .nameAndType 49 50), (0, u "coderFromArrayLen"), (0, u "([BI)B"), (56, .class_ 109), (1, u "java/lang/StringLatin1"), (32, u "()Z"), (34, .methodref 42 178), (0, .nameAndType 45 179), (0, u "([CII)[B"), (154, u "()I"), (0, .methodref 10 336), (0, .nameAndType 17 337), (0, u "()B"), (25, u "([BI)C"), (27, u "(II)V"), (35, u "(I)C"), (64, .methodref 10 493), (0, .nameAndType 494 142), (0, u "isLatin1"), (0, .methodref 107 496), (0, .nameAndType 497 363), (0, u "charAt"), (0, .methodref 42 496), (2, u "checkIndex"), (5, u "length"), (67, .class_ 576), (0, u "java/lang/CharSequence"), (22, u "CASE_INSENSITIVE_ORDER"), (0, u "Ljava/util/Comparator;"), (409, u "([C)V"), (42, .fieldref 1054 1055), (0, .class_ 1056), (0, .nameAndType 1057 1058), (0, u "jdk/internal/util/Preconditions"), (0, u "SIOOBE_FORMATTER"), (0, u "Ljava/util/function/BiFunction;"), (0, .methodref 1054 1060), (0, .nameAndType 501 1061), (0, u "(IILjava/util/function/BiFunction;)I"), (39, u "serialPersistentFields"), (0, u "[Ljava/io/ObjectStreamField;"), (0, .class_ 1104), (0, u "java/lang/String$CaseInsensitiveComparator"), (1, .class_ 1107), (0, u "java/io/Serializable"), (0, .class_ 1109), (0, u "java/lang/Comparable"), (0, .class_ 1111), (0, u "java/lang/constant/Constable"), (0, .class_ 1113), (0, u "java/lang/constant/ConstantDesc"), (2, u "serialVersionUID"), (0, u "J"), (3, u "REPL"), (0, u "C"), (2, u "LATIN1"), (1, u "UTF16")] 323

def k7m0 : Method := { name := "<init>", desc := "()V", sig := { parameters := [], returnType := none }, accessFlags := 1, code := none }
def k7c1 : Code := { maxStack := 5, maxLocals := 2, code := jdk_42_method_3_code, exceptionTable := #[], attributes := #[] }
def k7m1 : Method := { name := "<init>", desc := "([C)V", sig := { parameters := [(.array .char)], returnType := none }, accessFlags := 1, code := some k7c1 }
def k7c2 : Code := { maxStack := 2, maxLocals := 1, code := jdk_42_method_54_code, exceptionTable := #[], attributes := #[] }
def k7m2 : Method := { name := "length", desc := "()I", sig := { parameters := [], returnType := some .int }, accessFlags := 1, code := some k7c2 }
def k7c3 : Code := { maxStack := 2, maxLocals := 2, code := jdk_42_method_56_code, exceptionTable := #[], attributes := #[] }
def k7m3 : Method := { name := "charAt", desc := "(I)C", sig := { parameters := [.int], returnType := some .char }, accessFlags := 1, code := some k7c3 }
def k7c4 : Code := { maxStack := 4, maxLocals := 6, code := jdk_42_method_149_code, exceptionTable := #[], attributes := #[] }
def k7m4 : Method := { name := "<init>", desc := "([CIILjava/lang/Void;)V", sig := { parameters := [(.array .char), .int, .int, (.object "java/lang/Void")], returnType := none }, accessFlags := 2, code := some k7c4 }
def k7c5 : Code := { maxStack := 1, maxLocals := 1, code := jdk_42_method_152_code, exceptionTable := #[], attributes := #[] }
def k7m5 : Method := { name := "coder", desc := "()B", sig := { parameters := [], returnType := some .byte }, accessFlags := 0, code := some k7c5 }
def k7c6 : Code := { maxStack := 1, maxLocals := 1, code := jdk_42_method_154_code, exceptionTable := #[], attributes := #[] }
def k7m6 : Method := { name := "isLatin1", desc := "()Z", sig := { parameters := [], returnType := some .boolean }, accessFlags := 0, code := some k7c6 }
def k7c7 : Code := { maxStack := 3, maxLocals := 2, code := jdk_42_method_155_code, exceptionTable := #[], attributes := #[] }
def k7m7 : Method := { name := "checkIndex", desc := "(II)V", sig := { parameters := [.int, .int], returnType := none }, accessFlags := 8, code := some k7c7 }
/-- java/lang/String -/
def k7 : Class := { plain "java/lang/String" (some 0) with
  accessFlags := 49
  interfaces := #[2, 3, 4, 5, 6]
  cf := some (fileOf pool7 10 #[.nestMembers #[1103]] #[{ accessFlags := 1, nameIndex := 5, descriptorIndex := 6, attributes := #[] }, { accessFlags := 1, nameIndex := 5, descriptorIndex := 1010, attributes := #[] }, { accessFlags := 1, nameIndex := 507, descriptorIndex := 334, attributes := #[] }, { accessFlags := 1, nameIndex := 497, descriptorIndex := 427, attributes := #[] }, { accessFlags := 2, nameIndex := 5, descriptorIndex := 29, attributes := #[] }, { accessFlags := 0, nameIndex := 17, descriptorIndex := 337, attributes := #[] }, { accessFlags := 0, nameIndex := 494, descriptorIndex := 142, attributes := #[] }, { accessFlags := 8, nameIndex := 501, descriptorIndex := 391, attributes := #[] }] 49 2 #[1106, 1108, 575, 1110, 1112] #[{ accessFlags := 18, nameIndex := 13, descriptorIndex := 14, attributes := #[] }, { accessFlags := 18, nameIndex := 17, descriptorIndex := 18, attributes := #[] }, { accessFlags := 2, nameIndex := 21, descriptorIndex := 22, attributes := #[] }, { accessFlags := 2, nameIndex := 25, descriptorIndex := 26, attributes := #[] }, { accessFlags := 26, nameIndex := 1116, descriptorIndex := 1117, attributes := #[] }, { accessFlags := 24, nameIndex := 40, descriptorIndex := 26, attributes := #[] }, { accessFlags := 26, nameIndex := 1101, descriptorIndex := 1102, attributes := #[] }, { accessFlags := 26, nameIndex := 1121, descriptorIndex := 1122, attributes := #[] }, { accessFlags := 25, nameIndex := 599, descriptorIndex := 600, attributes := #[] }, { accessFlags := 24, nameIndex := 1125, descriptorIndex := 18, attributes := #[] }, { accessFlags := 24, nameIndex := 1127, descriptorIndex := 18, attributes := #[] }])
  fields := #[{ name := "value", type := (.array .byte), accessFlags := 18, slot := 0, constantValue := 0 }, { name := "coder", type := .byte, accessFlags := 18, slot := 1, constantValue := 0 }, { name := "hash", type := .int, accessFlags := 2, slot := 2, constantValue := 0 }, { name := "hashIsZero", type := .boolean, accessFlags := 2, slot := 3, constantValue := 0 }, { name := "serialVersionUID", type := .long, accessFlags := 26, slot := 0, constantValue := 0 }, { name := "COMPACT_STRINGS", type := .boolean, accessFlags := 24, slot := 1, constantValue := 0 }, { name := "serialPersistentFields", type := (.array (.object "java/io/ObjectStreamField")), accessFlags := 26, slot := 2, constantValue := 0 }, { name := "REPL", type := .char, accessFlags := 26, slot := 3, constantValue := 0 }, { name := "CASE_INSENSITIVE_ORDER", type := (.object "java/util/Comparator"), accessFlags := 25, slot := 4, constantValue := 0 }, { name := "LATIN1", type := .byte, accessFlags := 24, slot := 5, constantValue := 0 }, { name := "UTF16", type := .byte, accessFlags := 24, slot := 6, constantValue := 0 }]
  methods := #[k7m0, k7m1, k7m2, k7m3, k7m4, k7m5, k7m6, k7m7]
  instanceTypes := #[(.array .byte), .byte, .int, .boolean]
  staticTypes := #[.long, .boolean, (.array (.object "java/io/ObjectStreamField")), .char, (.object "java/util/Comparator"), .byte, .byte]
  resolved := Array.replicate 1451 none
  statics := some 0 }

def pool8 : Array CpInfo := pool [(3, .class_ 4), (0, u "java/lang/String"), (1, .class_ 8), (1, u "java/lang/Object"), (0, u "<init>"), (0, u "()V"), (0, .methodref 12 13), (0, .class_ 14), (0, .nameAndType 15 16), (0, u "java/lang/StringUTF16"), (0, u "newBytesLength"), (0, u "(I)I"), (3, .integer 1073741823), (23, .fieldref 12 45), (0, .nameAndType 46 47), (0, u "$assertionsDisabled"), (0, u "Z"), (0, .methodref 12 49), (0, .nameAndType 50 51), (0, u "length"), (0, u "([B)I"), (7, .fieldref 12 60), (0, .nameAndType 61 62), (0, u "HI_BYTE_SHIFT"), (0, u "I"), (0, .fieldref 12 64), (0, .nameAndType 65 62), (0, u "LO_BYTE_SHIFT"), (1, .methodref 12 68), (0, .nameAndType 69 70), (0, u "checkIndex"), (0, u "(I[B)V"), (0, .methodref 12 72), (0, .nameAndType 73 74), (0, u "getChar"), (0, u "([BI)C"), (32, .methodref 12 108), (0, .nameAndType 109 110), (0, u "newBytesFor"), (0, u "(I)[B"), (0, .methodref 12 112), (0, .nameAndType 113 114), (0, u "putChar"), (0, u "([BII)V"), (0, .methodref 12 116), (0, .nameAndType 117 118), (0, u "compress"), (0, u "([CI[BII)I"), (0, .methodref 12 120), (0, .nameAndType 121 122), (0, u "toBytes"), (0, u "([CII)[B"), (138, u "coderFromArrayLen"), (0, u "([BI)B"), (106, .class_ 371), (1, u "java/lang/StringUTF16$LinesSpliterator"), (20, u "charAt"), (21, .methodref 3 415), (0, .nameAndType 69 416), (0, u "(II)V"), (13, u "MAX_LENGTH"), (196, .class_ 628), (0, u "java/lang/StringUTF16$CodePointsSpliterator"), (0, .class_ 630), (0, u "java/lang/StringUTF16$CharsSpliterator")] 4

def k8m0 : Method := { name := "<init>", desc := "()V", sig := { parameters := [], returnType := none }, accessFlags := 0, code := none }
def k8c1 : Code := { maxStack := 1, maxLocals := 1, code := jdk_52_method_2_code, exceptionTable := #[], attributes := #[] }
def k8m1 : Method := { name := "newBytesFor", desc := "(I)[B", sig := { parameters := [.int], returnType := some (.array .byte) }, accessFlags := 9, code := some k8c1 }
def k8c2 : Code := { maxStack := 4, maxLocals := 1, code := jdk_52_method_3_code, exceptionTable := #[], attributes := #[] }
def k8m2 : Method := { name := "newBytesLength", desc := "(I)I", sig := { parameters := [.int], returnType := some .int }, accessFlags := 9, code := some k8c2 }
def k8c3 : Code := { maxStack := 4, maxLocals := 3, code := jdk_52_method_4_code, exceptionTable := #[], attributes := #[] }
def k8m3 : Method := { name := "putChar", desc := "([BII)V", sig := { parameters := [(.array .byte), .int, .int], returnType := none }, accessFlags := 8, code := some k8c3 }
def k8c4 : Code := { maxStack := 3, maxLocals := 2, code := jdk_52_method_5_code, exceptionTable := #[], attributes := #[] }
def k8m4 : Method := { name := "getChar", desc := "([BI)C", sig := { parameters := [(.array .byte), .int], returnType := some .char }, accessFlags := 8, code := some k8c4 }
def k8c5 : Code := { maxStack := 2, maxLocals := 1, code := jdk_52_method_6_code, exceptionTable := #[], attributes := #[] }
def k8m5 : Method := { name := "length", desc := "([B)I", sig := { parameters := [(.array .byte)], returnType := some .int }, accessFlags := 9, code := some k8c5 }
def k8c6 : Code := { maxStack := 4, maxLocals := 5, code := jdk_52_method_14_code, exceptionTable := #[], attributes := #[] }
def k8m6 : Method := { name := "toBytes", desc := "([CII)[B", sig := { parameters := [(.array .char), .int, .int], returnType := some (.array .byte) }, accessFlags := 9, code := some k8c6 }
def k8c7 : Code := { maxStack := 2, maxLocals := 2, code := jdk_52_method_15_code, exceptionTable := #[], attributes := #[] }
def k8m7 : Method := { name := "coderFromArrayLen", desc := "([BI)B", sig := { parameters := [(.array .byte), .int], returnType := some .byte }, accessFlags := 8, code := some k8c7 }
def k8c8 : Code := { maxStack := 5, maxLocals := 6, code := jdk_52_method_16_code, exceptionTable := #[], attributes := #[] }
def k8m8 : Method := { name := "compress", desc := "([CII)[B", sig := { parameters := [(.array .char), .int, .int], returnType := some (.array .byte) }, accessFlags := 9, code := some k8c8 }
def k8c9 : Code := { maxStack := 3, maxLocals := 7, code := jdk_52_method_21_code, exceptionTable := #[], attributes := #[] }
def k8m9 : Method := { name := "compress", desc := "([CI[BII)I", sig := { parameters := [(.array .char), .int, (.array .byte), .int, .int], returnType := some .int }, accessFlags := 9, code := some k8c9 }
def k8c10 : Code := { maxStack := 2, maxLocals := 2, code := jdk_52_method_83_code, exceptionTable := #[], attributes := #[] }
def k8m10 : Method := { name := "charAt", desc := "([BI)C", sig := { parameters := [(.array .byte), .int], returnType := some .char }, accessFlags := 9, code := some k8c10 }
def k8c11 : Code := { maxStack := 2, maxLocals := 2, code := jdk_52_method_91_code, exceptionTable := #[], attributes := #[] }
def k8m11 : Method := { name := "checkIndex", desc := "(I[B)V", sig := { parameters := [.int, (.array .byte)], returnType := none }, accessFlags := 9, code := some k8c11 }
/-- java/lang/StringUTF16 -/
def k8 : Class := { plain "java/lang/StringUTF16" (some 0) with
  accessFlags := 48
  interfaces := #[]
  cf := some (fileOf pool8 12 #[.nestMembers #[627, 629, 369]] #[{ accessFlags := 0, nameIndex := 9, descriptorIndex := 10, attributes := #[] }, { accessFlags := 9, nameIndex := 109, descriptorIndex := 110, attributes := #[] }, { accessFlags := 9, nameIndex := 15, descriptorIndex := 16, attributes := #[] }, { accessFlags := 8, nameIndex := 113, descriptorIndex := 114, attributes := #[] }, { accessFlags := 8, nameIndex := 73, descriptorIndex := 74, attributes := #[] }, { accessFlags := 9, nameIndex := 50, descriptorIndex := 51, attributes := #[] }, { accessFlags := 9, nameIndex := 121, descriptorIndex := 122, attributes := #[] }, { accessFlags := 8, nameIndex := 261, descriptorIndex := 262, attributes := #[] }, { accessFlags := 9, nameIndex := 117, descriptorIndex := 122, attributes := #[] }, { accessFlags := 9, nameIndex := 117, descriptorIndex := 118, attributes := #[] }, { accessFlags := 9, nameIndex := 392, descriptorIndex := 74, attributes := #[] }, { accessFlags := 9, nameIndex := 69, descriptorIndex := 70, attributes := #[] }] 48 6 #[] #[{ accessFlags := 26, nameIndex := 61, descriptorIndex := 62, attributes := #[] }, { accessFlags := 26, nameIndex := 65, descriptorIndex := 62, attributes := #[] }, { accessFlags := 24, nameIndex := 430, descriptorIndex := 62, attributes := #[] }, { accessFlags := 4120, nameIndex := 46, descriptorIndex := 47, attributes := #[] }])
  fields := #[{ name := "HI_BYTE_SHIFT", type := .int, accessFlags := 26, slot := 0, constantValue := 0 }, { name := "LO_BYTE_SHIFT", type := .int, accessFlags := 26, slot := 1, constantValue := 0 }, { name := "MAX_LENGTH", type := .int, accessFlags := 24, slot := 2, constantValue := 0 }, { name := "$assertionsDisabled", type := .boolean, accessFlags := 4120, slot := 3, constantValue := 0 }]
  methods := #[k8m0, k8m1, k8m2, k8m3, k8m4, k8m5, k8m6, k8m7, k8m8, k8m9, k8m10, k8m11]
  instanceTypes := #[]
  staticTypes := #[.int, .int, .int, .boolean]
  resolved := Array.replicate 635 none
  statics := some 1 }

def pool9 : Array CpInfo := pool [(1, .methodref 2 3), (0, .class_ 4), (0, .nameAndType 5 6), (0, u "java/lang/Object"), (0, u "<init>"), (0, u "()V"), (0, .fieldref 8 9), (0, .class_ 10), (0, .nameAndType 11 12), (0, u "com/example/carmenta/carmenta/OnIllFormed"), (0, u "REFUSE"), (0, u "Lcom/example/carmenta/carmenta/OnIllFormed;"), (0, .fieldref 14 15), (0, .class_ 16), (0, .nameAndType 17 12), (0, u "com/example/carmenta/carmenta/ScalarReader"), (0, u "policy"), (0, .methodref 19 20), (0, .class_ 21), (0, .nameAndType 22 23), (0, u "com/example/carmenta/carmenta/Validation"), (0, u "wellFormed"), (0, u "()Lcom/example/carmenta/carmenta/Validation;"), (0, .fieldref 14 25), (0, .nameAndType 26 27), (0, u "firstReplaced"), (0, u "Lcom/example/carmenta/carmenta/Validation;"), (9, u "replacements"), (0, u "J"), (3, .fieldref 14 43), (0, .nameAndType 44 45), (0, u "fault"), (0, u "Lcom/example/carmenta/carmenta/Fault;"), (49, .class_ 97), (1, u "com/example/carmenta/carmenta/ScalarReader$Weight"), (6, .fieldref 14 105), (0, .nameAndType 106 107), (0, u "subpart"), (0, u "I"), (10, u "END_OF_INPUT"), (2, u "ILL_FORMED"), (1, u "REPLACEMENT_CHARACTER"), (14, u "fail"), (0, u "(Lcom/example/carmenta/carmenta/Fault;I)I")] 5

def k9c0 : Code := { maxStack := 2, maxLocals := 1, code := prog_24_method_1_code, exceptionTable := #[], attributes := #[] }
def k9m0 : Method := { name := "<init>", desc := "()V", sig := { parameters := [], returnType := none }, accessFlags := 0, code := some k9c0 }
def k9c1 : Code := { maxStack := 2, maxLocals := 3, code := prog_24_method_19_code, exceptionTable := #[], attributes := #[] }
def k9m1 : Method := { name := "fail", desc := "(Lcom/example/carmenta/carmenta/Fault;I)I", sig := { parameters := [(.object "com/example/carmenta/carmenta/Fault"), .int], returnType := some .int }, accessFlags := 16, code := some k9c1 }
/-- com/example/carmenta/carmenta/ScalarReader -/
def k9 : Class := { plain "com/example/carmenta/carmenta/ScalarReader" (some 0) with
  accessFlags := 1056
  interfaces := #[]
  cf := some (fileOf pool9 14 #[.nestMembers #[95]] #[{ accessFlags := 0, nameIndex := 5, descriptorIndex := 6, attributes := #[] }, { accessFlags := 16, nameIndex := 138, descriptorIndex := 139, attributes := #[] }] 1056 2 #[] #[{ accessFlags := 24, nameIndex := 118, descriptorIndex := 107, attributes := #[] }, { accessFlags := 24, nameIndex := 121, descriptorIndex := 107, attributes := #[] }, { accessFlags := 24, nameIndex := 123, descriptorIndex := 107, attributes := #[] }, { accessFlags := 2, nameIndex := 17, descriptorIndex := 12, attributes := #[] }, { accessFlags := 2, nameIndex := 44, descriptorIndex := 45, attributes := #[] }, { accessFlags := 2, nameIndex := 106, descriptorIndex := 107, attributes := #[] }, { accessFlags := 2, nameIndex := 37, descriptorIndex := 38, attributes := #[] }, { accessFlags := 2, nameIndex := 26, descriptorIndex := 27, attributes := #[] }])
  fields := #[{ name := "END_OF_INPUT", type := .int, accessFlags := 24, slot := 0, constantValue := 0 }, { name := "ILL_FORMED", type := .int, accessFlags := 24, slot := 1, constantValue := 0 }, { name := "REPLACEMENT_CHARACTER", type := .int, accessFlags := 24, slot := 2, constantValue := 0 }, { name := "policy", type := (.object "com/example/carmenta/carmenta/OnIllFormed"), accessFlags := 2, slot := 0, constantValue := 0 }, { name := "fault", type := (.object "com/example/carmenta/carmenta/Fault"), accessFlags := 2, slot := 1, constantValue := 0 }, { name := "subpart", type := .int, accessFlags := 2, slot := 2, constantValue := 0 }, { name := "replacements", type := .long, accessFlags := 2, slot := 3, constantValue := 0 }, { name := "firstReplaced", type := (.object "com/example/carmenta/carmenta/Validation"), accessFlags := 2, slot := 4, constantValue := 0 }]
  methods := #[k9m0, k9m1]
  instanceTypes := #[(.object "com/example/carmenta/carmenta/OnIllFormed"), (.object "com/example/carmenta/carmenta/Fault"), .int, .long, (.object "com/example/carmenta/carmenta/Validation")]
  staticTypes := #[.int, .int, .int]
  resolved := Array.replicate 145 none
  statics := none }

def pool10 : Array CpInfo := pool [(1, .methodref 2 3), (0, .class_ 4), (0, .nameAndType 5 6), (0, u "com/example/carmenta/carmenta/ScalarReader"), (0, u "<init>"), (0, u "()V"), (0, .fieldref 8 9), (0, .class_ 10), (0, .nameAndType 11 12), (0, u "com/example/carmenta/carmenta/CharReader"), (0, u "last"), (0, u "Z"), (0, .fieldref 8 14), (0, .nameAndType 15 16), (0, u "chars"), (0, u "Ljava/lang/CharSequence;"), (0, .fieldref 8 18), (0, .nameAndType 19 20), (0, u "start"), (0, u "J"), (0, .fieldref 8 22), (0, .nameAndType 23 24), (0, u "index"), (0, u "I"), (0, .interfaceMethodref 26 27), (0, .class_ 28), (0, .nameAndType 29 30), (0, u "java/lang/CharSequence"), (0, u "length"), (0, u "()I"), (0, .interfaceMethodref 26 32), (0, .nameAndType 33 34), (0, u "charAt"), (0, u "(I)C"), (0, .methodref 36 37), (0, .class_ 38), (0, .nameAndType 39 40), (0, u "java/lang/Character"), (0, u "isSurrogate"), (0, u "(C)Z"), (0, .methodref 36 42), (0, .nameAndType 43 40), (0, u "isLowSurrogate"), (0, .fieldref 45 46), (0, .class_ 47), (0, .nameAndType 48 49), (0, u "com/example/carmenta/carmenta/Fault"), (0, u "UNPAIRED_LOW_SURROGATE"), (0, u "Lcom/example/carmenta/carmenta/Fault;"), (0, .methodref 8 51), (0, .nameAndType 52 53), (0, u "fail"), (0, u "(Lcom/example/carmenta/carmenta/Fault;I)I"), (0, .fieldref 45 55), (0, .nameAndType 56 49), (0, u "UNPAIRED_HIGH_SURROGATE"), (0, .methodref 36 58), (0, .nameAndType 59 60), (0, u "toCodePoint"), (0, u "(CC)I"), (0, .methodref 8 62), (0, .nameAndType 63 64), (0, u "advance"), (0, u "(I)V"), (0, .methodref 66 67), (0, .class_ 68), (0, .nameAndType 69 70), (0, u "com/example/carmenta/carmenta/Validation"), (0, u "illFormedAtChar"), (0, u "(JLcom/example/carmenta/carmenta/Fault;)Lcom/example/carmenta/carmenta/Validation;"), (5, u "units"), (0, u "Lcom/example/carmenta/carmenta/UnitBlock;"), (40, u "(Ljava/lang/CharSequence;)V"), (2, u "readOn"), (0, u "(Ljava/lang/CharSequence;Z)V"), (0, u "unread"), (0, u "decode"), (1, u "failure"), (0, u "(Lcom/example/carmenta/carmenta/Fault;)Lcom/example/carmenta/carmenta/Validation;")] 14

def k10c0 : Code := { maxStack := 2, maxLocals := 2, code := prog_6_method_1_code, exceptionTable := #[], attributes := #[] }
def k10m0 : Method := { name := "<init>", desc := "(Ljava/lang/CharSequence;)V", sig := { parameters := [(.object "java/lang/CharSequence")], returnType := none }, accessFlags := 0, code := some k10c0 }
def k10c1 : Code := { maxStack := 5, maxLocals := 3, code := prog_6_method_2_code, exceptionTable := #[], attributes := #[] }
def k10m1 : Method := { name := "readOn", desc := "(Ljava/lang/CharSequence;Z)V", sig := { parameters := [(.object "java/lang/CharSequence"), .boolean], returnType := none }, accessFlags := 0, code := some k10c1 }
def k10c2 : Code := { maxStack := 2, maxLocals := 1, code := prog_6_method_3_code, exceptionTable := #[], attributes := #[] }
def k10m2 : Method := { name := "unread", desc := "()I", sig := { parameters := [], returnType := some .int }, accessFlags := 0, code := some k10c2 }
def k10c3 : Code := { maxStack := 4, maxLocals := 4, code := prog_6_method_4_code, exceptionTable := #[], attributes := #[] }
def k10m3 : Method := { name := "decode", desc := "()I", sig := { parameters := [], returnType := some .int }, accessFlags := 0, code := some k10c3 }
def k10c4 : Code := { maxStack := 3, maxLocals := 2, code := prog_6_method_5_code, exceptionTable := #[], attributes := #[] }
def k10m4 : Method := { name := "advance", desc := "(I)V", sig := { parameters := [.int], returnType := none }, accessFlags := 0, code := some k10c4 }
def k10c5 : Code := { maxStack := 4, maxLocals := 2, code := prog_6_method_6_code, exceptionTable := #[], attributes := #[] }
def k10m5 : Method := { name := "failure", desc := "(Lcom/example/carmenta/carmenta/Fault;)Lcom/example/carmenta/carmenta/Validation;", sig := { parameters := [(.object "com/example/carmenta/carmenta/Fault")], returnType := some (.object "com/example/carmenta/carmenta/Validation") }, accessFlags := 0, code := some k10c5 }
/-- com/example/carmenta/carmenta/CharReader -/
def k10 : Class := { plain "com/example/carmenta/carmenta/CharReader" (some 9) with
  accessFlags := 32
  interfaces := #[]
  cf := some (fileOf pool10 8 #[] #[{ accessFlags := 0, nameIndex := 5, descriptorIndex := 118, attributes := #[] }, { accessFlags := 0, nameIndex := 121, descriptorIndex := 122, attributes := #[] }, { accessFlags := 0, nameIndex := 123, descriptorIndex := 30, attributes := #[] }, { accessFlags := 0, nameIndex := 124, descriptorIndex := 30, attributes := #[] }, { accessFlags := 0, nameIndex := 63, descriptorIndex := 64, attributes := #[] }, { accessFlags := 0, nameIndex := 126, descriptorIndex := 127, attributes := #[] }] 32 2 #[] #[{ accessFlags := 2, nameIndex := 15, descriptorIndex := 16, attributes := #[] }, { accessFlags := 2, nameIndex := 23, descriptorIndex := 24, attributes := #[] }, { accessFlags := 2, nameIndex := 19, descriptorIndex := 20, attributes := #[] }, { accessFlags := 2, nameIndex := 11, descriptorIndex := 12, attributes := #[] }, { accessFlags := 2, nameIndex := 76, descriptorIndex := 77, attributes := #[] }])
  fields := #[{ name := "chars", type := (.object "java/lang/CharSequence"), accessFlags := 2, slot := 5, constantValue := 0 }, { name := "index", type := .int, accessFlags := 2, slot := 6, constantValue := 0 }, { name := "start", type := .long, accessFlags := 2, slot := 7, constantValue := 0 }, { name := "last", type := .boolean, accessFlags := 2, slot := 8, constantValue := 0 }, { name := "units", type := (.object "com/example/carmenta/carmenta/UnitBlock"), accessFlags := 2, slot := 9, constantValue := 0 }]
  methods := #[k10m0, k10m1, k10m2, k10m3, k10m4, k10m5]
  instanceTypes := #[(.object "com/example/carmenta/carmenta/OnIllFormed"), (.object "com/example/carmenta/carmenta/Fault"), .int, .long, (.object "com/example/carmenta/carmenta/Validation"), (.object "java/lang/CharSequence"), .int, .long, .boolean, (.object "com/example/carmenta/carmenta/UnitBlock")]
  staticTypes := #[]
  resolved := Array.replicate 142 none
  statics := none }

def pool11 : Array CpInfo := pool [(2, .class_ 4), (1, u "java/lang/Enum"), (0, u "name"), (0, u "Ljava/lang/String;"), (2, u "ordinal"), (0, u "I"), (1, .class_ 14), (1, u "java/lang/Object"), (4, u "hash"), (86, .class_ 108), (1, u "java/lang/Enum$EnumDesc"), (2, .class_ 112), (0, u "java/lang/constant/Constable"), (0, .class_ 114), (0, u "java/lang/Comparable"), (0, .class_ 116), (0, u "java/io/Serializable")] 87

/-- java/lang/Enum -/
def k11 : Class := { plain "java/lang/Enum" (some 0) with
  accessFlags := 1057
  interfaces := #[5, 3, 2]
  cf := some (fileOf pool11 2 #[.nestMembers #[106]] #[] 1057 12 #[111, 113, 115] #[{ accessFlags := 18, nameIndex := 5, descriptorIndex := 6, attributes := #[] }, { accessFlags := 18, nameIndex := 9, descriptorIndex := 10, attributes := #[] }, { accessFlags := 2, nameIndex := 19, descriptorIndex := 10, attributes := #[] }])
  fields := #[{ name := "name", type := (.object "java/lang/String"), accessFlags := 18, slot := 0, constantValue := 0 }, { name := "ordinal", type := .int, accessFlags := 18, slot := 1, constantValue := 0 }, { name := "hash", type := .int, accessFlags := 2, slot := 2, constantValue := 0 }]
  methods := #[]
  instanceTypes := #[(.object "java/lang/String"), .int, .int]
  staticTypes := #[]
  resolved := Array.replicate 204 none
  statics := none }

def pool12 : Array CpInfo := pool [(1, .class_ 2), (0, u "com/example/carmenta/carmenta/OnIllFormed"), (2, u "REFUSE"), (0, u "Lcom/example/carmenta/carmenta/OnIllFormed;"), (2, u "REPLACE"), (2, u "$VALUES"), (0, u "[Lcom/example/carmenta/carmenta/OnIllFormed;"), (6, .class_ 22), (1, u "java/lang/Enum")] 24

/-- com/example/carmenta/carmenta/OnIllFormed -/
def k12 : Class := { plain "com/example/carmenta/carmenta/OnIllFormed" (some 11) with
  accessFlags := 16433
  interfaces := #[]
  cf := some (fileOf pool12 1 #[] #[] 16433 20 #[] #[{ accessFlags := 16409, nameIndex := 5, descriptorIndex := 6, attributes := #[] }, { accessFlags := 16409, nameIndex := 9, descriptorIndex := 6, attributes := #[] }, { accessFlags := 4122, nameIndex := 12, descriptorIndex := 13, attributes := #[] }])
  fields := #[{ name := "REFUSE", type := (.object "com/example/carmenta/carmenta/OnIllFormed"), accessFlags := 16409, slot := 0, constantValue := 0 }, { name := "REPLACE", type := (.object "com/example/carmenta/carmenta/OnIllFormed"), accessFlags := 16409, slot := 1, constantValue := 0 }, { name := "$VALUES", type := (.array (.object "com/example/carmenta/carmenta/OnIllFormed")), accessFlags := 4122, slot := 2, constantValue := 0 }]
  methods := #[]
  instanceTypes := #[(.object "java/lang/String"), .int, .int]
  staticTypes := #[(.object "com/example/carmenta/carmenta/OnIllFormed"), (.object "com/example/carmenta/carmenta/OnIllFormed"), (.array (.object "com/example/carmenta/carmenta/OnIllFormed"))]
  resolved := Array.replicate 47 none
  statics := some 2 }

def pool13 : Array CpInfo := pool [(1, .methodref 2 3), (0, .class_ 4), (0, .nameAndType 5 6), (0, u "java/lang/Object"), (0, u "<init>"), (0, u "()V"), (0, .fieldref 8 9), (0, .class_ 10), (0, .nameAndType 11 12), (0, u "com/example/carmenta/carmenta/Validation"), (0, u "offset"), (0, u "J"), (0, .fieldref 8 14), (0, .nameAndType 15 16), (0, u "fault"), (0, u "Lcom/example/carmenta/carmenta/Fault;"), (0, .fieldref 8 18), (0, .nameAndType 19 20), (0, u "unit"), (0, u "Ljava/lang/String;"), (0, .fieldref 8 22), (0, .nameAndType 23 24), (0, u "WELL_FORMED"), (0, u "Lcom/example/carmenta/carmenta/Validation;"), (2, .methodref 8 28), (0, .nameAndType 5 29), (0, u "(JLcom/example/carmenta/carmenta/Fault;Ljava/lang/String;)V"), (0, .string 31), (0, u "char"), (0, .methodref 8 33), (0, .nameAndType 34 6), (0, u "requireIllFormed"), (0, .methodref 8 36), (0, .nameAndType 37 38), (0, u "isWellFormed"), (0, u "()Z"), (23, u "wellFormed"), (0, u "()Lcom/example/carmenta/carmenta/Validation;"), (1, u "(JLcom/example/carmenta/carmenta/Fault;)Lcom/example/carmenta/carmenta/Validation;"), (0, u "illFormedAtChar"), (1, u "()J")] 22

def k13c0 : Code := { maxStack := 3, maxLocals := 5, code := prog_34_method_1_code, exceptionTable := #[], attributes := #[] }
def k13m0 : Method := { name := "<init>", desc := "(JLcom/example/carmenta/carmenta/Fault;Ljava/lang/String;)V", sig := { parameters := [.long, (.object "com/example/carmenta/carmenta/Fault"), (.object "java/lang/String")], returnType := none }, accessFlags := 2, code := some k13c0 }
def k13c1 : Code := { maxStack := 1, maxLocals := 0, code := prog_34_method_2_code, exceptionTable := #[], attributes := #[] }
def k13m1 : Method := { name := "wellFormed", desc := "()Lcom/example/carmenta/carmenta/Validation;", sig := { parameters := [], returnType := some (.object "com/example/carmenta/carmenta/Validation") }, accessFlags := 8, code := some k13c1 }
def k13c2 : Code := { maxStack := 6, maxLocals := 3, code := prog_34_method_4_code, exceptionTable := #[], attributes := #[] }
def k13m2 : Method := { name := "illFormedAtChar", desc := "(JLcom/example/carmenta/carmenta/Fault;)Lcom/example/carmenta/carmenta/Validation;", sig := { parameters := [.long, (.object "com/example/carmenta/carmenta/Fault")], returnType := some (.object "com/example/carmenta/carmenta/Validation") }, accessFlags := 8, code := some k13c2 }
def k13c3 : Code := { maxStack := 1, maxLocals := 1, code := prog_34_method_5_code, exceptionTable := #[], attributes := #[] }
def k13m3 : Method := { name := "isWellFormed", desc := "()Z", sig := { parameters := [], returnType := some .boolean }, accessFlags := 1, code := some k13c3 }
def k13c4 : Code := { maxStack := 2, maxLocals := 1, code := prog_34_method_6_code, exceptionTable := #[], attributes := #[] }
def k13m4 : Method := { name := "offset", desc := "()J", sig := { parameters := [], returnType := some .long }, accessFlags := 1, code := some k13c4 }
def k13c5 : Code := { maxStack := 3, maxLocals := 1, code := prog_34_method_9_code, exceptionTable := #[], attributes := #[] }
def k13m5 : Method := { name := "requireIllFormed", desc := "()V", sig := { parameters := [], returnType := none }, accessFlags := 2, code := some k13c5 }
/-- com/example/carmenta/carmenta/Validation -/
def k13 : Class := { plain "com/example/carmenta/carmenta/Validation" (some 0) with
  accessFlags := 33
  interfaces := #[]
  cf := some (fileOf pool13 8 #[] #[{ accessFlags := 2, nameIndex := 5, descriptorIndex := 29, attributes := #[] }, { accessFlags := 8, nameIndex := 62, descriptorIndex := 63, attributes := #[] }, { accessFlags := 8, nameIndex := 66, descriptorIndex := 65, attributes := #[] }, { accessFlags := 1, nameIndex := 37, descriptorIndex := 38, attributes := #[] }, { accessFlags := 1, nameIndex := 11, descriptorIndex := 68, attributes := #[] }, { accessFlags := 2, nameIndex := 34, descriptorIndex := 6, attributes := #[] }] 33 2 #[] #[{ accessFlags := 26, nameIndex := 23, descriptorIndex := 24, attributes := #[] }, { accessFlags := 18, nameIndex := 11, descriptorIndex := 12, attributes := #[] }, { accessFlags := 18, nameIndex := 15, descriptorIndex := 16, attributes := #[] }, { accessFlags := 18, nameIndex := 19, descriptorIndex := 20, attributes := #[] }])
  fields := #[{ name := "WELL_FORMED", type := (.object "com/example/carmenta/carmenta/Validation"), accessFlags := 26, slot := 0, constantValue := 0 }, { name := "offset", type := .long, accessFlags := 18, slot := 0, constantValue := 0 }, { name := "fault", type := (.object "com/example/carmenta/carmenta/Fault"), accessFlags := 18, slot := 1, constantValue := 0 }, { name := "unit", type := (.object "java/lang/String"), accessFlags := 18, slot := 2, constantValue := 0 }]
  methods := #[k13m0, k13m1, k13m2, k13m3, k13m4, k13m5]
  instanceTypes := #[.long, (.object "com/example/carmenta/carmenta/Fault"), (.object "java/lang/String")]
  staticTypes := #[(.object "com/example/carmenta/carmenta/Validation")]
  resolved := Array.replicate 91 none
  statics := some 3 }

def pool14 : Array CpInfo := pool [(1, .class_ 2), (0, u "com/example/carmenta/carmenta/Fault"), (2, u "STRAY_CONTINUATION"), (0, u "Lcom/example/carmenta/carmenta/Fault;"), (2, u "OVERLONG"), (2, u "ENCODED_SURROGATE"), (2, u "ABOVE_MAXIMUM"), (2, u "INVALID_OCTET"), (2, u "CUT_SHORT"), (2, u "TRUNCATED"), (2, u "UNPAIRED_HIGH_SURROGATE"), (2, u "UNPAIRED_LOW_SURROGATE"), (2, u "ODD_OCTET"), (2, u "REVERSED_MARK"), (2, u "$VALUES"), (0, u "[Lcom/example/carmenta/carmenta/Fault;"), (6, .class_ 49), (1, u "java/lang/Enum"), (8, u "description"), (0, u "Ljava/lang/String;")] 53

/-- com/example/carmenta/carmenta/Fault -/
def k14 : Class := { plain "com/example/carmenta/carmenta/Fault" (some 11) with
  accessFlags := 16433
  interfaces := #[]
  cf := some (fileOf pool14 1 #[] #[] 16433 47 #[] #[{ accessFlags := 16409, nameIndex := 5, descriptorIndex := 6, attributes := #[] }, { accessFlags := 16409, nameIndex := 9, descriptorIndex := 6, attributes := #[] }, { accessFlags := 16409, nameIndex := 12, descriptorIndex := 6, attributes := #[] }, { accessFlags := 16409, nameIndex := 15, descriptorIndex := 6, attributes := #[] }, { accessFlags := 16409, nameIndex := 18, descriptorIndex := 6, attributes := #[] }, { accessFlags := 16409, nameIndex := 21, descriptorIndex := 6, attributes := #[] }, { accessFlags := 16409, nameIndex := 24, descriptorIndex := 6, attributes := #[] }, { accessFlags := 16409, nameIndex := 27, descriptorIndex := 6, attributes := #[] }, { accessFlags := 16409, nameIndex := 30, descriptorIndex := 6, attributes := #[] }, { accessFlags := 16409, nameIndex := 33, descriptorIndex := 6, attributes := #[] }, { accessFlags := 16409, nameIndex := 36, descriptorIndex := 6, attributes := #[] }, { accessFlags := 18, nameIndex := 58, descriptorIndex := 59, attributes := #[] }, { accessFlags := 4122, nameIndex := 39, descriptorIndex := 40, attributes := #[] }])
  fields := #[{ name := "STRAY_CONTINUATION", type := (.object "com/example/carmenta/carmenta/Fault"), accessFlags := 16409, slot := 0, constantValue := 0 }, { name := "OVERLONG", type := (.object "com/example/carmenta/carmenta/Fault"), accessFlags := 16409, slot := 1, constantValue := 0 }, { name := "ENCODED_SURROGATE", type := (.object "com/example/carmenta/carmenta/Fault"), accessFlags := 16409, slot := 2, constantValue := 0 }, { name := "ABOVE_MAXIMUM", type := (.object "com/example/carmenta/carmenta/Fault"), accessFlags := 16409, slot := 3, constantValue := 0 }, { name := "INVALID_OCTET", type := (.object "com/example/carmenta/carmenta/Fault"), accessFlags := 16409, slot := 4, constantValue := 0 }, { name := "CUT_SHORT", type := (.object "com/example/carmenta/carmenta/Fault"), accessFlags := 16409, slot := 5, constantValue := 0 }, { name := "TRUNCATED", type := (.object "com/example/carmenta/carmenta/Fault"), accessFlags := 16409, slot := 6, constantValue := 0 }, { name := "UNPAIRED_HIGH_SURROGATE", type := (.object "com/example/carmenta/carmenta/Fault"), accessFlags := 16409, slot := 7, constantValue := 0 }, { name := "UNPAIRED_LOW_SURROGATE", type := (.object "com/example/carmenta/carmenta/Fault"), accessFlags := 16409, slot := 8, constantValue := 0 }, { name := "ODD_OCTET", type := (.object "com/example/carmenta/carmenta/Fault"), accessFlags := 16409, slot := 9, constantValue := 0 }, { name := "REVERSED_MARK", type := (.object "com/example/carmenta/carmenta/Fault"), accessFlags := 16409, slot := 10, constantValue := 0 }, { name := "description", type := (.object "java/lang/String"), accessFlags := 18, slot := 3, constantValue := 0 }, { name := "$VALUES", type := (.array (.object "com/example/carmenta/carmenta/Fault")), accessFlags := 4122, slot := 11, constantValue := 0 }]
  methods := #[]
  instanceTypes := #[(.object "java/lang/String"), .int, .int, (.object "java/lang/String")]
  staticTypes := #[(.object "com/example/carmenta/carmenta/Fault"), (.object "com/example/carmenta/carmenta/Fault"), (.object "com/example/carmenta/carmenta/Fault"), (.object "com/example/carmenta/carmenta/Fault"), (.object "com/example/carmenta/carmenta/Fault"), (.object "com/example/carmenta/carmenta/Fault"), (.object "com/example/carmenta/carmenta/Fault"), (.object "com/example/carmenta/carmenta/Fault"), (.object "com/example/carmenta/carmenta/Fault"), (.object "com/example/carmenta/carmenta/Fault"), (.object "com/example/carmenta/carmenta/Fault"), (.array (.object "com/example/carmenta/carmenta/Fault"))]
  resolved := Array.replicate 113 none
  statics := some 4 }

def pool15 : Array CpInfo := pool [(1, .class_ 2), (0, u "java/lang/String"), (1, .class_ 6), (1, u "java/lang/Object"), (0, u "<init>"), (0, u "()V"), (0, .methodref 1 10), (0, .nameAndType 11 12), (0, u "checkIndex"), (0, u "(II)V"), (1, .class_ 16), (1, u "java/lang/StringLatin1"), (36, u "([BI)C"), (67, u "$assertionsDisabled"), (0, u "Z"), (98, .class_ 223), (1, u "java/lang/StringLatin1$LinesSpliterator"), (28, u "charAt"), (137, .class_ 391), (0, u "java/lang/StringLatin1$CharsSpliterator")] 3

def k15m0 : Method := { name := "<init>", desc := "()V", sig := { parameters := [], returnType := none }, accessFlags := 0, code := none }
def k15c1 : Code := { maxStack := 2, maxLocals := 2, code := jdk_43_method_2_code, exceptionTable := #[], attributes := #[] }
def k15m1 : Method := { name := "charAt", desc := "([BI)C", sig := { parameters := [(.array .byte), .int], returnType := some .char }, accessFlags := 9, code := some k15c1 }
/-- java/lang/StringLatin1 -/
def k15 : Class := { plain "java/lang/StringLatin1" (some 0) with
  accessFlags := 48
  interfaces := #[]
  cf := some (fileOf pool15 14 #[.nestMembers #[390, 221]] #[{ accessFlags := 0, nameIndex := 7, descriptorIndex := 8, attributes := #[] }, { accessFlags := 9, nameIndex := 252, descriptorIndex := 53, attributes := #[] }] 48 4 #[] #[{ accessFlags := 4120, nameIndex := 121, descriptorIndex := 122, attributes := #[] }])
  fields := #[{ name := "$assertionsDisabled", type := .boolean, accessFlags := 4120, slot := 0, constantValue := 0 }]
  methods := #[k15m0, k15m1]
  instanceTypes := #[]
  staticTypes := #[.boolean]
  resolved := Array.replicate 395 none
  statics := none }

def pool16 : Array CpInfo := pool [(2, .class_ 4), (1, u "java/lang/Object"), (0, u "<init>"), (0, u "()V"), (17, .class_ 26), (1, u "jdk/internal/util/Preconditions"), (6, u "checkIndex"), (21, .class_ 56), (0, u "jdk/internal/util/Preconditions$4"), (57, .class_ 115), (0, u "jdk/internal/util/Preconditions$1"), (7, u "SIOOBE_FORMATTER"), (0, u "Ljava/util/function/BiFunction;"), (0, .class_ 126), (0, u "jdk/internal/util/Preconditions$2"), (3, u "AIOOBE_FORMATTER"), (0, .class_ 132), (0, u "jdk/internal/util/Preconditions$3"), (3, u "IOOBE_FORMATTER"), (41, u "(IILjava/util/function/BiFunction;)I")] 15

def k16m0 : Method := { name := "<init>", desc := "()V", sig := { parameters := [], returnType := none }, accessFlags := 1, code := none }
def k16c1 : Code := { maxStack := 3, maxLocals := 3, code := jdk_41_method_11_code, exceptionTable := #[], attributes := #[] }
def k16m1 : Method := { name := "checkIndex", desc := "(IILjava/util/function/BiFunction;)I", sig := { parameters := [.int, .int, (.object "java/util/function/BiFunction")], returnType := some .int }, accessFlags := 9, code := some k16c1 }
/-- jdk/internal/util/Preconditions -/
def k16 : Class := { plain "jdk/internal/util/Preconditions" (some 0) with
  accessFlags := 33
  interfaces := #[]
  cf := some (fileOf pool16 24 #[.nestMembers #[55, 131, 125, 114]] #[{ accessFlags := 1, nameIndex := 5, descriptorIndex := 6, attributes := #[] }, { accessFlags := 9, nameIndex := 33, descriptorIndex := 178, attributes := #[] }] 33 2 #[] #[{ accessFlags := 25, nameIndex := 123, descriptorIndex := 124, attributes := #[] }, { accessFlags := 25, nameIndex := 130, descriptorIndex := 124, attributes := #[] }, { accessFlags := 25, nameIndex := 136, descriptorIndex := 124, attributes := #[] }])
  fields := #[{ name := "SIOOBE_FORMATTER", type := (.object "java/util/function/BiFunction"), accessFlags := 25, slot := 0, constantValue := 0 }, { name := "AIOOBE_FORMATTER", type := (.object "java/util/function/BiFunction"), accessFlags := 25, slot := 1, constantValue := 0 }, { name := "IOOBE_FORMATTER", type := (.object "java/util/function/BiFunction"), accessFlags := 25, slot := 2, constantValue := 0 }]
  methods := #[k16m0, k16m1]
  instanceTypes := #[]
  staticTypes := #[(.object "java/util/function/BiFunction"), (.object "java/util/function/BiFunction"), (.object "java/util/function/BiFunction")]
  resolved := Array.replicate 194 none
  statics := some 5 }

def pool17 : Array CpInfo := pool [(1, .class_ 2), (0, u "java/lang/Character"), (18, u "value"), (0, u "C"), (19, .class_ 44), (1, u "java/lang/Object"), (3, .class_ 50), (1, u "java/lang/Character$CharacterCache"), (24, .integer 55296), (0, .integer 56320), (0, .integer 57344), (3, u "(C)Z"), (2, u "isLowSurrogate"), (0, .integer 4238353408), (12, u "toCodePoint"), (0, u "(CC)I"), (184, u "$assertionsDisabled"), (0, u "Z"), (21, .class_ 309), (1, u "java/lang/Character$UnicodeBlock"), (73, u "TYPE"), (0, u "Ljava/lang/Class;"), (0, .class_ 386), (0, u "java/io/Serializable"), (0, .class_ 388), (0, u "java/lang/Comparable"), (0, .class_ 390), (0, u "java/lang/constant/Constable"), (0, u "MIN_RADIX"), (0, u "I"), (2, u "MAX_RADIX"), (1, u "MIN_VALUE"), (1, u "MAX_VALUE"), (3, u "UNASSIGNED"), (0, u "B"), (0, u "UPPERCASE_LETTER"), (1, u "LOWERCASE_LETTER"), (0, u "TITLECASE_LETTER"), (1, u "MODIFIER_LETTER"), (1, u "OTHER_LETTER"), (1, u "NON_SPACING_MARK"), (1, u "ENCLOSING_MARK"), (1, u "COMBINING_SPACING_MARK"), (1, u "DECIMAL_DIGIT_NUMBER"), (1, u "LETTER_NUMBER"), (1, u "OTHER_NUMBER"), (1, u "SPACE_SEPARATOR"), (1, u "LINE_SEPARATOR"), (1, u "PARAGRAPH_SEPARATOR"), (1, u "CONTROL"), (1, u "FORMAT"), (1, u "PRIVATE_USE"), (1, u "SURROGATE"), (1, u "DASH_PUNCTUATION"), (1, u "START_PUNCTUATION"), (1, u "END_PUNCTUATION"), (1, u "CONNECTOR_PUNCTUATION"), (1, u "OTHER_PUNCTUATION"), (1, u "MATH_SYMBOL"), (1, u "CURRENCY_SYMBOL"), (1, u "MODIFIER_SYMBOL"), (1, u "OTHER_SYMBOL"), (1, u "INITIAL_QUOTE_PUNCTUATION"), (1, u "FINAL_QUOTE_PUNCTUATION"), (1, u "ERROR"), (1, u "DIRECTIONALITY_UNDEFINED"), (0, u "DIRECTIONALITY_LEFT_TO_RIGHT"), (0, u "DIRECTIONALITY_RIGHT_TO_LEFT"), (0, u "DIRECTIONALITY_RIGHT_TO_LEFT_ARABIC"), (0, u "DIRECTIONALITY_EUROPEAN_NUMBER"), (0, u "DIRECTIONALITY_EUROPEAN_NUMBER_SEPARATOR"), (0, u "DIRECTIONALITY_EUROPEAN_NUMBER_TERMINATOR"), (0, u "DIRECTIONALITY_ARABIC_NUMBER"), (0, u "DIRECTIONALITY_COMMON_NUMBER_SEPARATOR"), (0, u "DIRECTIONALITY_NONSPACING_MARK"), (0, u "DIRECTIONALITY_BOUNDARY_NEUTRAL"), (0, u "DIRECTIONALITY_PARAGRAPH_SEPARATOR"), (0, u "DIRECTIONALITY_SEGMENT_SEPARATOR"), (0, u "DIRECTIONALITY_WHITESPACE"), (0, u "DIRECTIONALITY_OTHER_NEUTRALS"), (0, u "DIRECTIONALITY_LEFT_TO_RIGHT_EMBEDDING"), (0, u "DIRECTIONALITY_LEFT_TO_RIGHT_OVERRIDE"), (0, u "DIRECTIONALITY_RIGHT_TO_LEFT_EMBEDDING"), (0, u "DIRECTIONALITY_RIGHT_TO_LEFT_OVERRIDE"), (1, u "DIRECTIONALITY_POP_DIRECTIONAL_FORMAT"), (0, u "DIRECTIONALITY_LEFT_TO_RIGHT_ISOLATE"), (0, u "DIRECTIONALITY_RIGHT_TO_LEFT_ISOLATE"), (0, u "DIRECTIONALITY_FIRST_STRONG_ISOLATE"), (0, u "DIRECTIONALITY_POP_DIRECTIONAL_ISOLATE"), (0, u "MIN_HIGH_SURROGATE"), (0, u "MAX_HIGH_SURROGATE"), (1, u "MIN_LOW_SURROGATE"), (0, u "MAX_LOW_SURROGATE"), (1, u "MIN_SURROGATE"), (0, u "MAX_SURROGATE"), (0, u "MIN_SUPPLEMENTARY_CODE_POINT"), (0, u "MIN_CODE_POINT"), (0, u "MAX_CODE_POINT"), (1, u "serialVersionUID"), (0, u "J"), (2, u "SIZE"), (0, u "BYTES"), (24, u "isSurrogate"), (63, .class_ 596), (0, u "java/lang/Character$UnicodeScript"), (0, .class_ 598), (0, u "java/lang/Character$Subset")] 5

def k17c0 : Code := { maxStack := 2, maxLocals := 1, code := jdk_89_method_15_code, exceptionTable := #[], attributes := #[] }
def k17m0 : Method := { name := "isLowSurrogate", desc := "(C)Z", sig := { parameters := [.char], returnType := some .boolean }, accessFlags := 9, code := some k17c0 }
def k17c1 : Code := { maxStack := 2, maxLocals := 1, code := jdk_89_method_16_code, exceptionTable := #[], attributes := #[] }
def k17m1 : Method := { name := "isSurrogate", desc := "(C)Z", sig := { parameters := [.char], returnType := some .boolean }, accessFlags := 9, code := some k17c1 }
def k17c2 : Code := { maxStack := 2, maxLocals := 2, code := jdk_89_method_19_code, exceptionTable := #[], attributes := #[] }
def k17m2 : Method := { name := "toCodePoint", desc := "(CC)I", sig := { parameters := [.char, .char], returnType := some .int }, accessFlags := 9, code := some k17c2 }
/-- java/lang/Character -/
def k17 : Class := { plain "java/lang/Character" (some 0) with
  accessFlags := 49
  interfaces := #[2, 3, 5]
  cf := some (fileOf pool17 1 #[.nestMembers #[48, 595, 307, 597]] #[{ accessFlags := 9, nameIndex := 84, descriptorIndex := 81, attributes := #[] }, { accessFlags := 9, nameIndex := 531, descriptorIndex := 81, attributes := #[] }, { accessFlags := 9, nameIndex := 98, descriptorIndex := 99, attributes := #[] }] 49 42 #[385, 387, 389] #[{ accessFlags := 25, nameIndex := 391, descriptorIndex := 392, attributes := #[] }, { accessFlags := 25, nameIndex := 395, descriptorIndex := 392, attributes := #[] }, { accessFlags := 25, nameIndex := 397, descriptorIndex := 22, attributes := #[] }, { accessFlags := 25, nameIndex := 399, descriptorIndex := 22, attributes := #[] }, { accessFlags := 25, nameIndex := 383, descriptorIndex := 384, attributes := #[] }, { accessFlags := 25, nameIndex := 403, descriptorIndex := 404, attributes := #[] }, { accessFlags := 25, nameIndex := 405, descriptorIndex := 404, attributes := #[] }, { accessFlags := 25, nameIndex := 407, descriptorIndex := 404, attributes := #[] }, { accessFlags := 25, nameIndex := 408, descriptorIndex := 404, attributes := #[] }, { accessFlags := 25, nameIndex := 410, descriptorIndex := 404, attributes := #[] }, { accessFlags := 25, nameIndex := 412, descriptorIndex := 404, attributes := #[] }, { accessFlags := 25, nameIndex := 414, descriptorIndex := 404, attributes := #[] }, { accessFlags := 25, nameIndex := 416, descriptorIndex := 404, attributes := #[] }, { accessFlags := 25, nameIndex := 418, descriptorIndex := 404, attributes := #[] }, { accessFlags := 25, nameIndex := 420, descriptorIndex := 404, attributes := #[] }, { accessFlags := 25, nameIndex := 422, descriptorIndex := 404, attributes := #[] }, { accessFlags := 25, nameIndex := 424, descriptorIndex := 404, attributes := #[] }, { accessFlags := 25, nameIndex := 426, descriptorIndex := 404, attributes := #[] }, { accessFlags := 25, nameIndex := 428, descriptorIndex := 404, attributes := #[] }, { accessFlags := 25, nameIndex := 430, descriptorIndex := 404, attributes := #[] }, { accessFlags := 25, nameIndex := 432, descriptorIndex := 404, attributes := #[] }, { accessFlags := 25, nameIndex := 434, descriptorIndex := 404, attributes := #[] }, { accessFlags := 25, nameIndex := 436, descriptorIndex := 404, attributes := #[] }, { accessFlags := 25, nameIndex := 438, descriptorIndex := 404, attributes := #[] }, { accessFlags := 25, nameIndex := 440, descriptorIndex := 404, attributes := #[] }, { accessFlags := 25, nameIndex := 442, descriptorIndex := 404, attributes := #[] }, { accessFlags := 25, nameIndex := 444, descriptorIndex := 404, attributes := #[] }, { accessFlags := 25, nameIndex := 446, descriptorIndex := 404, attributes := #[] }, { accessFlags := 25, nameIndex := 448, descriptorIndex := 404, attributes := #[] }, { accessFlags := 25, nameIndex := 450, descriptorIndex := 404, attributes := #[] }, { accessFlags := 25, nameIndex := 452, descriptorIndex := 404, attributes := #[] }, { accessFlags := 25, nameIndex := 454, descriptorIndex := 404, attributes := #[] }, { accessFlags := 25, nameIndex := 456, descriptorIndex := 404, attributes := #[] }, { accessFlags := 25, nameIndex := 458, descriptorIndex := 404, attributes := #[] }, { accessFlags := 25, nameIndex := 460, descriptorIndex := 404, attributes := #[] }, { accessFlags := 24, nameIndex := 462, descriptorIndex := 392, attributes := #[] }, { accessFlags := 25, nameIndex := 464, descriptorIndex := 404, attributes := #[] }, { accessFlags := 25, nameIndex := 465, descriptorIndex := 404, attributes := #[] }, { accessFlags := 25, nameIndex := 466, descriptorIndex := 404, attributes := #[] }, { accessFlags := 25, nameIndex := 467, descriptorIndex := 404, attributes := #[] }, { accessFlags := 25, nameIndex := 468, descriptorIndex := 404, attributes := #[] }, { accessFlags := 25, nameIndex := 469, descriptorIndex := 404, attributes := #[] }, { accessFlags := 25, nameIndex := 470, descriptorIndex := 404, attributes := #[] }, { accessFlags := 25, nameIndex := 471, descriptorIndex := 404, attributes := #[] }, { accessFlags := 25, nameIndex := 472, descriptorIndex := 404, attributes := #[] }, { accessFlags := 25, nameIndex := 473, descriptorIndex := 404, attributes := #[] }, { accessFlags := 25, nameIndex := 474, descriptorIndex := 404, attributes := #[] }, { accessFlags := 25, nameIndex := 475, descriptorIndex := 404, attributes := #[] }, { accessFlags := 25, nameIndex := 476, descriptorIndex := 404, attributes := #[] }, { accessFlags := 25, nameIndex := 477, descriptorIndex := 404, attributes := #[] }, { accessFlags := 25, nameIndex := 478, descriptorIndex := 404, attributes := #[] }, { accessFlags := 25, nameIndex := 479, descriptorIndex := 404, attributes := #[] }, { accessFlags := 25, nameIndex := 480, descriptorIndex := 404, attributes := #[] }, { accessFlags := 25, nameIndex := 481, descriptorIndex := 404, attributes := #[] }, { accessFlags := 25, nameIndex := 482, descriptorIndex := 404, attributes := #[] }, { accessFlags := 25, nameIndex := 484, descriptorIndex := 404, attributes := #[] }, { accessFlags := 25, nameIndex := 485, descriptorIndex := 404, attributes := #[] }, { accessFlags := 25, nameIndex := 486, descriptorIndex := 404, attributes := #[] }, { accessFlags := 25, nameIndex := 487, descriptorIndex := 404, attributes := #[] }, { accessFlags := 25, nameIndex := 488, descriptorIndex := 404, attributes := #[] }, { accessFlags := 25, nameIndex := 489, descriptorIndex := 22, attributes := #[] }, { accessFlags := 25, nameIndex := 490, descriptorIndex := 22, attributes := #[] }, { accessFlags := 25, nameIndex := 492, descriptorIndex := 22, attributes := #[] }, { accessFlags := 25, nameIndex := 493, descriptorIndex := 22, attributes := #[] }, { accessFlags := 25, nameIndex := 495, descriptorIndex := 22, attributes := #[] }, { accessFlags := 25, nameIndex := 496, descriptorIndex := 22, attributes := #[] }, { accessFlags := 25, nameIndex := 497, descriptorIndex := 392, attributes := #[] }, { accessFlags := 25, nameIndex := 498, descriptorIndex := 392, attributes := #[] }, { accessFlags := 25, nameIndex := 499, descriptorIndex := 392, attributes := #[] }, { accessFlags := 18, nameIndex := 21, descriptorIndex := 22, attributes := #[] }, { accessFlags := 26, nameIndex := 501, descriptorIndex := 502, attributes := #[] }, { accessFlags := 25, nameIndex := 505, descriptorIndex := 392, attributes := #[] }, { accessFlags := 25, nameIndex := 506, descriptorIndex := 392, attributes := #[] }, { accessFlags := 4120, nameIndex := 284, descriptorIndex := 285, attributes := #[] }])
  fields := #[{ name := "MIN_RADIX", type := .int, accessFlags := 25, slot := 0, constantValue := 0 }, { name := "MAX_RADIX", type := .int, accessFlags := 25, slot := 1, constantValue := 0 }, { name := "MIN_VALUE", type := .char, accessFlags := 25, slot := 2, constantValue := 0 }, { name := "MAX_VALUE", type := .char, accessFlags := 25, slot := 3, constantValue := 0 }, { name := "TYPE", type := (.object "java/lang/Class"), accessFlags := 25, slot := 4, constantValue := 0 }, { name := "UNASSIGNED", type := .byte, accessFlags := 25, slot := 5, constantValue := 0 }, { name := "UPPERCASE_LETTER", type := .byte, accessFlags := 25, slot := 6, constantValue := 0 }, { name := "LOWERCASE_LETTER", type := .byte, accessFlags := 25, slot := 7, constantValue := 0 }, { name := "TITLECASE_LETTER", type := .byte, accessFlags := 25, slot := 8, constantValue := 0 }, { name := "MODIFIER_LETTER", type := .byte, accessFlags := 25, slot := 9, constantValue := 0 }, { name := "OTHER_LETTER", type := .byte, accessFlags := 25, slot := 10, constantValue := 0 }, { name := "NON_SPACING_MARK", type := .byte, accessFlags := 25, slot := 11, constantValue := 0 }, { name := "ENCLOSING_MARK", type := .byte, accessFlags := 25, slot := 12, constantValue := 0 }, { name := "COMBINING_SPACING_MARK", type := .byte, accessFlags := 25, slot := 13, constantValue := 0 }, { name := "DECIMAL_DIGIT_NUMBER", type := .byte, accessFlags := 25, slot := 14, constantValue := 0 }, { name := "LETTER_NUMBER", type := .byte, accessFlags := 25, slot := 15, constantValue := 0 }, { name := "OTHER_NUMBER", type := .byte, accessFlags := 25, slot := 16, constantValue := 0 }, { name := "SPACE_SEPARATOR", type := .byte, accessFlags := 25, slot := 17, constantValue := 0 }, { name := "LINE_SEPARATOR", type := .byte, accessFlags := 25, slot := 18, constantValue := 0 }, { name := "PARAGRAPH_SEPARATOR", type := .byte, accessFlags := 25, slot := 19, constantValue := 0 }, { name := "CONTROL", type := .byte, accessFlags := 25, slot := 20, constantValue := 0 }, { name := "FORMAT", type := .byte, accessFlags := 25, slot := 21, constantValue := 0 }, { name := "PRIVATE_USE", type := .byte, accessFlags := 25, slot := 22, constantValue := 0 }, { name := "SURROGATE", type := .byte, accessFlags := 25, slot := 23, constantValue := 0 }, { name := "DASH_PUNCTUATION", type := .byte, accessFlags := 25, slot := 24, constantValue := 0 }, { name := "START_PUNCTUATION", type := .byte, accessFlags := 25, slot := 25, constantValue := 0 }, { name := "END_PUNCTUATION", type := .byte, accessFlags := 25, slot := 26, constantValue := 0 }, { name := "CONNECTOR_PUNCTUATION", type := .byte, accessFlags := 25, slot := 27, constantValue := 0 }, { name := "OTHER_PUNCTUATION", type := .byte, accessFlags := 25, slot := 28, constantValue := 0 }, { name := "MATH_SYMBOL", type := .byte, accessFlags := 25, slot := 29, constantValue := 0 }, { name := "CURRENCY_SYMBOL", type := .byte, accessFlags := 25, slot := 30, constantValue := 0 }, { name := "MODIFIER_SYMBOL", type := .byte, accessFlags := 25, slot := 31, constantValue := 0 }, { name := "OTHER_SYMBOL", type := .byte, accessFlags := 25, slot := 32, constantValue := 0 }, { name := "INITIAL_QUOTE_PUNCTUATION", type := .byte, accessFlags := 25, slot := 33, constantValue := 0 }, { name := "FINAL_QUOTE_PUNCTUATION", type := .byte, accessFlags := 25, slot := 34, constantValue := 0 }, { name := "ERROR", type := .int, accessFlags := 24, slot := 35, constantValue := 0 }, { name := "DIRECTIONALITY_UNDEFINED", type := .byte, accessFlags := 25, slot := 36, constantValue := 0 }, { name := "DIRECTIONALITY_LEFT_TO_RIGHT", type := .byte, accessFlags := 25, slot := 37, constantValue := 0 }, { name := "DIRECTIONALITY_RIGHT_TO_LEFT", type := .byte, accessFlags := 25, slot := 38, constantValue := 0 }, { name := "DIRECTIONALITY_RIGHT_TO_LEFT_ARABIC", type := .byte, accessFlags := 25, slot := 39, constantValue := 0 }, { name := "DIRECTIONALITY_EUROPEAN_NUMBER", type := .byte, accessFlags := 25, slot := 40, constantValue := 0 }, { name := "DIRECTIONALITY_EUROPEAN_NUMBER_SEPARATOR", type := .byte, accessFlags := 25, slot := 41, constantValue := 0 }, { name := "DIRECTIONALITY_EUROPEAN_NUMBER_TERMINATOR", type := .byte, accessFlags := 25, slot := 42, constantValue := 0 }, { name := "DIRECTIONALITY_ARABIC_NUMBER", type := .byte, accessFlags := 25, slot := 43, constantValue := 0 }, { name := "DIRECTIONALITY_COMMON_NUMBER_SEPARATOR", type := .byte, accessFlags := 25, slot := 44, constantValue := 0 }, { name := "DIRECTIONALITY_NONSPACING_MARK", type := .byte, accessFlags := 25, slot := 45, constantValue := 0 }, { name := "DIRECTIONALITY_BOUNDARY_NEUTRAL", type := .byte, accessFlags := 25, slot := 46, constantValue := 0 }, { name := "DIRECTIONALITY_PARAGRAPH_SEPARATOR", type := .byte, accessFlags := 25, slot := 47, constantValue := 0 }, { name := "DIRECTIONALITY_SEGMENT_SEPARATOR", type := .byte, accessFlags := 25, slot := 48, constantValue := 0 }, { name := "DIRECTIONALITY_WHITESPACE", type := .byte, accessFlags := 25, slot := 49, constantValue := 0 }, { name := "DIRECTIONALITY_OTHER_NEUTRALS", type := .byte, accessFlags := 25, slot := 50, constantValue := 0 }, { name := "DIRECTIONALITY_LEFT_TO_RIGHT_EMBEDDING", type := .byte, accessFlags := 25, slot := 51, constantValue := 0 }, { name := "DIRECTIONALITY_LEFT_TO_RIGHT_OVERRIDE", type := .byte, accessFlags := 25, slot := 52, constantValue := 0 }, { name := "DIRECTIONALITY_RIGHT_TO_LEFT_EMBEDDING", type := .byte, accessFlags := 25, slot := 53, constantValue := 0 }, { name := "DIRECTIONALITY_RIGHT_TO_LEFT_OVERRIDE", type := .byte, accessFlags := 25, slot := 54, constantValue := 0 }, { name := "DIRECTIONALITY_POP_DIRECTIONAL_FORMAT", type := .byte, accessFlags := 25, slot := 55, constantValue := 0 }, { name := "DIRECTIONALITY_LEFT_TO_RIGHT_ISOLATE", type := .byte, accessFlags := 25, slot := 56, constantValue := 0 }, { name := "DIRECTIONALITY_RIGHT_TO_LEFT_ISOLATE", type := .byte, accessFlags := 25, slot := 57, constantValue := 0 }, { name := "DIRECTIONALITY_FIRST_STRONG_ISOLATE", type := .byte, accessFlags := 25, slot := 58, constantValue := 0 }, { name := "DIRECTIONALITY_POP_DIRECTIONAL_ISOLATE", type := .byte, accessFlags := 25, slot := 59, constantValue := 0 }, { name := "MIN_HIGH_SURROGATE", type := .char, accessFlags := 25, slot := 60, constantValue := 0 }, { name := "MAX_HIGH_SURROGATE", type := .char, accessFlags := 25, slot := 61, constantValue := 0 }, { name := "MIN_LOW_SURROGATE", type := .char, accessFlags := 25, slot := 62, constantValue := 0 }, { name := "MAX_LOW_SURROGATE", type := .char, accessFlags := 25, slot := 63, constantValue := 0 }, { name := "MIN_SURROGATE", type := .char, accessFlags := 25, slot := 64, constantValue := 0 }, { name := "MAX_SURROGATE", type := .char, accessFlags := 25, slot := 65, constantValue := 0 }, { name := "MIN_SUPPLEMENTARY_CODE_POINT", type := .int, accessFlags := 25, slot := 66, constantValue := 0 }, { name := "MIN_CODE_POINT", type := .int, accessFlags := 25, slot := 67, constantValue := 0 }, { name := "MAX_CODE_POINT", type := .int, accessFlags := 25, slot := 68, constantValue := 0 }, { name := "value", type := .char, accessFlags := 18, slot := 0, constantValue := 0 }, { name := "serialVersionUID", type := .long, accessFlags := 26, slot := 69, constantValue := 0 }, { name := "SIZE", type := .int, accessFlags := 25, slot := 70, constantValue := 0 }, { name := "BYTES", type := .int, accessFlags := 25, slot := 71, constantValue := 0 }, { name := "$assertionsDisabled", type := .boolean, accessFlags := 4120, slot := 72, constantValue := 0 }]
  methods := #[k17m0, k17m1, k17m2]
  instanceTypes := #[.char]
  staticTypes := #[.int, .int, .char, .char, (.object "java/lang/Class"), .byte, .byte, .byte, .byte, .byte, .byte, .byte, .byte, .byte, .byte, .byte, .byte, .byte, .byte, .byte, .byte, .byte, .byte, .byte, .byte, .byte, .byte, .byte, .byte, .byte, .byte, .byte, .byte, .byte, .byte, .int, .byte, .byte, .byte, .byte, .byte, .byte, .byte, .byte, .byte, .byte, .byte, .byte, .byte, .byte, .byte, .byte, .byte, .byte, .byte, .byte, .byte, .byte, .byte, .byte, .char, .char, .char, .char, .char, .char, .int, .int, .int, .long, .int, .int, .boolean]
  resolved := Array.replicate 604 none
  statics := none }

def pool18 : Array CpInfo := pool [(9, u "<init>"), (6, .class_ 18), (1, u "java/lang/Object"), (0, u "()V"), (1, .class_ 23), (1, u "jdk/internal/util/ArraysSupport"), (0, u "LOG2_ARRAY_LONG_INDEX_SCALE"), (0, u "I"), (2, u "U"), (0, u "Ljdk/internal/misc/Unsafe;"), (8, u "BIG_ENDIAN"), (0, u "Z"), (8, u "LOG2_BYTE_BIT_SIZE"), (4, u "LOG2_ARRAY_INT_INDEX_SCALE"), (54, u "JLA"), (0, u "Ljdk/internal/access/JavaLangAccess;"), (11, u "LOG2_ARRAY_BOOLEAN_INDEX_SCALE"), (9, u "LOG2_ARRAY_BYTE_INDEX_SCALE"), (5, u "LOG2_ARRAY_CHAR_INDEX_SCALE"), (5, u "LOG2_ARRAY_SHORT_INDEX_SCALE"), (18, u "LOG2_ARRAY_FLOAT_INDEX_SCALE"), (24, u "LOG2_ARRAY_DOUBLE_INDEX_SCALE"), (89, u "T_BOOLEAN"), (2, u "T_CHAR"), (1, u "T_FLOAT"), (1, u "T_DOUBLE"), (1, u "T_BYTE"), (1, u "T_SHORT"), (1, u "T_INT"), (1, u "T_LONG"), (1, u "SOFT_MAX_ARRAY_LENGTH")] 83

def k18m0 : Method := { name := "<init>", desc := "()V", sig := { parameters := [], returnType := none }, accessFlags := 2, code := none }
/-- jdk/internal/util/ArraysSupport -/
def k18 : Class := { plain "jdk/internal/util/ArraysSupport" (some 0) with
  accessFlags := 33
  interfaces := #[]
  cf := some (fileOf pool18 21 #[] #[{ accessFlags := 2, nameIndex := 9, descriptorIndex := 19, attributes := #[] }] 33 16 #[] #[{ accessFlags := 24, nameIndex := 28, descriptorIndex := 29, attributes := #[] }, { accessFlags := 26, nameIndex := 38, descriptorIndex := 39, attributes := #[] }, { accessFlags := 25, nameIndex := 121, descriptorIndex := 25, attributes := #[] }, { accessFlags := 25, nameIndex := 131, descriptorIndex := 25, attributes := #[] }, { accessFlags := 25, nameIndex := 137, descriptorIndex := 25, attributes := #[] }, { accessFlags := 25, nameIndex := 143, descriptorIndex := 25, attributes := #[] }, { accessFlags := 25, nameIndex := 53, descriptorIndex := 25, attributes := #[] }, { accessFlags := 25, nameIndex := 24, descriptorIndex := 25, attributes := #[] }, { accessFlags := 25, nameIndex := 162, descriptorIndex := 25, attributes := #[] }, { accessFlags := 25, nameIndex := 187, descriptorIndex := 25, attributes := #[] }, { accessFlags := 26, nameIndex := 48, descriptorIndex := 25, attributes := #[] }, { accessFlags := 25, nameIndex := 277, descriptorIndex := 25, attributes := #[] }, { accessFlags := 25, nameIndex := 280, descriptorIndex := 25, attributes := #[] }, { accessFlags := 25, nameIndex := 282, descriptorIndex := 25, attributes := #[] }, { accessFlags := 25, nameIndex := 284, descriptorIndex := 25, attributes := #[] }, { accessFlags := 25, nameIndex := 286, descriptorIndex := 25, attributes := #[] }, { accessFlags := 25, nameIndex := 288, descriptorIndex := 25, attributes := #[] }, { accessFlags := 25, nameIndex := 290, descriptorIndex := 25, attributes := #[] }, { accessFlags := 25, nameIndex := 292, descriptorIndex := 25, attributes := #[] }, { accessFlags := 26, nameIndex := 108, descriptorIndex := 109, attributes := #[] }, { accessFlags := 25, nameIndex := 294, descriptorIndex := 25, attributes := #[] }])
  fields := #[{ name := "U", type := (.object "jdk/internal/misc/Unsafe"), accessFlags := 24, slot := 0, constantValue := 0 }, { name := "BIG_ENDIAN", type := .boolean, accessFlags := 26, slot := 1, constantValue := 0 }, { name := "LOG2_ARRAY_BOOLEAN_INDEX_SCALE", type := .int, accessFlags := 25, slot := 2, constantValue := 0 }, { name := "LOG2_ARRAY_BYTE_INDEX_SCALE", type := .int, accessFlags := 25, slot := 3, constantValue := 0 }, { name := "LOG2_ARRAY_CHAR_INDEX_SCALE", type := .int, accessFlags := 25, slot := 4, constantValue := 0 }, { name := "LOG2_ARRAY_SHORT_INDEX_SCALE", type := .int, accessFlags := 25, slot := 5, constantValue := 0 }, { name := "LOG2_ARRAY_INT_INDEX_SCALE", type := .int, accessFlags := 25, slot := 6, constantValue := 0 }, { name := "LOG2_ARRAY_LONG_INDEX_SCALE", type := .int, accessFlags := 25, slot := 7, constantValue := 0 }, { name := "LOG2_ARRAY_FLOAT_INDEX_SCALE", type := .int, accessFlags := 25, slot := 8, constantValue := 0 }, { name := "LOG2_ARRAY_DOUBLE_INDEX_SCALE", type := .int, accessFlags := 25, slot := 9, constantValue := 0 }, { name := "LOG2_BYTE_BIT_SIZE", type := .int, accessFlags := 26, slot := 10, constantValue := 0 }, { name := "T_BOOLEAN", type := .int, accessFlags := 25, slot := 11, constantValue := 0 }, { name := "T_CHAR", type := .int, accessFlags := 25, slot := 12, constantValue := 0 }, { name := "T_FLOAT", type := .int, accessFlags := 25, slot := 13, constantValue := 0 }, { name := "T_DOUBLE", type := .int, accessFlags := 25, slot := 14, constantValue := 0 }, { name := "T_BYTE", type := .int, accessFlags := 25, slot := 15, constantValue := 0 }, { name := "T_SHORT", type := .int, accessFlags := 25, slot := 16, constantValue := 0 }, { name := "T_INT", type := .int, accessFlags := 25, slot := 17, constantValue := 0 }, { name := "T_LONG", type := .int, accessFlags := 25, slot := 18, constantValue := 0 }, { name := "JLA", type := (.object "jdk/internal/access/JavaLangAccess"), accessFlags := 26, slot := 19, constantValue := 0 }, { name := "SOFT_MAX_ARRAY_LENGTH", type := .int, accessFlags := 25, slot := 20, constantValue := 0 }]
  methods := #[k18m0]
  instanceTypes := #[]
  staticTypes := #[(.object "jdk/internal/misc/Unsafe"), .boolean, .int, .int, .int, .int, .int, .int, .int, .int, .int, .int, .int, .int, .int, .int, .int, .int, .int, (.object "jdk/internal/access/JavaLangAccess"), .int]
  resolved := Array.replicate 378 none
  statics := none }

def pool19 : Array CpInfo := pool [(1, u "java/lang/Cloneable"), (0, .class_ 1), (0, u "java/lang/Object"), (0, .class_ 3)] 3

/-- java/lang/Cloneable -/
def k19 : Class := { plain "java/lang/Cloneable" (some 0) with
  accessFlags := 1537
  interfaces := #[]
  cf := some (fileOf pool19 2 #[] #[] 1537 4 #[] #[])
  fields := #[]
  methods := #[]
  instanceTypes := #[]
  staticTypes := #[]
  resolved := Array.replicate 8 none
  statics := none }

/-- the primitive byte -/
def k20 : Class := { plain "byte" none with kind := .primitive 'B', accessFlags := 0x411 }
/-- [B -/
def k21 : Class := { plain "[B" (some 0) with kind := .array 20 .byte, interfaces := #[19, 2], accessFlags := 1041 }

/-- the primitive char -/
def k22 : Class := { plain "char" none with kind := .primitive 'C', accessFlags := 0x411 }
/-- [C -/
def k23 : Class := { plain "[C" (some 0) with kind := .array 22 .char, interfaces := #[19, 2], accessFlags := 1041 }

/-- the primitive int -/
def k24 : Class := { plain "int" none with kind := .primitive 'I', accessFlags := 0x411 }
/-- [I -/
def k25 : Class := { plain "[I" (some 0) with kind := .array 24 .int, interfaces := #[19, 2], accessFlags := 1041 }

def heap : Heap := #[{ cls := 7, slots := #[.long 0, .int 1, .null, .int 0, .null, .int 0, .int 0], vm := .statics 7 },
  { cls := 8, slots := #[.int 0, .int 8, .int 0, .int 1], vm := .statics 8 },
  { cls := 12, slots := #[.ref 6, .null, .null], vm := .statics 12 },
  { cls := 13, slots := #[.ref 7], vm := .statics 13 },
  { cls := 14, slots := #[.null, .null, .null, .null, .null, .null, .null, .ref 9, .ref 8, .null, .null, .null], vm := .statics 14 },
  { cls := 16, slots := #[.null, .null, .null], vm := .statics 16 },
  { cls := 12, slots := #[.null, .int 0, .int 0], vm := .none },
  { cls := 13, slots := #[.long 0, .null, .null], vm := .none },
  { cls := 14, slots := #[.null, .int 8, .int 0, .null], vm := .none },
  { cls := 14, slots := #[.null, .int 7, .int 0, .null], vm := .none }]
def classes : Array Class := #[k0, k1, k2, k3, k4, k5, k6, k7, k8, k9, k10, k11, k12, k13, k14, k15, k16, k17, k18, k19, k20, k21, k22, k23, k24, k25]
def interned : List (Array UInt16 × Addr) := []
def slotsUsed : Nat := 44
def theMethod : MethodId := ⟨1, 3⟩
def args0 : Array Value := #[.int 3, .int 4, .int 5, .int 6, .int 7]
def aboutOver (below : List Frame) : State where
  vm := { classes := classes, interned := interned.toArray }
  heap := heap
  slotsUsed := slotsUsed
  threads := #[{ frames := .invoking theMethod args0 :: below }]
def below0 : List Frame := [.native { method := ⟨0, 0⟩, args := #[] }]
def about1 : State := aboutOver below0
def p0 : Program := .bare "" "" ""
def e0 : Env := launch0.env 0 0 0
theorem w_frames : about1.frames = Frame.invoking theMethod args0 :: below0 := rfl
set_option maxRecDepth 65536 in
theorem w_args : argsFit about1.vm theMethod args0 = true := by decide +kernel
set_option maxRecDepth 65536 in
theorem w_heap : heapFits about1 = true := by decide +kernel
set_option maxRecDepth 65536 in
theorem w_runnable : about1.curStatus? = some .runnable := by decide +kernel
set_option maxRecDepth 65536 in
theorem w_alone : about1.alone = true := by decide +kernel
set_option maxRecDepth 65536 in
theorem w_named : about1.methodNamed? x = some theMethod := by decide +kernel
set_option maxRecDepth 65536 in
theorem w_hears : about1.hears theMethod below0 = true := by decide +kernel
set_option maxRecDepth 65536 in
theorem w_ripe : about1.ripe theMethod args0 below0 = true := by decide +kernel
theorem w_running : about1.status = .running := rfl
set_option maxRecDepth 65536 in
theorem w_room : about1.hasRoom e0.platform room_1 = true :=
  launch0.hasRoom_least _ room_1 (by decide +kernel) (by decide +kernel) (by decide +kernel) (by decide +kernel) (by decide +kernel) (by decide +kernel)
theorem allAtoms_all (ts : List Jvm.Cond) (a : Array Jvm.Value) (st : Jvm.State) : (allAtoms ts).before a st = ts.all (fun c => c.before a st) := by
  induction ts with
  | nil => rfl
  | cons c t ih =>
    show (Jvm.Cond.and c (allAtoms t)).before a st = _
    rw [Jvm.Cond.before_and, ih, List.all_cons]
def words1 : List Jvm.Cond := Jvm.Cond.code x code maxLocals ret :: tables_1
/-- a 'code' word, met by the world's own term for the bytes: nothing is compared byte by byte -/
theorem code_word {y : MethodName} {bytes : ByteArray} {mx : Nat} {rt : Option FieldType} {a : Array Value} {s : State} {m : MethodId} {meth : Method} {c : Code} (h1 : s.methodNamed? y = some m) (h2 : s.vm.method? m = some meth) (h3 : meth.code = some c) (h4 : c.code = bytes)
    (h5 : (c.maxLocals == mx && c.exceptionTable.isEmpty && decide (c.maxStack ≤ mostOperands) && decide (meth.sig.returnType = rt) && !meth.locks && decide (parseMethodDescriptor y.desc = some meth.sig)) = true) : (Jvm.Cond.code y bytes mx rt).before a s = true := by
  simp only [Bool.and_eq_true, beq_iff_eq, Bool.not_eq_true', decide_eq_true_eq] at h5
  obtain ⟨⟨⟨⟨⟨g1, g2⟩, g3⟩, g4⟩, g5⟩, g6⟩ := h5
  simp [Cond.before, Cond.holds, Cond.value, h1, h2, h3, h4, g1, g2, g3, g4, g5, g6]
def isCode : Jvm.Cond → Bool
  | .code _ _ _ _ => true
  | _ => false
theorem all_split {L : List Jvm.Cond} {P : Jvm.Cond → Bool} (h1 : L.all (fun c => isCode c || P c) = true) (h2 : ∀ c ∈ L.filter isCode, P c = true) : L.all P = true := by
  refine List.all_eq_true.mpr fun c hc => ?_
  have h := List.all_eq_true.mp h1 c hc
  rcases Bool.eq_false_or_eq_true (isCode c) with hi | hi
  · exact h2 c (List.mem_filter.mpr ⟨hc, hi⟩)
  · simpa [hi] using h
set_option maxRecDepth 65536 in
theorem w_c0 : (Jvm.Cond.code x code maxLocals ret).before args0 about1 = true := code_word (m := ⟨1, 3⟩) (meth := k1m3) (c := k1c3) (by decide +kernel) rfl rfl rfl (by decide +kernel)
set_option maxRecDepth 65536 in
theorem w_c1 : (Jvm.Cond.code ({ cls := "java/lang/String", name := "<init>", desc := "([C)V" } : Jvm.MethodName) jdk_42_method_3_code (2 : Nat) (Option.none : Option Jvm.ClassFile.FieldType)).before args0 about1 = true := code_word (m := ⟨7, 1⟩) (meth := k7m1) (c := k7c1) (by decide +kernel) rfl rfl rfl (by decide +kernel)
set_option maxRecDepth 65536 in
theorem w_c2 : (Jvm.Cond.code ({ cls := "java/lang/String", name := "<init>", desc := "([CIILjava/lang/Void;)V" } : Jvm.MethodName) jdk_42_method_149_code (6 : Nat) (Option.none : Option Jvm.ClassFile.FieldType)).before args0 about1 = true := code_word (m := ⟨7, 4⟩) (meth := k7m4) (c := k7c4) (by decide +kernel) rfl rfl rfl (by decide +kernel)
set_option maxRecDepth 65536 in
theorem w_c3 : (Jvm.Cond.code ({ cls := "java/lang/Object", name := "<init>", desc := "()V" } : Jvm.MethodName) object_method_1_code (1 : Nat) (Option.none : Option Jvm.ClassFile.FieldType)).before args0 about1 = true := code_word (m := ⟨0, 0⟩) (meth := k0m0) (c := k0c0) (by decide +kernel) rfl rfl rfl (by decide +kernel)
set_option maxRecDepth 65536 in
theorem w_c4 : (Jvm.Cond.code ({ cls := "java/lang/StringUTF16", name := "compress", desc := "([CII)[B" } : Jvm.MethodName) jdk_52_method_16_code (6 : Nat) (Option.some (Jvm.ClassFile.FieldType.array Jvm.ClassFile.FieldType.byte))).before args0 about1 = true := code_word (m := ⟨8, 8⟩) (meth := k8m8) (c := k8c8) (by decide +kernel) rfl rfl rfl (by decide +kernel)
set_option maxRecDepth 65536 in
theorem w_c5 : (Jvm.Cond.code ({ cls := "java/lang/StringUTF16", name := "compress", desc := "([CI[BII)I" } : Jvm.MethodName) jdk_52_method_21_code (7 : Nat) (Option.some Jvm.ClassFile.FieldType.int)).before args0 about1 = true := code_word (m := ⟨8, 9⟩) (meth := k8m9) (c := k8c9) (by decide +kernel) rfl rfl rfl (by decide +kernel)
set_option maxRecDepth 65536 in
theorem w_c6 : (Jvm.Cond.code ({ cls := "java/lang/StringUTF16", name := "coderFromArrayLen", desc := "([BI)B" } : Jvm.MethodName) jdk_52_method_15_code (2 : Nat) (Option.some Jvm.ClassFile.FieldType.byte)).before args0 about1 = true := code_word (m := ⟨8, 7⟩) (meth := k8m7) (c := k8c7) (by decide +kernel) rfl rfl rfl (by decide +kernel)
set_option maxRecDepth 65536 in
theorem w_c7 : (Jvm.Cond.code ({ cls := "com/example/carmenta/carmenta/CharReader", name := "<init>", desc := "(Ljava/lang/CharSequence;)V" } : Jvm.MethodName) prog_6_method_1_code (2 : Nat) (Option.none : Option Jvm.ClassFile.FieldType)).before args0 about1 = true := code_word (m := ⟨10, 0⟩) (meth := k10m0) (c := k10c0) (by decide +kernel) rfl rfl rfl (by decide +kernel)
set_option maxRecDepth 65536 in
theorem w_c8 : (Jvm.Cond.code ({ cls := "com/example/carmenta/carmenta/ScalarReader", name := "<init>", desc := "()V" } : Jvm.MethodName) prog_24_method_1_code (1 : Nat) (Option.none : Option Jvm.ClassFile.FieldType)).before args0 about1 = true := code_word (m := ⟨9, 0⟩) (meth := k9m0) (c := k9c0) (by decide +kernel) rfl rfl rfl (by decide +kernel)
set_option maxRecDepth 65536 in
theorem w_c9 : (Jvm.Cond.code ({ cls := "com/example/carmenta/carmenta/Validation", name := "wellFormed", desc := "()Lcom/example/carmenta/carmenta/Validation;" } : Jvm.MethodName) prog_34_method_2_code (0 : Nat) (Option.some (Jvm.ClassFile.FieldType.object "com/example/carmenta/carmenta/Validation"))).before args0 about1 = true := code_word (m := ⟨13, 1⟩) (meth := k13m1) (c := k13c1) (by decide +kernel) rfl rfl rfl (by decide +kernel)
set_option maxRecDepth 65536 in
theorem w_c10 : (Jvm.Cond.code ({ cls := "com/example/carmenta/carmenta/CharReader", name := "advance", desc := "(I)V" } : Jvm.MethodName) prog_6_method_5_code (2 : Nat) (Option.none : Option Jvm.ClassFile.FieldType)).before args0 about1 = true := code_word (m := ⟨10, 4⟩) (meth := k10m4) (c := k10c4) (by decide +kernel) rfl rfl rfl (by decide +kernel)
set_option maxRecDepth 65536 in
theorem w_c11 : (Jvm.Cond.code ({ cls := "com/example/carmenta/carmenta/CharReader", name := "readOn", desc := "(Ljava/lang/CharSequence;Z)V" } : Jvm.MethodName) prog_6_method_2_code (3 : Nat) (Option.none : Option Jvm.ClassFile.FieldType)).before args0 about1 = true := code_word (m := ⟨10, 1⟩) (meth := k10m1) (c := k10c1) (by decide +kernel) rfl rfl rfl (by decide +kernel)
set_option maxRecDepth 65536 in
theorem w_c12 : (Jvm.Cond.code ({ cls := "com/example/carmenta/carmenta/CharReader", name := "failure", desc := "(Lcom/example/carmenta/carmenta/Fault;)Lcom/example/carmenta/carmenta/Validation;" } : Jvm.MethodName) prog_6_method_6_code (2 : Nat) (Option.some (Jvm.ClassFile.FieldType.object "com/example/carmenta/carmenta/Validation"))).before args0 about1 = true := code_word (m := ⟨10, 5⟩) (meth := k10m5) (c := k10c5) (by decide +kernel) rfl rfl rfl (by decide +kernel)
set_option maxRecDepth 65536 in
theorem w_c13 : (Jvm.Cond.code ({ cls := "com/example/carmenta/carmenta/Validation", name := "illFormedAtChar", desc := "(JLcom/example/carmenta/carmenta/Fault;)Lcom/example/carmenta/carmenta/Validation;" } : Jvm.MethodName) prog_34_method_4_code (3 : Nat) (Option.some (Jvm.ClassFile.FieldType.object "com/example/carmenta/carmenta/Validation"))).before args0 about1 = true := code_word (m := ⟨13, 2⟩) (meth := k13m2) (c := k13c2) (by decide +kernel) rfl rfl rfl (by decide +kernel)
set_option maxRecDepth 65536 in
theorem w_c14 : (Jvm.Cond.code ({ cls := "com/example/carmenta/carmenta/Validation", name := "<init>", desc := "(JLcom/example/carmenta/carmenta/Fault;Ljava/lang/String;)V" } : Jvm.MethodName) prog_34_method_1_code (5 : Nat) (Option.none : Option Jvm.ClassFile.FieldType)).before args0 about1 = true := code_word (m := ⟨13, 0⟩) (meth := k13m0) (c := k13c0) (by decide +kernel) rfl rfl rfl (by decide +kernel)
set_option maxRecDepth 65536 in
theorem w_c15 : (Jvm.Cond.code ({ cls := "com/example/carmenta/carmenta/Validation", name := "offset", desc := "()J" } : Jvm.MethodName) prog_34_method_6_code (1 : Nat) (Option.some Jvm.ClassFile.FieldType.long)).before args0 about1 = true := code_word (m := ⟨13, 4⟩) (meth := k13m4) (c := k13c4) (by decide +kernel) rfl rfl rfl (by decide +kernel)
set_option maxRecDepth 65536 in
theorem w_c16 : (Jvm.Cond.code ({ cls := "com/example/carmenta/carmenta/Validation", name := "requireIllFormed", desc := "()V" } : Jvm.MethodName) prog_34_method_9_code (1 : Nat) (Option.none : Option Jvm.ClassFile.FieldType)).before args0 about1 = true := code_word (m := ⟨13, 5⟩) (meth := k13m5) (c := k13c5) (by decide +kernel) rfl rfl rfl (by decide +kernel)
set_option maxRecDepth 65536 in
theorem w_c17 : (Jvm.Cond.code ({ cls := "com/example/carmenta/carmenta/Validation", name := "isWellFormed", desc := "()Z" } : Jvm.MethodName) prog_34_method_5_code (1 : Nat) (Option.some Jvm.ClassFile.FieldType.boolean)).before args0 about1 = true := code_word (m := ⟨13, 3⟩) (meth := k13m3) (c := k13c3) (by decide +kernel) rfl rfl rfl (by decide +kernel)
set_option maxRecDepth 65536 in
theorem w_c18 : (Jvm.Cond.code ({ cls := "com/example/carmenta/carmenta/CharReader", name := "decode", desc := "()I" } : Jvm.MethodName) prog_6_method_4_code (4 : Nat) (Option.some Jvm.ClassFile.FieldType.int)).before args0 about1 = true := code_word (m := ⟨10, 3⟩) (meth := k10m3) (c := k10c3) (by decide +kernel) rfl rfl rfl (by decide +kernel)
set_option maxRecDepth 65536 in
theorem w_c19 : (Jvm.Cond.code ({ cls := "java/lang/String", name := "length", desc := "()I" } : Jvm.MethodName) jdk_42_method_54_code (1 : Nat) (Option.some Jvm.ClassFile.FieldType.int)).before args0 about1 = true := code_word (m := ⟨7, 2⟩) (meth := k7m2) (c := k7c2) (by decide +kernel) rfl rfl rfl (by decide +kernel)
set_option maxRecDepth 65536 in
theorem w_c20 : (Jvm.Cond.code ({ cls := "java/lang/String", name := "coder", desc := "()B" } : Jvm.MethodName) jdk_42_method_152_code (1 : Nat) (Option.some Jvm.ClassFile.FieldType.byte)).before args0 about1 = true := code_word (m := ⟨7, 5⟩) (meth := k7m5) (c := k7c5) (by decide +kernel) rfl rfl rfl (by decide +kernel)
set_option maxRecDepth 65536 in
theorem w_c21 : (Jvm.Cond.code ({ cls := "java/lang/String", name := "charAt", desc := "(I)C" } : Jvm.MethodName) jdk_42_method_56_code (2 : Nat) (Option.some Jvm.ClassFile.FieldType.char)).before args0 about1 = true := code_word (m := ⟨7, 3⟩) (meth := k7m3) (c := k7c3) (by decide +kernel) rfl rfl rfl (by decide +kernel)
set_option maxRecDepth 65536 in
theorem w_c22 : (Jvm.Cond.code ({ cls := "java/lang/String", name := "isLatin1", desc := "()Z" } : Jvm.MethodName) jdk_42_method_154_code (1 : Nat) (Option.some Jvm.ClassFile.FieldType.boolean)).before args0 about1 = true := code_word (m := ⟨7, 6⟩) (meth := k7m6) (c := k7c6) (by decide +kernel) rfl rfl rfl (by decide +kernel)
set_option maxRecDepth 65536 in
theorem w_c23 : (Jvm.Cond.code ({ cls := "java/lang/StringLatin1", name := "charAt", desc := "([BI)C" } : Jvm.MethodName) jdk_43_method_2_code (2 : Nat) (Option.some Jvm.ClassFile.FieldType.char)).before args0 about1 = true := code_word (m := ⟨15, 1⟩) (meth := k15m1) (c := k15c1) (by decide +kernel) rfl rfl rfl (by decide +kernel)
set_option maxRecDepth 65536 in
theorem w_c24 : (Jvm.Cond.code ({ cls := "java/lang/String", name := "checkIndex", desc := "(II)V" } : Jvm.MethodName) jdk_42_method_155_code (2 : Nat) (Option.none : Option Jvm.ClassFile.FieldType)).before args0 about1 = true := code_word (m := ⟨7, 7⟩) (meth := k7m7) (c := k7c7) (by decide +kernel) rfl rfl rfl (by decide +kernel)
set_option maxRecDepth 65536 in
theorem w_c25 : (Jvm.Cond.code ({ cls := "jdk/internal/util/Preconditions", name := "checkIndex", desc := "(IILjava/util/function/BiFunction;)I" } : Jvm.MethodName) jdk_41_method_11_code (3 : Nat) (Option.some Jvm.ClassFile.FieldType.int)).before args0 about1 = true := code_word (m := ⟨16, 1⟩) (meth := k16m1) (c := k16c1) (by decide +kernel) rfl rfl rfl (by decide +kernel)
set_option maxRecDepth 65536 in
theorem w_c26 : (Jvm.Cond.code ({ cls := "java/lang/Character", name := "isSurrogate", desc := "(C)Z" } : Jvm.MethodName) jdk_89_method_16_code (1 : Nat) (Option.some Jvm.ClassFile.FieldType.boolean)).before args0 about1 = true := code_word (m := ⟨17, 1⟩) (meth := k17m1) (c := k17c1) (by decide +kernel) rfl rfl rfl (by decide +kernel)
set_option maxRecDepth 65536 in
theorem w_c27 : (Jvm.Cond.code ({ cls := "com/example/carmenta/carmenta/CharReaderReadOnPinLaw", name := "isHigh", desc := "(I)Z" } : Jvm.MethodName) method_2_code (1 : Nat) (Option.some Jvm.ClassFile.FieldType.boolean)).before args0 about1 = true := code_word (m := ⟨1, 1⟩) (meth := k1m1) (c := k1c1) (by decide +kernel) rfl rfl rfl (by decide +kernel)
set_option maxRecDepth 65536 in
theorem w_c28 : (Jvm.Cond.code ({ cls := "com/example/carmenta/carmenta/CharReaderReadOnPinLaw", name := "isLow", desc := "(I)Z" } : Jvm.MethodName) method_3_code (1 : Nat) (Option.some Jvm.ClassFile.FieldType.boolean)).before args0 about1 = true := code_word (m := ⟨1, 2⟩) (meth := k1m2) (c := k1c2) (by decide +kernel) rfl rfl rfl (by decide +kernel)
set_option maxRecDepth 65536 in
theorem w_c29 : (Jvm.Cond.code ({ cls := "com/example/carmenta/carmenta/CharReader", name := "unread", desc := "()I" } : Jvm.MethodName) prog_6_method_3_code (1 : Nat) (Option.some Jvm.ClassFile.FieldType.int)).before args0 about1 = true := code_word (m := ⟨10, 2⟩) (meth := k10m2) (c := k10c2) (by decide +kernel) rfl rfl rfl (by decide +kernel)
set_option maxRecDepth 65536 in
theorem w_c30 : (Jvm.Cond.code ({ cls := "java/lang/StringUTF16", name := "toBytes", desc := "([CII)[B" } : Jvm.MethodName) jdk_52_method_14_code (5 : Nat) (Option.some (Jvm.ClassFile.FieldType.array Jvm.ClassFile.FieldType.byte))).before args0 about1 = true := code_word (m := ⟨8, 6⟩) (meth := k8m6) (c := k8c6) (by decide +kernel) rfl rfl rfl (by decide +kernel)
set_option maxRecDepth 65536 in
theorem w_c31 : (Jvm.Cond.code ({ cls := "java/lang/StringUTF16", name := "newBytesFor", desc := "(I)[B" } : Jvm.MethodName) jdk_52_method_2_code (1 : Nat) (Option.some (Jvm.ClassFile.FieldType.array Jvm.ClassFile.FieldType.byte))).before args0 about1 = true := code_word (m := ⟨8, 1⟩) (meth := k8m1) (c := k8c1) (by decide +kernel) rfl rfl rfl (by decide +kernel)
set_option maxRecDepth 65536 in
theorem w_c32 : (Jvm.Cond.code ({ cls := "java/lang/StringUTF16", name := "newBytesLength", desc := "(I)I" } : Jvm.MethodName) jdk_52_method_3_code (1 : Nat) (Option.some Jvm.ClassFile.FieldType.int)).before args0 about1 = true := code_word (m := ⟨8, 2⟩) (meth := k8m2) (c := k8c2) (by decide +kernel) rfl rfl rfl (by decide +kernel)
set_option maxRecDepth 65536 in
theorem w_c33 : (Jvm.Cond.code ({ cls := "java/lang/StringUTF16", name := "putChar", desc := "([BII)V" } : Jvm.MethodName) jdk_52_method_4_code (3 : Nat) (Option.none : Option Jvm.ClassFile.FieldType)).before args0 about1 = true := code_word (m := ⟨8, 3⟩) (meth := k8m3) (c := k8c3) (by decide +kernel) rfl rfl rfl (by decide +kernel)
set_option maxRecDepth 65536 in
theorem w_c34 : (Jvm.Cond.code ({ cls := "java/lang/StringUTF16", name := "getChar", desc := "([BI)C" } : Jvm.MethodName) jdk_52_method_5_code (2 : Nat) (Option.some Jvm.ClassFile.FieldType.char)).before args0 about1 = true := code_word (m := ⟨8, 4⟩) (meth := k8m4) (c := k8c4) (by decide +kernel) rfl rfl rfl (by decide +kernel)
set_option maxRecDepth 65536 in
theorem w_c35 : (Jvm.Cond.code ({ cls := "java/lang/StringUTF16", name := "charAt", desc := "([BI)C" } : Jvm.MethodName) jdk_52_method_83_code (2 : Nat) (Option.some Jvm.ClassFile.FieldType.char)).before args0 about1 = true := code_word (m := ⟨8, 10⟩) (meth := k8m10) (c := k8c10) (by decide +kernel) rfl rfl rfl (by decide +kernel)
set_option maxRecDepth 65536 in
theorem w_c36 : (Jvm.Cond.code ({ cls := "java/lang/StringUTF16", name := "checkIndex", desc := "(I[B)V" } : Jvm.MethodName) jdk_52_method_91_code (2 : Nat) (Option.none : Option Jvm.ClassFile.FieldType)).before args0 about1 = true := code_word (m := ⟨8, 11⟩) (meth := k8m11) (c := k8c11) (by decide +kernel) rfl rfl rfl (by decide +kernel)
set_option maxRecDepth 65536 in
theorem w_c37 : (Jvm.Cond.code ({ cls := "java/lang/StringUTF16", name := "length", desc := "([B)I" } : Jvm.MethodName) jdk_52_method_6_code (1 : Nat) (Option.some Jvm.ClassFile.FieldType.int)).before args0 about1 = true := code_word (m := ⟨8, 5⟩) (meth := k8m5) (c := k8c5) (by decide +kernel) rfl rfl rfl (by decide +kernel)
set_option maxRecDepth 65536 in
theorem w_c38 : (Jvm.Cond.code ({ cls := "java/lang/Character", name := "isLowSurrogate", desc := "(C)Z" } : Jvm.MethodName) jdk_89_method_15_code (1 : Nat) (Option.some Jvm.ClassFile.FieldType.boolean)).before args0 about1 = true := code_word (m := ⟨17, 0⟩) (meth := k17m0) (c := k17c0) (by decide +kernel) rfl rfl rfl (by decide +kernel)
set_option maxRecDepth 65536 in
theorem w_c39 : (Jvm.Cond.code ({ cls := "com/example/carmenta/carmenta/ScalarReader", name := "fail", desc := "(Lcom/example/carmenta/carmenta/Fault;I)I" } : Jvm.MethodName) prog_24_method_19_code (3 : Nat) (Option.some Jvm.ClassFile.FieldType.int)).before args0 about1 = true := code_word (m := ⟨9, 1⟩) (meth := k9m1) (c := k9c1) (by decide +kernel) rfl rfl rfl (by decide +kernel)
set_option maxRecDepth 65536 in
theorem w_c40 : (Jvm.Cond.code ({ cls := "java/lang/Character", name := "toCodePoint", desc := "(CC)I" } : Jvm.MethodName) jdk_89_method_19_code (2 : Nat) (Option.some Jvm.ClassFile.FieldType.int)).before args0 about1 = true := code_word (m := ⟨17, 2⟩) (meth := k17m2) (c := k17c2) (by decide +kernel) rfl rfl rfl (by decide +kernel)
def codes1 : List Jvm.Cond := [Jvm.Cond.code x code maxLocals ret, Jvm.Cond.code ({ cls := "java/lang/String", name := "<init>", desc := "([C)V" } : Jvm.MethodName) jdk_42_method_3_code (2 : Nat) (Option.none : Option Jvm.ClassFile.FieldType), Jvm.Cond.code ({ cls := "java/lang/String", name := "<init>", desc := "([CIILjava/lang/Void;)V" } : Jvm.MethodName) jdk_42_method_149_code (6 : Nat) (Option.none : Option Jvm.ClassFile.FieldType), Jvm.Cond.code ({ cls := "java/lang/Object", name := "<init>", desc := "()V" } : Jvm.MethodName) object_method_1_code (1 : Nat) (Option.none : Option Jvm.ClassFile.FieldType), Jvm.Cond.code ({ cls := "java/lang/StringUTF16", name := "compress", desc := "([CII)[B" } : Jvm.MethodName) jdk_52_method_16_code (6 : Nat) (Option.some (Jvm.ClassFile.FieldType.array Jvm.ClassFile.FieldType.byte)), Jvm.Cond.code ({ cls := "java/lang/StringUTF16", name := "compress", desc := "([CI[BII)I" } : Jvm.MethodName) jdk_52_method_21_code (7 : Nat) (Option.some Jvm.ClassFile.FieldType.int), Jvm.Cond.code ({ cls := "java/lang/StringUTF16", name := "coderFromArrayLen", desc := "([BI)B" } : Jvm.MethodName) jdk_52_method_15_code (2 : Nat) (Option.some Jvm.ClassFile.FieldType.byte), Jvm.Cond.code ({ cls := "com/example/carmenta/carmenta/CharReader", name := "<init>", desc := "(Ljava/lang/CharSequence;)V" } : Jvm.MethodName) prog_6_method_1_code (2 : Nat) (Option.none : Option Jvm.ClassFile.FieldType), Jvm.Cond.code ({ cls := "com/example/carmenta/carmenta/ScalarReader", name := "<init>", desc := "()V" } : Jvm.MethodName) prog_24_method_1_code (1 : Nat) (Option.none : Option Jvm.ClassFile.FieldType), Jvm.Cond.code ({ cls := "com/example/carmenta/carmenta/Validation", name := "wellFormed", desc := "()Lcom/example/carmenta/carmenta/Validation;" } : Jvm.MethodName) prog_34_method_2_code (0 : Nat) (Option.some (Jvm.ClassFile.FieldType.object "com/example/carmenta/carmenta/Validation")), Jvm.Cond.code ({ cls := "com/example/carmenta/carmenta/CharReader", name := "advance", desc := "(I)V" } : Jvm.MethodName) prog_6_method_5_code (2 : Nat) (Option.none : Option Jvm.ClassFile.FieldType), Jvm.Cond.code ({ cls := "com/example/carmenta/carmenta/CharReader", name := "readOn", desc := "(Ljava/lang/CharSequence;Z)V" } : Jvm.MethodName) prog_6_method_2_code (3 : Nat) (Option.none : Option Jvm.ClassFile.FieldType), Jvm.Cond.code ({ cls := "com/example/carmenta/carmenta/CharReader", name := "failure", desc := "(Lcom/example/carmenta/carmenta/Fault;)Lcom/example/carmenta/carmenta/Validation;" } : Jvm.MethodName) prog_6_method_6_code (2 : Nat) (Option.some (Jvm.ClassFile.FieldType.object "com/example/carmenta/carmenta/Validation")), Jvm.Cond.code ({ cls := "com/example/carmenta/carmenta/Validation", name := "illFormedAtChar", desc := "(JLcom/example/carmenta/carmenta/Fault;)Lcom/example/carmenta/carmenta/Validation;" } : Jvm.MethodName) prog_34_method_4_code (3 : Nat) (Option.some (Jvm.ClassFile.FieldType.object "com/example/carmenta/carmenta/Validation")), Jvm.Cond.code ({ cls := "com/example/carmenta/carmenta/Validation", name := "<init>", desc := "(JLcom/example/carmenta/carmenta/Fault;Ljava/lang/String;)V" } : Jvm.MethodName) prog_34_method_1_code (5 : Nat) (Option.none : Option Jvm.ClassFile.FieldType), Jvm.Cond.code ({ cls := "com/example/carmenta/carmenta/Validation", name := "offset", desc := "()J" } : Jvm.MethodName) prog_34_method_6_code (1 : Nat) (Option.some Jvm.ClassFile.FieldType.long), Jvm.Cond.code ({ cls := "com/example/carmenta/carmenta/Validation", name := "requireIllFormed", desc := "()V" } : Jvm.MethodName) prog_34_method_9_code (1 : Nat) (Option.none : Option Jvm.ClassFile.FieldType), Jvm.Cond.code ({ cls := "com/example/carmenta/carmenta/Validation", name := "isWellFormed", desc := "()Z" } : Jvm.MethodName) prog_34_method_5_code (1 : Nat) (Option.some Jvm.ClassFile.FieldType.boolean), Jvm.Cond.code ({ cls := "com/example/carmenta/carmenta/CharReader", name := "decode", desc := "()I" } : Jvm.MethodName) prog_6_method_4_code (4 : Nat) (Option.some Jvm.ClassFile.FieldType.int), Jvm.Cond.code ({ cls := "java/lang/String", name := "length", desc := "()I" } : Jvm.MethodName) jdk_42_method_54_code (1 : Nat) (Option.some Jvm.ClassFile.FieldType.int), Jvm.Cond.code ({ cls := "java/lang/String", name := "coder", desc := "()B" } : Jvm.MethodName) jdk_42_method_152_code (1 : Nat) (Option.some Jvm.ClassFile.FieldType.byte), Jvm.Cond.code ({ cls := "java/lang/String", name := "charAt", desc := "(I)C" } : Jvm.MethodName) jdk_42_method_56_code (2 : Nat) (Option.some Jvm.ClassFile.FieldType.char), Jvm.Cond.code ({ cls := "java/lang/String", name := "isLatin1", desc := "()Z" } : Jvm.MethodName) jdk_42_method_154_code (1 : Nat) (Option.some Jvm.ClassFile.FieldType.boolean), Jvm.Cond.code ({ cls := "java/lang/StringLatin1", name := "charAt", desc := "([BI)C" } : Jvm.MethodName) jdk_43_method_2_code (2 : Nat) (Option.some Jvm.ClassFile.FieldType.char), Jvm.Cond.code ({ cls := "java/lang/String", name := "checkIndex", desc := "(II)V" } : Jvm.MethodName) jdk_42_method_155_code (2 : Nat) (Option.none : Option Jvm.ClassFile.FieldType), Jvm.Cond.code ({ cls := "jdk/internal/util/Preconditions", name := "checkIndex", desc := "(IILjava/util/function/BiFunction;)I" } : Jvm.MethodName) jdk_41_method_11_code (3 : Nat) (Option.some Jvm.ClassFile.FieldType.int), Jvm.Cond.code ({ cls := "java/lang/Character", name := "isSurrogate", desc := "(C)Z" } : Jvm.MethodName) jdk_89_method_16_code (1 : Nat) (Option.some Jvm.ClassFile.FieldType.boolean), Jvm.Cond.code ({ cls := "com/example/carmenta/carmenta/CharReaderReadOnPinLaw", name := "isHigh", desc := "(I)Z" } : Jvm.MethodName) method_2_code (1 : Nat) (Option.some Jvm.ClassFile.FieldType.boolean), Jvm.Cond.code ({ cls := "com/example/carmenta/carmenta/CharReaderReadOnPinLaw", name := "isLow", desc := "(I)Z" } : Jvm.MethodName) method_3_code (1 : Nat) (Option.some Jvm.ClassFile.FieldType.boolean), Jvm.Cond.code ({ cls := "com/example/carmenta/carmenta/CharReader", name := "unread", desc := "()I" } : Jvm.MethodName) prog_6_method_3_code (1 : Nat) (Option.some Jvm.ClassFile.FieldType.int), Jvm.Cond.code ({ cls := "java/lang/StringUTF16", name := "toBytes", desc := "([CII)[B" } : Jvm.MethodName) jdk_52_method_14_code (5 : Nat) (Option.some (Jvm.ClassFile.FieldType.array Jvm.ClassFile.FieldType.byte)), Jvm.Cond.code ({ cls := "java/lang/StringUTF16", name := "newBytesFor", desc := "(I)[B" } : Jvm.MethodName) jdk_52_method_2_code (1 : Nat) (Option.some (Jvm.ClassFile.FieldType.array Jvm.ClassFile.FieldType.byte)), Jvm.Cond.code ({ cls := "java/lang/StringUTF16", name := "newBytesLength", desc := "(I)I" } : Jvm.MethodName) jdk_52_method_3_code (1 : Nat) (Option.some Jvm.ClassFile.FieldType.int), Jvm.Cond.code ({ cls := "java/lang/StringUTF16", name := "putChar", desc := "([BII)V" } : Jvm.MethodName) jdk_52_method_4_code (3 : Nat) (Option.none : Option Jvm.ClassFile.FieldType), Jvm.Cond.code ({ cls := "java/lang/StringUTF16", name := "getChar", desc := "([BI)C" } : Jvm.MethodName) jdk_52_method_5_code (2 : Nat) (Option.some Jvm.ClassFile.FieldType.char), Jvm.Cond.code ({ cls := "java/lang/StringUTF16", name := "charAt", desc := "([BI)C" } : Jvm.MethodName) jdk_52_method_83_code (2 : Nat) (Option.some Jvm.ClassFile.FieldType.char), Jvm.Cond.code ({ cls := "java/lang/StringUTF16", name := "checkIndex", desc := "(I[B)V" } : Jvm.MethodName) jdk_52_method_91_code (2 : Nat) (Option.none : Option Jvm.ClassFile.FieldType), Jvm.Cond.code ({ cls := "java/lang/StringUTF16", name := "length", desc := "([B)I" } : Jvm.MethodName) jdk_52_method_6_code (1 : Nat) (Option.some Jvm.ClassFile.FieldType.int), Jvm.Cond.code ({ cls := "java/lang/Character", name := "isLowSurrogate", desc := "(C)Z" } : Jvm.MethodName) jdk_89_method_15_code (1 : Nat) (Option.some Jvm.ClassFile.FieldType.boolean), Jvm.Cond.code ({ cls := "com/example/carmenta/carmenta/ScalarReader", name := "fail", desc := "(Lcom/example/carmenta/carmenta/Fault;I)I" } : Jvm.MethodName) prog_24_method_19_code (3 : Nat) (Option.some Jvm.ClassFile.FieldType.int), Jvm.Cond.code ({ cls := "java/lang/Character", name := "toCodePoint", desc := "(CC)I" } : Jvm.MethodName) jdk_89_method_19_code (2 : Nat) (Option.some Jvm.ClassFile.FieldType.int)]
set_option maxRecDepth 65536 in
theorem codes_eq : words1.filter isCode = codes1 := rfl
theorem w_codes : ∀ c ∈ words1.filter isCode, c.before args0 about1 = true := by
  rw [codes_eq]
  intro c hc
  simp only [codes1, List.mem_cons, List.not_mem_nil, or_false] at hc
  rcases hc with rfl | rfl | rfl | rfl | rfl | rfl | rfl | rfl | rfl | rfl | rfl | rfl | rfl | rfl | rfl | rfl | rfl | rfl | rfl | rfl | rfl | rfl | rfl | rfl | rfl | rfl | rfl | rfl | rfl | rfl | rfl | rfl | rfl | rfl | rfl | rfl | rfl | rfl | rfl | rfl | rfl
  · exact w_c0
  · exact w_c1
  · exact w_c2
  · exact w_c3
  · exact w_c4
  · exact w_c5
  · exact w_c6
  · exact w_c7
  · exact w_c8
  · exact w_c9
  · exact w_c10
  · exact w_c11
  · exact w_c12
  · exact w_c13
  · exact w_c14
  · exact w_c15
  · exact w_c16
  · exact w_c17
  · exact w_c18
  · exact w_c19
  · exact w_c20
  · exact w_c21
  · exact w_c22
  · exact w_c23
  · exact w_c24
  · exact w_c25
  · exact w_c26
  · exact w_c27
  · exact w_c28
  · exact w_c29
  · exact w_c30
  · exact w_c31
  · exact w_c32
  · exact w_c33
  · exact w_c34
  · exact w_c35
  · exact w_c36
  · exact w_c37
  · exact w_c38
  · exact w_c39
  · exact w_c40
set_option maxRecDepth 65536 in
theorem w_t1 : (words1.take 24).all (fun c => isCode c || c.before args0 about1) = true := by decide +kernel
set_option maxRecDepth 65536 in
theorem w_t2 : ((words1.drop 24).take 24).all (fun c => isCode c || c.before args0 about1) = true := by decide +kernel
set_option maxRecDepth 65536 in
theorem w_t3 : (((words1.drop 24).drop 24).take 24).all (fun c => isCode c || c.before args0 about1) = true := by decide +kernel
set_option maxRecDepth 65536 in
theorem w_t4 : ((((words1.drop 24).drop 24).drop 24).take 24).all (fun c => isCode c || c.before args0 about1) = true := by decide +kernel
set_option maxRecDepth 65536 in
theorem w_t5 : (((((words1.drop 24).drop 24).drop 24).drop 24).take 24).all (fun c => isCode c || c.before args0 about1) = true := by decide +kernel
set_option maxRecDepth 65536 in
theorem w_t6 : ((((((words1.drop 24).drop 24).drop 24).drop 24).drop 24).take 24).all (fun c => isCode c || c.before args0 about1) = true := by decide +kernel
set_option maxRecDepth 65536 in
theorem w_t7 : (((((((words1.drop 24).drop 24).drop 24).drop 24).drop 24).drop 24).take 24).all (fun c => isCode c || c.before args0 about1) = true := by decide +kernel
set_option maxRecDepth 65536 in
theorem w_t8 : ((((((((words1.drop 24).drop 24).drop 24).drop 24).drop 24).drop 24).drop 24).take 24).all (fun c => isCode c || c.before args0 about1) = true := by decide +kernel
set_option maxRecDepth 65536 in
theorem w_t9 : (((((((((words1.drop 24).drop 24).drop 24).drop 24).drop 24).drop 24).drop 24).drop 24).take 24).all (fun c => isCode c || c.before args0 about1) = true := by decide +kernel
set_option maxRecDepth 65536 in
theorem w_t10 : (((((((((words1.drop 24).drop 24).drop 24).drop 24).drop 24).drop 24).drop 24).drop 24).drop 24).all (fun c => isCode c || c.before args0 about1) = true := by decide +kernel
theorem w_tables : (allAtoms (Jvm.Cond.code x code maxLocals ret :: tables_1)).before args0 about1 = true := by
  rw [allAtoms_all]
  show words1.all (fun c => c.before args0 about1) = true
  refine all_split ?_ w_codes
  rw [← List.take_append_drop 24 words1, List.all_append, w_t1, ← List.take_append_drop 24 (words1.drop 24), List.all_append, w_t2, ← List.take_append_drop 24 ((words1.drop 24).drop 24), List.all_append, w_t3, ← List.take_append_drop 24 (((words1.drop 24).drop 24).drop 24), List.all_append, w_t4, ← List.take_append_drop 24 ((((words1.drop 24).drop 24).drop 24).drop 24), List.all_append, w_t5, ← List.take_append_drop 24 (((((words1.drop 24).drop 24).drop 24).drop 24).drop 24), List.all_append, w_t6, ← List.take_append_drop 24 ((((((words1.drop 24).drop 24).drop 24).drop 24).drop 24).drop 24), List.all_append, w_t7, ← List.take_append_drop 24 (((((((words1.drop 24).drop 24).drop 24).drop 24).drop 24).drop 24).drop 24), List.all_append, w_t8, ← List.take_append_drop 24 ((((((((words1.drop 24).drop 24).drop 24).drop 24).drop 24).drop 24).drop 24).drop 24), List.all_append, w_t9, w_t10]
  rfl
set_option maxRecDepth 65536 in
theorem w_rest : rest_1_c.before args0 about1 = true := by decide +kernel
set_option maxRecDepth 65536 in
theorem w_case : (Jvm.Cond.and given_1 narrow_1).before args0 about1 = true := by decide +kernel
theorem w_applies : (headSpec (Jvm.Cond.code x code maxLocals ret :: tables_1) room_1).applies x e0.platform about1 = true :=
  (Spec.applies_iff w_frames).mpr ⟨w_running, w_runnable, w_alone, w_named, w_hears, w_ripe, w_room, w_tables⟩
theorem atStart : AtStart classFile x code maxLocals ret World_1 tables_1 room_1 Calls_1 rest_1 Pre_1 launch0 p0 e0 about1 theMethod args0 below0 :=
  ⟨lists_1, trivial, launch0.admits_env _ _ _, launch0.least_env, fairChoices_fair.cas, fairChoices_fair.clock, w_frames, w_args, w_heap, w_applies, trivial, w_rest, w_case⟩
end start1
theorem witness_1 : WitnessClaimed_1 := ⟨start1.p0, start1.e0, start1.about1, start1.theMethod, start1.args0, start1.below0, start1.atStart⟩
end Jvm.Pilot.@@N@@
