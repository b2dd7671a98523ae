import JvmDerived
import JvmDerived.Pilot.@@N@@Statement
import JvmDerived.Pilot.@@N@@Code
set_option linter.unusedVariables false
set_option linter.unusedSimpArgs false
namespace Jvm.JW
open Sem ClassFile Op Lib Jvm.Stand Jvm.Free Jvm.LawKit Jvm.RoadKit
/-! The walk in continuation form: D holds of a machine state if the run from it ends as the contract says. -/
def Dn (p : Program) (e : Env) (below : List Frame) (s : State) (Q : Option Value → Heap → List Loc → Prop) (k n : Nat) (S : State) : Prop :=
  ∃ s₂ o, Steps p.tables e below S s₂ ∧ s₂.status = .running ∧ Ended s₂ below o ∧ ∃ v L, o = .returned v ∧ Q v s₂.heap L ∧ FrameEnd s o s₂ L k n
def Adv (p : Program) (e : Env) (below : List Frame) (D : State → Prop) : Prop :=
  ∀ {S S' : State}, (∀ {t : State}, Steps p.tables e below S' t → Steps p.tables e below S t) → D S' → D S
theorem Adv.dn {p : Program} {e : Env} {below : List Frame} {s : State} {Q : Option Value → Heap → List Loc → Prop} {k n : Nat} : Adv p e below (Dn p e below s Q k n) := by
  intro S S' h d
  obtain ⟨s2, o, h1, h2⟩ := d
  exact ⟨s2, o, h h1, h2⟩
theorem Adv.tr {p : Program} {e : Env} {below : List Frame} {D : State → Prop} (A : Adv p e below D) {S S' : State} (h : Steps p.tables e below S S') (d : D S') : D S := A (fun k => h.trans k) d
abbrev JMet (l : Launch) (Z : State) (y : MethodName) (bytes : ByteArray) (maxL : Nat) (ret : Option FieldType) (ws : List Cond) (rm : Room) (as' : Array Value) (h0 : Heap) (Q : Option Value → Heap → List Loc → Prop) : Prop :=
  MetFree l y (head1 (Cond.code y bytes maxL ret :: ws) rm) (fun a U => a = as' ∧ Z.Warmed39 U.vm ∧ U.heap = h0) (fun _ _ _ _ _ => True) (fun _ U o U' => ∃ v L, o = .returned v ∧ Q v U'.heap L ∧ FrameEnd U o U' L rm.cells rm.slots)
/-- a body that returns r and leaves the heap as it was -/
def QP (r : Value) (h0 : Heap) (n0 : Nat) (v : Option Value) (h : Heap) (L : List Loc) : Prop := v = some r ∧ Fr n0 L ∧ h = h0
/-- the law: it returns 1; nothing that stood at the start is written -/
def QL (n0 : Nat) (v : Option Value) (h : Heap) (L : List Loc) : Prop := v = some (.int 1) ∧ Fr n0 L
section Kit
variable {p : Program} {l : Launch} {e : Env} {R : Room} {s : State} {m : MethodId} {args : Array Value} {below : List Frame} {meth : Method} {c : Code} {T : State} {locs : List Loc} {cells slots : Nat} {Z : State} {a0 : Array Value} {h : Heap} {D : State → Prop}
theorem ret (X : Stand p l e R s m args below meth c T locs cells slots) (hlk : meth.locks = false) {Q : Option Value → Heap → List Loc → Prop} {k n : Nat} {S : State} {v : Option Value} (hv : meth.sig.returnType = none → v = none)
    (hst : ∀ fs, (∀ (f : JFrame) (acts : List Action), f.method = m → f.locked = none → f.entered = [] → (doReturn e (T.setTop f) acts v).1 = T.setFrames fs) → Steps p.tables e below S (T.setFrames fs))
    {hh : Heap} (eT : T.heap = hh) (hq : Q v hh locs) (hk : cells ≤ k) (hn : slots ≤ n) : Dn p e below s Q k n S := by
  subst eT
  obtain ⟨fs, hr, hrun, hended, hW, hsame⟩ := X.leave (v := v) hv hlk
  exact ⟨_, _, hst fs hr, hrun, hended, _, _, rfl, hq, ⟨_, rfl⟩, hW, hsame.mono hk hn⟩
theorem body {y : MethodName} {bytes : ByteArray} {maxL : Nat} {rt : Option FieldType} {ws : List Cond} {rm : Room} {as' : Array Value} {h0 : Heap} {Q : Option Value → Heap → List Loc → Prop} (Ls : Array Slot) (hpl : plainFor y = true) (hef : ∀ m, entryFrame m as' maxL = mkF m 0 Ls [])
    (bd : ∀ (p : Program) (e : Env) (s : State) (m : MethodId) (below : List Frame) (meth : Method) (c : Code) (T0 : State) (D : State → Prop), Adv p e below D → (∀ S, Dn p e below s Q rm.cells rm.slots S → D S) → Stand p l e rm s m as' below meth c T0 [] 0 0 → p.tables.exec = Jvm.exec → Z.Warmed39 s.vm → c.code = bytes → c.maxLocals = maxL → s.vm.findClass y.cls = some m.cls → meth.name = y.name → meth.sig.returnType = rt → meth.locks = false → T0.heap = h0 → D (T0.setTop (mkF m 0 Ls []))) :
    JMet l Z y bytes maxL rt ws rm as' h0 Q := by
  refine MetFree.of_bodySF hpl hisR ?_
  intro p e s m args below meth c s₁ Bd hml hP hK
  obtain ⟨rfl, hZ, hh⟩ := hP
  have q := bd p e s m below meth c s₁ (Dn p e below s Q rm.cells rm.slots) Adv.dn (fun _ d => d) (Stand.of_body Bd) Bd.exec hZ Bd.bytes hml (findClass_of_methodNamed Bd.named) (name_of_methodNamed Bd.named Bd.method).1 Bd.returns Bd.notSynchronized (by rw [← hh, Bd.state]; rfl)
  rw [← hef m] at q
  exact q
theorem Adv.callS (A : Adv p e below D) (X : Stand p l e R s m args below meth c T locs cells slots) (hx : p.tables.exec = Jvm.exec) (hZ : Z.Warmed39 s.vm) {own : String} {index : Nat} {y : MethodName} {bytes : ByteArray} {maxL : Nat} {rt : Option FieldType} {rm : Room} {as' : Array Value} {Q : Option Value → Heap → List Loc → Prop}
    (hown : s.vm.findClass own = some m.cls) (w1 : (Cond.methodLink own index y).before a0 Z = true) (w2 : (Cond.static y).before a0 Z = true) (w3 : (Cond.initialized y.cls).before a0 Z = true) (w4 : (Cond.code y bytes maxL rt).before a0 Z = true) (eT : T.heap = h)
    (hM : JMet l Z y bytes maxL rt [] rm as' h Q) (W : Nat) {g : JFrame} (hg : g.method = m) (hsz : g.locals.size = c.maxLocals) (argsL rest : List Value) (has : as' = argsL.toArray)
    (hlen : ∀ sig, parseMethodDescriptor y.desc = some sig → argsL.length = sig.parameters.length) (hstack : g.stack = argsL.reverse ++ rest) (hW : 2 * g.monitorRoom + (rest.map fun v => v.category).sum ≤ W)
    (hd : decode c.code g.pc = .ok (.invokestatic index, 3)) (hy : y.cls ≠ "java/lang/invoke/MethodHandle" ∧ y.cls ≠ "java/lang/invoke/VarHandle") (hf : rm.frames + 1 ≤ R.frames) (hl : W + (maxL + 11) + rm.locals ≤ R.locals) (hc : cells + rm.cells ≤ R.cells) (hs : slots + rm.slots ≤ R.slots)
    (k : ∀ (T' : State) (L' : List Loc) (v : Option Value), Stand p l e R s m args below meth c T' (locs ++ L') (cells + rm.cells) (slots + rm.slots) → Q v T'.heap L' → D (T'.setTop { g with pc := g.pc + 3, stack := v.toList ++ rest })) : D (T.setTop g) := by
  subst has
  obtain ⟨v, _, ⟨T', L, k', n'⟩, -, X', ⟨Lc, hQ, l', y', z'⟩, st⟩ := Jvm.LawKit.callS X hx (y := y) hown (mvT hZ w1) (mvT hZ w2) (mvT hZ w3) (mvT hZ w4) hy (backOf (W := W) hM hZ w4 w3 hf hl) (g := g) hg hsz (argsL := argsL) (rest := rest) hlen hstack hW hd (fun _ _ => ⟨rfl, eT, hc, hs⟩)
  dsimp only [Pt.U, Pt.locs, Pt.cells, Pt.slots] at X' l' y' z' st hQ
  subst l' y' z'
  exact A (fun q => st _ q) (k T' Lc v X' hQ)
theorem Adv.callI (A : Adv p e below D) (X : Stand p l e R s m args below meth c T locs cells slots) (hx : p.tables.exec = Jvm.exec) (hZ : Z.Warmed39 s.vm) {own : String} {index : Nat} {y : MethodName} {bytes : ByteArray} {maxL : Nat} {rm : Room} {as' : Array Value} {Q : Option Value → Heap → List Loc → Prop}
    (hown : s.vm.findClass own = some m.cls) (hi : y.name = "<init>") (w1 : (Cond.methodLink own index y).before a0 Z = true) (w2 : (Cond.instanceMethod y).before a0 Z = true) (w3 : (Cond.initialized y.cls).before a0 Z = true) (w4 : (Cond.code y bytes maxL none).before a0 Z = true) (eT : T.heap = h)
    (hM : JMet l Z y bytes maxL none [] rm as' h Q) (W : Nat) {g : JFrame} (hg : g.method = m) (hsz : g.locals.size = c.maxLocals) (a : Addr) (argsL rest : List Value) (has : as' = (.ref a :: argsL).toArray)
    (hlen : ∀ sig, parseMethodDescriptor y.desc = some sig → argsL.length = sig.parameters.length) (hstack : g.stack = argsL.reverse ++ .ref a :: rest) (hW : 2 * g.monitorRoom + (rest.map fun v => v.category).sum ≤ W)
    (hd : decode c.code g.pc = .ok (.invokespecial index, 3)) (hy : y.cls ≠ "java/lang/invoke/MethodHandle" ∧ y.cls ≠ "java/lang/invoke/VarHandle") (hf : rm.frames + 1 ≤ R.frames) (hl : W + (maxL + 11) + rm.locals ≤ R.locals) (hc : cells + rm.cells ≤ R.cells) (hs : slots + rm.slots ≤ R.slots)
    (k : ∀ (T' : State) (L' : List Loc) (v : Option Value), Stand p l e R s m args below meth c T' (locs ++ L') (cells + rm.cells) (slots + rm.slots) → Q v T'.heap L' → D (T'.setTop { g with pc := g.pc + 3, stack := v.toList ++ rest })) : D (T.setTop g) := by
  subst has
  obtain ⟨v, _, ⟨T', L, k', n'⟩, -, X', ⟨Lc, hQ, l', y', z'⟩, st⟩ := X.specialBack hx (y := y) hi hown (mvT hZ w1) (mvT hZ w2) (mvT hZ w4) hy (backOf (W := W) hM hZ w4 w3 hf hl) (g := g) hg hsz (Steps.refl _) (a := a) (argsL := argsL) (rest := rest) hlen hstack hW hd (fun _ _ => ⟨rfl, eT, hc, hs⟩)
  dsimp only [Pt.U, Pt.locs, Pt.cells, Pt.slots] at X' l' y' z' st hQ
  subst l' y' z'
  exact A.tr st (k T' Lc v X' hQ)
theorem Adv.callV (A : Adv p e below D) (X : Stand p l e R s m args below meth c T locs cells slots) (hx : p.tables.exec = Jvm.exec) (hZ : Z.Warmed39 s.vm) {own C : String} {index : Nat} {y z : MethodName} {bytes : ByteArray} {maxL : Nat} {rt : Option FieldType} {rm : Room} {as' : Array Value} {Q : Option Value → Heap → List Loc → Prop} {a : Addr}
    (hown : s.vm.findClass own = some m.cls) (w1 : (Cond.methodLink own index y).before a0 Z = true) (w2 : (Cond.declares y).before a0 Z = true) (nf : NotFace s y) (w5 : (Cond.selects C y z).before a0 Z = true) (w6 : (Cond.instanceMethod z).before a0 Z = true) (w3 : (Cond.initialized z.cls).before a0 Z = true) (w4 : (Cond.code z bytes maxL rt).before a0 Z = true) (eT : T.heap = h) (E : Exa Z h a C)
    (hM : JMet l Z z bytes maxL rt [] rm as' h Q) (W : Nat) {g : JFrame} (hg : g.method = m) (hsz : g.locals.size = c.maxLocals) (argsL rest : List Value) (has : as' = (.ref a :: argsL).toArray)
    (hlen : ∀ sig, parseMethodDescriptor y.desc = some sig → argsL.length = sig.parameters.length) (hstack : g.stack = argsL.reverse ++ .ref a :: rest) (hW : 2 * g.monitorRoom + (rest.map fun v => v.category).sum ≤ W)
    (hd : decode c.code g.pc = .ok (.invokevirtual index, 3)) (hy : y.cls ≠ "java/lang/invoke/MethodHandle" ∧ y.cls ≠ "java/lang/invoke/VarHandle") (hf : rm.frames + 1 ≤ R.frames) (hl : W + (maxL + 11) + rm.locals ≤ R.locals) (hc : cells + rm.cells ≤ R.cells) (hs : slots + rm.slots ≤ R.slots)
    (k : ∀ (T' : State) (L' : List Loc) (v : Option Value), Stand p l e R s m args below meth c T' (locs ++ L') (cells + rm.cells) (slots + rm.slots) → Q v T'.heap L' → D (T'.setTop { g with pc := g.pc + 3, stack := v.toList ++ rest })) : D (T.setTop g) := by
  subst has
  obtain ⟨cq, kq, qa, qb, qc⟩ := isOf hZ eT E
  obtain ⟨v, _, ⟨T', L, k', n'⟩, -, X', ⟨Lc, hQ, l', y', z'⟩, st⟩ := X.virtualBack hx (y := y) (z := z) hown (mvT hZ w1) (mvT hZ w2) nf (mvT hZ w5) (mvT hZ w6) hy (backOf (W := W) hM hZ w4 w3 hf hl) qa qc (g := g) hg hsz (Steps.refl _) (argsL := argsL) (rest := rest) hlen hstack hW hd (fun _ _ => ⟨rfl, eT, hc, hs⟩)
  dsimp only [Pt.U, Pt.locs, Pt.cells, Pt.slots] at X' l' y' z' st hQ
  subst l' y' z'
  exact A.tr st (k T' Lc v X' hQ)
theorem Adv.callU (A : Adv p e below D) (X : Stand p l e R s m args below meth c T locs cells slots) (hx : p.tables.exec = Jvm.exec) (hZ : Z.Warmed39 s.vm) {own C owner : String} {index : Nat} {y z : MethodName} {bytes : ByteArray} {maxL : Nat} {rt : Option FieldType} {rm : Room} {as' : Array Value} {Q : Option Value → Heap → List Loc → Prop} {a : Addr}
    (hown : s.vm.findClass own = some m.cls) (w1 : (Cond.methodLink own index y).before a0 Z = true) (w7 : (Cond.sameMethod y.cls owner y.name y.desc).before a0 Z = true) (w2 : (Cond.declares ⟨owner, y.name, y.desc⟩).before a0 Z = true) (w5 : (Cond.selects C y z).before a0 Z = true) (w6 : (Cond.instanceMethod z).before a0 Z = true) (w3 : (Cond.initialized z.cls).before a0 Z = true) (w4 : (Cond.code z bytes maxL rt).before a0 Z = true) (eT : T.heap = h) (E : Exa Z h a C)
    (hM : JMet l Z z bytes maxL rt [] rm as' h Q) (W : Nat) {g : JFrame} (hg : g.method = m) (hsz : g.locals.size = c.maxLocals) (argsL rest : List Value) (has : as' = (.ref a :: argsL).toArray)
    (hlen : ∀ sig, parseMethodDescriptor y.desc = some sig → argsL.length = sig.parameters.length) (hstack : g.stack = argsL.reverse ++ .ref a :: rest) (hW : 2 * g.monitorRoom + (rest.map fun v => v.category).sum ≤ W)
    (hd : decode c.code g.pc = .ok (.invokevirtual index, 3)) (hy : owner ≠ "java/lang/invoke/MethodHandle" ∧ owner ≠ "java/lang/invoke/VarHandle") (hf : rm.frames + 1 ≤ R.frames) (hl : W + (maxL + 11) + rm.locals ≤ R.locals) (hc : cells + rm.cells ≤ R.cells) (hs : slots + rm.slots ≤ R.slots)
    (k : ∀ (T' : State) (L' : List Loc) (v : Option Value), Stand p l e R s m args below meth c T' (locs ++ L') (cells + rm.cells) (slots + rm.slots) → Q v T'.heap L' → D (T'.setTop { g with pc := g.pc + 3, stack := v.toList ++ rest })) : D (T.setTop g) := by
  subst has
  obtain ⟨cq, kq, qa, qb, qc⟩ := isOf hZ eT E
  obtain ⟨v, _, ⟨T', L, k', n'⟩, -, X', ⟨Lc, hQ, l', y', z'⟩, st⟩ := X.virtualBackUp hx (x := y) (y := z) (owner := owner) hown (mvT hZ w1) (mvT hZ w7) (mvT hZ w2) hy (mvT hZ w5) (mvT hZ w6) (backOf (W := W) hM hZ w4 w3 hf hl) qa qc (g := g) hg hsz (Steps.refl _) (argsL := argsL) (rest := rest) hlen hstack hW hd (fun _ _ => ⟨rfl, eT, hc, hs⟩)
  dsimp only [Pt.U, Pt.locs, Pt.cells, Pt.slots] at X' l' y' z' st hQ
  subst l' y' z'
  exact A.tr st (k T' Lc v X' hQ)
theorem Adv.callP (A : Adv p e below D) (X : Stand p l e R s m args below meth c T locs cells slots) (hx : p.tables.exec = Jvm.exec) (hZ : Z.Warmed39 s.vm) {own C : String} {index kn : Nat} {y : MethodName} {bytes : ByteArray} {maxL : Nat} {rt : Option FieldType} {rm : Room} {as' : Array Value} {Q : Option Value → Heap → List Loc → Prop} {a : Addr}
    (hown : s.vm.findClass own = some m.cls) (w1 : (Cond.methodLink own index y).before a0 Z = true) (w2 : (Cond.instanceMethod y).before a0 Z = true) (wi : (Cond.instantiable y.cls kn).before a0 Z = true) (w5 : (Cond.privateMethod y).before a0 Z = true) (w3 : (Cond.initialized y.cls).before a0 Z = true) (w4 : (Cond.code y bytes maxL rt).before a0 Z = true) (eT : T.heap = h) (E : Exa Z h a C)
    (hM : JMet l Z y bytes maxL rt [] rm as' h Q) (W : Nat) {g : JFrame} (hg : g.method = m) (hsz : g.locals.size = c.maxLocals) (argsL rest : List Value) (has : as' = (.ref a :: argsL).toArray)
    (hlen : ∀ sig, parseMethodDescriptor y.desc = some sig → argsL.length = sig.parameters.length) (hstack : g.stack = argsL.reverse ++ .ref a :: rest) (hW : 2 * g.monitorRoom + (rest.map fun v => v.category).sum ≤ W)
    (hd : decode c.code g.pc = .ok (.invokevirtual index, 3)) (hy : y.cls ≠ "java/lang/invoke/MethodHandle" ∧ y.cls ≠ "java/lang/invoke/VarHandle") (hf : rm.frames + 1 ≤ R.frames) (hl : W + (maxL + 11) + rm.locals ≤ R.locals) (hc : cells + rm.cells ≤ R.cells) (hs : slots + rm.slots ≤ R.slots)
    (k : ∀ (T' : State) (L' : List Loc) (v : Option Value), Stand p l e R s m args below meth c T' (locs ++ L') (cells + rm.cells) (slots + rm.slots) → Q v T'.heap L' → D (T'.setTop { g with pc := g.pc + 3, stack := v.toList ++ rest })) : D (T.setTop g) := by
  subst has
  obtain ⟨ce, hce, hob⟩ := E.cell
  have hpriv : s.PrivateAt y := Cond.privateMethod_at (mvP hZ w5 (args := #[]))
  have hins : (Cond.instanceMethod y).before args s = true := mvT hZ w2
  have hwi : (Cond.instantiable y.cls kn).before args s = true := mvT hZ wi
  obtain ⟨ck, kk, c1, c2, -, c4, -⟩ := Cond.instantiable_spec hwi
  have hsel := selects_self_of_private c1 c2 (Bool.or_eq_false_iff.mp c4).1 hpriv hins hy
  obtain ⟨v, _, ⟨T', L, k', n'⟩, -, X', ⟨Lc, hQ, l', y', z'⟩, st⟩ := X.privateBack hx (y := y) hown (mvT hZ w1) hins hsel hpriv (mvT hZ w4) hy (backOf (W := W) hM hZ w4 w3 hf hl) (g := g) hg hsz (Steps.refl _) (a := a) (cell := ce) (by rw [eT]; exact hce) hob (argsL := argsL) (rest := rest) hlen hstack hW hd (fun _ _ => ⟨rfl, eT, hc, hs⟩)
  dsimp only [Pt.U, Pt.locs, Pt.cells, Pt.slots] at X' l' y' z' st hQ
  subst l' y' z'
  exact A.tr st (k T' Lc v X' hQ)
end Kit
/-! ### arrays by a function of the place -/
section Arrays
variable {p : Program} {l : Launch} {e : Env} {R : Room} {s : State} {m : MethodId} {args : Array Value} {below : List Frame} {meth : Method} {c : Code} {T : State} {locs : List Loc} {cells slots : Nat} {Z : State} {a0 : Array Value} {h h' : Heap} {D : State → Prop} {a b : Addr} {ty : FieldType} {n : Nat} {f : Nat → Int32} {fJ : Nat → Int64} {sl : Nat} {v : Value} {ws : List Addr}
def ArI (Z : State) (h : Heap) (a : Addr) (ty : FieldType) (n : Nat) (f : Nat → Int32) : Prop :=
  n < 2147483648 ∧ ∃ c : Cell, Arr Z h a c ty ∧ c.slots.size = n ∧ ∀ i, i < n → c.slots[i]? = some (.int (f i))
def ArJ (Z : State) (h : Heap) (a : Addr) (n : Nat) (f : Nat → Int64) : Prop :=
  n < 2147483648 ∧ ∃ c : Cell, Arr Z h a c .long ∧ c.slots.size = n ∧ ∀ i, i < n → c.slots[i]? = some (.long (f i))
theorem ArI.lt (F : ArI Z h a ty n f) : a < h.size := by obtain ⟨-, c, A, -⟩ := F; exact A.lt
theorem ArI.ext (F : ArI Z h a ty n f) (E : Ext h h') : ArI Z h' a ty n f := by obtain ⟨q, c, A, r⟩ := F; exact ⟨q, c, A.ext E, r⟩
theorem ArI.other (F : ArI Z h b ty n f) (W : Wr h h' a sl v) (q : b ≠ a) : ArI Z h' b ty n f := by obtain ⟨z, c, A, r⟩ := F; exact ⟨z, c, A.other W q, r⟩
theorem ArI.keep (F : ArI Z h a ty n f) (K : Keep h h' ws) (q : a ∉ ws) : ArI Z h' a ty n f := by obtain ⟨z, c, A, r⟩ := F; exact ⟨z, c, ⟨K.2.1 a c A.1 q, A.2⟩, r⟩
theorem ArI.eqf {g : Nat → Int32} (F : ArI Z h a ty n f) (q : ∀ i, i < n → f i = g i) : ArI Z h a ty n g := by
  obtain ⟨z, c, A, r, H⟩ := F; exact ⟨z, c, A, r, fun i hi => by rw [← q i hi]; exact H i hi⟩
theorem ArJ.lt (F : ArJ Z h a n fJ) : a < h.size := by obtain ⟨-, c, A, -⟩ := F; exact A.lt
theorem ArJ.ext (F : ArJ Z h a n fJ) (E : Ext h h') : ArJ Z h' a n fJ := by obtain ⟨q, c, A, r⟩ := F; exact ⟨q, c, A.ext E, r⟩
theorem ArJ.other (F : ArJ Z h b n fJ) (W : Wr h h' a sl v) (q : b ≠ a) : ArJ Z h' b n fJ := by obtain ⟨z, c, A, r⟩ := F; exact ⟨z, c, A.other W q, r⟩
theorem ArJ.keep (F : ArJ Z h a n fJ) (K : Keep h h' ws) (q : a ∉ ws) : ArJ Z h' a n fJ := by obtain ⟨z, c, A, r⟩ := F; exact ⟨z, c, ⟨K.2.1 a c A.1 q, A.2⟩, r⟩
theorem ArJ.eqf {g : Nat → Int64} (F : ArJ Z h a n fJ) (q : ∀ i, i < n → fJ i = g i) : ArJ Z h a n g := by
  obtain ⟨z, c, A, r, H⟩ := F; exact ⟨z, c, A, r, fun i hi => by rw [← q i hi]; exact H i hi⟩
theorem ne_ari {C : String} {k : Nat} (F : Exa Z h a C) (wi : (Cond.instantiable C k).before a0 Z = true) (G : ArI Z h b ty n f) : a ≠ b := by obtain ⟨-, c, A, -⟩ := G; exact ne_arr F wi A
theorem ne_arj {C : String} {k : Nat} (F : Exa Z h a C) (wi : (Cond.instantiable C k).before a0 Z = true) (G : ArJ Z h b n fJ) : a ≠ b := by obtain ⟨-, c, A, -⟩ := G; exact ne_arr F wi A
theorem ne_arr2 {c1 c2 : Cell} {t1 t2 : FieldType} (F : Arr Z h a c1 t1) (G : Arr Z h b c2 t2) (hn : t1 ≠ t2) : a ≠ b := fun q => by
  subst q
  cases F.1.symm.trans G.1
  obtain ⟨-, k1, j1, comp1, j2⟩ := F.2.1
  obtain ⟨-, k2, i1, comp2, i2⟩ := G.2.1
  cases j1.symm.trans i1
  rw [j2] at i2
  injection i2 with _ q2
  exact hn q2
theorem ne_aij {n' : Nat} (F : ArI Z h a ty n f) (G : ArJ Z h b n' fJ) (hn : ty ≠ .long) : a ≠ b := by obtain ⟨-, c, A, -⟩ := F; obtain ⟨-, c', A', -⟩ := G; exact ne_arr2 A A' hn
theorem to_nat {j : Int32} {k : Nat} (hk : j.toInt = k) : j.toNatClampNeg = k := by simp only [Int32.toNatClampNeg, hk, Int.toNat_natCast]
theorem inb {cl : Cell} {j : Int32} {k : Nat} (hk : j.toInt = k) (hkn : k < n) (hs : cl.slots.size = n) : ¬ (j < 0 ∨ cl.slots.size ≤ j.toNatClampNeg) := by
  rw [to_nat hk, hs, Int32.lt_iff_toInt_lt, hk, show (0 : Int32).toInt = 0 from rfl]; omega
theorem ixadd {x d : Int32} {k j : Nat} (hx : x.toInt = k) (hd : d.toInt = j) (h : k + j < 2147483648) : (x + d).toInt = ((k + j : Nat) : Int) := by
  have h2 := c_iadd x d
  have h3 := rng32 (x + d)
  omega
theorem ArI.mk {k : ClassId} {z : Int32} (A : Arr Z h a (newA k ty z) ty) (hn : z.toInt = n) (hd : defaultValue ty = .int 0) : ArI Z h a ty n (fun _ => 0) := by
  have hz := to_nat hn
  refine ⟨?_, _, A, by rw [sz_new, hz], fun i hi => ?_⟩
  · have := Int32.toInt_lt z; omega
  · simp [newA, hz, hi, hd]
theorem ArJ.mk {k : ClassId} {z : Int32} (A : Arr Z h a (newA k .long z) .long) (hn : z.toInt = n) : ArJ Z h a n (fun _ => 0) := by
  have hz := to_nat hn
  refine ⟨?_, _, A, by rw [sz_new, hz], fun i hi => ?_⟩
  · have := Int32.toInt_lt z; omega
  · simp [newA, hz, hi, defaultValue]
theorem set_at {cl : Cell} {i k : Nat} (hk : k < cl.slots.size) : (cl.setSlot k v).slots[i]? = if i = k then some v else cl.slots[i]? := by
  simp only [Cell.setSlot, Array.getElem?_setIfInBounds]
  by_cases q : i = k
  · subst q; simp [hk]
  · simp [q, Ne.symm q]
theorem ArI.set {x : Int32} {k : Nat} (F : ArI Z h a ty n f) (W : Wr h h' a k (.int x)) (hk : k < n) : ArI Z h' a ty n (fun i => if i = k then x else f i) := by
  obtain ⟨z, c, A, r, H⟩ := F
  refine ⟨z, _, A.same W, by rw [sz_set, r], fun i hi => ?_⟩
  rw [set_at (by omega)]
  by_cases q : i = k
  · simp [q]
  · simp [q, H i hi]
theorem ArJ.set {x : Int64} {k : Nat} (F : ArJ Z h a n fJ) (W : Wr h h' a k (.long x)) (hk : k < n) : ArJ Z h' a n (fun i => if i = k then x else fJ i) := by
  obtain ⟨z, c, A, r, H⟩ := F
  refine ⟨z, _, A.same W, by rw [sz_set, r], fun i hi => ?_⟩
  rw [set_at (by omega)]
  by_cases q : i = k
  · simp [q]
  · simp [q, H i hi]
theorem Adv.ldI (A : Adv p e below D) (X : Stand p l e R s m args below meth c T locs cells slots) (hx : p.tables.exec = Jvm.exec) (hZ : Z.Warmed39 s.vm) (eT : T.heap = h) (F : ArI Z h a .int n f) {j : Int32} {k : Nat} (hk : j.toInt = k) (hkn : k < n) {g : JFrame} (hg : g.method = m) {rest : List Value} (hs : g.stack = .int j :: .ref a :: rest) (hd : decode c.code g.pc = .ok (.iaload, 1))
    (kk : D (T.setTop { g with pc := g.pc + 1, stack := .int (f k) :: rest })) : D (T.setTop g) := by
  obtain ⟨-, cl, Ar, r, H⟩ := F
  exact A (X.iaload hx (j := j) (v := .int (f k)) (by rw [eT]; exact Ar.1) (State.isArrayOf_alike hZ.alike Ar.2.1) Ar.2.2 (inb hk hkn r) (by rw [to_nat hk]; exact H k hkn) (g := g) hg hs hd _) kk
theorem Adv.ldB (A : Adv p e below D) (X : Stand p l e R s m args below meth c T locs cells slots) (hx : p.tables.exec = Jvm.exec) (hZ : Z.Warmed39 s.vm) (eT : T.heap = h) (F : ArI Z h a .byte n f) {j : Int32} {k : Nat} (hk : j.toInt = k) (hkn : k < n) {g : JFrame} (hg : g.method = m) {rest : List Value} (hs : g.stack = .int j :: .ref a :: rest) (hd : decode c.code g.pc = .ok (.baload, 1))
    (kk : D (T.setTop { g with pc := g.pc + 1, stack := .int (f k) :: rest })) : D (T.setTop g) := by
  obtain ⟨-, cl, Ar, r, H⟩ := F
  exact A (X.baloadBytes hx (j := j) (v := .int (f k)) (by rw [eT]; exact Ar.1) (State.isArrayOf_alike hZ.alike Ar.2.1) Ar.2.2 (inb hk hkn r) (by rw [to_nat hk]; exact H k hkn) (g := g) hg hs hd _) kk
theorem Adv.ldJ (A : Adv p e below D) (X : Stand p l e R s m args below meth c T locs cells slots) (hx : p.tables.exec = Jvm.exec) (hZ : Z.Warmed39 s.vm) (eT : T.heap = h) (F : ArJ Z h a n fJ) {j : Int32} {k : Nat} (hk : j.toInt = k) (hkn : k < n) {g : JFrame} (hg : g.method = m) {rest : List Value} (hs : g.stack = .int j :: .ref a :: rest) (hd : decode c.code g.pc = .ok (.laload, 1))
    (kk : D (T.setTop { g with pc := g.pc + 1, stack := .long (fJ k) :: rest })) : D (T.setTop g) := by
  obtain ⟨-, cl, Ar, r, H⟩ := F
  exact A (X.laload hx (j := j) (v := .long (fJ k)) (by rw [eT]; exact Ar.1) (State.isArrayOf_alike hZ.alike Ar.2.1) Ar.2.2 (inb hk hkn r) (by rw [to_nat hk]; exact H k hkn) (g := g) hg hs hd _) kk
theorem len32 {cl : Cell} (z : n < 2147483648) (r : cl.slots.size = n) : cl.slots.size.toInt32 = Int32.ofNat n   := by rw [r]
theorem Adv.lenI (A : Adv p e below D) (X : Stand p l e R s m args below meth c T locs cells slots) (hx : p.tables.exec = Jvm.exec) (hZ : Z.Warmed39 s.vm) (eT : T.heap = h) (F : ArI Z h a ty n f) {g : JFrame} (hg : g.method = m) {rest : List Value} (hs : g.stack = .ref a :: rest) (hd : decode c.code g.pc = .ok (.arraylength, 1))
    (kk : D (T.setTop { g with pc := g.pc + 1, stack := .int (Int32.ofNat n) :: rest })) : D (T.setTop g) := by
  obtain ⟨z, cl, Ar, r, H⟩ := F
  rw [← len32 z r] at kk
  exact A (X.arraylength hx (by rw [eT]; exact Ar.1) (State.isArrayOf_alike hZ.alike Ar.2.1) (g := g) hg hs hd _) kk
theorem Adv.lenJ (A : Adv p e below D) (X : Stand p l e R s m args below meth c T locs cells slots) (hx : p.tables.exec = Jvm.exec) (hZ : Z.Warmed39 s.vm) (eT : T.heap = h) (F : ArJ Z h a n fJ) {g : JFrame} (hg : g.method = m) {rest : List Value} (hs : g.stack = .ref a :: rest) (hd : decode c.code g.pc = .ok (.arraylength, 1))
    (kk : D (T.setTop { g with pc := g.pc + 1, stack := .int (Int32.ofNat n) :: rest })) : D (T.setTop g) := by
  obtain ⟨z, cl, Ar, r, H⟩ := F
  rw [← len32 z r] at kk
  exact A (X.arraylength hx (by rw [eT]; exact Ar.1) (State.isArrayOf_alike hZ.alike Ar.2.1) (g := g) hg hs hd _) kk
theorem Adv.stI (A : Adv p e below D) (X : Stand p l e R s m args below meth c T locs cells slots) (hx : p.tables.exec = Jvm.exec) (hZ : Z.Warmed39 s.vm) (eT : T.heap = h) (F : ArI Z h a .int n f) {j x : Int32} {k : Nat} (hk : j.toInt = k) (hkn : k < n) {g : JFrame} (hg : g.method = m) {rest : List Value} (hs : g.stack = .int x :: .int j :: .ref a :: rest) (hd : decode c.code g.pc = .ok (.iastore, 1))
    (kk : ∀ T' h', Stand p l e R s m args below meth c T' (locs ++ [⟨a, k⟩]) cells slots → T'.heap = h' → Wr h h' a k (.int x) → ArI Z h' a .int n (fun i => if i = k then x else f i) → D (T'.setTop { g with pc := g.pc + 1, stack := rest })) : D (T.setTop g) := by
  obtain ⟨cl, Ar, r, H⟩ := F.2
  obtain ⟨T', h', X', e', W, st⟩ := Jvm.RoadKit.stI X hx hZ eT Ar (j := j) (x := x) (inb hk hkn r) hg hs hd
  rw [to_nat hk] at X' W
  exact A (fun q => st _ q) (kk T' h' X' e' W (F.set W hkn))
theorem Adv.stB (A : Adv p e below D) (X : Stand p l e R s m args below meth c T locs cells slots) (hx : p.tables.exec = Jvm.exec) (hZ : Z.Warmed39 s.vm) (eT : T.heap = h) (F : ArI Z h a .byte n f) {j x : Int32} {k : Nat} (hk : j.toInt = k) (hkn : k < n) {g : JFrame} (hg : g.method = m) {rest : List Value} (hs : g.stack = .int x :: .int j :: .ref a :: rest) (hd : decode c.code g.pc = .ok (.bastore, 1))
    (kk : ∀ T' h', Stand p l e R s m args below meth c T' (locs ++ [⟨a, k⟩]) cells slots → T'.heap = h' → Wr h h' a k (.int x.toInt8.toInt32) → ArI Z h' a .byte n (fun i => if i = k then x.toInt8.toInt32 else f i) → D (T'.setTop { g with pc := g.pc + 1, stack := rest })) : D (T.setTop g) := by
  obtain ⟨cl, Ar, r, H⟩ := F.2
  obtain ⟨T', h', X', e', W, st⟩ := Jvm.RoadKit.stB X hx hZ eT Ar (j := j) (x := x) (inb hk hkn r) hg hs hd
  rw [to_nat hk] at X' W
  exact A (fun q => st _ q) (kk T' h' X' e' W (F.set W hkn))
theorem Adv.stJ (A : Adv p e below D) (X : Stand p l e R s m args below meth c T locs cells slots) (hx : p.tables.exec = Jvm.exec) (hZ : Z.Warmed39 s.vm) (eT : T.heap = h) (F : ArJ Z h a n fJ) {j : Int32} {x : Int64} {k : Nat} (hk : j.toInt = k) (hkn : k < n) {g : JFrame} (hg : g.method = m) {rest : List Value} (hs : g.stack = .long x :: .int j :: .ref a :: rest) (hd : decode c.code g.pc = .ok (.lastore, 1))
    (kk : ∀ T' h', Stand p l e R s m args below meth c T' (locs ++ [⟨a, k⟩]) cells slots → T'.heap = h' → Wr h h' a k (.long x) → ArJ Z h' a n (fun i => if i = k then x else fJ i) → D (T'.setTop { g with pc := g.pc + 1, stack := rest })) : D (T.setTop g) := by
  obtain ⟨cl, Ar, r, H⟩ := F.2
  obtain ⟨T', h', X', e', W, st⟩ := Jvm.RoadKit.stJ X hx hZ eT Ar (j := j) (x := x) (inb hk hkn r) hg hs hd
  rw [to_nat hk] at X' W
  exact A (fun q => st _ q) (kk T' h' X' e' W (F.set W hkn))
theorem Adv.newI (A : Adv p e below D) (X : Stand p l e R s m args below meth c T locs cells slots) (hx : p.tables.exec = Jvm.exec) (hZ : Z.Warmed39 s.vm) {aty : ArrayType} (w : (Cond.arrayClass (newarray.typeOf aty)).before a0 Z = true) (eT : T.heap = h) {z : Int32} (hz : z.toInt = n) (cap : Nat) (hcap : n ≤ cap) (hb : cap * 8 ≤ 536870912) (hdv : defaultValue (newarray.typeOf aty) = .int 0) {ad : String} (had : "[" ++ (newarray.typeOf aty).toString = ad) (hc : cells + 1 ≤ R.cells) (hl : slots + cap ≤ R.slots) {g : JFrame} (hg : g.method = m) {rest : List Value} (hs : g.stack = .int z :: rest) (hd : decode c.code g.pc = .ok (.newarray aty, 2))
    (kk : ∀ T' h' a, a = h.size → Stand p l e R s m args below meth c T' locs (cells + 1) (slots + cap) → T'.heap = h' → Ext h h' → ArI Z h' a (newarray.typeOf aty) n (fun _ => 0) → Exa Z h' a ad → D (T'.setTop { g with pc := g.pc + 2, stack := .ref a :: rest })) : D (T.setTop g) := by
  have q0 : ¬ z < 0 := by rw [Int32.lt_iff_toInt_lt, hz, show (0 : Int32).toInt = 0 from rfl]; omega
  obtain ⟨T', h', k, X', e', E, Ar, Ex, st⟩ := newPE X hx hZ w eT hg hd hs q0 (cap := cap) (by rw [to_nat hz]; exact hcap) hb hc hl had
  exact A (fun q => st _ q) (kk T' h' _ rfl X' e' E (ArI.mk Ar hz hdv) Ex)
theorem Adv.newJ (A : Adv p e below D) (X : Stand p l e R s m args below meth c T locs cells slots) (hx : p.tables.exec = Jvm.exec) (hZ : Z.Warmed39 s.vm) (w : (Cond.arrayClass .long).before a0 Z = true) (eT : T.heap = h) {z : Int32} (hz : z.toInt = n) (cap : Nat) (hcap : n ≤ cap) (hb : cap * 8 ≤ 536870912) (hc : cells + 1 ≤ R.cells) (hl : slots + cap ≤ R.slots) {g : JFrame} (hg : g.method = m) {rest : List Value} (hs : g.stack = .int z :: rest) (hd : decode c.code g.pc = .ok (.newarray .long, 2))
    (kk : ∀ T' h' a, a = h.size → Stand p l e R s m args below meth c T' locs (cells + 1) (slots + cap) → T'.heap = h' → Ext h h' → ArJ Z h' a n (fun _ => 0) → D (T'.setTop { g with pc := g.pc + 2, stack := .ref a :: rest })) : D (T.setTop g) := by
  have q0 : ¬ z < 0 := by rw [Int32.lt_iff_toInt_lt, hz, show (0 : Int32).toInt = 0 from rfl]; omega
  obtain ⟨T', h', k, X', e', E, Ar, st⟩   := newP (aty := .long) X hx hZ w eT hg hd hs q0 (cap := cap) (by rw [to_nat hz]; exact hcap) hb hc hl
  exact A (fun q => st _ q) (kk T' h' _ rfl X' e' E (ArJ.mk Ar hz))
theorem Adv.cloneI (A : Adv p e below D) (X : Stand p l e R s m args below meth c T locs cells slots) (hx : p.tables.exec = Jvm.exec) (hZ : Z.Warmed39 s.vm) {own ad : String} {index : Nat} (hown : s.vm.findClass own = some m.cls)
    (w1 : (Cond.methodLink own index ⟨ad, "clone", "()Ljava/lang/Object;"⟩).before a0 Z = true) (w2 : (Cond.sameMethod ad "java/lang/Object" "clone" "()Ljava/lang/Object;").before a0 Z = true) (w3 : (Cond.native ⟨"java/lang/Object", "clone", "()Ljava/lang/Object;"⟩).before a0 Z = true)
    (w4 : (Cond.instanceMethod ⟨"java/lang/Object", "clone", "()Ljava/lang/Object;"⟩).before a0 Z = true) (w5 : (Cond.selects ad ⟨ad, "clone", "()Ljava/lang/Object;"⟩ ⟨"java/lang/Object", "clone", "()Ljava/lang/Object;"⟩).before a0 Z = true) (w6 : (Cond.castable ad "java/lang/Cloneable").before a0 Z = true)
    (eT : T.heap = h) (F : ArI Z h a ty n f) (hfit : ∀ i, i < n → fits ty (.int (f i)) = true) (E : Exa Z h a ad) (W cap : Nat) (hcap : n ≤ cap) {g : JFrame} (hg : g.method = m) (hsz : g.locals.size = c.maxLocals) {rest : List Value} (hs : g.stack = .ref a :: rest) (hd : decode c.code g.pc = .ok (.invokevirtual index, 3))
    (hW : 2 * g.monitorRoom + (rest.map fun v => v.category).sum ≤ W) (hf : 1 ≤ R.frames) (hl : W + 14 ≤ R.locals) (hc : cells + 1 ≤ R.cells) (hsl : slots + cap ≤ R.slots)
    (kk : ∀ T' h' b, b = h.size → Stand p l e R s m args below meth c T' locs (cells + 1) (slots + cap) → T'.heap = h' → Ext h h' → ArI Z h' b ty n f → Exa Z h' b ad → D (T'.setTop { g with pc := g.pc + 3, stack := .ref b :: rest })) : D (T.setTop g) := by
  obtain ⟨z, cl, Ar, r, H⟩ := F
  have FC : FitC Z cl := fitC_of Ar fun i hi v hv => by rw [H i (by omega)] at hv; cases hv; exact hfit i (by omega)
  obtain ⟨T', h', X', e', Ex, Ar', E', st⟩ := cloneA X hx hZ hown w1 w2 w3 w4 w5 w6 eT Ar E FC hg hsz hs hd hf hW hl (by rw [r]; exact hcap) hc hsl
  exact A (fun q => st _ q) (kk T' h' _ rfl X' e' Ex ⟨z, _, Ar', r, H⟩ E')
end Arrays
end Jvm.JW
namespace Jvm.Pilot.@@N@@
open Jvm Jvm.ClassFile Sem Op Lib Jvm.Free Jvm.Stand Jvm.LawKit Jvm.RoadKit Bundle Jvm.JW Jvm.Pilot.@@N@@.Jvm.D
theorem d1_0 : decode prog_8_method_26_code 0 = .ok (.lload_n 0, 1) := by decide +kernel
theorem d1_1 : decode prog_8_method_26_code 1 = .ok (.bipush 8, 2) := by decide +kernel
theorem d1_3 : decode prog_8_method_26_code 3 = .ok (.lushr, 1) := by decide +kernel
theorem d1_4 : decode prog_8_method_26_code 4 = .ok (.ldc2_w 210, 3) := by decide +kernel
theorem d1_7 : decode prog_8_method_26_code 7 = .ok (.land, 1) := by decide +kernel
theorem d1_8 : decode prog_8_method_26_code 8 = .ok (.lload_n 0, 1) := by decide +kernel
theorem d1_9 : decode prog_8_method_26_code 9 = .ok (.ldc2_w 210, 3) := by decide +kernel
theorem d1_12 : decode prog_8_method_26_code 12 = .ok (.land, 1) := by decide +kernel
theorem d1_13 : decode prog_8_method_26_code 13 = .ok (.bipush 8, 2) := by decide +kernel
theorem d1_15 : decode prog_8_method_26_code 15 = .ok (.lshl, 1) := by decide +kernel
theorem d1_16 : decode prog_8_method_26_code 16 = .ok (.lor, 1) := by decide +kernel
theorem d1_17 : decode prog_8_method_26_code 17 = .ok (.lreturn, 1) := by decide +kernel
theorem pn1 : plainFor (⟨"com/example/carmenta/carmenta/Decoder", "swapOctets", "(J)J"⟩ : MethodName) = true := by decide +kernel
theorem ef1 (p1 : Int64) (m : MethodId) : entryFrame m #[(.long p1)] 2 = mkF m 0 #[.val (.long p1), .second] [] := by first | (simp [entryFrame, mkF, argsToLocals, Value.category]; done) | rfl
def f1 (p1 : Int64) : Int64 := ((((p1.toUInt64 >>> ((8 : Int32) &&& 0x3f).toInt64.toUInt64).toInt64) &&& (71777214294589695 : Int64)) ||| ((p1 &&& (71777214294589695 : Int64)) <<< ((8 : Int32) &&& 0x3f).toInt64))
set_option maxRecDepth 65536 in
set_option maxHeartbeats 40000000 in
theorem rm1 (l : Launch) (Z : State) (a0 : Array Value) (hw : ∀ d ∈ tables_1, d.before a0 Z = true) (ws : List Jvm.Cond) (p1 : Int64) (h0 : Heap) (n0 : Nat) :
    JMet l Z (⟨"com/example/carmenta/carmenta/Decoder", "swapOctets", "(J)J"⟩ : MethodName) prog_8_method_26_code 2 (some .long) ws ({ frames := 0, cells := 0, slots := 0, locals := 0 } : Room) #[(.long p1)] h0 (QP (.long (f1 p1)) h0 n0) := by
  refine Jvm.JW.body #[.val (.long p1), .second] pn1 (ef1 p1) ?_
  intro p e s m below meth c T0 D A F X0 hx hZ hby hml hown hnm hrt hlk e0
  refine A (XS.lloadN X0.here hx rfl (hb hby d1_0) rfl) ?_
  show D (T0.setTop (mkF m 1 #[.val (.long p1), .second] [(.long p1)]))
  refine A (XS.bipush X0.here hx rfl (hb hby d1_1)) ?_
  show D (T0.setTop (mkF m 3 #[.val (.long p1), .second] [(.int (8 : Int32)), (.long p1)]))
  refine A (XS.lushr X0.here hx rfl (hb hby d1_3) rfl) ?_
  show D (T0.setTop (mkF m 4 #[.val (.long p1), .second] [(.long ((p1.toUInt64 >>> ((8 : Int32) &&& 0x3f).toInt64.toUInt64).toInt64))]))
  refine A (X0.ldc2Long hx hown (mvT hZ (hw _ (List.mem_of_getElem? (i := 4) rfl))) (g := (mkF m 4 #[.val (.long p1), .second] [(.long ((p1.toUInt64 >>> ((8 : Int32) &&& 0x3f).toInt64.toUInt64).toInt64))])) rfl (hb hby d1_4) _) ?_
  show D (T0.setTop (mkF m 7 #[.val (.long p1), .second] [(.long (71777214294589695 : Int64)), (.long ((p1.toUInt64 >>> ((8 : Int32) &&& 0x3f).toInt64.toUInt64).toInt64))]))
  refine A (XS.land X0.here hx rfl (hb hby d1_7) rfl) ?_
  show D (T0.setTop (mkF m 8 #[.val (.long p1), .second] [(.long (((p1.toUInt64 >>> ((8 : Int32) &&& 0x3f).toInt64.toUInt64).toInt64) &&& (71777214294589695 : Int64)))]))
  refine A (XS.lloadN X0.here hx rfl (hb hby d1_8) rfl) ?_
  show D (T0.setTop (mkF m 9 #[.val (.long p1), .second] [(.long p1), (.long (((p1.toUInt64 >>> ((8 : Int32) &&& 0x3f).toInt64.toUInt64).toInt64) &&& (71777214294589695 : Int64)))]))
  refine A (X0.ldc2Long hx hown (mvT hZ (hw _ (List.mem_of_getElem? (i := 4) rfl))) (g := (mkF m 9 #[.val (.long p1), .second] [(.long p1), (.long (((p1.toUInt64 >>> ((8 : Int32) &&& 0x3f).toInt64.toUInt64).toInt64) &&& (71777214294589695 : Int64)))])) rfl (hb hby d1_9) _) ?_
  show D (T0.setTop (mkF m 12 #[.val (.long p1), .second] [(.long (71777214294589695 : Int64)), (.long p1), (.long (((p1.toUInt64 >>> ((8 : Int32) &&& 0x3f).toInt64.toUInt64).toInt64) &&& (71777214294589695 : Int64)))]))
  refine A (XS.land X0.here hx rfl (hb hby d1_12) rfl) ?_
  show D (T0.setTop (mkF m 13 #[.val (.long p1), .second] [(.long (p1 &&& (71777214294589695 : Int64))), (.long (((p1.toUInt64 >>> ((8 : Int32) &&& 0x3f).toInt64.toUInt64).toInt64) &&& (71777214294589695 : Int64)))]))
  refine A (XS.bipush X0.here hx rfl (hb hby d1_13)) ?_
  show D (T0.setTop (mkF m 15 #[.val (.long p1), .second] [(.int (8 : Int32)), (.long (p1 &&& (71777214294589695 : Int64))), (.long (((p1.toUInt64 >>> ((8 : Int32) &&& 0x3f).toInt64.toUInt64).toInt64) &&& (71777214294589695 : Int64)))]))
  refine A (XS.lshl X0.here hx rfl (hb hby d1_15) rfl) ?_
  show D (T0.setTop (mkF m 16 #[.val (.long p1), .second] [(.long ((p1 &&& (71777214294589695 : Int64)) <<< ((8 : Int32) &&& 0x3f).toInt64)), (.long (((p1.toUInt64 >>> ((8 : Int32) &&& 0x3f).toInt64.toUInt64).toInt64) &&& (71777214294589695 : Int64)))]))
  refine A (XS.lor X0.here hx rfl (hb hby d1_16) rfl) ?_
  show D (T0.setTop (mkF m 17 #[.val (.long p1), .second] [(.long ((((p1.toUInt64 >>> ((8 : Int32) &&& 0x3f).toInt64.toUInt64).toInt64) &&& (71777214294589695 : Int64)) ||| ((p1 &&& (71777214294589695 : Int64)) <<< ((8 : Int32) &&& 0x3f).toInt64)))]))
  refine F _ (Jvm.JW.ret X0 hlk (v := some (.long ((((p1.toUInt64 >>> ((8 : Int32) &&& 0x3f).toInt64.toUInt64).toInt64) &&& (71777214294589695 : Int64)) ||| ((p1 &&& (71777214294589695 : Int64)) <<< ((8 : Int32) &&& 0x3f).toInt64)))) (fun h => by rw [hrt] at h; cases h) (fun fs hr => retOut X0 hx hrt rfl (Or.inr (Or.inl ⟨rfl, rfl, _, rfl⟩)) (hb hby d1_17) hr) rfl ?_ (by decide) (by decide))
  exact ⟨congrArg (fun z => some (Value.long z)) (by rfl), (Fr.nil n0), e0⟩
theorem d2_0 : decode method_2_code 0 = .ok (.lload_n 0, 1) := by decide +kernel
theorem d2_1 : decode method_2_code 1 = .ok (.bipush 8, 2) := by decide +kernel
theorem d2_3 : decode method_2_code 3 = .ok (.iload_n 2, 1) := by decide +kernel
theorem d2_4 : decode method_2_code 4 = .ok (.imul, 1) := by decide +kernel
theorem d2_5 : decode method_2_code 5 = .ok (.lushr, 1) := by decide +kernel
theorem d2_6 : decode method_2_code 6 = .ok (.ldc2_w 7, 3) := by decide +kernel
theorem d2_9 : decode method_2_code 9 = .ok (.land, 1) := by decide +kernel
theorem d2_10 : decode method_2_code 10 = .ok (.lreturn, 1) := by decide +kernel
theorem pn2 : plainFor (⟨"com/example/carmenta/carmenta/DecoderSwapOctetsPinLaw", "octetAt", "(JI)J"⟩ : MethodName) = true := by decide +kernel
theorem ef2 (p1 : Int64) (p2 : Int32) (m : MethodId) : entryFrame m #[(.long p1), (.int p2)] 3 = mkF m 0 #[.val (.long p1), .second, .val (.int p2)] [] := by first | (simp [entryFrame, mkF, argsToLocals, Value.category]; done) | rfl
def f2 (p1 : Int64) (p2 : Int32) : Int64 := (((p1.toUInt64 >>> (((8 : Int32) * p2) &&& 0x3f).toInt64.toUInt64).toInt64) &&& (255 : Int64))
set_option maxRecDepth 65536 in
set_option maxHeartbeats 40000000 in
theorem rm2 (l : Launch) (Z : State) (a0 : Array Value) (hw : ∀ d ∈ tables_1, d.before a0 Z = true) (ws : List Jvm.Cond) (p1 : Int64) (p2 : Int32) (h0 : Heap) (n0 : Nat) :
    JMet l Z (⟨"com/example/carmenta/carmenta/DecoderSwapOctetsPinLaw", "octetAt", "(JI)J"⟩ : MethodName) method_2_code 3 (some .long) ws ({ frames := 0, cells := 0, slots := 0, locals := 0 } : Room) #[(.long p1), (.int p2)] h0 (QP (.long (f2 p1 p2)) h0 n0) := by
  refine Jvm.JW.body #[.val (.long p1), .second, .val (.int p2)] pn2 (ef2 p1 p2) ?_
  intro p e s m below meth c T0 D A F X0 hx hZ hby hml hown hnm hrt hlk e0
  refine A (XS.lloadN X0.here hx rfl (hb hby d2_0) rfl) ?_
  show D (T0.setTop (mkF m 1 #[.val (.long p1), .second, .val (.int p2)] [(.long p1)]))
  refine A (XS.bipush X0.here hx rfl (hb hby d2_1)) ?_
  show D (T0.setTop (mkF m 3 #[.val (.long p1), .second, .val (.int p2)] [(.int (8 : Int32)), (.long p1)]))
  refine A (XS.iloadN X0.here hx rfl (hb hby d2_3) rfl) ?_
  show D (T0.setTop (mkF m 4 #[.val (.long p1), .second, .val (.int p2)] [(.int p2), (.int (8 : Int32)), (.long p1)]))
  refine A (XS.imul X0.here hx rfl (hb hby d2_4) rfl) ?_
  show D (T0.setTop (mkF m 5 #[.val (.long p1), .second, .val (.int p2)] [(.int ((8 : Int32) * p2)), (.long p1)]))
  refine A (XS.lushr X0.here hx rfl (hb hby d2_5) rfl) ?_
  show D (T0.setTop (mkF m 6 #[.val (.long p1), .second, .val (.int p2)] [(.long ((p1.toUInt64 >>> (((8 : Int32) * p2) &&& 0x3f).toInt64.toUInt64).toInt64))]))
  refine A (X0.ldc2Long hx hown (mvT hZ (hw _ (List.mem_of_getElem? (i := 9) rfl))) (g := (mkF m 6 #[.val (.long p1), .second, .val (.int p2)] [(.long ((p1.toUInt64 >>> (((8 : Int32) * p2) &&& 0x3f).toInt64.toUInt64).toInt64))])) rfl (hb hby d2_6) _) ?_
  show D (T0.setTop (mkF m 9 #[.val (.long p1), .second, .val (.int p2)] [(.long (255 : Int64)), (.long ((p1.toUInt64 >>> (((8 : Int32) * p2) &&& 0x3f).toInt64.toUInt64).toInt64))]))
  refine A (XS.land X0.here hx rfl (hb hby d2_9) rfl) ?_
  show D (T0.setTop (mkF m 10 #[.val (.long p1), .second, .val (.int p2)] [(.long (((p1.toUInt64 >>> (((8 : Int32) * p2) &&& 0x3f).toInt64.toUInt64).toInt64) &&& (255 : Int64)))]))
  refine F _ (Jvm.JW.ret X0 hlk (v := some (.long (((p1.toUInt64 >>> (((8 : Int32) * p2) &&& 0x3f).toInt64.toUInt64).toInt64) &&& (255 : Int64)))) (fun h => by rw [hrt] at h; cases h) (fun fs hr => retOut X0 hx hrt rfl (Or.inr (Or.inl ⟨rfl, rfl, _, rfl⟩)) (hb hby d2_10) hr) rfl ?_ (by decide) (by decide))
  exact ⟨congrArg (fun z => some (Value.long z)) (by rfl), (Fr.nil n0), e0⟩
theorem d3_0 : decode method_3_code 0 = .ok (.lload_n 0, 1) := by decide +kernel
theorem d3_1 : decode method_3_code 1 = .ok (.bipush 8, 2) := by decide +kernel
theorem d3_3 : decode method_3_code 3 = .ok (.iload_n 2, 1) := by decide +kernel
theorem d3_4 : decode method_3_code 4 = .ok (.imul, 1) := by decide +kernel
theorem d3_5 : decode method_3_code 5 = .ok (.lshl, 1) := by decide +kernel
theorem d3_6 : decode method_3_code 6 = .ok (.lreturn, 1) := by decide +kernel
theorem pn3 : plainFor (⟨"com/example/carmenta/carmenta/DecoderSwapOctetsPinLaw", "place", "(JI)J"⟩ : MethodName) = true := by decide +kernel
theorem ef3 (p1 : Int64) (p2 : Int32) (m : MethodId) : entryFrame m #[(.long p1), (.int p2)] 3 = mkF m 0 #[.val (.long p1), .second, .val (.int p2)] [] := by first | (simp [entryFrame, mkF, argsToLocals, Value.category]; done) | rfl
def f3 (p1 : Int64) (p2 : Int32) : Int64 := (p1 <<< (((8 : Int32) * p2) &&& 0x3f).toInt64)
set_option maxRecDepth 65536 in
set_option maxHeartbeats 40000000 in
theorem rm3 (l : Launch) (Z : State) (a0 : Array Value) (hw : ∀ d ∈ tables_1, d.before a0 Z = true) (ws : List Jvm.Cond) (p1 : Int64) (p2 : Int32) (h0 : Heap) (n0 : Nat) :
    JMet l Z (⟨"com/example/carmenta/carmenta/DecoderSwapOctetsPinLaw", "place", "(JI)J"⟩ : MethodName) method_3_code 3 (some .long) ws ({ frames := 0, cells := 0, slots := 0, locals := 0 } : Room) #[(.long p1), (.int p2)] h0 (QP (.long (f3 p1 p2)) h0 n0) := by
  refine Jvm.JW.body #[.val (.long p1), .second, .val (.int p2)] pn3 (ef3 p1 p2) ?_
  intro p e s m below meth c T0 D A F X0 hx hZ hby hml hown hnm hrt hlk e0
  refine A (XS.lloadN X0.here hx rfl (hb hby d3_0) rfl) ?_
  show D (T0.setTop (mkF m 1 #[.val (.long p1), .second, .val (.int p2)] [(.long p1)]))
  refine A (XS.bipush X0.here hx rfl (hb hby d3_1)) ?_
  show D (T0.setTop (mkF m 3 #[.val (.long p1), .second, .val (.int p2)] [(.int (8 : Int32)), (.long p1)]))
  refine A (XS.iloadN X0.here hx rfl (hb hby d3_3) rfl) ?_
  show D (T0.setTop (mkF m 4 #[.val (.long p1), .second, .val (.int p2)] [(.int p2), (.int (8 : Int32)), (.long p1)]))
  refine A (XS.imul X0.here hx rfl (hb hby d3_4) rfl) ?_
  show D (T0.setTop (mkF m 5 #[.val (.long p1), .second, .val (.int p2)] [(.int ((8 : Int32) * p2)), (.long p1)]))
  refine A (XS.lshl X0.here hx rfl (hb hby d3_5) rfl) ?_
  show D (T0.setTop (mkF m 6 #[.val (.long p1), .second, .val (.int p2)] [(.long (p1 <<< (((8 : Int32) * p2) &&& 0x3f).toInt64))]))
  refine F _ (Jvm.JW.ret X0 hlk (v := some (.long (p1 <<< (((8 : Int32) * p2) &&& 0x3f).toInt64))) (fun h => by rw [hrt] at h; cases h) (fun fs hr => retOut X0 hx hrt rfl (Or.inr (Or.inl ⟨rfl, rfl, _, rfl⟩)) (hb hby d3_6) hr) rfl ?_ (by decide) (by decide))
  exact ⟨congrArg (fun z => some (Value.long z)) (by rfl), (Fr.nil n0), e0⟩
theorem own_b1 (b : BitVec 64) : (((b >>> 8) &&& 71777214294589695#64) ||| ((b &&& 71777214294589695#64) <<< 8)) = ((((((((((b >>> 8) &&& 255#64) <<< 0) ||| (((b >>> 0) &&& 255#64) <<< 8)) ||| (((b >>> 24) &&& 255#64) <<< 16)) ||| (((b >>> 16) &&& 255#64) <<< 24)) ||| (((b >>> 40) &&& 255#64) <<< 32)) ||| (((b >>> 32) &&& 255#64) <<< 40)) ||| (((b >>> 56) &&& 255#64) <<< 48)) ||| (((b >>> 48) &&& 255#64) <<< 56)) := by
  apply BitVec.eq_of_getLsbD_eq
  intro i hi
  simp only [BitVec.getLsbD_or, BitVec.getLsbD_and, BitVec.getLsbD_shiftLeft, BitVec.getLsbD_ushiftRight]
  match i, hi with
  | 0, _ => simp
  | 1, _ => simp
  | 2, _ => simp
  | 3, _ => simp
  | 4, _ => simp
  | 5, _ => simp
  | 6, _ => simp
  | 7, _ => simp
  | 8, _ => simp
  | 9, _ => simp
  | 10, _ => simp
  | 11, _ => simp
  | 12, _ => simp
  | 13, _ => simp
  | 14, _ => simp
  | 15, _ => simp
  | 16, _ => simp
  | 17, _ => simp
  | 18, _ => simp
  | 19, _ => simp
  | 20, _ => simp
  | 21, _ => simp
  | 22, _ => simp
  | 23, _ => simp
  | 24, _ => simp
  | 25, _ => simp
  | 26, _ => simp
  | 27, _ => simp
  | 28, _ => simp
  | 29, _ => simp
  | 30, _ => simp
  | 31, _ => simp
  | 32, _ => simp
  | 33, _ => simp
  | 34, _ => simp
  | 35, _ => simp
  | 36, _ => simp
  | 37, _ => simp
  | 38, _ => simp
  | 39, _ => simp
  | 40, _ => simp
  | 41, _ => simp
  | 42, _ => simp
  | 43, _ => simp
  | 44, _ => simp
  | 45, _ => simp
  | 46, _ => simp
  | 47, _ => simp
  | 48, _ => simp
  | 49, _ => simp
  | 50, _ => simp
  | 51, _ => simp
  | 52, _ => simp
  | 53, _ => simp
  | 54, _ => simp
  | 55, _ => simp
  | 56, _ => simp
  | 57, _ => simp
  | 58, _ => simp
  | 59, _ => simp
  | 60, _ => simp
  | 61, _ => simp
  | 62, _ => simp
  | 63, _ => simp
  | n + 64, h => exact absurd h (by omega)
theorem own_b2 (b : BitVec 64) : ((((((b >>> 8) &&& 71777214294589695#64) ||| ((b &&& 71777214294589695#64) <<< 8)) >>> 8) &&& 71777214294589695#64) ||| (((((b >>> 8) &&& 71777214294589695#64) ||| ((b &&& 71777214294589695#64) <<< 8)) &&& 71777214294589695#64) <<< 8)) = b := by
  apply BitVec.eq_of_getLsbD_eq
  intro i hi
  simp only [BitVec.getLsbD_or, BitVec.getLsbD_and, BitVec.getLsbD_shiftLeft, BitVec.getLsbD_ushiftRight]
  match i, hi with
  | 0, _ => simp
  | 1, _ => simp
  | 2, _ => simp
  | 3, _ => simp
  | 4, _ => simp
  | 5, _ => simp
  | 6, _ => simp
  | 7, _ => simp
  | 8, _ => simp
  | 9, _ => simp
  | 10, _ => simp
  | 11, _ => simp
  | 12, _ => simp
  | 13, _ => simp
  | 14, _ => simp
  | 15, _ => simp
  | 16, _ => simp
  | 17, _ => simp
  | 18, _ => simp
  | 19, _ => simp
  | 20, _ => simp
  | 21, _ => simp
  | 22, _ => simp
  | 23, _ => simp
  | 24, _ => simp
  | 25, _ => simp
  | 26, _ => simp
  | 27, _ => simp
  | 28, _ => simp
  | 29, _ => simp
  | 30, _ => simp
  | 31, _ => simp
  | 32, _ => simp
  | 33, _ => simp
  | 34, _ => simp
  | 35, _ => simp
  | 36, _ => simp
  | 37, _ => simp
  | 38, _ => simp
  | 39, _ => simp
  | 40, _ => simp
  | 41, _ => simp
  | 42, _ => simp
  | 43, _ => simp
  | 44, _ => simp
  | 45, _ => simp
  | 46, _ => simp
  | 47, _ => simp
  | 48, _ => simp
  | 49, _ => simp
  | 50, _ => simp
  | 51, _ => simp
  | 52, _ => simp
  | 53, _ => simp
  | 54, _ => simp
  | 55, _ => simp
  | 56, _ => simp
  | 57, _ => simp
  | 58, _ => simp
  | 59, _ => simp
  | 60, _ => simp
  | 61, _ => simp
  | 62, _ => simp
  | 63, _ => simp
  | n + 64, h => exact absurd h (by omega)

theorem own_r8 (y : Int64) : ((y.toUInt64 >>> ((8 : Int32) &&& 0x3f).toInt64.toUInt64).toInt64).toBitVec = y.toBitVec >>> 8 := by
  rw [show ((8 : Int32) &&& 0x3f).toInt64.toUInt64 = 8 from by decide]
  rfl
theorem own_l8 (y : Int64) : (y <<< ((8 : Int32) &&& 0x3f).toInt64).toBitVec = y.toBitVec <<< 8 := by
  rw [show ((8 : Int32) &&& 0x3f).toInt64 = 8 from by decide]
  rfl
theorem own_o0 (y : Int64) : (f2 y (0 : Int32)).toBitVec = (y.toBitVec >>> 0) &&& 255#64 := by
  unfold f2
  rw [show (((8 : Int32) * (0 : Int32)) &&& 0x3f).toInt64.toUInt64 = 0 from by decide]
  rfl
theorem own_p0 (y : Int64) : (f3 y (0 : Int32)).toBitVec = y.toBitVec <<< 0 := by
  unfold f3
  rw [show (((8 : Int32) * (0 : Int32)) &&& 0x3f).toInt64 = 0 from by decide]
  rfl
theorem own_o1 (y : Int64) : (f2 y (1 : Int32)).toBitVec = (y.toBitVec >>> 8) &&& 255#64 := by
  unfold f2
  rw [show (((8 : Int32) * (1 : Int32)) &&& 0x3f).toInt64.toUInt64 = 8 from by decide]
  rfl
theorem own_p1 (y : Int64) : (f3 y (1 : Int32)).toBitVec = y.toBitVec <<< 8 := by
  unfold f3
  rw [show (((8 : Int32) * (1 : Int32)) &&& 0x3f).toInt64 = 8 from by decide]
  rfl
theorem own_o2 (y : Int64) : (f2 y (2 : Int32)).toBitVec = (y.toBitVec >>> 16) &&& 255#64 := by
  unfold f2
  rw [show (((8 : Int32) * (2 : Int32)) &&& 0x3f).toInt64.toUInt64 = 16 from by decide]
  rfl
theorem own_p2 (y : Int64) : (f3 y (2 : Int32)).toBitVec = y.toBitVec <<< 16 := by
  unfold f3
  rw [show (((8 : Int32) * (2 : Int32)) &&& 0x3f).toInt64 = 16 from by decide]
  rfl
theorem own_o3 (y : Int64) : (f2 y (3 : Int32)).toBitVec = (y.toBitVec >>> 24) &&& 255#64 := by
  unfold f2
  rw [show (((8 : Int32) * (3 : Int32)) &&& 0x3f).toInt64.toUInt64 = 24 from by decide]
  rfl
theorem own_p3 (y : Int64) : (f3 y (3 : Int32)).toBitVec = y.toBitVec <<< 24 := by
  unfold f3
  rw [show (((8 : Int32) * (3 : Int32)) &&& 0x3f).toInt64 = 24 from by decide]
  rfl
theorem own_o4 (y : Int64) : (f2 y (4 : Int32)).toBitVec = (y.toBitVec >>> 32) &&& 255#64 := by
  unfold f2
  rw [show (((8 : Int32) * (4 : Int32)) &&& 0x3f).toInt64.toUInt64 = 32 from by decide]
  rfl
theorem own_p4 (y : Int64) : (f3 y (4 : Int32)).toBitVec = y.toBitVec <<< 32 := by
  unfold f3
  rw [show (((8 : Int32) * (4 : Int32)) &&& 0x3f).toInt64 = 32 from by decide]
  rfl
theorem own_o5 (y : Int64) : (f2 y (5 : Int32)).toBitVec = (y.toBitVec >>> 40) &&& 255#64 := by
  unfold f2
  rw [show (((8 : Int32) * (5 : Int32)) &&& 0x3f).toInt64.toUInt64 = 40 from by decide]
  rfl
theorem own_p5 (y : Int64) : (f3 y (5 : Int32)).toBitVec = y.toBitVec <<< 40 := by
  unfold f3
  rw [show (((8 : Int32) * (5 : Int32)) &&& 0x3f).toInt64 = 40 from by decide]
  rfl
theorem own_o6 (y : Int64) : (f2 y (6 : Int32)).toBitVec = (y.toBitVec >>> 48) &&& 255#64 := by
  unfold f2
  rw [show (((8 : Int32) * (6 : Int32)) &&& 0x3f).toInt64.toUInt64 = 48 from by decide]
  rfl
theorem own_p6 (y : Int64) : (f3 y (6 : Int32)).toBitVec = y.toBitVec <<< 48 := by
  unfold f3
  rw [show (((8 : Int32) * (6 : Int32)) &&& 0x3f).toInt64 = 48 from by decide]
  rfl
theorem own_o7 (y : Int64) : (f2 y (7 : Int32)).toBitVec = (y.toBitVec >>> 56) &&& 255#64 := by
  unfold f2
  rw [show (((8 : Int32) * (7 : Int32)) &&& 0x3f).toInt64.toUInt64 = 56 from by decide]
  rfl
theorem own_p7 (y : Int64) : (f3 y (7 : Int32)).toBitVec = y.toBitVec <<< 56 := by
  unfold f3
  rw [show (((8 : Int32) * (7 : Int32)) &&& 0x3f).toInt64 = 56 from by decide]
  rfl
theorem own_f (x : Int64) : (f1 x).toBitVec = (((x.toBitVec >>> 8) &&& 71777214294589695#64) ||| ((x.toBitVec &&& 71777214294589695#64) <<< 8)) := by
  unfold f1
  rw [Int64.toBitVec_or, Int64.toBitVec_and, own_r8, own_l8, Int64.toBitVec_and]
  rfl
theorem own_e1 (x : Int64) : f1 x = ((((((((f3 (f2 x (1 : Int32)) (0 : Int32)) ||| (f3 (f2 x (0 : Int32)) (1 : Int32))) ||| (f3 (f2 x (3 : Int32)) (2 : Int32))) ||| (f3 (f2 x (2 : Int32)) (3 : Int32))) ||| (f3 (f2 x (5 : Int32)) (4 : Int32))) ||| (f3 (f2 x (4 : Int32)) (5 : Int32))) ||| (f3 (f2 x (7 : Int32)) (6 : Int32))) ||| (f3 (f2 x (6 : Int32)) (7 : Int32))) := by
  apply Int64.toBitVec_inj.mp
  rw [own_f, own_b1]
  simp only [Int64.toBitVec_or, own_o0, own_p0, own_o1, own_p1, own_o2, own_p2, own_o3, own_p3, own_o4, own_p4, own_o5, own_p5, own_o6, own_p6, own_o7, own_p7]
theorem own_e2 (x : Int64) : f1 (f1 x) = x := by
  apply Int64.toBitVec_inj.mp
  rw [own_f, own_f]
  exact own_b2 _
theorem pn0 : plainFor x = true := by decide +kernel
theorem pd0_0 : parseMethodDescriptor "(J)J" = some ⟨[.long], some .long⟩ := by decide +kernel
theorem pd0_1 : parseMethodDescriptor "(JI)J" = some ⟨[.long, .int], some .long⟩ := by decide +kernel
theorem ef0 (p1 : Int64) (m : MethodId) : entryFrame m #[(.long p1)] maxLocals = mkF m 0 #[.val (.long p1), .second, .unset, .unset, .unset, .unset] [] := by first | (simp [entryFrame, mkF, argsToLocals, Value.category, maxLocals]; done) | rfl
set_option maxRecDepth 65536 in
set_option maxHeartbeats 40000000 in
theorem rm0 (l : Launch) (Z : State) (a0 : Array Value) (hw : ∀ d ∈ tables_1, d.before a0 Z = true) (ws : List Jvm.Cond) (p1 : Int64) (h0 : Heap) (n0 : Nat) :
    JMet l Z x code maxLocals ret ws room_1 #[(.long p1)] h0 (QL n0) := by
  refine Jvm.JW.body #[.val (.long p1), .second, .unset, .unset, .unset, .unset] pn0 (ef0 p1) ?_
  intro p e s m below meth c T0 D A F X0 hx hZ hby hml hown hnm hrt hlk e0
  refine A (XS.lloadN X0.here hx rfl (hb hby at_0) rfl) ?_
  show D (T0.setTop (mkF m 1 #[.val (.long p1), .second, .unset, .unset, .unset, .unset] [(.long p1)]))
  refine Adv.callS A X0 hx hZ hown (hw _ (List.mem_of_getElem? (i := 0) rfl)) (hw _ (List.mem_of_getElem? (i := 1) rfl)) (hw _ (List.mem_of_getElem? (i := 2) rfl)) (hw _ (List.mem_of_getElem? (i := 3) rfl)) e0 (rm1 l Z a0 hw [] p1 h0 n0) 0 (g := (mkF m 1 #[.val (.long p1), .second, .unset, .unset, .unset, .unset] [(.long p1)])) rfl (by rw [hml]; rfl) [(.long p1)] [] rfl (lenOf pd0_0 rfl) rfl (by show 2 * 0 + _ ≤ _; exact Nat.le_of_eq rfl) (hb hby at_1) (by decide) (by decide) (by decide) (by decide) (by decide) ?_
  rintro T1 L1 _ X1 ⟨rfl, N1q, e1⟩
  have N1 := Fr.app (Fr.nil n0) N1q
  show D (T1.setTop (mkF m 4 #[.val (.long p1), .second, .unset, .unset, .unset, .unset] [(.long (f1 p1))]))
  refine A (XS.lstoreN X1.here hx rfl (hb hby at_4) rfl (l' := #[.val (.long p1), .second, .val (.long (f1 p1)), .second, .unset, .unset]) rfl) ?_
  show D (T1.setTop (mkF m 5 #[.val (.long p1), .second, .val (.long (f1 p1)), .second, .unset, .unset] []))
  refine A (XS.lloadN X1.here hx rfl (hb hby at_5) rfl) ?_
  show D (T1.setTop (mkF m 6 #[.val (.long p1), .second, .val (.long (f1 p1)), .second, .unset, .unset] [(.long p1)]))
  refine A (XS.iconst X1.here hx rfl (hb hby at_6)) ?_
  show D (T1.setTop (mkF m 7 #[.val (.long p1), .second, .val (.long (f1 p1)), .second, .unset, .unset] [(.int (1 : Int32)), (.long p1)]))
  refine Adv.callS A X1 hx hZ hown (hw _ (List.mem_of_getElem? (i := 5) rfl)) (hw _ (List.mem_of_getElem? (i := 6) rfl)) (hw _ (List.mem_of_getElem? (i := 7) rfl)) (hw _ (List.mem_of_getElem? (i := 8) rfl)) e1 (rm2 l Z a0 hw [] p1 (1 : Int32) h0 n0) 0 (g := (mkF m 7 #[.val (.long p1), .second, .val (.long (f1 p1)), .second, .unset, .unset] [(.int (1 : Int32)), (.long p1)])) rfl (by rw [hml]; rfl) [(.long p1), (.int (1 : Int32))] [] rfl (lenOf pd0_1 rfl) rfl (by show 2 * 0 + _ ≤ _; exact Nat.le_of_eq rfl) (hb hby at_7) (by decide) (by decide) (by decide) (by decide) (by decide) ?_
  rintro T2 L2 _ X2 ⟨rfl, N2q, e2⟩
  have N2 := Fr.app N1 N2q
  show D (T2.setTop (mkF m 10 #[.val (.long p1), .second, .val (.long (f1 p1)), .second, .unset, .unset] [(.long (f2 p1 (1 : Int32)))]))
  refine A (XS.iconst X2.here hx rfl (hb hby at_10)) ?_
  show D (T2.setTop (mkF m 11 #[.val (.long p1), .second, .val (.long (f1 p1)), .second, .unset, .unset] [(.int (0 : Int32)), (.long (f2 p1 (1 : Int32)))]))
  refine Adv.callS A X2 hx hZ hown (hw _ (List.mem_of_getElem? (i := 10) rfl)) (hw _ (List.mem_of_getElem? (i := 11) rfl)) (hw _ (List.mem_of_getElem? (i := 7) rfl)) (hw _ (List.mem_of_getElem? (i := 12) rfl)) e2 (rm3 l Z a0 hw [] (f2 p1 (1 : Int32)) (0 : Int32) h0 n0) 0 (g := (mkF m 11 #[.val (.long p1), .second, .val (.long (f1 p1)), .second, .unset, .unset] [(.int (0 : Int32)), (.long (f2 p1 (1 : Int32)))])) rfl (by rw [hml]; rfl) [(.long (f2 p1 (1 : Int32))), (.int (0 : Int32))] [] rfl (lenOf pd0_1 rfl) rfl (by show 2 * 0 + _ ≤ _; exact Nat.le_of_eq rfl) (hb hby at_11) (by decide) (by decide) (by decide) (by decide) (by decide) ?_
  rintro T3 L3 _ X3 ⟨rfl, N3q, e3⟩
  have N3 := Fr.app N2 N3q
  show D (T3.setTop (mkF m 14 #[.val (.long p1), .second, .val (.long (f1 p1)), .second, .unset, .unset] [(.long (f3 (f2 p1 (1 : Int32)) (0 : Int32)))]))
  refine A (XS.lloadN X3.here hx rfl (hb hby at_14) rfl) ?_
  show D (T3.setTop (mkF m 15 #[.val (.long p1), .second, .val (.long (f1 p1)), .second, .unset, .unset] [(.long p1), (.long (f3 (f2 p1 (1 : Int32)) (0 : Int32)))]))
  refine A (XS.iconst X3.here hx rfl (hb hby at_15)) ?_
  show D (T3.setTop (mkF m 16 #[.val (.long p1), .second, .val (.long (f1 p1)), .second, .unset, .unset] [(.int (0 : Int32)), (.long p1), (.long (f3 (f2 p1 (1 : Int32)) (0 : Int32)))]))
  refine Adv.callS A X3 hx hZ hown (hw _ (List.mem_of_getElem? (i := 5) rfl)) (hw _ (List.mem_of_getElem? (i := 6) rfl)) (hw _ (List.mem_of_getElem? (i := 7) rfl)) (hw _ (List.mem_of_getElem? (i := 8) rfl)) e3 (rm2 l Z a0 hw [] p1 (0 : Int32) h0 n0) 2 (g := (mkF m 16 #[.val (.long p1), .second, .val (.long (f1 p1)), .second, .unset, .unset] [(.int (0 : Int32)), (.long p1), (.long (f3 (f2 p1 (1 : Int32)) (0 : Int32)))])) rfl (by rw [hml]; rfl) [(.long p1), (.int (0 : Int32))] [(.long (f3 (f2 p1 (1 : Int32)) (0 : Int32)))] rfl (lenOf pd0_1 rfl) rfl (by show 2 * 0 + _ ≤ _; exact Nat.le_of_eq rfl) (hb hby at_16) (by decide) (by decide) (by decide) (by decide) (by decide) ?_
  rintro T4 L4 _ X4 ⟨rfl, N4q, e4⟩
  have N4 := Fr.app N3 N4q
  show D (T4.setTop (mkF m 19 #[.val (.long p1), .second, .val (.long (f1 p1)), .second, .unset, .unset] [(.long (f2 p1 (0 : Int32))), (.long (f3 (f2 p1 (1 : Int32)) (0 : Int32)))]))
  refine A (XS.iconst X4.here hx rfl (hb hby at_19)) ?_
  show D (T4.setTop (mkF m 20 #[.val (.long p1), .second, .val (.long (f1 p1)), .second, .unset, .unset] [(.int (1 : Int32)), (.long (f2 p1 (0 : Int32))), (.long (f3 (f2 p1 (1 : Int32)) (0 : Int32)))]))
  refine Adv.callS A X4 hx hZ hown (hw _ (List.mem_of_getElem? (i := 10) rfl)) (hw _ (List.mem_of_getElem? (i := 11) rfl)) (hw _ (List.mem_of_getElem? (i := 7) rfl)) (hw _ (List.mem_of_getElem? (i := 12) rfl)) e4 (rm3 l Z a0 hw [] (f2 p1 (0 : Int32)) (1 : Int32) h0 n0) 2 (g := (mkF m 20 #[.val (.long p1), .second, .val (.long (f1 p1)), .second, .unset, .unset] [(.int (1 : Int32)), (.long (f2 p1 (0 : Int32))), (.long (f3 (f2 p1 (1 : Int32)) (0 : Int32)))])) rfl (by rw [hml]; rfl) [(.long (f2 p1 (0 : Int32))), (.int (1 : Int32))] [(.long (f3 (f2 p1 (1 : Int32)) (0 : Int32)))] rfl (lenOf pd0_1 rfl) rfl (by show 2 * 0 + _ ≤ _; exact Nat.le_of_eq rfl) (hb hby at_20) (by decide) (by decide) (by decide) (by decide) (by decide) ?_
  rintro T5 L5 _ X5 ⟨rfl, N5q, e5⟩
  have N5 := Fr.app N4 N5q
  show D (T5.setTop (mkF m 23 #[.val (.long p1), .second, .val (.long (f1 p1)), .second, .unset, .unset] [(.long (f3 (f2 p1 (0 : Int32)) (1 : Int32))), (.long (f3 (f2 p1 (1 : Int32)) (0 : Int32)))]))
  refine A (XS.lor X5.here hx rfl (hb hby at_23) rfl) ?_
  show D (T5.setTop (mkF m 24 #[.val (.long p1), .second, .val (.long (f1 p1)), .second, .unset, .unset] [(.long ((f3 (f2 p1 (1 : Int32)) (0 : Int32)) ||| (f3 (f2 p1 (0 : Int32)) (1 : Int32))))]))
  refine A (XS.lloadN X5.here hx rfl (hb hby at_24) rfl) ?_
  show D (T5.setTop (mkF m 25 #[.val (.long p1), .second, .val (.long (f1 p1)), .second, .unset, .unset] [(.long p1), (.long ((f3 (f2 p1 (1 : Int32)) (0 : Int32)) ||| (f3 (f2 p1 (0 : Int32)) (1 : Int32))))]))
  refine A (XS.iconst X5.here hx rfl (hb hby at_25)) ?_
  show D (T5.setTop (mkF m 26 #[.val (.long p1), .second, .val (.long (f1 p1)), .second, .unset, .unset] [(.int (3 : Int32)), (.long p1), (.long ((f3 (f2 p1 (1 : Int32)) (0 : Int32)) ||| (f3 (f2 p1 (0 : Int32)) (1 : Int32))))]))
  refine Adv.callS A X5 hx hZ hown (hw _ (List.mem_of_getElem? (i := 5) rfl)) (hw _ (List.mem_of_getElem? (i := 6) rfl)) (hw _ (List.mem_of_getElem? (i := 7) rfl)) (hw _ (List.mem_of_getElem? (i := 8) rfl)) e5 (rm2 l Z a0 hw [] p1 (3 : Int32) h0 n0) 2 (g := (mkF m 26 #[.val (.long p1), .second, .val (.long (f1 p1)), .second, .unset, .unset] [(.int (3 : Int32)), (.long p1), (.long ((f3 (f2 p1 (1 : Int32)) (0 : Int32)) ||| (f3 (f2 p1 (0 : Int32)) (1 : Int32))))])) rfl (by rw [hml]; rfl) [(.long p1), (.int (3 : Int32))] [(.long ((f3 (f2 p1 (1 : Int32)) (0 : Int32)) ||| (f3 (f2 p1 (0 : Int32)) (1 : Int32))))] rfl (lenOf pd0_1 rfl) rfl (by show 2 * 0 + _ ≤ _; exact Nat.le_of_eq rfl) (hb hby at_26) (by decide) (by decide) (by decide) (by decide) (by decide) ?_
  rintro T6 L6 _ X6 ⟨rfl, N6q, e6⟩
  have N6 := Fr.app N5 N6q
  show D (T6.setTop (mkF m 29 #[.val (.long p1), .second, .val (.long (f1 p1)), .second, .unset, .unset] [(.long (f2 p1 (3 : Int32))), (.long ((f3 (f2 p1 (1 : Int32)) (0 : Int32)) ||| (f3 (f2 p1 (0 : Int32)) (1 : Int32))))]))
  refine A (XS.iconst X6.here hx rfl (hb hby at_29)) ?_
  show D (T6.setTop (mkF m 30 #[.val (.long p1), .second, .val (.long (f1 p1)), .second, .unset, .unset] [(.int (2 : Int32)), (.long (f2 p1 (3 : Int32))), (.long ((f3 (f2 p1 (1 : Int32)) (0 : Int32)) ||| (f3 (f2 p1 (0 : Int32)) (1 : Int32))))]))
  refine Adv.callS A X6 hx hZ hown (hw _ (List.mem_of_getElem? (i := 10) rfl)) (hw _ (List.mem_of_getElem? (i := 11) rfl)) (hw _ (List.mem_of_getElem? (i := 7) rfl)) (hw _ (List.mem_of_getElem? (i := 12) rfl)) e6 (rm3 l Z a0 hw [] (f2 p1 (3 : Int32)) (2 : Int32) h0 n0) 2 (g := (mkF m 30 #[.val (.long p1), .second, .val (.long (f1 p1)), .second, .unset, .unset] [(.int (2 : Int32)), (.long (f2 p1 (3 : Int32))), (.long ((f3 (f2 p1 (1 : Int32)) (0 : Int32)) ||| (f3 (f2 p1 (0 : Int32)) (1 : Int32))))])) rfl (by rw [hml]; rfl) [(.long (f2 p1 (3 : Int32))), (.int (2 : Int32))] [(.long ((f3 (f2 p1 (1 : Int32)) (0 : Int32)) ||| (f3 (f2 p1 (0 : Int32)) (1 : Int32))))] rfl (lenOf pd0_1 rfl) rfl (by show 2 * 0 + _ ≤ _; exact Nat.le_of_eq rfl) (hb hby at_30) (by decide) (by decide) (by decide) (by decide) (by decide) ?_
  rintro T7 L7 _ X7 ⟨rfl, N7q, e7⟩
  have N7 := Fr.app N6 N7q
  show D (T7.setTop (mkF m 33 #[.val (.long p1), .second, .val (.long (f1 p1)), .second, .unset, .unset] [(.long (f3 (f2 p1 (3 : Int32)) (2 : Int32))), (.long ((f3 (f2 p1 (1 : Int32)) (0 : Int32)) ||| (f3 (f2 p1 (0 : Int32)) (1 : Int32))))]))
  refine A (XS.lor X7.here hx rfl (hb hby at_33) rfl) ?_
  show D (T7.setTop (mkF m 34 #[.val (.long p1), .second, .val (.long (f1 p1)), .second, .unset, .unset] [(.long (((f3 (f2 p1 (1 : Int32)) (0 : Int32)) ||| (f3 (f2 p1 (0 : Int32)) (1 : Int32))) ||| (f3 (f2 p1 (3 : Int32)) (2 : Int32))))]))
  refine A (XS.lloadN X7.here hx rfl (hb hby at_34) rfl) ?_
  show D (T7.setTop (mkF m 35 #[.val (.long p1), .second, .val (.long (f1 p1)), .second, .unset, .unset] [(.long p1), (.long (((f3 (f2 p1 (1 : Int32)) (0 : Int32)) ||| (f3 (f2 p1 (0 : Int32)) (1 : Int32))) ||| (f3 (f2 p1 (3 : Int32)) (2 : Int32))))]))
  refine A (XS.iconst X7.here hx rfl (hb hby at_35)) ?_
  show D (T7.setTop (mkF m 36 #[.val (.long p1), .second, .val (.long (f1 p1)), .second, .unset, .unset] [(.int (2 : Int32)), (.long p1), (.long (((f3 (f2 p1 (1 : Int32)) (0 : Int32)) ||| (f3 (f2 p1 (0 : Int32)) (1 : Int32))) ||| (f3 (f2 p1 (3 : Int32)) (2 : Int32))))]))
  refine Adv.callS A X7 hx hZ hown (hw _ (List.mem_of_getElem? (i := 5) rfl)) (hw _ (List.mem_of_getElem? (i := 6) rfl)) (hw _ (List.mem_of_getElem? (i := 7) rfl)) (hw _ (List.mem_of_getElem? (i := 8) rfl)) e7 (rm2 l Z a0 hw [] p1 (2 : Int32) h0 n0) 2 (g := (mkF m 36 #[.val (.long p1), .second, .val (.long (f1 p1)), .second, .unset, .unset] [(.int (2 : Int32)), (.long p1), (.long (((f3 (f2 p1 (1 : Int32)) (0 : Int32)) ||| (f3 (f2 p1 (0 : Int32)) (1 : Int32))) ||| (f3 (f2 p1 (3 : Int32)) (2 : Int32))))])) rfl (by rw [hml]; rfl) [(.long p1), (.int (2 : Int32))] [(.long (((f3 (f2 p1 (1 : Int32)) (0 : Int32)) ||| (f3 (f2 p1 (0 : Int32)) (1 : Int32))) ||| (f3 (f2 p1 (3 : Int32)) (2 : Int32))))] rfl (lenOf pd0_1 rfl) rfl (by show 2 * 0 + _ ≤ _; exact Nat.le_of_eq rfl) (hb hby at_36) (by decide) (by decide) (by decide) (by decide) (by decide) ?_
  rintro T8 L8 _ X8 ⟨rfl, N8q, e8⟩
  have N8 := Fr.app N7 N8q
  show D (T8.setTop (mkF m 39 #[.val (.long p1), .second, .val (.long (f1 p1)), .second, .unset, .unset] [(.long (f2 p1 (2 : Int32))), (.long (((f3 (f2 p1 (1 : Int32)) (0 : Int32)) ||| (f3 (f2 p1 (0 : Int32)) (1 : Int32))) ||| (f3 (f2 p1 (3 : Int32)) (2 : Int32))))]))
  refine A (XS.iconst X8.here hx rfl (hb hby at_39)) ?_
  show D (T8.setTop (mkF m 40 #[.val (.long p1), .second, .val (.long (f1 p1)), .second, .unset, .unset] [(.int (3 : Int32)), (.long (f2 p1 (2 : Int32))), (.long (((f3 (f2 p1 (1 : Int32)) (0 : Int32)) ||| (f3 (f2 p1 (0 : Int32)) (1 : Int32))) ||| (f3 (f2 p1 (3 : Int32)) (2 : Int32))))]))
  refine Adv.callS A X8 hx hZ hown (hw _ (List.mem_of_getElem? (i := 10) rfl)) (hw _ (List.mem_of_getElem? (i := 11) rfl)) (hw _ (List.mem_of_getElem? (i := 7) rfl)) (hw _ (List.mem_of_getElem? (i := 12) rfl)) e8 (rm3 l Z a0 hw [] (f2 p1 (2 : Int32)) (3 : Int32) h0 n0) 2 (g := (mkF m 40 #[.val (.long p1), .second, .val (.long (f1 p1)), .second, .unset, .unset] [(.int (3 : Int32)), (.long (f2 p1 (2 : Int32))), (.long (((f3 (f2 p1 (1 : Int32)) (0 : Int32)) ||| (f3 (f2 p1 (0 : Int32)) (1 : Int32))) ||| (f3 (f2 p1 (3 : Int32)) (2 : Int32))))])) rfl (by rw [hml]; rfl) [(.long (f2 p1 (2 : Int32))), (.int (3 : Int32))] [(.long (((f3 (f2 p1 (1 : Int32)) (0 : Int32)) ||| (f3 (f2 p1 (0 : Int32)) (1 : Int32))) ||| (f3 (f2 p1 (3 : Int32)) (2 : Int32))))] rfl (lenOf pd0_1 rfl) rfl (by show 2 * 0 + _ ≤ _; exact Nat.le_of_eq rfl) (hb hby at_40) (by decide) (by decide) (by decide) (by decide) (by decide) ?_
  rintro T9 L9 _ X9 ⟨rfl, N9q, e9⟩
  have N9 := Fr.app N8 N9q
  show D (T9.setTop (mkF m 43 #[.val (.long p1), .second, .val (.long (f1 p1)), .second, .unset, .unset] [(.long (f3 (f2 p1 (2 : Int32)) (3 : Int32))), (.long (((f3 (f2 p1 (1 : Int32)) (0 : Int32)) ||| (f3 (f2 p1 (0 : Int32)) (1 : Int32))) ||| (f3 (f2 p1 (3 : Int32)) (2 : Int32))))]))
  refine A (XS.lor X9.here hx rfl (hb hby at_43) rfl) ?_
  show D (T9.setTop (mkF m 44 #[.val (.long p1), .second, .val (.long (f1 p1)), .second, .unset, .unset] [(.long ((((f3 (f2 p1 (1 : Int32)) (0 : Int32)) ||| (f3 (f2 p1 (0 : Int32)) (1 : Int32))) ||| (f3 (f2 p1 (3 : Int32)) (2 : Int32))) ||| (f3 (f2 p1 (2 : Int32)) (3 : Int32))))]))
  refine A (XS.lloadN X9.here hx rfl (hb hby at_44) rfl) ?_
  show D (T9.setTop (mkF m 45 #[.val (.long p1), .second, .val (.long (f1 p1)), .second, .unset, .unset] [(.long p1), (.long ((((f3 (f2 p1 (1 : Int32)) (0 : Int32)) ||| (f3 (f2 p1 (0 : Int32)) (1 : Int32))) ||| (f3 (f2 p1 (3 : Int32)) (2 : Int32))) ||| (f3 (f2 p1 (2 : Int32)) (3 : Int32))))]))
  refine A (XS.iconst X9.here hx rfl (hb hby at_45)) ?_
  show D (T9.setTop (mkF m 46 #[.val (.long p1), .second, .val (.long (f1 p1)), .second, .unset, .unset] [(.int (5 : Int32)), (.long p1), (.long ((((f3 (f2 p1 (1 : Int32)) (0 : Int32)) ||| (f3 (f2 p1 (0 : Int32)) (1 : Int32))) ||| (f3 (f2 p1 (3 : Int32)) (2 : Int32))) ||| (f3 (f2 p1 (2 : Int32)) (3 : Int32))))]))
  refine Adv.callS A X9 hx hZ hown (hw _ (List.mem_of_getElem? (i := 5) rfl)) (hw _ (List.mem_of_getElem? (i := 6) rfl)) (hw _ (List.mem_of_getElem? (i := 7) rfl)) (hw _ (List.mem_of_getElem? (i := 8) rfl)) e9 (rm2 l Z a0 hw [] p1 (5 : Int32) h0 n0) 2 (g := (mkF m 46 #[.val (.long p1), .second, .val (.long (f1 p1)), .second, .unset, .unset] [(.int (5 : Int32)), (.long p1), (.long ((((f3 (f2 p1 (1 : Int32)) (0 : Int32)) ||| (f3 (f2 p1 (0 : Int32)) (1 : Int32))) ||| (f3 (f2 p1 (3 : Int32)) (2 : Int32))) ||| (f3 (f2 p1 (2 : Int32)) (3 : Int32))))])) rfl (by rw [hml]; rfl) [(.long p1), (.int (5 : Int32))] [(.long ((((f3 (f2 p1 (1 : Int32)) (0 : Int32)) ||| (f3 (f2 p1 (0 : Int32)) (1 : Int32))) ||| (f3 (f2 p1 (3 : Int32)) (2 : Int32))) ||| (f3 (f2 p1 (2 : Int32)) (3 : Int32))))] rfl (lenOf pd0_1 rfl) rfl (by show 2 * 0 + _ ≤ _; exact Nat.le_of_eq rfl) (hb hby at_46) (by decide) (by decide) (by decide) (by decide) (by decide) ?_
  rintro T10 L10 _ X10 ⟨rfl, N10q, e10⟩
  have N10 := Fr.app N9 N10q
  show D (T10.setTop (mkF m 49 #[.val (.long p1), .second, .val (.long (f1 p1)), .second, .unset, .unset] [(.long (f2 p1 (5 : Int32))), (.long ((((f3 (f2 p1 (1 : Int32)) (0 : Int32)) ||| (f3 (f2 p1 (0 : Int32)) (1 : Int32))) ||| (f3 (f2 p1 (3 : Int32)) (2 : Int32))) ||| (f3 (f2 p1 (2 : Int32)) (3 : Int32))))]))
  refine A (XS.iconst X10.here hx rfl (hb hby at_49)) ?_
  show D (T10.setTop (mkF m 50 #[.val (.long p1), .second, .val (.long (f1 p1)), .second, .unset, .unset] [(.int (4 : Int32)), (.long (f2 p1 (5 : Int32))), (.long ((((f3 (f2 p1 (1 : Int32)) (0 : Int32)) ||| (f3 (f2 p1 (0 : Int32)) (1 : Int32))) ||| (f3 (f2 p1 (3 : Int32)) (2 : Int32))) ||| (f3 (f2 p1 (2 : Int32)) (3 : Int32))))]))
  refine Adv.callS A X10 hx hZ hown (hw _ (List.mem_of_getElem? (i := 10) rfl)) (hw _ (List.mem_of_getElem? (i := 11) rfl)) (hw _ (List.mem_of_getElem? (i := 7) rfl)) (hw _ (List.mem_of_getElem? (i := 12) rfl)) e10 (rm3 l Z a0 hw [] (f2 p1 (5 : Int32)) (4 : Int32) h0 n0) 2 (g := (mkF m 50 #[.val (.long p1), .second, .val (.long (f1 p1)), .second, .unset, .unset] [(.int (4 : Int32)), (.long (f2 p1 (5 : Int32))), (.long ((((f3 (f2 p1 (1 : Int32)) (0 : Int32)) ||| (f3 (f2 p1 (0 : Int32)) (1 : Int32))) ||| (f3 (f2 p1 (3 : Int32)) (2 : Int32))) ||| (f3 (f2 p1 (2 : Int32)) (3 : Int32))))])) rfl (by rw [hml]; rfl) [(.long (f2 p1 (5 : Int32))), (.int (4 : Int32))] [(.long ((((f3 (f2 p1 (1 : Int32)) (0 : Int32)) ||| (f3 (f2 p1 (0 : Int32)) (1 : Int32))) ||| (f3 (f2 p1 (3 : Int32)) (2 : Int32))) ||| (f3 (f2 p1 (2 : Int32)) (3 : Int32))))] rfl (lenOf pd0_1 rfl) rfl (by show 2 * 0 + _ ≤ _; exact Nat.le_of_eq rfl) (hb hby at_50) (by decide) (by decide) (by decide) (by decide) (by decide) ?_
  rintro T11 L11 _ X11 ⟨rfl, N11q, e11⟩
  have N11 := Fr.app N10 N11q
  show D (T11.setTop (mkF m 53 #[.val (.long p1), .second, .val (.long (f1 p1)), .second, .unset, .unset] [(.long (f3 (f2 p1 (5 : Int32)) (4 : Int32))), (.long ((((f3 (f2 p1 (1 : Int32)) (0 : Int32)) ||| (f3 (f2 p1 (0 : Int32)) (1 : Int32))) ||| (f3 (f2 p1 (3 : Int32)) (2 : Int32))) ||| (f3 (f2 p1 (2 : Int32)) (3 : Int32))))]))
  refine A (XS.lor X11.here hx rfl (hb hby at_53) rfl) ?_
  show D (T11.setTop (mkF m 54 #[.val (.long p1), .second, .val (.long (f1 p1)), .second, .unset, .unset] [(.long (((((f3 (f2 p1 (1 : Int32)) (0 : Int32)) ||| (f3 (f2 p1 (0 : Int32)) (1 : Int32))) ||| (f3 (f2 p1 (3 : Int32)) (2 : Int32))) ||| (f3 (f2 p1 (2 : Int32)) (3 : Int32))) ||| (f3 (f2 p1 (5 : Int32)) (4 : Int32))))]))
  refine A (XS.lloadN X11.here hx rfl (hb hby at_54) rfl) ?_
  show D (T11.setTop (mkF m 55 #[.val (.long p1), .second, .val (.long (f1 p1)), .second, .unset, .unset] [(.long p1), (.long (((((f3 (f2 p1 (1 : Int32)) (0 : Int32)) ||| (f3 (f2 p1 (0 : Int32)) (1 : Int32))) ||| (f3 (f2 p1 (3 : Int32)) (2 : Int32))) ||| (f3 (f2 p1 (2 : Int32)) (3 : Int32))) ||| (f3 (f2 p1 (5 : Int32)) (4 : Int32))))]))
  refine A (XS.iconst X11.here hx rfl (hb hby at_55)) ?_
  show D (T11.setTop (mkF m 56 #[.val (.long p1), .second, .val (.long (f1 p1)), .second, .unset, .unset] [(.int (4 : Int32)), (.long p1), (.long (((((f3 (f2 p1 (1 : Int32)) (0 : Int32)) ||| (f3 (f2 p1 (0 : Int32)) (1 : Int32))) ||| (f3 (f2 p1 (3 : Int32)) (2 : Int32))) ||| (f3 (f2 p1 (2 : Int32)) (3 : Int32))) ||| (f3 (f2 p1 (5 : Int32)) (4 : Int32))))]))
  refine Adv.callS A X11 hx hZ hown (hw _ (List.mem_of_getElem? (i := 5) rfl)) (hw _ (List.mem_of_getElem? (i := 6) rfl)) (hw _ (List.mem_of_getElem? (i := 7) rfl)) (hw _ (List.mem_of_getElem? (i := 8) rfl)) e11 (rm2 l Z a0 hw [] p1 (4 : Int32) h0 n0) 2 (g := (mkF m 56 #[.val (.long p1), .second, .val (.long (f1 p1)), .second, .unset, .unset] [(.int (4 : Int32)), (.long p1), (.long (((((f3 (f2 p1 (1 : Int32)) (0 : Int32)) ||| (f3 (f2 p1 (0 : Int32)) (1 : Int32))) ||| (f3 (f2 p1 (3 : Int32)) (2 : Int32))) ||| (f3 (f2 p1 (2 : Int32)) (3 : Int32))) ||| (f3 (f2 p1 (5 : Int32)) (4 : Int32))))])) rfl (by rw [hml]; rfl) [(.long p1), (.int (4 : Int32))] [(.long (((((f3 (f2 p1 (1 : Int32)) (0 : Int32)) ||| (f3 (f2 p1 (0 : Int32)) (1 : Int32))) ||| (f3 (f2 p1 (3 : Int32)) (2 : Int32))) ||| (f3 (f2 p1 (2 : Int32)) (3 : Int32))) ||| (f3 (f2 p1 (5 : Int32)) (4 : Int32))))] rfl (lenOf pd0_1 rfl) rfl (by show 2 * 0 + _ ≤ _; exact Nat.le_of_eq rfl) (hb hby at_56) (by decide) (by decide) (by decide) (by decide) (by decide) ?_
  rintro T12 L12 _ X12 ⟨rfl, N12q, e12⟩
  have N12 := Fr.app N11 N12q
  show D (T12.setTop (mkF m 59 #[.val (.long p1), .second, .val (.long (f1 p1)), .second, .unset, .unset] [(.long (f2 p1 (4 : Int32))), (.long (((((f3 (f2 p1 (1 : Int32)) (0 : Int32)) ||| (f3 (f2 p1 (0 : Int32)) (1 : Int32))) ||| (f3 (f2 p1 (3 : Int32)) (2 : Int32))) ||| (f3 (f2 p1 (2 : Int32)) (3 : Int32))) ||| (f3 (f2 p1 (5 : Int32)) (4 : Int32))))]))
  refine A (XS.iconst X12.here hx rfl (hb hby at_59)) ?_
  show D (T12.setTop (mkF m 60 #[.val (.long p1), .second, .val (.long (f1 p1)), .second, .unset, .unset] [(.int (5 : Int32)), (.long (f2 p1 (4 : Int32))), (.long (((((f3 (f2 p1 (1 : Int32)) (0 : Int32)) ||| (f3 (f2 p1 (0 : Int32)) (1 : Int32))) ||| (f3 (f2 p1 (3 : Int32)) (2 : Int32))) ||| (f3 (f2 p1 (2 : Int32)) (3 : Int32))) ||| (f3 (f2 p1 (5 : Int32)) (4 : Int32))))]))
  refine Adv.callS A X12 hx hZ hown (hw _ (List.mem_of_getElem? (i := 10) rfl)) (hw _ (List.mem_of_getElem? (i := 11) rfl)) (hw _ (List.mem_of_getElem? (i := 7) rfl)) (hw _ (List.mem_of_getElem? (i := 12) rfl)) e12 (rm3 l Z a0 hw [] (f2 p1 (4 : Int32)) (5 : Int32) h0 n0) 2 (g := (mkF m 60 #[.val (.long p1), .second, .val (.long (f1 p1)), .second, .unset, .unset] [(.int (5 : Int32)), (.long (f2 p1 (4 : Int32))), (.long (((((f3 (f2 p1 (1 : Int32)) (0 : Int32)) ||| (f3 (f2 p1 (0 : Int32)) (1 : Int32))) ||| (f3 (f2 p1 (3 : Int32)) (2 : Int32))) ||| (f3 (f2 p1 (2 : Int32)) (3 : Int32))) ||| (f3 (f2 p1 (5 : Int32)) (4 : Int32))))])) rfl (by rw [hml]; rfl) [(.long (f2 p1 (4 : Int32))), (.int (5 : Int32))] [(.long (((((f3 (f2 p1 (1 : Int32)) (0 : Int32)) ||| (f3 (f2 p1 (0 : Int32)) (1 : Int32))) ||| (f3 (f2 p1 (3 : Int32)) (2 : Int32))) ||| (f3 (f2 p1 (2 : Int32)) (3 : Int32))) ||| (f3 (f2 p1 (5 : Int32)) (4 : Int32))))] rfl (lenOf pd0_1 rfl) rfl (by show 2 * 0 + _ ≤ _; exact Nat.le_of_eq rfl) (hb hby at_60) (by decide) (by decide) (by decide) (by decide) (by decide) ?_
  rintro T13 L13 _ X13 ⟨rfl, N13q, e13⟩
  have N13 := Fr.app N12 N13q
  show D (T13.setTop (mkF m 63 #[.val (.long p1), .second, .val (.long (f1 p1)), .second, .unset, .unset] [(.long (f3 (f2 p1 (4 : Int32)) (5 : Int32))), (.long (((((f3 (f2 p1 (1 : Int32)) (0 : Int32)) ||| (f3 (f2 p1 (0 : Int32)) (1 : Int32))) ||| (f3 (f2 p1 (3 : Int32)) (2 : Int32))) ||| (f3 (f2 p1 (2 : Int32)) (3 : Int32))) ||| (f3 (f2 p1 (5 : Int32)) (4 : Int32))))]))
  refine A (XS.lor X13.here hx rfl (hb hby at_63) rfl) ?_
  show D (T13.setTop (mkF m 64 #[.val (.long p1), .second, .val (.long (f1 p1)), .second, .unset, .unset] [(.long ((((((f3 (f2 p1 (1 : Int32)) (0 : Int32)) ||| (f3 (f2 p1 (0 : Int32)) (1 : Int32))) ||| (f3 (f2 p1 (3 : Int32)) (2 : Int32))) ||| (f3 (f2 p1 (2 : Int32)) (3 : Int32))) ||| (f3 (f2 p1 (5 : Int32)) (4 : Int32))) ||| (f3 (f2 p1 (4 : Int32)) (5 : Int32))))]))
  refine A (XS.lloadN X13.here hx rfl (hb hby at_64) rfl) ?_
  show D (T13.setTop (mkF m 65 #[.val (.long p1), .second, .val (.long (f1 p1)), .second, .unset, .unset] [(.long p1), (.long ((((((f3 (f2 p1 (1 : Int32)) (0 : Int32)) ||| (f3 (f2 p1 (0 : Int32)) (1 : Int32))) ||| (f3 (f2 p1 (3 : Int32)) (2 : Int32))) ||| (f3 (f2 p1 (2 : Int32)) (3 : Int32))) ||| (f3 (f2 p1 (5 : Int32)) (4 : Int32))) ||| (f3 (f2 p1 (4 : Int32)) (5 : Int32))))]))
  refine A (XS.bipush X13.here hx rfl (hb hby at_65)) ?_
  show D (T13.setTop (mkF m 67 #[.val (.long p1), .second, .val (.long (f1 p1)), .second, .unset, .unset] [(.int (7 : Int32)), (.long p1), (.long ((((((f3 (f2 p1 (1 : Int32)) (0 : Int32)) ||| (f3 (f2 p1 (0 : Int32)) (1 : Int32))) ||| (f3 (f2 p1 (3 : Int32)) (2 : Int32))) ||| (f3 (f2 p1 (2 : Int32)) (3 : Int32))) ||| (f3 (f2 p1 (5 : Int32)) (4 : Int32))) ||| (f3 (f2 p1 (4 : Int32)) (5 : Int32))))]))
  refine Adv.callS A X13 hx hZ hown (hw _ (List.mem_of_getElem? (i := 5) rfl)) (hw _ (List.mem_of_getElem? (i := 6) rfl)) (hw _ (List.mem_of_getElem? (i := 7) rfl)) (hw _ (List.mem_of_getElem? (i := 8) rfl)) e13 (rm2 l Z a0 hw [] p1 (7 : Int32) h0 n0) 2 (g := (mkF m 67 #[.val (.long p1), .second, .val (.long (f1 p1)), .second, .unset, .unset] [(.int (7 : Int32)), (.long p1), (.long ((((((f3 (f2 p1 (1 : Int32)) (0 : Int32)) ||| (f3 (f2 p1 (0 : Int32)) (1 : Int32))) ||| (f3 (f2 p1 (3 : Int32)) (2 : Int32))) ||| (f3 (f2 p1 (2 : Int32)) (3 : Int32))) ||| (f3 (f2 p1 (5 : Int32)) (4 : Int32))) ||| (f3 (f2 p1 (4 : Int32)) (5 : Int32))))])) rfl (by rw [hml]; rfl) [(.long p1), (.int (7 : Int32))] [(.long ((((((f3 (f2 p1 (1 : Int32)) (0 : Int32)) ||| (f3 (f2 p1 (0 : Int32)) (1 : Int32))) ||| (f3 (f2 p1 (3 : Int32)) (2 : Int32))) ||| (f3 (f2 p1 (2 : Int32)) (3 : Int32))) ||| (f3 (f2 p1 (5 : Int32)) (4 : Int32))) ||| (f3 (f2 p1 (4 : Int32)) (5 : Int32))))] rfl (lenOf pd0_1 rfl) rfl (by show 2 * 0 + _ ≤ _; exact Nat.le_of_eq rfl) (hb hby at_67) (by decide) (by decide) (by decide) (by decide) (by decide) ?_
  rintro T14 L14 _ X14 ⟨rfl, N14q, e14⟩
  have N14 := Fr.app N13 N14q
  show D (T14.setTop (mkF m 70 #[.val (.long p1), .second, .val (.long (f1 p1)), .second, .unset, .unset] [(.long (f2 p1 (7 : Int32))), (.long ((((((f3 (f2 p1 (1 : Int32)) (0 : Int32)) ||| (f3 (f2 p1 (0 : Int32)) (1 : Int32))) ||| (f3 (f2 p1 (3 : Int32)) (2 : Int32))) ||| (f3 (f2 p1 (2 : Int32)) (3 : Int32))) ||| (f3 (f2 p1 (5 : Int32)) (4 : Int32))) ||| (f3 (f2 p1 (4 : Int32)) (5 : Int32))))]))
  refine A (XS.bipush X14.here hx rfl (hb hby at_70)) ?_
  show D (T14.setTop (mkF m 72 #[.val (.long p1), .second, .val (.long (f1 p1)), .second, .unset, .unset] [(.int (6 : Int32)), (.long (f2 p1 (7 : Int32))), (.long ((((((f3 (f2 p1 (1 : Int32)) (0 : Int32)) ||| (f3 (f2 p1 (0 : Int32)) (1 : Int32))) ||| (f3 (f2 p1 (3 : Int32)) (2 : Int32))) ||| (f3 (f2 p1 (2 : Int32)) (3 : Int32))) ||| (f3 (f2 p1 (5 : Int32)) (4 : Int32))) ||| (f3 (f2 p1 (4 : Int32)) (5 : Int32))))]))
  refine Adv.callS A X14 hx hZ hown (hw _ (List.mem_of_getElem? (i := 10) rfl)) (hw _ (List.mem_of_getElem? (i := 11) rfl)) (hw _ (List.mem_of_getElem? (i := 7) rfl)) (hw _ (List.mem_of_getElem? (i := 12) rfl)) e14 (rm3 l Z a0 hw [] (f2 p1 (7 : Int32)) (6 : Int32) h0 n0) 2 (g := (mkF m 72 #[.val (.long p1), .second, .val (.long (f1 p1)), .second, .unset, .unset] [(.int (6 : Int32)), (.long (f2 p1 (7 : Int32))), (.long ((((((f3 (f2 p1 (1 : Int32)) (0 : Int32)) ||| (f3 (f2 p1 (0 : Int32)) (1 : Int32))) ||| (f3 (f2 p1 (3 : Int32)) (2 : Int32))) ||| (f3 (f2 p1 (2 : Int32)) (3 : Int32))) ||| (f3 (f2 p1 (5 : Int32)) (4 : Int32))) ||| (f3 (f2 p1 (4 : Int32)) (5 : Int32))))])) rfl (by rw [hml]; rfl) [(.long (f2 p1 (7 : Int32))), (.int (6 : Int32))] [(.long ((((((f3 (f2 p1 (1 : Int32)) (0 : Int32)) ||| (f3 (f2 p1 (0 : Int32)) (1 : Int32))) ||| (f3 (f2 p1 (3 : Int32)) (2 : Int32))) ||| (f3 (f2 p1 (2 : Int32)) (3 : Int32))) ||| (f3 (f2 p1 (5 : Int32)) (4 : Int32))) ||| (f3 (f2 p1 (4 : Int32)) (5 : Int32))))] rfl (lenOf pd0_1 rfl) rfl (by show 2 * 0 + _ ≤ _; exact Nat.le_of_eq rfl) (hb hby at_72) (by decide) (by decide) (by decide) (by decide) (by decide) ?_
  rintro T15 L15 _ X15 ⟨rfl, N15q, e15⟩
  have N15 := Fr.app N14 N15q
  show D (T15.setTop (mkF m 75 #[.val (.long p1), .second, .val (.long (f1 p1)), .second, .unset, .unset] [(.long (f3 (f2 p1 (7 : Int32)) (6 : Int32))), (.long ((((((f3 (f2 p1 (1 : Int32)) (0 : Int32)) ||| (f3 (f2 p1 (0 : Int32)) (1 : Int32))) ||| (f3 (f2 p1 (3 : Int32)) (2 : Int32))) ||| (f3 (f2 p1 (2 : Int32)) (3 : Int32))) ||| (f3 (f2 p1 (5 : Int32)) (4 : Int32))) ||| (f3 (f2 p1 (4 : Int32)) (5 : Int32))))]))
  refine A (XS.lor X15.here hx rfl (hb hby at_75) rfl) ?_
  show D (T15.setTop (mkF m 76 #[.val (.long p1), .second, .val (.long (f1 p1)), .second, .unset, .unset] [(.long (((((((f3 (f2 p1 (1 : Int32)) (0 : Int32)) ||| (f3 (f2 p1 (0 : Int32)) (1 : Int32))) ||| (f3 (f2 p1 (3 : Int32)) (2 : Int32))) ||| (f3 (f2 p1 (2 : Int32)) (3 : Int32))) ||| (f3 (f2 p1 (5 : Int32)) (4 : Int32))) ||| (f3 (f2 p1 (4 : Int32)) (5 : Int32))) ||| (f3 (f2 p1 (7 : Int32)) (6 : Int32))))]))
  refine A (XS.lloadN X15.here hx rfl (hb hby at_76) rfl) ?_
  show D (T15.setTop (mkF m 77 #[.val (.long p1), .second, .val (.long (f1 p1)), .second, .unset, .unset] [(.long p1), (.long (((((((f3 (f2 p1 (1 : Int32)) (0 : Int32)) ||| (f3 (f2 p1 (0 : Int32)) (1 : Int32))) ||| (f3 (f2 p1 (3 : Int32)) (2 : Int32))) ||| (f3 (f2 p1 (2 : Int32)) (3 : Int32))) ||| (f3 (f2 p1 (5 : Int32)) (4 : Int32))) ||| (f3 (f2 p1 (4 : Int32)) (5 : Int32))) ||| (f3 (f2 p1 (7 : Int32)) (6 : Int32))))]))
  refine A (XS.bipush X15.here hx rfl (hb hby at_77)) ?_
  show D (T15.setTop (mkF m 79 #[.val (.long p1), .second, .val (.long (f1 p1)), .second, .unset, .unset] [(.int (6 : Int32)), (.long p1), (.long (((((((f3 (f2 p1 (1 : Int32)) (0 : Int32)) ||| (f3 (f2 p1 (0 : Int32)) (1 : Int32))) ||| (f3 (f2 p1 (3 : Int32)) (2 : Int32))) ||| (f3 (f2 p1 (2 : Int32)) (3 : Int32))) ||| (f3 (f2 p1 (5 : Int32)) (4 : Int32))) ||| (f3 (f2 p1 (4 : Int32)) (5 : Int32))) ||| (f3 (f2 p1 (7 : Int32)) (6 : Int32))))]))
  refine Adv.callS A X15 hx hZ hown (hw _ (List.mem_of_getElem? (i := 5) rfl)) (hw _ (List.mem_of_getElem? (i := 6) rfl)) (hw _ (List.mem_of_getElem? (i := 7) rfl)) (hw _ (List.mem_of_getElem? (i := 8) rfl)) e15 (rm2 l Z a0 hw [] p1 (6 : Int32) h0 n0) 2 (g := (mkF m 79 #[.val (.long p1), .second, .val (.long (f1 p1)), .second, .unset, .unset] [(.int (6 : Int32)), (.long p1), (.long (((((((f3 (f2 p1 (1 : Int32)) (0 : Int32)) ||| (f3 (f2 p1 (0 : Int32)) (1 : Int32))) ||| (f3 (f2 p1 (3 : Int32)) (2 : Int32))) ||| (f3 (f2 p1 (2 : Int32)) (3 : Int32))) ||| (f3 (f2 p1 (5 : Int32)) (4 : Int32))) ||| (f3 (f2 p1 (4 : Int32)) (5 : Int32))) ||| (f3 (f2 p1 (7 : Int32)) (6 : Int32))))])) rfl (by rw [hml]; rfl) [(.long p1), (.int (6 : Int32))] [(.long (((((((f3 (f2 p1 (1 : Int32)) (0 : Int32)) ||| (f3 (f2 p1 (0 : Int32)) (1 : Int32))) ||| (f3 (f2 p1 (3 : Int32)) (2 : Int32))) ||| (f3 (f2 p1 (2 : Int32)) (3 : Int32))) ||| (f3 (f2 p1 (5 : Int32)) (4 : Int32))) ||| (f3 (f2 p1 (4 : Int32)) (5 : Int32))) ||| (f3 (f2 p1 (7 : Int32)) (6 : Int32))))] rfl (lenOf pd0_1 rfl) rfl (by show 2 * 0 + _ ≤ _; exact Nat.le_of_eq rfl) (hb hby at_79) (by decide) (by decide) (by decide) (by decide) (by decide) ?_
  rintro T16 L16 _ X16 ⟨rfl, N16q, e16⟩
  have N16 := Fr.app N15 N16q
  show D (T16.setTop (mkF m 82 #[.val (.long p1), .second, .val (.long (f1 p1)), .second, .unset, .unset] [(.long (f2 p1 (6 : Int32))), (.long (((((((f3 (f2 p1 (1 : Int32)) (0 : Int32)) ||| (f3 (f2 p1 (0 : Int32)) (1 : Int32))) ||| (f3 (f2 p1 (3 : Int32)) (2 : Int32))) ||| (f3 (f2 p1 (2 : Int32)) (3 : Int32))) ||| (f3 (f2 p1 (5 : Int32)) (4 : Int32))) ||| (f3 (f2 p1 (4 : Int32)) (5 : Int32))) ||| (f3 (f2 p1 (7 : Int32)) (6 : Int32))))]))
  refine A (XS.bipush X16.here hx rfl (hb hby at_82)) ?_
  show D (T16.setTop (mkF m 84 #[.val (.long p1), .second, .val (.long (f1 p1)), .second, .unset, .unset] [(.int (7 : Int32)), (.long (f2 p1 (6 : Int32))), (.long (((((((f3 (f2 p1 (1 : Int32)) (0 : Int32)) ||| (f3 (f2 p1 (0 : Int32)) (1 : Int32))) ||| (f3 (f2 p1 (3 : Int32)) (2 : Int32))) ||| (f3 (f2 p1 (2 : Int32)) (3 : Int32))) ||| (f3 (f2 p1 (5 : Int32)) (4 : Int32))) ||| (f3 (f2 p1 (4 : Int32)) (5 : Int32))) ||| (f3 (f2 p1 (7 : Int32)) (6 : Int32))))]))
  refine Adv.callS A X16 hx hZ hown (hw _ (List.mem_of_getElem? (i := 10) rfl)) (hw _ (List.mem_of_getElem? (i := 11) rfl)) (hw _ (List.mem_of_getElem? (i := 7) rfl)) (hw _ (List.mem_of_getElem? (i := 12) rfl)) e16 (rm3 l Z a0 hw [] (f2 p1 (6 : Int32)) (7 : Int32) h0 n0) 2 (g := (mkF m 84 #[.val (.long p1), .second, .val (.long (f1 p1)), .second, .unset, .unset] [(.int (7 : Int32)), (.long (f2 p1 (6 : Int32))), (.long (((((((f3 (f2 p1 (1 : Int32)) (0 : Int32)) ||| (f3 (f2 p1 (0 : Int32)) (1 : Int32))) ||| (f3 (f2 p1 (3 : Int32)) (2 : Int32))) ||| (f3 (f2 p1 (2 : Int32)) (3 : Int32))) ||| (f3 (f2 p1 (5 : Int32)) (4 : Int32))) ||| (f3 (f2 p1 (4 : Int32)) (5 : Int32))) ||| (f3 (f2 p1 (7 : Int32)) (6 : Int32))))])) rfl (by rw [hml]; rfl) [(.long (f2 p1 (6 : Int32))), (.int (7 : Int32))] [(.long (((((((f3 (f2 p1 (1 : Int32)) (0 : Int32)) ||| (f3 (f2 p1 (0 : Int32)) (1 : Int32))) ||| (f3 (f2 p1 (3 : Int32)) (2 : Int32))) ||| (f3 (f2 p1 (2 : Int32)) (3 : Int32))) ||| (f3 (f2 p1 (5 : Int32)) (4 : Int32))) ||| (f3 (f2 p1 (4 : Int32)) (5 : Int32))) ||| (f3 (f2 p1 (7 : Int32)) (6 : Int32))))] rfl (lenOf pd0_1 rfl) rfl (by show 2 * 0 + _ ≤ _; exact Nat.le_of_eq rfl) (hb hby at_84) (by decide) (by decide) (by decide) (by decide) (by decide) ?_
  rintro T17 L17 _ X17 ⟨rfl, N17q, e17⟩
  have N17 := Fr.app N16 N17q
  show D (T17.setTop (mkF m 87 #[.val (.long p1), .second, .val (.long (f1 p1)), .second, .unset, .unset] [(.long (f3 (f2 p1 (6 : Int32)) (7 : Int32))), (.long (((((((f3 (f2 p1 (1 : Int32)) (0 : Int32)) ||| (f3 (f2 p1 (0 : Int32)) (1 : Int32))) ||| (f3 (f2 p1 (3 : Int32)) (2 : Int32))) ||| (f3 (f2 p1 (2 : Int32)) (3 : Int32))) ||| (f3 (f2 p1 (5 : Int32)) (4 : Int32))) ||| (f3 (f2 p1 (4 : Int32)) (5 : Int32))) ||| (f3 (f2 p1 (7 : Int32)) (6 : Int32))))]))
  refine A (XS.lor X17.here hx rfl (hb hby at_87) rfl) ?_
  show D (T17.setTop (mkF m 88 #[.val (.long p1), .second, .val (.long (f1 p1)), .second, .unset, .unset] [(.long ((((((((f3 (f2 p1 (1 : Int32)) (0 : Int32)) ||| (f3 (f2 p1 (0 : Int32)) (1 : Int32))) ||| (f3 (f2 p1 (3 : Int32)) (2 : Int32))) ||| (f3 (f2 p1 (2 : Int32)) (3 : Int32))) ||| (f3 (f2 p1 (5 : Int32)) (4 : Int32))) ||| (f3 (f2 p1 (4 : Int32)) (5 : Int32))) ||| (f3 (f2 p1 (7 : Int32)) (6 : Int32))) ||| (f3 (f2 p1 (6 : Int32)) (7 : Int32))))]))
  refine A (XS.lstore X17.here hx rfl (hb hby at_88) rfl (l' := #[.val (.long p1), .second, .val (.long (f1 p1)), .second, .val (.long ((((((((f3 (f2 p1 (1 : Int32)) (0 : Int32)) ||| (f3 (f2 p1 (0 : Int32)) (1 : Int32))) ||| (f3 (f2 p1 (3 : Int32)) (2 : Int32))) ||| (f3 (f2 p1 (2 : Int32)) (3 : Int32))) ||| (f3 (f2 p1 (5 : Int32)) (4 : Int32))) ||| (f3 (f2 p1 (4 : Int32)) (5 : Int32))) ||| (f3 (f2 p1 (7 : Int32)) (6 : Int32))) ||| (f3 (f2 p1 (6 : Int32)) (7 : Int32)))), .second]) rfl) ?_
  show D (T17.setTop (mkF m 90 #[.val (.long p1), .second, .val (.long (f1 p1)), .second, .val (.long ((((((((f3 (f2 p1 (1 : Int32)) (0 : Int32)) ||| (f3 (f2 p1 (0 : Int32)) (1 : Int32))) ||| (f3 (f2 p1 (3 : Int32)) (2 : Int32))) ||| (f3 (f2 p1 (2 : Int32)) (3 : Int32))) ||| (f3 (f2 p1 (5 : Int32)) (4 : Int32))) ||| (f3 (f2 p1 (4 : Int32)) (5 : Int32))) ||| (f3 (f2 p1 (7 : Int32)) (6 : Int32))) ||| (f3 (f2 p1 (6 : Int32)) (7 : Int32)))), .second] []))
  suffices Kx4_90 : ∀ x4_90 : Int64, x4_90 = ((((((((f3 (f2 p1 (1 : Int32)) (0 : Int32)) ||| (f3 (f2 p1 (0 : Int32)) (1 : Int32))) ||| (f3 (f2 p1 (3 : Int32)) (2 : Int32))) ||| (f3 (f2 p1 (2 : Int32)) (3 : Int32))) ||| (f3 (f2 p1 (5 : Int32)) (4 : Int32))) ||| (f3 (f2 p1 (4 : Int32)) (5 : Int32))) ||| (f3 (f2 p1 (7 : Int32)) (6 : Int32))) ||| (f3 (f2 p1 (6 : Int32)) (7 : Int32))) → D (T17.setTop (mkF m 90 #[.val (.long p1), .second, .val (.long (f1 p1)), .second, .val (.long x4_90), .second] [])) from Kx4_90 _ rfl
  intro x4_90 hx4_90
  refine A (XS.lloadN X17.here hx rfl (hb hby at_90) rfl) ?_
  show D (T17.setTop (mkF m 91 #[.val (.long p1), .second, .val (.long (f1 p1)), .second, .val (.long x4_90), .second] [(.long (f1 p1))]))
  refine A (XS.lload X17.here hx rfl (hb hby at_91) rfl) ?_
  show D (T17.setTop (mkF m 93 #[.val (.long p1), .second, .val (.long (f1 p1)), .second, .val (.long x4_90), .second] [(.long x4_90), (.long (f1 p1))]))
  refine A (XS.lcmp X17.here hx rfl (hb hby at_93) rfl) ?_
  show D (T17.setTop (mkF m 94 #[.val (.long p1), .second, .val (.long (f1 p1)), .second, .val (.long x4_90), .second] [(.int (lcmpW (f1 p1) x4_90))]))
  by_cases c94_18 : (lcmpW (f1 p1) x4_90) = (0 : Int32)
  · refine A (XS.ifNo X17.here hx rfl (hb hby at_94) rfl ((if0 _ _).trans (teq c94_18).2)) ?_
    show D (T17.setTop (mkF m 97 #[.val (.long p1), .second, .val (.long (f1 p1)), .second, .val (.long x4_90), .second] []))
    refine A (XS.lloadN X17.here hx rfl (hb hby at_97) rfl) ?_
    show D (T17.setTop (mkF m 98 #[.val (.long p1), .second, .val (.long (f1 p1)), .second, .val (.long x4_90), .second] [(.long (f1 p1))]))
    refine Adv.callS A X17 hx hZ hown (hw _ (List.mem_of_getElem? (i := 0) rfl)) (hw _ (List.mem_of_getElem? (i := 1) rfl)) (hw _ (List.mem_of_getElem? (i := 2) rfl)) (hw _ (List.mem_of_getElem? (i := 3) rfl)) e17 (rm1 l Z a0 hw [] (f1 p1) h0 n0) 0 (g := (mkF m 98 #[.val (.long p1), .second, .val (.long (f1 p1)), .second, .val (.long x4_90), .second] [(.long (f1 p1))])) rfl (by rw [hml]; rfl) [(.long (f1 p1))] [] rfl (lenOf pd0_0 rfl) rfl (by show 2 * 0 + _ ≤ _; exact Nat.le_of_eq rfl) (hb hby at_98) (by decide) (by decide) (by decide) (by decide) (by decide) ?_
    rintro T19 L19 _ X19 ⟨rfl, N19q, e19⟩
    have N19 := Fr.app N17 N19q
    show D (T19.setTop (mkF m 101 #[.val (.long p1), .second, .val (.long (f1 p1)), .second, .val (.long x4_90), .second] [(.long (f1 (f1 p1)))]))
    refine A (XS.lloadN X19.here hx rfl (hb hby at_101) rfl) ?_
    show D (T19.setTop (mkF m 102 #[.val (.long p1), .second, .val (.long (f1 p1)), .second, .val (.long x4_90), .second] [(.long p1), (.long (f1 (f1 p1)))]))
    refine A (XS.lcmp X19.here hx rfl (hb hby at_102) rfl) ?_
    show D (T19.setTop (mkF m 103 #[.val (.long p1), .second, .val (.long (f1 p1)), .second, .val (.long x4_90), .second] [(.int (lcmpW (f1 (f1 p1)) p1))]))
    suffices Km111_20 : ∀ (v111s0 : Int32), v111s0 = (if (lcmpW (f1 (f1 p1)) p1) = (0 : Int32) then (1 : Int32) else (0 : Int32)) → D (T19.setTop (mkF m 111 #[.val (.long p1), .second, .val (.long (f1 p1)), .second, .val (.long x4_90), .second] [(.int v111s0)])) by
      by_cases c103_1 : (lcmpW (f1 (f1 p1)) p1) = (0 : Int32)
      · refine A (XS.ifNo X19.here hx rfl (hb hby at_103) rfl ((if0 _ _).trans (teq c103_1).2)) ?_
        show D (T19.setTop (mkF m 106 #[.val (.long p1), .second, .val (.long (f1 p1)), .second, .val (.long x4_90), .second] []))
        refine A (XS.iconst X19.here hx rfl (hb hby at_106)) ?_
        show D (T19.setTop (mkF m 107 #[.val (.long p1), .second, .val (.long (f1 p1)), .second, .val (.long x4_90), .second] [(.int (1 : Int32))]))
        refine A (XS.goto X19.here hx rfl (pc0 := 107) (pc' := 111) rfl (hb hby at_107) (by decide) (by decide)) ?_
        show D (T19.setTop (mkF m 111 #[.val (.long p1), .second, .val (.long (f1 p1)), .second, .val (.long x4_90), .second] [(.int (1 : Int32))]))
        exact Km111_20 _ ((if_pos c103_1)).symm
      · refine A (XS.ifYes X19.here hx rfl (pc0 := 103) (pc' := 110) rfl (hb hby at_103) rfl ((if0 _ _).trans (feq c103_1).2) (by decide) (by decide)) ?_
        show D (T19.setTop (mkF m 110 #[.val (.long p1), .second, .val (.long (f1 p1)), .second, .val (.long x4_90), .second] []))
        refine A (XS.iconst X19.here hx rfl (hb hby at_110)) ?_
        show D (T19.setTop (mkF m 111 #[.val (.long p1), .second, .val (.long (f1 p1)), .second, .val (.long x4_90), .second] [(.int (0 : Int32))]))
        exact Km111_20 _ ((if_neg c103_1)).symm
    intro v111s0 hv111s0
    show D (T19.setTop (mkF m 111 #[.val (.long p1), .second, .val (.long (f1 p1)), .second, .val (.long x4_90), .second] [(.int v111s0)]))
    obtain rfl : v111s0 = (1 : Int32) := by
      rw [hv111s0, if_pos ((lw_eq _ _).mpr (own_e2 _))]
    show D (T19.setTop (mkF m 111 #[.val (.long p1), .second, .val (.long (f1 p1)), .second, .val (.long x4_90), .second] [(.int (1 : Int32))]))
    exact F _ (Jvm.JW.ret X19 hlk (v := some (.int (1 : Int32))) (fun h => by rw [hrt] at h; cases h) (fun fs hr => retOut X19 hx hrt rfl (Or.inl ⟨rfl, Or.inr (Or.inl rfl), _, rfl⟩) (hb hby at_111) hr) rfl ⟨rfl, N19⟩ (by decide) (by decide))
  · refine A (XS.ifYes X17.here hx rfl (pc0 := 94) (pc' := 110) rfl (hb hby at_94) rfl ((if0 _ _).trans (feq c94_18).2) (by decide) (by decide)) ?_
    show D (T17.setTop (mkF m 110 #[.val (.long p1), .second, .val (.long (f1 p1)), .second, .val (.long x4_90), .second] []))
    refine A (XS.iconst X17.here hx rfl (hb hby at_110)) ?_
    show D (T17.setTop (mkF m 111 #[.val (.long p1), .second, .val (.long (f1 p1)), .second, .val (.long x4_90), .second] [(.int (0 : Int32))]))
    exfalso
    have hz : f1 p1 = x4_90 := by rw [hx4_90]; exact own_e1 _
    exact absurd ((lw_eq _ _).mpr hz) (by assumption)
set_option maxRecDepth 65536 in
set_option maxHeartbeats 40000000 in
theorem comes_1 {Post : Tables → Env → Array Value → State → Outcome → State → Prop} (hpost : ∀ tb e args s v u, (limb_1_1.after args s (.returned v) u = true ∧ limb_1_2.after args s (.returned v) u = true ∧ True) → FrameEnd s (.returned v) u (Jvm.fieldLocs frame_1_writes args s ++ Jvm.arrayLocs frame_1_arrays args s ++ Jvm.staticLocs frame_1_statics s) 0 0 → Post tb e args s (.returned v) u) :
    ArmFor flags0 classFile x code maxLocals ret World_1 tables_1 room_1 Calls_1 rest_1 Pre_1 Post := by
  intro l hfl _ _ p e ha hc hk s m args below hf hA hF happ hP
  obtain ⟨hcalls, hrest, hpre⟩ := hP
  obtain ⟨-, -, -, hnamed, -, -, -, hat⟩ := (Spec.applies_iff hf).mp happ
  obtain ⟨hg, hn⟩ := and_e (Cond.before_iff.mp (show (Jvm.Cond.and given_1 narrow_1).before args s = true from hpre))
  obtain ⟨g0, g1⟩ := and_e hg
  obtain ⟨w0, rfl⟩ : ∃ w0 : Value, args = #[w0] := by
    have hs : args.size = 1 := by simpa [Cond.value, given_1] using g0
    obtain ⟨L⟩ := args
    match L, hs with
    | [w0], _ => exact ⟨w0, rfl⟩
  have hw := fun d (hd : d ∈ tables_1) => atoms_spec (ws := Jvm.Cond.code x code maxLocals ret :: tables_1) hat d (List.mem_cons_of_mem _ hd)
  obtain ⟨i0, q0⟩ := isL_v g1
  obtain rfl : w0 = (.long i0) := Option.some.inj q0
  obtain ⟨n, o, h1, h2, h3, _, L, rfl, ⟨rfl, N⟩, hq⟩ := rm0 l s _ hw tables_1 i0 s.heap s.heap.size p e ha hc hk s m _ below hf ((Spec.applies_iff_loose hf).mp happ).1 ⟨rfl, State.Warmed39.refl s, rfl⟩ trivial
  refine ⟨n, _, h1, h2, h3, hpost _ _ _ _ _ _ ⟨Cond.after_iff.mpr rfl, Cond.after_iff.mpr (eq_i res_at (Term.int_eval (1)) rfl), trivial⟩ ⟨hq.1, hq.2.1, (hq.2.2.sift fun y hy => Or.inr (N y hy)).mono (by decide) (by decide)⟩⟩
theorem main_1_1 : Claimed_1_1 := comes_1 fun _ _ _ _ _ _ h hF => ⟨h.1, hF⟩
theorem main_1_2 : Claimed_1_2 := comes_1 fun _ _ _ _ _ _ h hF => ⟨h.2.1, hF⟩
end Jvm.Pilot.@@N@@
namespace Jvm.Pilot.@@N@@
open Jvm Jvm.ClassFile Sem Op Lib Jvm.Free Jvm.Stand Jvm.Pilot.@@N@@.Jvm.D
/-! MADE BY PROGRAM (witnessworld.py) out of the Statement's table words and the real class files: 10 classes; the members and pool entries that the words name. The judged class is class 1, her method 3. -/
namespace start1
open Jvm.ClassFile
def u (s : String) : CpInfo := .utf8 (stringToUtf16 s)
/-- a pool by its gaps: so many unusable entries, then the entry; so many at the end -/
def gap : Nat → List CpInfo → List CpInfo
  | 0, r => r
  | n + 1, r => .unusable :: gap n r
def poolList (es : List (Nat × CpInfo)) (last : Nat) : List CpInfo := es.foldr (fun e r => gap e.1 (e.2 :: r)) (gap last [])
def pool (es : List (Nat × CpInfo)) (last : Nat) : Array CpInfo := ⟨poolList es last⟩
def fileOf (pool : Array CpInfo) (this : Nat) (attrs : Array Attribute := #[]) (ms : Array MethodInfo := #[]) (fl : Nat := 33) (sup : Nat := 0) (ifs : Array Nat := #[]) (fds : Array FieldInfo := #[]) : ClassFile where
  minorVersion := 0
  majorVersion := 65
  constantPool := pool
  accessFlags := fl
  thisClass := this
  superClass := sup
  interfaces := ifs
  fields := fds
  methods := ms
  attributes := attrs
def plain (name : String) (sup : Option ClassId) : Class where
  name := name
  kind := .ordinary
  loader := none
  accessFlags := 33
  super := sup
  interfaces := #[]
  cf := none
  fields := #[]
  methods := #[]
  instanceTypes := #[]
  staticTypes := #[]
  resolved := #[]
  callSites := []
  init := .initialized
  statics := none
  mirror := none

def pool0 : Array CpInfo := pool [(5, u "<init>"), (0, u "()V"), (1, .class_ 10), (1, u "java/lang/Object")] 113

def k0m0 : Method := { name := "<init>", desc := "()V", sig := { parameters := [], returnType := none }, accessFlags := 1, code := none }
/-- java/lang/Object -/
def k0 : Class := { plain "java/lang/Object" none with
  accessFlags := 33
  interfaces := #[]
  cf := some (fileOf pool0 8 #[] #[{ accessFlags := 1, nameIndex := 5, descriptorIndex := 6, attributes := #[] }] 33 0 #[] #[])
  fields := #[]
  methods := #[k0m0]
  instanceTypes := #[]
  staticTypes := #[]
  resolved := Array.replicate 124 none
  statics := none }

def pool1 : Array CpInfo := pool [(2, .class_ 4), (1, u "java/lang/Object"), (0, u "<init>"), (0, u "()V"), (0, .long 255), (1, .methodref 10 11), (0, .class_ 12), (0, .nameAndType 13 14), (0, u "com/example/carmenta/carmenta/Decoder"), (0, u "swapOctets"), (0, u "(J)J"), (0, .methodref 16 17), (0, .class_ 18), (0, .nameAndType 19 20), (0, u "com/example/carmenta/carmenta/DecoderSwapOctetsPinLaw"), (0, u "octetAt"), (0, u "(JI)J"), (0, .methodref 16 22), (0, .nameAndType 23 20), (0, u "place"), (2, u "law"), (0, u "(J)Z")] 3

def k1m0 : Method := { name := "<init>", desc := "()V", sig := { parameters := [], returnType := none }, accessFlags := 1, code := none }
def k1c1 : Code := { maxStack := 4, maxLocals := 3, code := method_2_code, exceptionTable := #[], attributes := #[] }
def k1m1 : Method := { name := "octetAt", desc := "(JI)J", sig := { parameters := [.long, .int], returnType := some .long }, accessFlags := 10, code := some k1c1 }
def k1c2 : Code := { maxStack := 4, maxLocals := 3, code := method_3_code, exceptionTable := #[], attributes := #[] }
def k1m2 : Method := { name := "place", desc := "(JI)J", sig := { parameters := [.long, .int], returnType := some .long }, accessFlags := 10, code := some k1c2 }
def k1c3 : Code := { maxStack := 5, maxLocals := 6, code := code, exceptionTable := #[], attributes := #[] }
def k1m3 : Method := { name := "law", desc := "(J)Z", sig := { parameters := [.long], returnType := some .boolean }, accessFlags := 9, code := some k1c3 }
/-- com/example/carmenta/carmenta/DecoderSwapOctetsPinLaw -/
def k1 : Class := { plain "com/example/carmenta/carmenta/DecoderSwapOctetsPinLaw" (some 0) with
  accessFlags := 49
  interfaces := #[]
  cf := some (fileOf pool1 16 #[] #[{ accessFlags := 1, nameIndex := 5, descriptorIndex := 6, attributes := #[] }, { accessFlags := 10, nameIndex := 19, descriptorIndex := 20, attributes := #[] }, { accessFlags := 10, nameIndex := 23, descriptorIndex := 20, attributes := #[] }, { accessFlags := 9, nameIndex := 26, descriptorIndex := 27, attributes := #[] }] 49 2 #[] #[])
  fields := #[]
  methods := #[k1m0, k1m1, k1m2, k1m3]
  instanceTypes := #[]
  staticTypes := #[]
  resolved := Array.replicate 31 none
  statics := none }

def pool2 : Array CpInfo := pool [(2, .class_ 4), (1, u "java/lang/Object"), (0, u "<init>"), (0, u "()V"), (5, u "Lcom/example/carmenta/carmenta/OnIllFormed;"), (1, .class_ 16), (1, u "com/example/carmenta/carmenta/ScalarReader"), (0, u "policy"), (8, u "firstReplaced"), (0, u "Lcom/example/carmenta/carmenta/Validation;"), (9, u "replacements"), (0, u "J"), (5, u "fault"), (0, u "Lcom/example/carmenta/carmenta/Fault;"), (49, .class_ 97), (1, u "com/example/carmenta/carmenta/ScalarReader$Weight"), (8, u "subpart"), (0, u "I"), (10, u "END_OF_INPUT"), (2, u "ILL_FORMED"), (1, u "REPLACEMENT_CHARACTER")] 21

def k2m0 : Method := { name := "<init>", desc := "()V", sig := { parameters := [], returnType := none }, accessFlags := 0, code := none }
/-- com/example/carmenta/carmenta/ScalarReader -/
def k2 : Class := { plain "com/example/carmenta/carmenta/ScalarReader" (some 0) with
  accessFlags := 1056
  interfaces := #[]
  cf := some (fileOf pool2 14 #[.nestMembers #[95]] #[{ accessFlags := 0, nameIndex := 5, descriptorIndex := 6, attributes := #[] }] 1056 2 #[] #[{ accessFlags := 24, nameIndex := 118, descriptorIndex := 107, attributes := #[] }, { accessFlags := 24, nameIndex := 121, descriptorIndex := 107, attributes := #[] }, { accessFlags := 24, nameIndex := 123, descriptorIndex := 107, attributes := #[] }, { accessFlags := 2, nameIndex := 17, descriptorIndex := 12, attributes := #[] }, { accessFlags := 2, nameIndex := 44, descriptorIndex := 45, attributes := #[] }, { accessFlags := 2, nameIndex := 106, descriptorIndex := 107, attributes := #[] }, { accessFlags := 2, nameIndex := 37, descriptorIndex := 38, attributes := #[] }, { accessFlags := 2, nameIndex := 26, descriptorIndex := 27, attributes := #[] }])
  fields := #[{ name := "END_OF_INPUT", type := .int, accessFlags := 24, slot := 0, constantValue := 0 }, { name := "ILL_FORMED", type := .int, accessFlags := 24, slot := 1, constantValue := 0 }, { name := "REPLACEMENT_CHARACTER", type := .int, accessFlags := 24, slot := 2, constantValue := 0 }, { name := "policy", type := (.object "com/example/carmenta/carmenta/OnIllFormed"), accessFlags := 2, slot := 0, constantValue := 0 }, { name := "fault", type := (.object "com/example/carmenta/carmenta/Fault"), accessFlags := 2, slot := 1, constantValue := 0 }, { name := "subpart", type := .int, accessFlags := 2, slot := 2, constantValue := 0 }, { name := "replacements", type := .long, accessFlags := 2, slot := 3, constantValue := 0 }, { name := "firstReplaced", type := (.object "com/example/carmenta/carmenta/Validation"), accessFlags := 2, slot := 4, constantValue := 0 }]
  methods := #[k2m0]
  instanceTypes := #[(.object "com/example/carmenta/carmenta/OnIllFormed"), (.object "com/example/carmenta/carmenta/Fault"), .int, .long, (.object "com/example/carmenta/carmenta/Validation")]
  staticTypes := #[.int, .int, .int]
  resolved := Array.replicate 145 none
  statics := none }

def pool3 : Array CpInfo := pool [(4, .class_ 6), (1, u "com/example/carmenta/carmenta/ScalarReader"), (3, .class_ 12), (1, u "com/example/carmenta/carmenta/Decoder"), (0, u "answersAvailable"), (0, u "Z"), (1, .class_ 18), (1, u "com/example/carmenta/carmenta/Decoder$Fill"), (1, u "Lcom/example/carmenta/carmenta/Decoder$Fill;"), (2, u "fill"), (1, .class_ 27), (1, u "com/example/carmenta/carmenta/Decoder$Source"), (0, u "in"), (3, u "Ljava/io/InputStream;"), (2, u "buffer"), (3, u "[B"), (6, u "position"), (0, u "I"), (2, u "limit"), (4, u "bufferOffset"), (0, u "J"), (2, u "exhausted"), (2, u "signature"), (0, u "[I"), (24, .class_ 89), (0, u "com/example/carmenta/carmenta/Decoder$NotReady"), (30, u "units"), (0, u "Lcom/example/carmenta/carmenta/UnitBlock;"), (72, u "LONGS"), (0, u "Ljava/lang/invoke/VarHandle;"), (8, u "swapOctets"), (0, u "(J)J"), (4, .long 71777214294589695), (46, u "INTS"), (3, u "CHARS"), (0, u "BLOCK_SIZE"), (2, u "LONGEST_SEQUENCE"), (1, u "NOT_READY"), (1, u "FAST_PATH_WINDOW"), (1, u "RUN")] 34

def k3c0 : Code := { maxStack := 6, maxLocals := 2, code := prog_8_method_26_code, exceptionTable := #[], attributes := #[] }
def k3m0 : Method := { name := "swapOctets", desc := "(J)J", sig := { parameters := [.long], returnType := some .long }, accessFlags := 8, code := some k3c0 }
/-- com/example/carmenta/carmenta/Decoder -/
def k3 : Class := { plain "com/example/carmenta/carmenta/Decoder" (some 2) with
  accessFlags := 1056
  interfaces := #[]
  cf := some (fileOf pool3 10 #[.nestMembers #[25, 88, 16]] #[{ accessFlags := 8, nameIndex := 204, descriptorIndex := 205, attributes := #[] }] 1056 4 #[] #[{ accessFlags := 24, nameIndex := 262, descriptorIndex := 47, attributes := #[] }, { accessFlags := 24, nameIndex := 265, descriptorIndex := 47, attributes := #[] }, { accessFlags := 24, nameIndex := 267, descriptorIndex := 47, attributes := #[] }, { accessFlags := 26, nameIndex := 269, descriptorIndex := 47, attributes := #[] }, { accessFlags := 24, nameIndex := 271, descriptorIndex := 47, attributes := #[] }, { accessFlags := 24, nameIndex := 194, descriptorIndex := 195, attributes := #[] }, { accessFlags := 24, nameIndex := 257, descriptorIndex := 195, attributes := #[] }, { accessFlags := 24, nameIndex := 261, descriptorIndex := 195, attributes := #[] }, { accessFlags := 18, nameIndex := 28, descriptorIndex := 32, attributes := #[] }, { accessFlags := 18, nameIndex := 62, descriptorIndex := 63, attributes := #[] }, { accessFlags := 18, nameIndex := 35, descriptorIndex := 39, attributes := #[] }, { accessFlags := 2, nameIndex := 120, descriptorIndex := 121, attributes := #[] }, { accessFlags := 2, nameIndex := 46, descriptorIndex := 47, attributes := #[] }, { accessFlags := 2, nameIndex := 50, descriptorIndex := 47, attributes := #[] }, { accessFlags := 2, nameIndex := 55, descriptorIndex := 56, attributes := #[] }, { accessFlags := 2, nameIndex := 59, descriptorIndex := 14, attributes := #[] }, { accessFlags := 2, nameIndex := 13, descriptorIndex := 14, attributes := #[] }, { accessFlags := 2, nameIndex := 23, descriptorIndex := 20, attributes := #[] }])
  fields := #[{ name := "BLOCK_SIZE", type := .int, accessFlags := 24, slot := 0, constantValue := 0 }, { name := "LONGEST_SEQUENCE", type := .int, accessFlags := 24, slot := 1, constantValue := 0 }, { name := "NOT_READY", type := .int, accessFlags := 24, slot := 2, constantValue := 0 }, { name := "FAST_PATH_WINDOW", type := .int, accessFlags := 26, slot := 3, constantValue := 0 }, { name := "RUN", type := .int, accessFlags := 24, slot := 4, constantValue := 0 }, { name := "LONGS", type := (.object "java/lang/invoke/VarHandle"), accessFlags := 24, slot := 5, constantValue := 0 }, { name := "INTS", type := (.object "java/lang/invoke/VarHandle"), accessFlags := 24, slot := 6, constantValue := 0 }, { name := "CHARS", type := (.object "java/lang/invoke/VarHandle"), accessFlags := 24, slot := 7, constantValue := 0 }, { name := "in", type := (.object "java/io/InputStream"), accessFlags := 18, slot := 5, constantValue := 0 }, { name := "signature", type := (.array .int), accessFlags := 18, slot := 6, constantValue := 0 }, { name := "buffer", type := (.array .byte), accessFlags := 18, slot := 7, constantValue := 0 }, { name := "units", type := (.object "com/example/carmenta/carmenta/UnitBlock"), accessFlags := 2, slot := 8, constantValue := 0 }, { name := "position", type := .int, accessFlags := 2, slot := 9, constantValue := 0 }, { name := "limit", type := .int, accessFlags := 2, slot := 10, constantValue := 0 }, { name := "bufferOffset", type := .long, accessFlags := 2, slot := 11, constantValue := 0 }, { name := "exhausted", type := .boolean, accessFlags := 2, slot := 12, constantValue := 0 }, { name := "answersAvailable", type := .boolean, accessFlags := 2, slot := 13, constantValue := 0 }, { name := "fill", type := (.object "com/example/carmenta/carmenta/Decoder$Fill"), accessFlags := 2, slot := 14, constantValue := 0 }]
  methods := #[k3m0]
  instanceTypes := #[(.object "com/example/carmenta/carmenta/OnIllFormed"), (.object "com/example/carmenta/carmenta/Fault"), .int, .long, (.object "com/example/carmenta/carmenta/Validation"), (.object "java/io/InputStream"), (.array .int), (.array .byte), (.object "com/example/carmenta/carmenta/UnitBlock"), .int, .int, .long, .boolean, .boolean, (.object "com/example/carmenta/carmenta/Decoder$Fill")]
  staticTypes := #[.int, .int, .int, .int, .int, (.object "java/lang/invoke/VarHandle"), (.object "java/lang/invoke/VarHandle"), (.object "java/lang/invoke/VarHandle")]
  resolved := Array.replicate 306 none
  statics := none }

def pool4 : Array CpInfo := pool [(1, u "java/lang/Cloneable"), (0, .class_ 1), (0, u "java/lang/Object"), (0, .class_ 3)] 3

/-- java/lang/Cloneable -/
def k4 : Class := { plain "java/lang/Cloneable" (some 0) with
  accessFlags := 1537
  interfaces := #[]
  cf := some (fileOf pool4 2 #[] #[] 1537 4 #[] #[])
  fields := #[]
  methods := #[]
  instanceTypes := #[]
  staticTypes := #[]
  resolved := Array.replicate 8 none
  statics := none }

def pool5 : Array CpInfo := pool [(1, u "java/io/Serializable"), (0, .class_ 1), (0, u "java/lang/Object"), (0, .class_ 3)] 3

/-- java/io/Serializable -/
def k5 : Class := { plain "java/io/Serializable" (some 0) with
  accessFlags := 1537
  interfaces := #[]
  cf := some (fileOf pool5 2 #[] #[] 1537 4 #[] #[])
  fields := #[]
  methods := #[]
  instanceTypes := #[]
  staticTypes := #[]
  resolved := Array.replicate 8 none
  statics := none }

/-- the primitive byte -/
def k6 : Class := { plain "byte" none with kind := .primitive 'B', accessFlags := 0x411 }
/-- [B -/
def k7 : Class := { plain "[B" (some 0) with kind := .array 6 .byte, interfaces := #[4, 5], accessFlags := 1041 }

/-- the primitive int -/
def k8 : Class := { plain "int" none with kind := .primitive 'I', accessFlags := 0x411 }
/-- [I -/
def k9 : Class := { plain "[I" (some 0) with kind := .array 8 .int, interfaces := #[4, 5], accessFlags := 1041 }

def heap : Heap := #[]
def classes : Array Class := #[k0, k1, k2, k3, k4, k5, k6, k7, k8, k9]
def interned : List (Array UInt16 × Addr) := []
def slotsUsed : Nat := 0
def theMethod : MethodId := ⟨1, 3⟩
def args0 : Array Value := #[.long 3]
def aboutOver (below : List Frame) : State where
  vm := { classes := classes, interned := interned.toArray }
  heap := heap
  slotsUsed := slotsUsed
  threads := #[{ frames := .invoking theMethod args0 :: below }]
def below0 : List Frame := [.native { method := ⟨0, 0⟩, args := #[] }]
def about1 : State := aboutOver below0
def p0 : Program := .bare "" "" ""
def e0 : Env := launch0.env 0 0 0
theorem w_frames : about1.frames = Frame.invoking theMethod args0 :: below0 := rfl
set_option maxRecDepth 65536 in
theorem w_args : argsFit about1.vm theMethod args0 = true := by decide +kernel
set_option maxRecDepth 65536 in
theorem w_heap : heapFits about1 = true := by decide +kernel
set_option maxRecDepth 65536 in
theorem w_runnable : about1.curStatus? = some .runnable := by decide +kernel
set_option maxRecDepth 65536 in
theorem w_alone : about1.alone = true := by decide +kernel
set_option maxRecDepth 65536 in
theorem w_named : about1.methodNamed? x = some theMethod := by decide +kernel
set_option maxRecDepth 65536 in
theorem w_hears : about1.hears theMethod below0 = true := by decide +kernel
set_option maxRecDepth 65536 in
theorem w_ripe : about1.ripe theMethod args0 below0 = true := by decide +kernel
theorem w_running : about1.status = .running := rfl
set_option maxRecDepth 65536 in
theorem w_room : about1.hasRoom e0.platform room_1 = true :=
  launch0.hasRoom_least _ room_1 (by decide +kernel) (by decide +kernel) (by decide +kernel) (by decide +kernel) (by decide +kernel) (by decide +kernel)
theorem allAtoms_all (ts : List Jvm.Cond) (a : Array Jvm.Value) (st : Jvm.State) : (allAtoms ts).before a st = ts.all (fun c => c.before a st) := by
  induction ts with
  | nil => rfl
  | cons c t ih =>
    show (Jvm.Cond.and c (allAtoms t)).before a st = _
    rw [Jvm.Cond.before_and, ih, List.all_cons]
def words1 : List Jvm.Cond := Jvm.Cond.code x code maxLocals ret :: tables_1
/-- a 'code' word, met by the world's own term for the bytes: nothing is compared byte by byte -/
theorem code_word {y : MethodName} {bytes : ByteArray} {mx : Nat} {rt : Option FieldType} {a : Array Value} {s : State} {m : MethodId} {meth : Method} {c : Code} (h1 : s.methodNamed? y = some m) (h2 : s.vm.method? m = some meth) (h3 : meth.code = some c) (h4 : c.code = bytes)
    (h5 : (c.maxLocals == mx && c.exceptionTable.isEmpty && decide (c.maxStack ≤ mostOperands) && decide (meth.sig.returnType = rt) && !meth.locks && decide (parseMethodDescriptor y.desc = some meth.sig)) = true) : (Jvm.Cond.code y bytes mx rt).before a s = true := by
  simp only [Bool.and_eq_true, beq_iff_eq, Bool.not_eq_true', decide_eq_true_eq] at h5
  obtain ⟨⟨⟨⟨⟨g1, g2⟩, g3⟩, g4⟩, g5⟩, g6⟩ := h5
  simp [Cond.before, Cond.holds, Cond.value, h1, h2, h3, h4, g1, g2, g3, g4, g5, g6]
def isCode : Jvm.Cond → Bool
  | .code _ _ _ _ => true
  | _ => false
theorem all_split {L : List Jvm.Cond} {P : Jvm.Cond → Bool} (h1 : L.all (fun c => isCode c || P c) = true) (h2 : ∀ c ∈ L.filter isCode, P c = true) : L.all P = true := by
  refine List.all_eq_true.mpr fun c hc => ?_
  have h := List.all_eq_true.mp h1 c hc
  rcases Bool.eq_false_or_eq_true (isCode c) with hi | hi
  · exact h2 c (List.mem_filter.mpr ⟨hc, hi⟩)
  · simpa [hi] using h
set_option maxRecDepth 65536 in
theorem w_c0 : (Jvm.Cond.code x code maxLocals ret).before args0 about1 = true := code_word (m := ⟨1, 3⟩) (meth := k1m3) (c := k1c3) (by decide +kernel) rfl rfl rfl (by decide +kernel)
set_option maxRecDepth 65536 in
theorem w_c1 : (Jvm.Cond.code ({ cls := "com/example/carmenta/carmenta/Decoder", name := "swapOctets", desc := "(J)J" } : Jvm.MethodName) prog_8_method_26_code (2 : Nat) (Option.some Jvm.ClassFile.FieldType.long)).before args0 about1 = true := code_word (m := ⟨3, 0⟩) (meth := k3m0) (c := k3c0) (by decide +kernel) rfl rfl rfl (by decide +kernel)
set_option maxRecDepth 65536 in
theorem w_c2 : (Jvm.Cond.code ({ cls := "com/example/carmenta/carmenta/DecoderSwapOctetsPinLaw", name := "octetAt", desc := "(JI)J" } : Jvm.MethodName) method_2_code (3 : Nat) (Option.some Jvm.ClassFile.FieldType.long)).before args0 about1 = true := code_word (m := ⟨1, 1⟩) (meth := k1m1) (c := k1c1) (by decide +kernel) rfl rfl rfl (by decide +kernel)
set_option maxRecDepth 65536 in
theorem w_c3 : (Jvm.Cond.code ({ cls := "com/example/carmenta/carmenta/DecoderSwapOctetsPinLaw", name := "place", desc := "(JI)J" } : Jvm.MethodName) method_3_code (3 : Nat) (Option.some Jvm.ClassFile.FieldType.long)).before args0 about1 = true := code_word (m := ⟨1, 2⟩) (meth := k1m2) (c := k1c2) (by decide +kernel) rfl rfl rfl (by decide +kernel)
def codes1 : List Jvm.Cond := [Jvm.Cond.code x code maxLocals ret, Jvm.Cond.code ({ cls := "com/example/carmenta/carmenta/Decoder", name := "swapOctets", desc := "(J)J" } : Jvm.MethodName) prog_8_method_26_code (2 : Nat) (Option.some Jvm.ClassFile.FieldType.long), Jvm.Cond.code ({ cls := "com/example/carmenta/carmenta/DecoderSwapOctetsPinLaw", name := "octetAt", desc := "(JI)J" } : Jvm.MethodName) method_2_code (3 : Nat) (Option.some Jvm.ClassFile.FieldType.long), Jvm.Cond.code ({ cls := "com/example/carmenta/carmenta/DecoderSwapOctetsPinLaw", name := "place", desc := "(JI)J" } : Jvm.MethodName) method_3_code (3 : Nat) (Option.some Jvm.ClassFile.FieldType.long)]
set_option maxRecDepth 65536 in
theorem codes_eq : words1.filter isCode = codes1 := rfl
theorem w_codes : ∀ c ∈ words1.filter isCode, c.before args0 about1 = true := by
  rw [codes_eq]
  intro c hc
  simp only [codes1, List.mem_cons, List.not_mem_nil, or_false] at hc
  rcases hc with rfl | rfl | rfl | rfl
  · exact w_c0
  · exact w_c1
  · exact w_c2
  · exact w_c3
set_option maxRecDepth 65536 in
theorem w_t1 : words1.all (fun c => isCode c || c.before args0 about1) = true := by decide +kernel
theorem w_tables : (allAtoms (Jvm.Cond.code x code maxLocals ret :: tables_1)).before args0 about1 = true := by
  rw [allAtoms_all]
  show words1.all (fun c => c.before args0 about1) = true
  refine all_split ?_ w_codes
  rw [w_t1]
set_option maxRecDepth 65536 in
theorem w_case : (Jvm.Cond.and given_1 narrow_1).before args0 about1 = true := by decide +kernel
theorem w_applies : (headSpec (Jvm.Cond.code x code maxLocals ret :: tables_1) room_1).applies x e0.platform about1 = true :=
  (Spec.applies_iff w_frames).mpr ⟨w_running, w_runnable, w_alone, w_named, w_hears, w_ripe, w_room, w_tables⟩
theorem atStart : AtStart classFile x code maxLocals ret World_1 tables_1 room_1 Calls_1 rest_1 Pre_1 launch0 p0 e0 about1 theMethod args0 below0 :=
  ⟨lists_1, trivial, launch0.admits_env _ _ _, launch0.least_env, fairChoices_fair.cas, fairChoices_fair.clock, w_frames, w_args, w_heap, w_applies, trivial, trivial, w_case⟩
end start1
theorem witness_1 : WitnessClaimed_1 := ⟨start1.p0, start1.e0, start1.about1, start1.theMethod, start1.args0, start1.below0, start1.atStart⟩
end Jvm.Pilot.@@N@@
