import JvmDerived
import JvmDerived.Pilot.@@N@@Statement
import JvmDerived.Pilot.@@N@@Code
set_option linter.unusedVariables false
set_option linter.unusedSimpArgs false
namespace Jvm.JW
open Sem ClassFile Op Lib Jvm.Stand Jvm.Free Jvm.LawKit Jvm.RoadKit
/-! The walk in continuation form: D holds of a machine state if the run from it ends as the contract says. -/
def Dn (p : Program) (e : Env) (below : List Frame) (s : State) (Q : Option Value → Heap → List Loc → Prop) (k n : Nat) (S : State) : Prop :=
  ∃ s₂ o, Steps p.tables e below S s₂ ∧ s₂.status = .running ∧ Ended s₂ below o ∧ ∃ v L, o = .returned v ∧ Q v s₂.heap L ∧ FrameEnd s o s₂ L k n
def Adv (p : Program) (e : Env) (below : List Frame) (D : State → Prop) : Prop :=
  ∀ {S S' : State}, (∀ {t : State}, Steps p.tables e below S' t → Steps p.tables e below S t) → D S' → D S
theorem Adv.dn {p : Program} {e : Env} {below : List Frame} {s : State} {Q : Option Value → Heap → List Loc → Prop} {k n : Nat} : Adv p e below (Dn p e below s Q k n) := by
  intro S S' h d
  obtain ⟨s2, o, h1, h2⟩ := d
  exact ⟨s2, o, h h1, h2⟩
theorem Adv.tr {p : Program} {e : Env} {below : List Frame} {D : State → Prop} (A : Adv p e below D) {S S' : State} (h : Steps p.tables e below S S') (d : D S') : D S := A (fun k => h.trans k) d
abbrev JMet (l : Launch) (Z : State) (y : MethodName) (bytes : ByteArray) (maxL : Nat) (ret : Option FieldType) (ws : List Cond) (rm : Room) (as' : Array Value) (h0 : Heap) (Q : Option Value → Heap → List Loc → Prop) : Prop :=
  MetFree l y (head1 (Cond.code y bytes maxL ret :: ws) rm) (fun a U => a = as' ∧ Z.Warmed39 U.vm ∧ U.heap = h0) (fun _ _ _ _ _ => True) (fun _ U o U' => ∃ v L, o = .returned v ∧ Q v U'.heap L ∧ FrameEnd U o U' L rm.cells rm.slots)
/-- a body that returns r and leaves the heap as it was -/
def QP (r : Value) (h0 : Heap) (n0 : Nat) (v : Option Value) (h : Heap) (L : List Loc) : Prop := v = some r ∧ Fr n0 L ∧ h = h0
/-- the law: it returns 1; nothing that stood at the start is written -/
def QL (n0 : Nat) (v : Option Value) (h : Heap) (L : List Loc) : Prop := v = some (.int 1) ∧ Fr n0 L
section Kit
variable {p : Program} {l : Launch} {e : Env} {R : Room} {s : State} {m : MethodId} {args : Array Value} {below : List Frame} {meth : Method} {c : Code} {T : State} {locs : List Loc} {cells slots : Nat} {Z : State} {a0 : Array Value} {h : Heap} {D : State → Prop}
theorem ret (X : Stand p l e R s m args below meth c T locs cells slots) (hlk : meth.locks = false) {Q : Option Value → Heap → List Loc → Prop} {k n : Nat} {S : State} {v : Option Value} (hv : meth.sig.returnType = none → v = none)
    (hst : ∀ fs, (∀ (f : JFrame) (acts : List Action), f.method = m → f.locked = none → f.entered = [] → (doReturn e (T.setTop f) acts v).1 = T.setFrames fs) → Steps p.tables e below S (T.setFrames fs))
    {hh : Heap} (eT : T.heap = hh) (hq : Q v hh locs) (hk : cells ≤ k) (hn : slots ≤ n) : Dn p e below s Q k n S := by
  subst eT
  obtain ⟨fs, hr, hrun, hended, hW, hsame⟩ := X.leave (v := v) hv hlk
  exact ⟨_, _, hst fs hr, hrun, hended, _, _, rfl, hq, ⟨_, rfl⟩, hW, hsame.mono hk hn⟩
theorem body {y : MethodName} {bytes : ByteArray} {maxL : Nat} {rt : Option FieldType} {ws : List Cond} {rm : Room} {as' : Array Value} {h0 : Heap} {Q : Option Value → Heap → List Loc → Prop} (Ls : Array Slot) (hpl : plainFor y = true) (hef : ∀ m, entryFrame m as' maxL = mkF m 0 Ls [])
    (bd : ∀ (p : Program) (e : Env) (s : State) (m : MethodId) (below : List Frame) (meth : Method) (c : Code) (T0 : State) (D : State → Prop), Adv p e below D → (∀ S, Dn p e below s Q rm.cells rm.slots S → D S) → Stand p l e rm s m as' below meth c T0 [] 0 0 → p.tables.exec = Jvm.exec → Z.Warmed39 s.vm → c.code = bytes → c.maxLocals = maxL → s.vm.findClass y.cls = some m.cls → meth.name = y.name → meth.sig.returnType = rt → meth.locks = false → T0.heap = h0 → D (T0.setTop (mkF m 0 Ls []))) :
    JMet l Z y bytes maxL rt ws rm as' h0 Q := by
  refine MetFree.of_bodySF hpl hisR ?_
  intro p e s m args below meth c s₁ Bd hml hP hK
  obtain ⟨rfl, hZ, hh⟩ := hP
  have q := bd p e s m below meth c s₁ (Dn p e below s Q rm.cells rm.slots) Adv.dn (fun _ d => d) (Stand.of_body Bd) Bd.exec hZ Bd.bytes hml (findClass_of_methodNamed Bd.named) (name_of_methodNamed Bd.named Bd.method).1 Bd.returns Bd.notSynchronized (by rw [← hh, Bd.state]; rfl)
  rw [← hef m] at q
  exact q
theorem Adv.callS (A : Adv p e below D) (X : Stand p l e R s m args below meth c T locs cells slots) (hx : p.tables.exec = Jvm.exec) (hZ : Z.Warmed39 s.vm) {own : String} {index : Nat} {y : MethodName} {bytes : ByteArray} {maxL : Nat} {rt : Option FieldType} {rm : Room} {as' : Array Value} {Q : Option Value → Heap → List Loc → Prop}
    (hown : s.vm.findClass own = some m.cls) (w1 : (Cond.methodLink own index y).before a0 Z = true) (w2 : (Cond.static y).before a0 Z = true) (w3 : (Cond.initialized y.cls).before a0 Z = true) (w4 : (Cond.code y bytes maxL rt).before a0 Z = true) (eT : T.heap = h)
    (hM : JMet l Z y bytes maxL rt [] rm as' h Q) (W : Nat) {g : JFrame} (hg : g.method = m) (hsz : g.locals.size = c.maxLocals) (argsL rest : List Value) (has : as' = argsL.toArray)
    (hlen : ∀ sig, parseMethodDescriptor y.desc = some sig → argsL.length = sig.parameters.length) (hstack : g.stack = argsL.reverse ++ rest) (hW : 2 * g.monitorRoom + (rest.map fun v => v.category).sum ≤ W)
    (hd : decode c.code g.pc = .ok (.invokestatic index, 3)) (hy : y.cls ≠ "java/lang/invoke/MethodHandle" ∧ y.cls ≠ "java/lang/invoke/VarHandle") (hf : rm.frames + 1 ≤ R.frames) (hl : W + (maxL + 11) + rm.locals ≤ R.locals) (hc : cells + rm.cells ≤ R.cells) (hs : slots + rm.slots ≤ R.slots)
    (k : ∀ (T' : State) (L' : List Loc) (v : Option Value), Stand p l e R s m args below meth c T' (locs ++ L') (cells + rm.cells) (slots + rm.slots) → Q v T'.heap L' → D (T'.setTop { g with pc := g.pc + 3, stack := v.toList ++ rest })) : D (T.setTop g) := by
  subst has
  obtain ⟨v, _, ⟨T', L, k', n'⟩, -, X', ⟨Lc, hQ, l', y', z'⟩, st⟩ := Jvm.LawKit.callS X hx (y := y) hown (mvT hZ w1) (mvT hZ w2) (mvT hZ w3) (mvT hZ w4) hy (backOf (W := W) hM hZ w4 w3 hf hl) (g := g) hg hsz (argsL := argsL) (rest := rest) hlen hstack hW hd (fun _ _ => ⟨rfl, eT, hc, hs⟩)
  dsimp only [Pt.U, Pt.locs, Pt.cells, Pt.slots] at X' l' y' z' st hQ
  subst l' y' z'
  exact A (fun q => st _ q) (k T' Lc v X' hQ)
theorem Adv.callI (A : Adv p e below D) (X : Stand p l e R s m args below meth c T locs cells slots) (hx : p.tables.exec = Jvm.exec) (hZ : Z.Warmed39 s.vm) {own : String} {index : Nat} {y : MethodName} {bytes : ByteArray} {maxL : Nat} {rm : Room} {as' : Array Value} {Q : Option Value → Heap → List Loc → Prop}
    (hown : s.vm.findClass own = some m.cls) (hi : y.name = "<init>") (w1 : (Cond.methodLink own index y).before a0 Z = true) (w2 : (Cond.instanceMethod y).before a0 Z = true) (w3 : (Cond.initialized y.cls).before a0 Z = true) (w4 : (Cond.code y bytes maxL none).before a0 Z = true) (eT : T.heap = h)
    (hM : JMet l Z y bytes maxL none [] rm as' h Q) (W : Nat) {g : JFrame} (hg : g.method = m) (hsz : g.locals.size = c.maxLocals) (a : Addr) (argsL rest : List Value) (has : as' = (.ref a :: argsL).toArray)
    (hlen : ∀ sig, parseMethodDescriptor y.desc = some sig → argsL.length = sig.parameters.length) (hstack : g.stack = argsL.reverse ++ .ref a :: rest) (hW : 2 * g.monitorRoom + (rest.map fun v => v.category).sum ≤ W)
    (hd : decode c.code g.pc = .ok (.invokespecial index, 3)) (hy : y.cls ≠ "java/lang/invoke/MethodHandle" ∧ y.cls ≠ "java/lang/invoke/VarHandle") (hf : rm.frames + 1 ≤ R.frames) (hl : W + (maxL + 11) + rm.locals ≤ R.locals) (hc : cells + rm.cells ≤ R.cells) (hs : slots + rm.slots ≤ R.slots)
    (k : ∀ (T' : State) (L' : List Loc) (v : Option Value), Stand p l e R s m args below meth c T' (locs ++ L') (cells + rm.cells) (slots + rm.slots) → Q v T'.heap L' → D (T'.setTop { g with pc := g.pc + 3, stack := v.toList ++ rest })) : D (T.setTop g) := by
  subst has
  obtain ⟨v, _, ⟨T', L, k', n'⟩, -, X', ⟨Lc, hQ, l', y', z'⟩, st⟩ := X.specialBack hx (y := y) hi hown (mvT hZ w1) (mvT hZ w2) (mvT hZ w4) hy (backOf (W := W) hM hZ w4 w3 hf hl) (g := g) hg hsz (Steps.refl _) (a := a) (argsL := argsL) (rest := rest) hlen hstack hW hd (fun _ _ => ⟨rfl, eT, hc, hs⟩)
  dsimp only [Pt.U, Pt.locs, Pt.cells, Pt.slots] at X' l' y' z' st hQ
  subst l' y' z'
  exact A.tr st (k T' Lc v X' hQ)
theorem Adv.callV (A : Adv p e below D) (X : Stand p l e R s m args below meth c T locs cells slots) (hx : p.tables.exec = Jvm.exec) (hZ : Z.Warmed39 s.vm) {own C : String} {index : Nat} {y z : MethodName} {bytes : ByteArray} {maxL : Nat} {rt : Option FieldType} {rm : Room} {as' : Array Value} {Q : Option Value → Heap → List Loc → Prop} {a : Addr}
    (hown : s.vm.findClass own = some m.cls) (w1 : (Cond.methodLink own index y).before a0 Z = true) (w2 : (Cond.declares y).before a0 Z = true) (nf : NotFace s y) (w5 : (Cond.selects C y z).before a0 Z = true) (w6 : (Cond.instanceMethod z).before a0 Z = true) (w3 : (Cond.initialized z.cls).before a0 Z = true) (w4 : (Cond.code z bytes maxL rt).before a0 Z = true) (eT : T.heap = h) (E : Exa Z h a C)
    (hM : JMet l Z z bytes maxL rt [] rm as' h Q) (W : Nat) {g : JFrame} (hg : g.method = m) (hsz : g.locals.size = c.maxLocals) (argsL rest : List Value) (has : as' = (.ref a :: argsL).toArray)
    (hlen : ∀ sig, parseMethodDescriptor y.desc = some sig → argsL.length = sig.parameters.length) (hstack : g.stack = argsL.reverse ++ .ref a :: rest) (hW : 2 * g.monitorRoom + (rest.map fun v => v.category).sum ≤ W)
    (hd : decode c.code g.pc = .ok (.invokevirtual index, 3)) (hy : y.cls ≠ "java/lang/invoke/MethodHandle" ∧ y.cls ≠ "java/lang/invoke/VarHandle") (hf : rm.frames + 1 ≤ R.frames) (hl : W + (maxL + 11) + rm.locals ≤ R.locals) (hc : cells + rm.cells ≤ R.cells) (hs : slots + rm.slots ≤ R.slots)
    (k : ∀ (T' : State) (L' : List Loc) (v : Option Value), Stand p l e R s m args below meth c T' (locs ++ L') (cells + rm.cells) (slots + rm.slots) → Q v T'.heap L' → D (T'.setTop { g with pc := g.pc + 3, stack := v.toList ++ rest })) : D (T.setTop g) := by
  subst has
  obtain ⟨cq, kq, qa, qb, qc⟩ := isOf hZ eT E
  obtain ⟨v, _, ⟨T', L, k', n'⟩, -, X', ⟨Lc, hQ, l', y', z'⟩, st⟩ := X.virtualBack hx (y := y) (z := z) hown (mvT hZ w1) (mvT hZ w2) nf (mvT hZ w5) (mvT hZ w6) hy (backOf (W := W) hM hZ w4 w3 hf hl) qa qc (g := g) hg hsz (Steps.refl _) (argsL := argsL) (rest := rest) hlen hstack hW hd (fun _ _ => ⟨rfl, eT, hc, hs⟩)
  dsimp only [Pt.U, Pt.locs, Pt.cells, Pt.slots] at X' l' y' z' st hQ
  subst l' y' z'
  exact A.tr st (k T' Lc v X' hQ)
theorem Adv.callU (A : Adv p e below D) (X : Stand p l e R s m args below meth c T locs cells slots) (hx : p.tables.exec = Jvm.exec) (hZ : Z.Warmed39 s.vm) {own C owner : String} {index : Nat} {y z : MethodName} {bytes : ByteArray} {maxL : Nat} {rt : Option FieldType} {rm : Room} {as' : Array Value} {Q : Option Value → Heap → List Loc → Prop} {a : Addr}
    (hown : s.vm.findClass own = some m.cls) (w1 : (Cond.methodLink own index y).before a0 Z = true) (w7 : (Cond.sameMethod y.cls owner y.name y.desc).before a0 Z = true) (w2 : (Cond.declares ⟨owner, y.name, y.desc⟩).before a0 Z = true) (w5 : (Cond.selects C y z).before a0 Z = true) (w6 : (Cond.instanceMethod z).before a0 Z = true) (w3 : (Cond.initialized z.cls).before a0 Z = true) (w4 : (Cond.code z bytes maxL rt).before a0 Z = true) (eT : T.heap = h) (E : Exa Z h a C)
    (hM : JMet l Z z bytes maxL rt [] rm as' h Q) (W : Nat) {g : JFrame} (hg : g.method = m) (hsz : g.locals.size = c.maxLocals) (argsL rest : List Value) (has : as' = (.ref a :: argsL).toArray)
    (hlen : ∀ sig, parseMethodDescriptor y.desc = some sig → argsL.length = sig.parameters.length) (hstack : g.stack = argsL.reverse ++ .ref a :: rest) (hW : 2 * g.monitorRoom + (rest.map fun v => v.category).sum ≤ W)
    (hd : decode c.code g.pc = .ok (.invokevirtual index, 3)) (hy : owner ≠ "java/lang/invoke/MethodHandle" ∧ owner ≠ "java/lang/invoke/VarHandle") (hf : rm.frames + 1 ≤ R.frames) (hl : W + (maxL + 11) + rm.locals ≤ R.locals) (hc : cells + rm.cells ≤ R.cells) (hs : slots + rm.slots ≤ R.slots)
    (k : ∀ (T' : State) (L' : List Loc) (v : Option Value), Stand p l e R s m args below meth c T' (locs ++ L') (cells + rm.cells) (slots + rm.slots) → Q v T'.heap L' → D (T'.setTop { g with pc := g.pc + 3, stack := v.toList ++ rest })) : D (T.setTop g) := by
  subst has
  obtain ⟨cq, kq, qa, qb, qc⟩ := isOf hZ eT E
  obtain ⟨v, _, ⟨T', L, k', n'⟩, -, X', ⟨Lc, hQ, l', y', z'⟩, st⟩ := X.virtualBackUp hx (x := y) (y := z) (owner := owner) hown (mvT hZ w1) (mvT hZ w7) (mvT hZ w2) hy (mvT hZ w5) (mvT hZ w6) (backOf (W := W) hM hZ w4 w3 hf hl) qa qc (g := g) hg hsz (Steps.refl _) (argsL := argsL) (rest := rest) hlen hstack hW hd (fun _ _ => ⟨rfl, eT, hc, hs⟩)
  dsimp only [Pt.U, Pt.locs, Pt.cells, Pt.slots] at X' l' y' z' st hQ
  subst l' y' z'
  exact A.tr st (k T' Lc v X' hQ)
theorem Adv.callP (A : Adv p e below D) (X : Stand p l e R s m args below meth c T locs cells slots) (hx : p.tables.exec = Jvm.exec) (hZ : Z.Warmed39 s.vm) {own C : String} {index kn : Nat} {y : MethodName} {bytes : ByteArray} {maxL : Nat} {rt : Option FieldType} {rm : Room} {as' : Array Value} {Q : Option Value → Heap → List Loc → Prop} {a : Addr}
    (hown : s.vm.findClass own = some m.cls) (w1 : (Cond.methodLink own index y).before a0 Z = true) (w2 : (Cond.instanceMethod y).before a0 Z = true) (wi : (Cond.instantiable y.cls kn).before a0 Z = true) (w5 : (Cond.privateMethod y).before a0 Z = true) (w3 : (Cond.initialized y.cls).before a0 Z = true) (w4 : (Cond.code y bytes maxL rt).before a0 Z = true) (eT : T.heap = h) (E : Exa Z h a C)
    (hM : JMet l Z y bytes maxL rt [] rm as' h Q) (W : Nat) {g : JFrame} (hg : g.method = m) (hsz : g.locals.size = c.maxLocals) (argsL rest : List Value) (has : as' = (.ref a :: argsL).toArray)
    (hlen : ∀ sig, parseMethodDescriptor y.desc = some sig → argsL.length = sig.parameters.length) (hstack : g.stack = argsL.reverse ++ .ref a :: rest) (hW : 2 * g.monitorRoom + (rest.map fun v => v.category).sum ≤ W)
    (hd : decode c.code g.pc = .ok (.invokevirtual index, 3)) (hy : y.cls ≠ "java/lang/invoke/MethodHandle" ∧ y.cls ≠ "java/lang/invoke/VarHandle") (hf : rm.frames + 1 ≤ R.frames) (hl : W + (maxL + 11) + rm.locals ≤ R.locals) (hc : cells + rm.cells ≤ R.cells) (hs : slots + rm.slots ≤ R.slots)
    (k : ∀ (T' : State) (L' : List Loc) (v : Option Value), Stand p l e R s m args below meth c T' (locs ++ L') (cells + rm.cells) (slots + rm.slots) → Q v T'.heap L' → D (T'.setTop { g with pc := g.pc + 3, stack := v.toList ++ rest })) : D (T.setTop g) := by
  subst has
  obtain ⟨ce, hce, hob⟩ := E.cell
  have hpriv : s.PrivateAt y := Cond.privateMethod_at (mvP hZ w5 (args := #[]))
  have hins : (Cond.instanceMethod y).before args s = true := mvT hZ w2
  have hwi : (Cond.instantiable y.cls kn).before args s = true := mvT hZ wi
  obtain ⟨ck, kk, c1, c2, -, c4, -⟩ := Cond.instantiable_spec hwi
  have hsel := selects_self_of_private c1 c2 (Bool.or_eq_false_iff.mp c4).1 hpriv hins hy
  obtain ⟨v, _, ⟨T', L, k', n'⟩, -, X', ⟨Lc, hQ, l', y', z'⟩, st⟩ := X.privateBack hx (y := y) hown (mvT hZ w1) hins hsel hpriv (mvT hZ w4) hy (backOf (W := W) hM hZ w4 w3 hf hl) (g := g) hg hsz (Steps.refl _) (a := a) (cell := ce) (by rw [eT]; exact hce) hob (argsL := argsL) (rest := rest) hlen hstack hW hd (fun _ _ => ⟨rfl, eT, hc, hs⟩)
  dsimp only [Pt.U, Pt.locs, Pt.cells, Pt.slots] at X' l' y' z' st hQ
  subst l' y' z'
  exact A.tr st (k T' Lc v X' hQ)
end Kit
/-! ### arrays by a function of the place -/
section Arrays
variable {p : Program} {l : Launch} {e : Env} {R : Room} {s : State} {m : MethodId} {args : Array Value} {below : List Frame} {meth : Method} {c : Code} {T : State} {locs : List Loc} {cells slots : Nat} {Z : State} {a0 : Array Value} {h h' : Heap} {D : State → Prop} {a b : Addr} {ty : FieldType} {n : Nat} {f : Nat → Int32} {fJ : Nat → Int64} {sl : Nat} {v : Value} {ws : List Addr}
def ArI (Z : State) (h : Heap) (a : Addr) (ty : FieldType) (n : Nat) (f : Nat → Int32) : Prop :=
  n < 2147483648 ∧ ∃ c : Cell, Arr Z h a c ty ∧ c.slots.size = n ∧ ∀ i, i < n → c.slots[i]? = some (.int (f i))
def ArJ (Z : State) (h : Heap) (a : Addr) (n : Nat) (f : Nat → Int64) : Prop :=
  n < 2147483648 ∧ ∃ c : Cell, Arr Z h a c .long ∧ c.slots.size = n ∧ ∀ i, i < n → c.slots[i]? = some (.long (f i))
theorem ArI.lt (F : ArI Z h a ty n f) : a < h.size := by obtain ⟨-, c, A, -⟩ := F; exact A.lt
theorem ArI.ext (F : ArI Z h a ty n f) (E : Ext h h') : ArI Z h' a ty n f := by obtain ⟨q, c, A, r⟩ := F; exact ⟨q, c, A.ext E, r⟩
theorem ArI.other (F : ArI Z h b ty n f) (W : Wr h h' a sl v) (q : b ≠ a) : ArI Z h' b ty n f := by obtain ⟨z, c, A, r⟩ := F; exact ⟨z, c, A.other W q, r⟩
theorem ArI.keep (F : ArI Z h a ty n f) (K : Keep h h' ws) (q : a ∉ ws) : ArI Z h' a ty n f := by obtain ⟨z, c, A, r⟩ := F; exact ⟨z, c, ⟨K.2.1 a c A.1 q, A.2⟩, r⟩
theorem ArI.eqf {g : Nat → Int32} (F : ArI Z h a ty n f) (q : ∀ i, i < n → f i = g i) : ArI Z h a ty n g := by
  obtain ⟨z, c, A, r, H⟩ := F; exact ⟨z, c, A, r, fun i hi => by rw [← q i hi]; exact H i hi⟩
theorem ArJ.lt (F : ArJ Z h a n fJ) : a < h.size := by obtain ⟨-, c, A, -⟩ := F; exact A.lt
theorem ArJ.ext (F : ArJ Z h a n fJ) (E : Ext h h') : ArJ Z h' a n fJ := by obtain ⟨q, c, A, r⟩ := F; exact ⟨q, c, A.ext E, r⟩
theorem ArJ.other (F : ArJ Z h b n fJ) (W : Wr h h' a sl v) (q : b ≠ a) : ArJ Z h' b n fJ := by obtain ⟨z, c, A, r⟩ := F; exact ⟨z, c, A.other W q, r⟩
theorem ArJ.keep (F : ArJ Z h a n fJ) (K : Keep h h' ws) (q : a ∉ ws) : ArJ Z h' a n fJ := by obtain ⟨z, c, A, r⟩ := F; exact ⟨z, c, ⟨K.2.1 a c A.1 q, A.2⟩, r⟩
theorem ArJ.eqf {g : Nat → Int64} (F : ArJ Z h a n fJ) (q : ∀ i, i < n → fJ i = g i) : ArJ Z h a n g := by
  obtain ⟨z, c, A, r, H⟩ := F; exact ⟨z, c, A, r, fun i hi => by rw [← q i hi]; exact H i hi⟩
theorem ne_ari {C : String} {k : Nat} (F : Exa Z h a C) (wi : (Cond.instantiable C k).before a0 Z = true) (G : ArI Z h b ty n f) : a ≠ b := by obtain ⟨-, c, A, -⟩ := G; exact ne_arr F wi A
theorem ne_arj {C : String} {k : Nat} (F : Exa Z h a C) (wi : (Cond.instantiable C k).before a0 Z = true) (G : ArJ Z h b n fJ) : a ≠ b := by obtain ⟨-, c, A, -⟩ := G; exact ne_arr F wi A
theorem ne_arr2 {c1 c2 : Cell} {t1 t2 : FieldType} (F : Arr Z h a c1 t1) (G : Arr Z h b c2 t2) (hn : t1 ≠ t2) : a ≠ b := fun q => by
  subst q
  cases F.1.symm.trans G.1
  obtain ⟨-, k1, j1, comp1, j2⟩ := F.2.1
  obtain ⟨-, k2, i1, comp2, i2⟩ := G.2.1
  cases j1.symm.trans i1
  rw [j2] at i2
  injection i2 with _ q2
  exact hn q2
theorem ne_aij {n' : Nat} (F : ArI Z h a ty n f) (G : ArJ Z h b n' fJ) (hn : ty ≠ .long) : a ≠ b := by obtain ⟨-, c, A, -⟩ := F; obtain ⟨-, c', A', -⟩ := G; exact ne_arr2 A A' hn
theorem to_nat {j : Int32} {k : Nat} (hk : j.toInt = k) : j.toNatClampNeg = k := by simp only [Int32.toNatClampNeg, hk, Int.toNat_natCast]
theorem inb {cl : Cell} {j : Int32} {k : Nat} (hk : j.toInt = k) (hkn : k < n) (hs : cl.slots.size = n) : ¬ (j < 0 ∨ cl.slots.size ≤ j.toNatClampNeg) := by
  rw [to_nat hk, hs, Int32.lt_iff_toInt_lt, hk, show (0 : Int32).toInt = 0 from rfl]; omega
theorem ixadd {x d : Int32} {k j : Nat} (hx : x.toInt = k) (hd : d.toInt = j) (h : k + j < 2147483648) : (x + d).toInt = ((k + j : Nat) : Int) := by
  have h2 := c_iadd x d
  have h3 := rng32 (x + d)
  omega
theorem ArI.mk {k : ClassId} {z : Int32} (A : Arr Z h a (newA k ty z) ty) (hn : z.toInt = n) (hd : defaultValue ty = .int 0) : ArI Z h a ty n (fun _ => 0) := by
  have hz := to_nat hn
  refine ⟨?_, _, A, by rw [sz_new, hz], fun i hi => ?_⟩
  · have := Int32.toInt_lt z; omega
  · simp [newA, hz, hi, hd]
theorem ArJ.mk {k : ClassId} {z : Int32} (A : Arr Z h a (newA k .long z) .long) (hn : z.toInt = n) : ArJ Z h a n (fun _ => 0) := by
  have hz := to_nat hn
  refine ⟨?_, _, A, by rw [sz_new, hz], fun i hi => ?_⟩
  · have := Int32.toInt_lt z; omega
  · simp [newA, hz, hi, defaultValue]
theorem set_at {cl : Cell} {i k : Nat} (hk : k < cl.slots.size) : (cl.setSlot k v).slots[i]? = if i = k then some v else cl.slots[i]? := by
  simp only [Cell.setSlot, Array.getElem?_setIfInBounds]
  by_cases q : i = k
  · subst q; simp [hk]
  · simp [q, Ne.symm q]
theorem ArI.set {x : Int32} {k : Nat} (F : ArI Z h a ty n f) (W : Wr h h' a k (.int x)) (hk : k < n) : ArI Z h' a ty n (fun i => if i = k then x else f i) := by
  obtain ⟨z, c, A, r, H⟩ := F
  refine ⟨z, _, A.same W, by rw [sz_set, r], fun i hi => ?_⟩
  rw [set_at (by omega)]
  by_cases q : i = k
  · simp [q]
  · simp [q, H i hi]
theorem ArJ.set {x : Int64} {k : Nat} (F : ArJ Z h a n fJ) (W : Wr h h' a k (.long x)) (hk : k < n) : ArJ Z h' a n (fun i => if i = k then x else fJ i) := by
  obtain ⟨z, c, A, r, H⟩ := F
  refine ⟨z, _, A.same W, by rw [sz_set, r], fun i hi => ?_⟩
  rw [set_at (by omega)]
  by_cases q : i = k
  · simp [q]
  · simp [q, H i hi]
theorem Adv.ldI (A : Adv p e below D) (X : Stand p l e R s m args below meth c T locs cells slots) (hx : p.tables.exec = Jvm.exec) (hZ : Z.Warmed39 s.vm) (eT : T.heap = h) (F : ArI Z h a .int n f) {j : Int32} {k : Nat} (hk : j.toInt = k) (hkn : k < n) {g : JFrame} (hg : g.method = m) {rest : List Value} (hs : g.stack = .int j :: .ref a :: rest) (hd : decode c.code g.pc = .ok (.iaload, 1))
    (kk : D (T.setTop { g with pc := g.pc + 1, stack := .int (f k) :: rest })) : D (T.setTop g) := by
  obtain ⟨-, cl, Ar, r, H⟩ := F
  exact A (X.iaload hx (j := j) (v := .int (f k)) (by rw [eT]; exact Ar.1) (State.isArrayOf_alike hZ.alike Ar.2.1) Ar.2.2 (inb hk hkn r) (by rw [to_nat hk]; exact H k hkn) (g := g) hg hs hd _) kk
theorem Adv.ldB (A : Adv p e below D) (X : Stand p l e R s m args below meth c T locs cells slots) (hx : p.tables.exec = Jvm.exec) (hZ : Z.Warmed39 s.vm) (eT : T.heap = h) (F : ArI Z h a .byte n f) {j : Int32} {k : Nat} (hk : j.toInt = k) (hkn : k < n) {g : JFrame} (hg : g.method = m) {rest : List Value} (hs : g.stack = .int j :: .ref a :: rest) (hd : decode c.code g.pc = .ok (.baload, 1))
    (kk : D (T.setTop { g with pc := g.pc + 1, stack := .int (f k) :: rest })) : D (T.setTop g) := by
  obtain ⟨-, cl, Ar, r, H⟩ := F
  exact A (X.baloadBytes hx (j := j) (v := .int (f k)) (by rw [eT]; exact Ar.1) (State.isArrayOf_alike hZ.alike Ar.2.1) Ar.2.2 (inb hk hkn r) (by rw [to_nat hk]; exact H k hkn) (g := g) hg hs hd _) kk
theorem Adv.ldJ (A : Adv p e below D) (X : Stand p l e R s m args below meth c T locs cells slots) (hx : p.tables.exec = Jvm.exec) (hZ : Z.Warmed39 s.vm) (eT : T.heap = h) (F : ArJ Z h a n fJ) {j : Int32} {k : Nat} (hk : j.toInt = k) (hkn : k < n) {g : JFrame} (hg : g.method = m) {rest : List Value} (hs : g.stack = .int j :: .ref a :: rest) (hd : decode c.code g.pc = .ok (.laload, 1))
    (kk : D (T.setTop { g with pc := g.pc + 1, stack := .long (fJ k) :: rest })) : D (T.setTop g) := by
  obtain ⟨-, cl, Ar, r, H⟩ := F
  exact A (X.laload hx (j := j) (v := .long (fJ k)) (by rw [eT]; exact Ar.1) (State.isArrayOf_alike hZ.alike Ar.2.1) Ar.2.2 (inb hk hkn r) (by rw [to_nat hk]; exact H k hkn) (g := g) hg hs hd _) kk
theorem len32 {cl : Cell} (z : n < 2147483648) (r : cl.slots.size = n) : cl.slots.size.toInt32 = Int32.ofNat n   := by rw [r]
theorem Adv.lenI (A : Adv p e below D) (X : Stand p l e R s m args below meth c T locs cells slots) (hx : p.tables.exec = Jvm.exec) (hZ : Z.Warmed39 s.vm) (eT : T.heap = h) (F : ArI Z h a ty n f) {g : JFrame} (hg : g.method = m) {rest : List Value} (hs : g.stack = .ref a :: rest) (hd : decode c.code g.pc = .ok (.arraylength, 1))
    (kk : D (T.setTop { g with pc := g.pc + 1, stack := .int (Int32.ofNat n) :: rest })) : D (T.setTop g) := by
  obtain ⟨z, cl, Ar, r, H⟩ := F
  rw [← len32 z r] at kk
  exact A (X.arraylength hx (by rw [eT]; exact Ar.1) (State.isArrayOf_alike hZ.alike Ar.2.1) (g := g) hg hs hd _) kk
theorem Adv.lenJ (A : Adv p e below D) (X : Stand p l e R s m args below meth c T locs cells slots) (hx : p.tables.exec = Jvm.exec) (hZ : Z.Warmed39 s.vm) (eT : T.heap = h) (F : ArJ Z h a n fJ) {g : JFrame} (hg : g.method = m) {rest : List Value} (hs : g.stack = .ref a :: rest) (hd : decode c.code g.pc = .ok (.arraylength, 1))
    (kk : D (T.setTop { g with pc := g.pc + 1, stack := .int (Int32.ofNat n) :: rest })) : D (T.setTop g) := by
  obtain ⟨z, cl, Ar, r, H⟩ := F
  rw [← len32 z r] at kk
  exact A (X.arraylength hx (by rw [eT]; exact Ar.1) (State.isArrayOf_alike hZ.alike Ar.2.1) (g := g) hg hs hd _) kk
theorem Adv.stI (A : Adv p e below D) (X : Stand p l e R s m args below meth c T locs cells slots) (hx : p.tables.exec = Jvm.exec) (hZ : Z.Warmed39 s.vm) (eT : T.heap = h) (F : ArI Z h a .int n f) {j x : Int32} {k : Nat} (hk : j.toInt = k) (hkn : k < n) {g : JFrame} (hg : g.method = m) {rest : List Value} (hs : g.stack = .int x :: .int j :: .ref a :: rest) (hd : decode c.code g.pc = .ok (.iastore, 1))
    (kk : ∀ T' h', Stand p l e R s m args below meth c T' (locs ++ [⟨a, k⟩]) cells slots → T'.heap = h' → Wr h h' a k (.int x) → ArI Z h' a .int n (fun i => if i = k then x else f i) → D (T'.setTop { g with pc := g.pc + 1, stack := rest })) : D (T.setTop g) := by
  obtain ⟨cl, Ar, r, H⟩ := F.2
  obtain ⟨T', h', X', e', W, st⟩ := Jvm.RoadKit.stI X hx hZ eT Ar (j := j) (x := x) (inb hk hkn r) hg hs hd
  rw [to_nat hk] at X' W
  exact A (fun q => st _ q) (kk T' h' X' e' W (F.set W hkn))
theorem Adv.stB (A : Adv p e below D) (X : Stand p l e R s m args below meth c T locs cells slots) (hx : p.tables.exec = Jvm.exec) (hZ : Z.Warmed39 s.vm) (eT : T.heap = h) (F : ArI Z h a .byte n f) {j x : Int32} {k : Nat} (hk : j.toInt = k) (hkn : k < n) {g : JFrame} (hg : g.method = m) {rest : List Value} (hs : g.stack = .int x :: .int j :: .ref a :: rest) (hd : decode c.code g.pc = .ok (.bastore, 1))
    (kk : ∀ T' h', Stand p l e R s m args below meth c T' (locs ++ [⟨a, k⟩]) cells slots → T'.heap = h' → Wr h h' a k (.int x.toInt8.toInt32) → ArI Z h' a .byte n (fun i => if i = k then x.toInt8.toInt32 else f i) → D (T'.setTop { g with pc := g.pc + 1, stack := rest })) : D (T.setTop g) := by
  obtain ⟨cl, Ar, r, H⟩ := F.2
  obtain ⟨T', h', X', e', W, st⟩ := Jvm.RoadKit.stB X hx hZ eT Ar (j := j) (x := x) (inb hk hkn r) hg hs hd
  rw [to_nat hk] at X' W
  exact A (fun q => st _ q) (kk T' h' X' e' W (F.set W hkn))
theorem Adv.stJ (A : Adv p e below D) (X : Stand p l e R s m args below meth c T locs cells slots) (hx : p.tables.exec = Jvm.exec) (hZ : Z.Warmed39 s.vm) (eT : T.heap = h) (F : ArJ Z h a n fJ) {j : Int32} {x : Int64} {k : Nat} (hk : j.toInt = k) (hkn : k < n) {g : JFrame} (hg : g.method = m) {rest : List Value} (hs : g.stack = .long x :: .int j :: .ref a :: rest) (hd : decode c.code g.pc = .ok (.lastore, 1))
    (kk : ∀ T' h', Stand p l e R s m args below meth c T' (locs ++ [⟨a, k⟩]) cells slots → T'.heap = h' → Wr h h' a k (.long x) → ArJ Z h' a n (fun i => if i = k then x else fJ i) → D (T'.setTop { g with pc := g.pc + 1, stack := rest })) : D (T.setTop g) := by
  obtain ⟨cl, Ar, r, H⟩ := F.2
  obtain ⟨T', h', X', e', W, st⟩ := Jvm.RoadKit.stJ X hx hZ eT Ar (j := j) (x := x) (inb hk hkn r) hg hs hd
  rw [to_nat hk] at X' W
  exact A (fun q => st _ q) (kk T' h' X' e' W (F.set W hkn))
theorem Adv.newI (A : Adv p e below D) (X : Stand p l e R s m args below meth c T locs cells slots) (hx : p.tables.exec = Jvm.exec) (hZ : Z.Warmed39 s.vm) {aty : ArrayType} (w : (Cond.arrayClass (newarray.typeOf aty)).before a0 Z = true) (eT : T.heap = h) {z : Int32} (hz : z.toInt = n) (cap : Nat) (hcap : n ≤ cap) (hb : cap * 8 ≤ 536870912) (hdv : defaultValue (newarray.typeOf aty) = .int 0) {ad : String} (had : "[" ++ (newarray.typeOf aty).toString = ad) (hc : cells + 1 ≤ R.cells) (hl : slots + cap ≤ R.slots) {g : JFrame} (hg : g.method = m) {rest : List Value} (hs : g.stack = .int z :: rest) (hd : decode c.code g.pc = .ok (.newarray aty, 2))
    (kk : ∀ T' h' a, a = h.size → Stand p l e R s m args below meth c T' locs (cells + 1) (slots + cap) → T'.heap = h' → Ext h h' → ArI Z h' a (newarray.typeOf aty) n (fun _ => 0) → Exa Z h' a ad → D (T'.setTop { g with pc := g.pc + 2, stack := .ref a :: rest })) : D (T.setTop g) := by
  have q0 : ¬ z < 0 := by rw [Int32.lt_iff_toInt_lt, hz, show (0 : Int32).toInt = 0 from rfl]; omega
  obtain ⟨T', h', k, X', e', E, Ar, Ex, st⟩ := newPE X hx hZ w eT hg hd hs q0 (cap := cap) (by rw [to_nat hz]; exact hcap) hb hc hl had
  exact A (fun q => st _ q) (kk T' h' _ rfl X' e' E (ArI.mk Ar hz hdv) Ex)
theorem Adv.newJ (A : Adv p e below D) (X : Stand p l e R s m args below meth c T locs cells slots) (hx : p.tables.exec = Jvm.exec) (hZ : Z.Warmed39 s.vm) (w : (Cond.arrayClass .long).before a0 Z = true) (eT : T.heap = h) {z : Int32} (hz : z.toInt = n) (cap : Nat) (hcap : n ≤ cap) (hb : cap * 8 ≤ 536870912) (hc : cells + 1 ≤ R.cells) (hl : slots + cap ≤ R.slots) {g : JFrame} (hg : g.method = m) {rest : List Value} (hs : g.stack = .int z :: rest) (hd : decode c.code g.pc = .ok (.newarray .long, 2))
    (kk : ∀ T' h' a, a = h.size → Stand p l e R s m args below meth c T' locs (cells + 1) (slots + cap) → T'.heap = h' → Ext h h' → ArJ Z h' a n (fun _ => 0) → D (T'.setTop { g with pc := g.pc + 2, stack := .ref a :: rest })) : D (T.setTop g) := by
  have q0 : ¬ z < 0 := by rw [Int32.lt_iff_toInt_lt, hz, show (0 : Int32).toInt = 0 from rfl]; omega
  obtain ⟨T', h', k, X', e', E, Ar, st⟩   := newP (aty := .long) X hx hZ w eT hg hd hs q0 (cap := cap) (by rw [to_nat hz]; exact hcap) hb hc hl
  exact A (fun q => st _ q) (kk T' h' _ rfl X' e' E (ArJ.mk Ar hz))
theorem Adv.cloneI (A : Adv p e below D) (X : Stand p l e R s m args below meth c T locs cells slots) (hx : p.tables.exec = Jvm.exec) (hZ : Z.Warmed39 s.vm) {own ad : String} {index : Nat} (hown : s.vm.findClass own = some m.cls)
    (w1 : (Cond.methodLink own index ⟨ad, "clone", "()Ljava/lang/Object;"⟩).before a0 Z = true) (w2 : (Cond.sameMethod ad "java/lang/Object" "clone" "()Ljava/lang/Object;").before a0 Z = true) (w3 : (Cond.native ⟨"java/lang/Object", "clone", "()Ljava/lang/Object;"⟩).before a0 Z = true)
    (w4 : (Cond.instanceMethod ⟨"java/lang/Object", "clone", "()Ljava/lang/Object;"⟩).before a0 Z = true) (w5 : (Cond.selects ad ⟨ad, "clone", "()Ljava/lang/Object;"⟩ ⟨"java/lang/Object", "clone", "()Ljava/lang/Object;"⟩).before a0 Z = true) (w6 : (Cond.castable ad "java/lang/Cloneable").before a0 Z = true)
    (eT : T.heap = h) (F : ArI Z h a ty n f) (hfit : ∀ i, i < n → fits ty (.int (f i)) = true) (E : Exa Z h a ad) (W cap : Nat) (hcap : n ≤ cap) {g : JFrame} (hg : g.method = m) (hsz : g.locals.size = c.maxLocals) {rest : List Value} (hs : g.stack = .ref a :: rest) (hd : decode c.code g.pc = .ok (.invokevirtual index, 3))
    (hW : 2 * g.monitorRoom + (rest.map fun v => v.category).sum ≤ W) (hf : 1 ≤ R.frames) (hl : W + 14 ≤ R.locals) (hc : cells + 1 ≤ R.cells) (hsl : slots + cap ≤ R.slots)
    (kk : ∀ T' h' b, b = h.size → Stand p l e R s m args below meth c T' locs (cells + 1) (slots + cap) → T'.heap = h' → Ext h h' → ArI Z h' b ty n f → Exa Z h' b ad → D (T'.setTop { g with pc := g.pc + 3, stack := .ref b :: rest })) : D (T.setTop g) := by
  obtain ⟨z, cl, Ar, r, H⟩ := F
  have FC : FitC Z cl := fitC_of Ar fun i hi v hv => by rw [H i (by omega)] at hv; cases hv; exact hfit i (by omega)
  obtain ⟨T', h', X', e', Ex, Ar', E', st⟩ := cloneA X hx hZ hown w1 w2 w3 w4 w5 w6 eT Ar E FC hg hsz hs hd hf hW hl (by rw [r]; exact hcap) hc hsl
  exact A (fun q => st _ q) (kk T' h' _ rfl X' e' Ex ⟨z, _, Ar', r, H⟩ E')
end Arrays
end Jvm.JW
namespace Jvm.Pilot.@@N@@
open Jvm Jvm.ClassFile Sem Op Lib Jvm.Free Jvm.Stand Jvm.LawKit Jvm.RoadKit Bundle Jvm.JW Jvm.Pilot.@@N@@.Jvm.D
theorem d4_0 : decode jdk_30_method_1_code 0 = .ok (.aload_n 0, 1) := by decide +kernel
theorem d4_1 : decode jdk_30_method_1_code 1 = .ok (.invokespecial 1, 3) := by decide +kernel
theorem d4_4 : decode jdk_30_method_1_code 4 = .ok (.return_, 1) := by decide +kernel
theorem pn4 : plainFor (⟨"java/lang/Record", "<init>", "()V"⟩ : MethodName) = true := by decide +kernel
theorem ef4 (self : Addr) (m : MethodId) : entryFrame m #[(.ref self)] 1 = mkF m 0 #[.val (.ref self)] [] := by first | (simp [entryFrame, mkF, argsToLocals, Value.category]; done) | rfl
set_option maxRecDepth 65536 in
set_option maxHeartbeats 40000000 in
theorem rm4 (l : Launch) (Z : State) (a0 : Array Value) (hw : ∀ d ∈ tables_1, d.before a0 Z = true) (ws : List Jvm.Cond) (self : Addr) (h0 : Heap) (n0 : Nat) :
    JMet l Z (⟨"java/lang/Record", "<init>", "()V"⟩ : MethodName) jdk_30_method_1_code 1 none ws ({ frames := 1, cells := 0, slots := 0, locals := 12 } : Room) #[(.ref self)] h0 (fun v h L => v = none ∧ Fr n0 L ∧ h = h0) := by
  refine Jvm.JW.body #[.val (.ref self)] pn4 (ef4 self) ?_
  intro p e s m below meth c T0 D A F X0 hx hZ hby hml hown hnm hrt hlk e0
  refine A (XS.aloadN X0.here hx rfl (hb hby d4_0) rfl rfl) ?_
  show D (T0.setTop (mkF m 1 #[.val (.ref self)] [(.ref self)]))
  obtain ⟨T1, X1, e1, st1⟩ := initO X0 hx hZ hown (hw _ (List.mem_of_getElem? (i := 19) rfl)) (hw _ (List.mem_of_getElem? (i := 20) rfl)) (hw _ (List.mem_of_getElem? (i := 21) rfl)) e0 (g := (mkF m 1 #[.val (.ref self)] [(.ref self)])) rfl (by rw [hml]; rfl) rfl (hb hby d4_1) (by decide) (W := 0) (by show 2 * 0 + _ ≤ _; exact Nat.le_of_eq rfl) (by decide)
  refine A (st1 _) ?_
  show D (T1.setTop (mkF m 4 #[.val (.ref self)] []))
  exact F _ (Jvm.JW.ret X1 hlk (v := none) (fun _ => rfl) (fun fs hr => X1.returnOut hx hrt (hb hby d4_4) hr) rfl ⟨rfl, (Fr.nil n0), e1⟩ (by decide) (by decide))
theorem d3_0 : decode prog_11_method_1_code 0 = .ok (.aload_n 0, 1) := by decide +kernel
theorem d3_1 : decode prog_11_method_1_code 1 = .ok (.invokespecial 3, 3) := by decide +kernel
theorem d3_4 : decode prog_11_method_1_code 4 = .ok (.aload_n 0, 1) := by decide +kernel
theorem d3_5 : decode prog_11_method_1_code 5 = .ok (.aload_n 1, 1) := by decide +kernel
theorem d3_6 : decode prog_11_method_1_code 6 = .ok (.putfield 9, 3) := by decide +kernel
theorem d3_9 : decode prog_11_method_1_code 9 = .ok (.aload_n 0, 1) := by decide +kernel
theorem d3_10 : decode prog_11_method_1_code 10 = .ok (.aload_n 2, 1) := by decide +kernel
theorem d3_11 : decode prog_11_method_1_code 11 = .ok (.putfield 15, 3) := by decide +kernel
theorem d3_14 : decode prog_11_method_1_code 14 = .ok (.aload_n 0, 1) := by decide +kernel
theorem d3_15 : decode prog_11_method_1_code 15 = .ok (.iload_n 3, 1) := by decide +kernel
theorem d3_16 : decode prog_11_method_1_code 16 = .ok (.putfield 19, 3) := by decide +kernel
theorem d3_19 : decode prog_11_method_1_code 19 = .ok (.aload_n 0, 1) := by decide +kernel
theorem d3_20 : decode prog_11_method_1_code 20 = .ok (.iload 4, 2) := by decide +kernel
theorem d3_22 : decode prog_11_method_1_code 22 = .ok (.putfield 23, 3) := by decide +kernel
theorem d3_25 : decode prog_11_method_1_code 25 = .ok (.return_, 1) := by decide +kernel
theorem pn3 : plainFor (⟨"com/example/carmenta/carmenta/Decoder$Source", "<init>", "(Ljava/io/InputStream;[BII)V"⟩ : MethodName) = true := by decide +kernel
theorem pd3_0 : parseMethodDescriptor "()V" = some ⟨[], none⟩ := by decide +kernel
theorem ef3n (self : Addr) (p2 : Addr) (p3 : Int32) (p4 : Int32) (m : MethodId) : entryFrame m #[(.ref self), .null, (.ref p2), (.int p3), (.int p4)] 5 = mkF m 0 #[.val (.ref self), .val .null, .val (.ref p2), .val (.int p3), .val (.int p4)] [] := by first | (simp [entryFrame, mkF, argsToLocals, Value.category]; done) | rfl
set_option maxRecDepth 65536 in
set_option maxHeartbeats 40000000 in
theorem rm3 (l : Launch) (Z : State) (a0 : Array Value) (hw : ∀ d ∈ tables_1, d.before a0 Z = true) (ws : List Jvm.Cond) (self : Addr) (p2 : Addr) (p3 : Int32) (p4 : Int32) (h0 : Heap) (n0 : Nat) (Z0 : n0 ≤ h0.size) (g_self : n0 ≤ self) (E_self : Exa Z h0 self "com/example/carmenta/carmenta/Decoder$Source") (F_in : Fld Z h0 self "com/example/carmenta/carmenta/Decoder$Source" "in" "Ljava/io/InputStream;" .null) (F_buffer : Fld Z h0 self "com/example/carmenta/carmenta/Decoder$Source" "buffer" "[B" .null) (F_start : Fld Z h0 self "com/example/carmenta/carmenta/Decoder$Source" "start" "I" (.int (0 : Int32))) (F_limit : Fld Z h0 self "com/example/carmenta/carmenta/Decoder$Source" "limit" "I" (.int (0 : Int32))) :
    JMet l Z (⟨"com/example/carmenta/carmenta/Decoder$Source", "<init>", "(Ljava/io/InputStream;[BII)V"⟩ : MethodName) prog_11_method_1_code 5 none ws ({ frames := 2, cells := 0, slots := 0, locals := 24 } : Room) #[(.ref self), .null, (.ref p2), (.int p3), (.int p4)] h0 (fun v h L => v = none ∧ Fr n0 L ∧ Keep h0 h [self] ∧ Exa Z h self "com/example/carmenta/carmenta/Decoder$Source" ∧ Fld Z h self "com/example/carmenta/carmenta/Decoder$Source" "in" "Ljava/io/InputStream;" .null ∧ Fld Z h self "com/example/carmenta/carmenta/Decoder$Source" "buffer" "[B" (.ref p2) ∧ Fld Z h self "com/example/carmenta/carmenta/Decoder$Source" "start" "I" (.int p3) ∧ Fld Z h self "com/example/carmenta/carmenta/Decoder$Source" "limit" "I" (.int p4)) := by
  refine Jvm.JW.body #[.val (.ref self), .val .null, .val (.ref p2), .val (.int p3), .val (.int p4)] pn3 (ef3n self p2 p3 p4) ?_
  intro p e s m below meth c T0 D A F X0 hx hZ hby hml hown hnm hrt hlk e0
  refine A (XS.aloadN X0.here hx rfl (hb hby d3_0) rfl rfl) ?_
  show D (T0.setTop (mkF m 1 #[.val (.ref self), .val .null, .val (.ref p2), .val (.int p3), .val (.int p4)] [(.ref self)]))
  refine Adv.callI A X0 hx hZ hown rfl (hw _ (List.mem_of_getElem? (i := 14) rfl)) (hw _ (List.mem_of_getElem? (i := 15) rfl)) (hw _ (List.mem_of_getElem? (i := 17) rfl)) (hw _ (List.mem_of_getElem? (i := 18) rfl)) e0 (rm4 l Z a0 hw [] self h0 n0) 0 (g := (mkF m 1 #[.val (.ref self), .val .null, .val (.ref p2), .val (.int p3), .val (.int p4)] [(.ref self)])) rfl (by rw [hml]; rfl) self [] [] rfl (lenOf pd3_0 rfl) rfl (by show 2 * 0 + _ ≤ _; exact Nat.le_of_eq rfl) (hb hby d3_1) (by decide) (by decide) (by decide) (by decide) (by decide) ?_
  rintro T1 L1 _ X1 ⟨rfl, N1_q, e1⟩
  have N1 := Fr.app (Fr.nil n0) N1_q
  show D (T1.setTop (mkF m 4 #[.val (.ref self), .val .null, .val (.ref p2), .val (.int p3), .val (.int p4)] []))
  refine A (XS.aloadN X1.here hx rfl (hb hby d3_4) rfl rfl) ?_
  show D (T1.setTop (mkF m 5 #[.val (.ref self), .val .null, .val (.ref p2), .val (.int p3), .val (.int p4)] [(.ref self)]))
  refine A (XS.aloadN X1.here hx rfl (hb hby d3_5) rfl rfl) ?_
  show D (T1.setTop (mkF m 6 #[.val (.ref self), .val .null, .val (.ref p2), .val (.int p3), .val (.int p4)] [.null, (.ref self)]))
  obtain ⟨T2, h2, X2, e2, W2, st2⟩ := putF X1 hx hZ hown (host := "") (Or.inl (hw _ (List.mem_of_getElem? (i := 22) rfl))) Via.refl e1 F_in E_self (Or.inr ⟨(hw _ (List.mem_of_getElem? (i := 23) rfl)), rfl, hnm⟩) (hw _ (List.mem_of_getElem? (i := 9) rfl)) (ty := (.object "java/io/InputStream")) (by decide) rfl rfl (g := (mkF m 6 #[.val (.ref self), .val .null, .val (.ref p2), .val (.int p3), .val (.int p4)] [.null, (.ref self)])) rfl rfl (hb hby d3_6)
  have N2 := Fr.snoc X2 N1 g_self
  have F_in_2 := F_in.same W2
  have E_self_2 := E_self.wr W2
  have F_buffer_2 := F_buffer.other W2 (Or.inr (slot_ne (Or.inr (hw _ (List.mem_of_getElem? (i := 25) rfl))) (Or.inr (hw _ (List.mem_of_getElem? (i := 23) rfl))) (by decide) (t := (.array .byte)) (t' := (.object "java/io/InputStream")) (by decide) (by decide)))
  have F_start_2 := F_start.other W2 (Or.inr (slot_ne (Or.inr (hw _ (List.mem_of_getElem? (i := 27) rfl))) (Or.inr (hw _ (List.mem_of_getElem? (i := 23) rfl))) (by decide) (t := .int) (t' := (.object "java/io/InputStream")) (by decide) (by decide)))
  have F_limit_2 := F_limit.other W2 (Or.inr (slot_ne (Or.inr (hw _ (List.mem_of_getElem? (i := 29) rfl))) (Or.inr (hw _ (List.mem_of_getElem? (i := 23) rfl))) (by decide) (t := .int) (t' := (.object "java/io/InputStream")) (by decide) (by decide)))
  have Z_2 : n0 ≤ h2.size := Nat.le_trans Z0 (Nat.le_of_eq W2.size.symm)
  have KK_2 : Keep h0 h2 [self] := (Keep.refl h0 [self]).wr W2 (Or.inl (List.mem_of_getElem? (i := 0) rfl))
  refine A (st2 _) ?_
  show D (T2.setTop (mkF m 9 #[.val (.ref self), .val .null, .val (.ref p2), .val (.int p3), .val (.int p4)] []))
  refine A (XS.aloadN X2.here hx rfl (hb hby d3_9) rfl rfl) ?_
  show D (T2.setTop (mkF m 10 #[.val (.ref self), .val .null, .val (.ref p2), .val (.int p3), .val (.int p4)] [(.ref self)]))
  refine A (XS.aloadN X2.here hx rfl (hb hby d3_10) rfl rfl) ?_
  show D (T2.setTop (mkF m 11 #[.val (.ref self), .val .null, .val (.ref p2), .val (.int p3), .val (.int p4)] [(.ref p2), (.ref self)]))
  obtain ⟨T3, h3, X3, e3, W3, st3⟩ := putF X2 hx hZ hown (host := "") (Or.inl (hw _ (List.mem_of_getElem? (i := 24) rfl))) Via.refl e2 F_buffer_2 E_self_2 (Or.inr ⟨(hw _ (List.mem_of_getElem? (i := 25) rfl)), rfl, hnm⟩) (hw _ (List.mem_of_getElem? (i := 9) rfl)) (ty := (.array .byte)) (by decide) rfl rfl (g := (mkF m 11 #[.val (.ref self), .val .null, .val (.ref p2), .val (.int p3), .val (.int p4)] [(.ref p2), (.ref self)])) rfl rfl (hb hby d3_11)
  have N3 := Fr.snoc X3 N2 g_self
  have F_buffer_3 := F_buffer_2.same W3
  have E_self_3 := E_self_2.wr W3
  have F_in_3 := F_in_2.other W3 (Or.inr (slot_ne (Or.inr (hw _ (List.mem_of_getElem? (i := 23) rfl))) (Or.inr (hw _ (List.mem_of_getElem? (i := 25) rfl))) (by decide) (t := (.object "java/io/InputStream")) (t' := (.array .byte)) (by decide) (by decide)))
  have F_start_3 := F_start_2.other W3 (Or.inr (slot_ne (Or.inr (hw _ (List.mem_of_getElem? (i := 27) rfl))) (Or.inr (hw _ (List.mem_of_getElem? (i := 25) rfl))) (by decide) (t := .int) (t' := (.array .byte)) (by decide) (by decide)))
  have F_limit_3 := F_limit_2.other W3 (Or.inr (slot_ne (Or.inr (hw _ (List.mem_of_getElem? (i := 29) rfl))) (Or.inr (hw _ (List.mem_of_getElem? (i := 25) rfl))) (by decide) (t := .int) (t' := (.array .byte)) (by decide) (by decide)))
  have Z_3 : n0 ≤ h3.size := Nat.le_trans Z_2 (Nat.le_of_eq W3.size.symm)
  have KK_3 : Keep h0 h3 [self] := KK_2.wr W3 (Or.inl (List.mem_of_getElem? (i := 0) rfl))
  refine A (st3 _) ?_
  show D (T3.setTop (mkF m 14 #[.val (.ref self), .val .null, .val (.ref p2), .val (.int p3), .val (.int p4)] []))
  refine A (XS.aloadN X3.here hx rfl (hb hby d3_14) rfl rfl) ?_
  show D (T3.setTop (mkF m 15 #[.val (.ref self), .val .null, .val (.ref p2), .val (.int p3), .val (.int p4)] [(.ref self)]))
  refine A (XS.iloadN X3.here hx rfl (hb hby d3_15) rfl) ?_
  show D (T3.setTop (mkF m 16 #[.val (.ref self), .val .null, .val (.ref p2), .val (.int p3), .val (.int p4)] [(.int p3), (.ref self)]))
  obtain ⟨T4, h4, X4, e4, W4, st4⟩ := putF X3 hx hZ hown (host := "") (Or.inl (hw _ (List.mem_of_getElem? (i := 26) rfl))) Via.refl e3 F_start_3 E_self_3 (Or.inr ⟨(hw _ (List.mem_of_getElem? (i := 27) rfl)), rfl, hnm⟩) (hw _ (List.mem_of_getElem? (i := 9) rfl)) (ty := .int) (by decide) rfl rfl (g := (mkF m 16 #[.val (.ref self), .val .null, .val (.ref p2), .val (.int p3), .val (.int p4)] [(.int p3), (.ref self)])) rfl rfl (hb hby d3_16)
  have N4 := Fr.snoc X4 N3 g_self
  have F_start_4 := F_start_3.same W4
  have E_self_4 := E_self_3.wr W4
  have F_in_4 := F_in_3.other W4 (Or.inr (slot_ne (Or.inr (hw _ (List.mem_of_getElem? (i := 23) rfl))) (Or.inr (hw _ (List.mem_of_getElem? (i := 27) rfl))) (by decide) (t := (.object "java/io/InputStream")) (t' := .int) (by decide) (by decide)))
  have F_buffer_4 := F_buffer_3.other W4 (Or.inr (slot_ne (Or.inr (hw _ (List.mem_of_getElem? (i := 25) rfl))) (Or.inr (hw _ (List.mem_of_getElem? (i := 27) rfl))) (by decide) (t := (.array .byte)) (t' := .int) (by decide) (by decide)))
  have F_limit_4 := F_limit_3.other W4 (Or.inr (slot_ne (Or.inr (hw _ (List.mem_of_getElem? (i := 29) rfl))) (Or.inr (hw _ (List.mem_of_getElem? (i := 27) rfl))) (by decide) (t := .int) (t' := .int) (by decide) (by decide)))
  have Z_4 : n0 ≤ h4.size := Nat.le_trans Z_3 (Nat.le_of_eq W4.size.symm)
  have KK_4 : Keep h0 h4 [self] := KK_3.wr W4 (Or.inl (List.mem_of_getElem? (i := 0) rfl))
  refine A (st4 _) ?_
  show D (T4.setTop (mkF m 19 #[.val (.ref self), .val .null, .val (.ref p2), .val (.int p3), .val (.int p4)] []))
  refine A (XS.aloadN X4.here hx rfl (hb hby d3_19) rfl rfl) ?_
  show D (T4.setTop (mkF m 20 #[.val (.ref self), .val .null, .val (.ref p2), .val (.int p3), .val (.int p4)] [(.ref self)]))
  refine A (XS.iload X4.here hx rfl (hb hby d3_20) rfl) ?_
  show D (T4.setTop (mkF m 22 #[.val (.ref self), .val .null, .val (.ref p2), .val (.int p3), .val (.int p4)] [(.int p4), (.ref self)]))
  obtain ⟨T5, h5, X5, e5, W5, st5⟩ := putF X4 hx hZ hown (host := "") (Or.inl (hw _ (List.mem_of_getElem? (i := 28) rfl))) Via.refl e4 F_limit_4 E_self_4 (Or.inr ⟨(hw _ (List.mem_of_getElem? (i := 29) rfl)), rfl, hnm⟩) (hw _ (List.mem_of_getElem? (i := 9) rfl)) (ty := .int) (by decide) rfl rfl (g := (mkF m 22 #[.val (.ref self), .val .null, .val (.ref p2), .val (.int p3), .val (.int p4)] [(.int p4), (.ref self)])) rfl rfl (hb hby d3_22)
  have N5 := Fr.snoc X5 N4 g_self
  have F_limit_5 := F_limit_4.same W5
  have E_self_5 := E_self_4.wr W5
  have F_in_5 := F_in_4.other W5 (Or.inr (slot_ne (Or.inr (hw _ (List.mem_of_getElem? (i := 23) rfl))) (Or.inr (hw _ (List.mem_of_getElem? (i := 29) rfl))) (by decide) (t := (.object "java/io/InputStream")) (t' := .int) (by decide) (by decide)))
  have F_buffer_5 := F_buffer_4.other W5 (Or.inr (slot_ne (Or.inr (hw _ (List.mem_of_getElem? (i := 25) rfl))) (Or.inr (hw _ (List.mem_of_getElem? (i := 29) rfl))) (by decide) (t := (.array .byte)) (t' := .int) (by decide) (by decide)))
  have F_start_5 := F_start_4.other W5 (Or.inr (slot_ne (Or.inr (hw _ (List.mem_of_getElem? (i := 27) rfl))) (Or.inr (hw _ (List.mem_of_getElem? (i := 29) rfl))) (by decide) (t := .int) (t' := .int) (by decide) (by decide)))
  have Z_5 : n0 ≤ h5.size := Nat.le_trans Z_4 (Nat.le_of_eq W5.size.symm)
  have KK_5 : Keep h0 h5 [self] := KK_4.wr W5 (Or.inl (List.mem_of_getElem? (i := 0) rfl))
  refine A (st5 _) ?_
  show D (T5.setTop (mkF m 25 #[.val (.ref self), .val .null, .val (.ref p2), .val (.int p3), .val (.int p4)] []))
  exact F _ (Jvm.JW.ret X5 hlk (v := none) (fun _ => rfl) (fun fs hr => X5.returnOut hx hrt (hb hby d3_25) hr) e5 ⟨rfl, N5, KK_5, E_self_5, F_in_5, F_buffer_5, F_start_5, F_limit_5⟩ (by decide) (by decide))
theorem d2_0 : decode prog_11_method_3_code 0 = .ok (.new 10, 3) := by decide +kernel
theorem d2_3 : decode prog_11_method_3_code 3 = .ok (.dup, 1) := by decide +kernel
theorem d2_4 : decode prog_11_method_3_code 4 = .ok (.aload_n 0, 1) := by decide +kernel
theorem d2_5 : decode prog_11_method_3_code 5 = .ok (.iload_n 1, 1) := by decide +kernel
theorem d2_6 : decode prog_11_method_3_code 6 = .ok (.newarray .byte, 2) := by decide +kernel
theorem d2_8 : decode prog_11_method_3_code 8 = .ok (.iconst 0, 1) := by decide +kernel
theorem d2_9 : decode prog_11_method_3_code 9 = .ok (.iconst 0, 1) := by decide +kernel
theorem d2_10 : decode prog_11_method_3_code 10 = .ok (.invokespecial 31, 3) := by decide +kernel
theorem d2_13 : decode prog_11_method_3_code 13 = .ok (.areturn, 1) := by decide +kernel
theorem pn2 : plainFor (⟨"com/example/carmenta/carmenta/Decoder$Source", "of", "(Ljava/io/InputStream;I)Lcom/example/carmenta/carmenta/Decoder$Source;"⟩ : MethodName) = true := by decide +kernel
theorem pd2_0 : parseMethodDescriptor "(Ljava/io/InputStream;[BII)V" = some ⟨[(.object "java/io/InputStream"), (.array .byte), .int, .int], none⟩ := by decide +kernel
theorem ef2n (p2 : Int32) (m : MethodId) : entryFrame m #[.null, (.int p2)] 2 = mkF m 0 #[.val .null, .val (.int p2)] [] := by first | (simp [entryFrame, mkF, argsToLocals, Value.category]; done) | rfl
set_option maxRecDepth 65536 in
set_option maxHeartbeats 40000000 in
theorem rm2 (l : Launch) (Z : State) (a0 : Array Value) (hw : ∀ d ∈ tables_1, d.before a0 Z = true) (ws : List Jvm.Cond) (p2 : Int32) (h0 : Heap) (n0 : Nat) (hk : p2.toInt = 65536) (Z0 : n0 ≤ h0.size) :
    JMet l Z (⟨"com/example/carmenta/carmenta/Decoder$Source", "of", "(Ljava/io/InputStream;I)Lcom/example/carmenta/carmenta/Decoder$Source;"⟩ : MethodName) prog_11_method_3_code 2 (some (.object "com/example/carmenta/carmenta/Decoder$Source")) ws ({ frames := 3, cells := 2, slots := 65540, locals := 41 } : Room) #[.null, (.int p2)] h0 (fun v h L => ∃ a b : Addr, v = some (.ref a) ∧ Fr n0 L ∧ Keep h0 h [] ∧ Exa Z h a "com/example/carmenta/carmenta/Decoder$Source" ∧ Fld Z h a "com/example/carmenta/carmenta/Decoder$Source" "in" "Ljava/io/InputStream;" .null ∧ Fld Z h a "com/example/carmenta/carmenta/Decoder$Source" "buffer" "[B" (.ref b) ∧ Fld Z h a "com/example/carmenta/carmenta/Decoder$Source" "start" "I" (.int (0 : Int32)) ∧ Fld Z h a "com/example/carmenta/carmenta/Decoder$Source" "limit" "I" (.int (0 : Int32)) ∧ ArI Z h b .byte 65536 (fun _ => 0) ∧ h0.size ≤ a ∧ h0.size ≤ b) := by
  refine Jvm.JW.body #[.val .null, .val (.int p2)] pn2 (ef2n p2) ?_
  intro p e s m below meth c T0 D A F X0 hx hZ hby hml hown hnm hrt hlk e0
  obtain ⟨T1, h1, X1, e1, E1, A1, D1, -, st1⟩ := newO X0 hx hZ hown (hw _ (List.mem_of_getElem? (i := 8) rfl)) (hw _ (List.mem_of_getElem? (i := 9) rfl)) (hw _ (List.mem_of_getElem? (i := 2) rfl)) e0 (g := (mkF m 0 #[.val .null, .val (.int p2)] [])) rfl (hb hby d2_0) (by decide) (by decide)
  obtain ⟨b1, q_b1⟩ : ∃ z, z = h0.size := ⟨_, rfl⟩
  rw [← q_b1] at A1 D1 st1
  have g_b1 : n0 ≤ b1 := Nat.le_trans Z0 (Nat.le_of_eq q_b1.symm)
  have sz_b1 : h0.size ≤ b1 := Nat.le_trans (Keep.refl h0 []).1 (Nat.le_of_eq q_b1.symm)
  have Z_1 : n0 ≤ h1.size := Nat.le_trans Z0 E1.1
  have KK_1 : Keep h0 h1 [] := (Keep.refl h0 []).ext E1
  have F_in_b1 : Fld Z h1 b1 "com/example/carmenta/carmenta/Decoder$Source" "in" "Ljava/io/InputStream;" .null := D1 (Or.inr (hw _ (List.mem_of_getElem? (i := 23) rfl))) (ty := (.object "java/io/InputStream")) (by decide)
  have F_buffer_b1 : Fld Z h1 b1 "com/example/carmenta/carmenta/Decoder$Source" "buffer" "[B" .null := D1 (Or.inr (hw _ (List.mem_of_getElem? (i := 25) rfl))) (ty := (.array .byte)) (by decide)
  have F_start_b1 : Fld Z h1 b1 "com/example/carmenta/carmenta/Decoder$Source" "start" "I" (.int (0 : Int32)) := D1 (Or.inr (hw _ (List.mem_of_getElem? (i := 27) rfl))) (ty := .int) (by decide)
  have F_limit_b1 : Fld Z h1 b1 "com/example/carmenta/carmenta/Decoder$Source" "limit" "I" (.int (0 : Int32)) := D1 (Or.inr (hw _ (List.mem_of_getElem? (i := 29) rfl))) (ty := .int) (by decide)
  refine A (st1 _) ?_
  show D (T1.setTop (mkF m 3 #[.val .null, .val (.int p2)] [(.ref b1)]))
  refine A (XS.dup X1.here hx rfl (hb hby d2_3) rfl rfl) ?_
  show D (T1.setTop (mkF m 4 #[.val .null, .val (.int p2)] [(.ref b1), (.ref b1)]))
  refine A (XS.aloadN X1.here hx rfl (hb hby d2_4) rfl rfl) ?_
  show D (T1.setTop (mkF m 5 #[.val .null, .val (.int p2)] [.null, (.ref b1), (.ref b1)]))
  refine A (XS.iloadN X1.here hx rfl (hb hby d2_5) rfl) ?_
  show D (T1.setTop (mkF m 6 #[.val .null, .val (.int p2)] [(.int p2), .null, (.ref b1), (.ref b1)]))
  refine Adv.newI A X1 hx hZ (aty := .byte) (hw _ (List.mem_of_getElem? (i := 10) rfl)) e1 (n := 65536) hk 65536 (by decide) (by decide) rfl (ad := "[B") (by decide) (by decide) (by decide) (g := (mkF m 6 #[.val .null, .val (.int p2)] [(.int p2), .null, (.ref b1), (.ref b1)])) rfl rfl (hb hby d2_6) ?_
  intro T2 h2 b2 q_b2 X2 e2 E2 V_b2 EA_b2
  have ne_b1_b2 : b1 ≠ b2 := Nat.ne_of_lt (Nat.lt_of_lt_of_le A1.lt (Nat.le_of_eq q_b2.symm))
  have g_b2 : n0 ≤ b2 := Nat.le_trans Z_1 (Nat.le_of_eq q_b2.symm)
  have sz_b2 : h0.size ≤ b2 := Nat.le_trans KK_1.1 (Nat.le_of_eq q_b2.symm)
  have E_b1_2 := A1.ext E2
  have F_in_b1_2 := F_in_b1.ext E2
  have F_buffer_b1_2 := F_buffer_b1.ext E2
  have F_start_b1_2 := F_start_b1.ext E2
  have F_limit_b1_2 := F_limit_b1.ext E2
  have Z_2 : n0 ≤ h2.size := Nat.le_trans Z_1 E2.1
  have KK_2 : Keep h0 h2 [] := KK_1.ext E2
  show D (T2.setTop (mkF m 8 #[.val .null, .val (.int p2)] [(.ref b2), .null, (.ref b1), (.ref b1)]))
  refine A (XS.iconst X2.here hx rfl (hb hby d2_8)) ?_
  show D (T2.setTop (mkF m 9 #[.val .null, .val (.int p2)] [(.int (0 : Int32)), (.ref b2), .null, (.ref b1), (.ref b1)]))
  refine A (XS.iconst X2.here hx rfl (hb hby d2_9)) ?_
  show D (T2.setTop (mkF m 10 #[.val .null, .val (.int p2)] [(.int (0 : Int32)), (.int (0 : Int32)), (.ref b2), .null, (.ref b1), (.ref b1)]))
  refine Adv.callI A X2 hx hZ hown rfl (hw _ (List.mem_of_getElem? (i := 11) rfl)) (hw _ (List.mem_of_getElem? (i := 12) rfl)) (hw _ (List.mem_of_getElem? (i := 2) rfl)) (hw _ (List.mem_of_getElem? (i := 13) rfl)) e2 (rm3 l Z a0 hw [] b1 b2 (0 : Int32) (0 : Int32) h2 n0 Z_2 g_b1 E_b1_2 F_in_b1_2 F_buffer_b1_2 F_start_b1_2 F_limit_b1_2) 1 (g := (mkF m 10 #[.val .null, .val (.int p2)] [(.int (0 : Int32)), (.int (0 : Int32)), (.ref b2), .null, (.ref b1), (.ref b1)])) rfl (by rw [hml]; rfl) b1 [.null, (.ref b2), (.int (0 : Int32)), (.int (0 : Int32))] [(.ref b1)] rfl (lenOf pd2_0 rfl) rfl (by show 2 * 0 + _ ≤ _; exact Nat.le_of_eq rfl) (hb hby d2_10) (by decide) (by decide) (by decide) (by decide) (by decide) ?_
  rintro T3 L3 _ X3 ⟨rfl, N3_q, K3, -, F3_in, F3_buffer, F3_start, F3_limit⟩
  have N3 := Fr.app (Fr.nil n0) N3_q
  have E_b1_3 := E_b1_2.keep K3
  have V_b2_3 := V_b2.keep K3 (ninS (Ne.symm ne_b1_b2) nin0)
  have Z_3 : n0 ≤ T3.heap.size := Nat.le_trans Z_2 K3.1
  have KK_3 : Keep h0 T3.heap [] := KK_2.trans K3 (allS (Or.inr sz_b1) all0)
  show D (T3.setTop (mkF m 13 #[.val .null, .val (.int p2)] [(.ref b1)]))
  refine F _ (Jvm.JW.ret X3 hlk (v := some (.ref b1)) (fun h => by rw [hrt] at h; cases h) (fun fs hr => retOut X3 hx hrt rfl (Or.inr (Or.inr (Or.inr (Or.inr ⟨rfl, rfl, rfl⟩)))) (hb hby d2_13) hr) rfl ?_ (by decide) (by decide))
  exact ⟨b1, b2, rfl, N3, KK_3, E_b1_3, F3_in, F3_buffer, F3_start, F3_limit, V_b2_3, sz_b1, sz_b2⟩
theorem d1_0 : decode prog_11_method_2_code 0 = .ok (.aload_n 0, 1) := by decide +kernel
theorem d1_1 : decode prog_11_method_2_code 1 = .ok (.ldc 26, 2) := by decide +kernel
theorem d1_3 : decode prog_11_method_2_code 3 = .ok (.invokestatic 27, 3) := by decide +kernel
theorem d1_6 : decode prog_11_method_2_code 6 = .ok (.areturn, 1) := by decide +kernel
theorem pn1 : plainFor (⟨"com/example/carmenta/carmenta/Decoder$Source", "of", "(Ljava/io/InputStream;)Lcom/example/carmenta/carmenta/Decoder$Source;"⟩ : MethodName) = true := by decide +kernel
theorem pd1_0 : parseMethodDescriptor "(Ljava/io/InputStream;I)Lcom/example/carmenta/carmenta/Decoder$Source;" = some ⟨[(.object "java/io/InputStream"), .int], some (.object "com/example/carmenta/carmenta/Decoder$Source")⟩ := by decide +kernel
theorem ef1n  (m : MethodId) : entryFrame m #[.null] 1 = mkF m 0 #[.val .null] [] := by first | (simp [entryFrame, mkF, argsToLocals, Value.category]; done) | rfl
set_option maxRecDepth 65536 in
set_option maxHeartbeats 40000000 in
theorem rm1 (l : Launch) (Z : State) (a0 : Array Value) (hw : ∀ d ∈ tables_1, d.before a0 Z = true) (ws : List Jvm.Cond)  (h0 : Heap) (n0 : Nat) (Z0 : n0 ≤ h0.size) :
    JMet l Z (⟨"com/example/carmenta/carmenta/Decoder$Source", "of", "(Ljava/io/InputStream;)Lcom/example/carmenta/carmenta/Decoder$Source;"⟩ : MethodName) prog_11_method_2_code 1 (some (.object "com/example/carmenta/carmenta/Decoder$Source")) ws ({ frames := 4, cells := 2, slots := 65540, locals := 54 } : Room) #[.null] h0 (fun v h L => ∃ a b : Addr, v = some (.ref a) ∧ Fr n0 L ∧ Keep h0 h [] ∧ Exa Z h a "com/example/carmenta/carmenta/Decoder$Source" ∧ Fld Z h a "com/example/carmenta/carmenta/Decoder$Source" "in" "Ljava/io/InputStream;" .null ∧ Fld Z h a "com/example/carmenta/carmenta/Decoder$Source" "buffer" "[B" (.ref b) ∧ Fld Z h a "com/example/carmenta/carmenta/Decoder$Source" "start" "I" (.int (0 : Int32)) ∧ Fld Z h a "com/example/carmenta/carmenta/Decoder$Source" "limit" "I" (.int (0 : Int32)) ∧ ArI Z h b .byte 65536 (fun _ => 0) ∧ h0.size ≤ a ∧ h0.size ≤ b) := by
  refine Jvm.JW.body #[.val .null] pn1 (ef1n ) ?_
  intro p e s m below meth c T0 D A F X0 hx hZ hby hml hown hnm hrt hlk e0
  refine A (XS.aloadN X0.here hx rfl (hb hby d1_0) rfl rfl) ?_
  show D (T0.setTop (mkF m 1 #[.val .null] [.null]))
  refine A (X0.ldcInt hx hown (mvT hZ (hw _ (List.mem_of_getElem? (i := 4) rfl))) (g := (mkF m 1 #[.val .null] [.null])) rfl (hb hby d1_1) _) ?_
  show D (T0.setTop (mkF m 3 #[.val .null] [(.int (65536 : Int32)), .null]))
  refine Adv.callS A X0 hx hZ hown (hw _ (List.mem_of_getElem? (i := 5) rfl)) (hw _ (List.mem_of_getElem? (i := 6) rfl)) (hw _ (List.mem_of_getElem? (i := 2) rfl)) (hw _ (List.mem_of_getElem? (i := 7) rfl)) e0 (rm2 l Z a0 hw [] (65536 : Int32) h0 n0 (by decide) Z0) 0 (g := (mkF m 3 #[.val .null] [(.int (65536 : Int32)), .null])) rfl (by rw [hml]; rfl) [.null, (.int (65536 : Int32))] [] rfl (lenOf pd1_0 rfl) rfl (by show 2 * 0 + _ ≤ _; exact Nat.le_of_eq rfl) (hb hby d1_3) (by decide) (by decide) (by decide) (by decide) (by decide) ?_
  rintro T1 L1 _ X1 ⟨a1, b1, rfl, N1_q, K1, E1_q, F1_in, F1_buffer, F1_start, F1_limit, V1_q, sz_a1, sz_b1⟩
  have N1 := Fr.app (Fr.nil n0) N1_q
  have g_a1 : n0 ≤ a1 := Nat.le_trans Z0 sz_a1
  have g_b1 : n0 ≤ b1 := Nat.le_trans Z0 sz_b1
  have sz0_a1 : h0.size ≤ a1 := Nat.le_trans (Keep.refl h0 []).1 sz_a1
  have sz0_b1 : h0.size ≤ b1 := Nat.le_trans (Keep.refl h0 []).1 sz_b1
  have Z_1 : n0 ≤ T1.heap.size := Nat.le_trans Z0 K1.1
  have KK_1 : Keep h0 T1.heap [] := (Keep.refl h0 []).trans K1 all0
  show D (T1.setTop (mkF m 6 #[.val .null] [(.ref a1)]))
  refine F _ (Jvm.JW.ret X1 hlk (v := some (.ref a1)) (fun h => by rw [hrt] at h; cases h) (fun fs hr => retOut X1 hx hrt rfl (Or.inr (Or.inr (Or.inr (Or.inr ⟨rfl, rfl, rfl⟩)))) (hb hby d1_6) hr) rfl ?_ (by decide) (by decide))
  exact ⟨a1, b1, rfl, N1, KK_1, E1_q, F1_in, F1_buffer, F1_start, F1_limit, V1_q, sz0_a1, sz0_b1⟩
theorem d7_0 : decode prog_11_method_9_code 0 = .ok (.aload_n 0, 1) := by decide +kernel
theorem d7_1 : decode prog_11_method_9_code 1 = .ok (.getfield 9, 3) := by decide +kernel
theorem d7_4 : decode prog_11_method_9_code 4 = .ok (.areturn, 1) := by decide +kernel
theorem pn7 : plainFor (⟨"com/example/carmenta/carmenta/Decoder$Source", "in", "()Ljava/io/InputStream;"⟩ : MethodName) = true := by decide +kernel
theorem ef7 (self : Addr) (m : MethodId) : entryFrame m #[(.ref self)] 1 = mkF m 0 #[.val (.ref self)] [] := by first | (simp [entryFrame, mkF, argsToLocals, Value.category]; done) | rfl
set_option maxRecDepth 65536 in
set_option maxHeartbeats 40000000 in
theorem rm7 (l : Launch) (Z : State) (a0 : Array Value) (hw : ∀ d ∈ tables_1, d.before a0 Z = true) (ws : List Jvm.Cond) (self : Addr) (h0 : Heap) (n0 : Nat) (F_self : Fld Z h0 self "com/example/carmenta/carmenta/Decoder$Source" "in" "Ljava/io/InputStream;" .null) :
    JMet l Z (⟨"com/example/carmenta/carmenta/Decoder$Source", "in", "()Ljava/io/InputStream;"⟩ : MethodName) prog_11_method_9_code 1 (some (.object "java/io/InputStream")) ws ({ frames := 0, cells := 0, slots := 0, locals := 0 } : Room) #[(.ref self)] h0 (QP .null h0 n0) := by
  refine Jvm.JW.body #[.val (.ref self)] pn7 (ef7 self) ?_
  intro p e s m below meth c T0 D A F X0 hx hZ hby hml hown hnm hrt hlk e0
  refine A (XS.aloadN X0.here hx rfl (hb hby d7_0) rfl rfl) ?_
  show D (T0.setTop (mkF m 1 #[.val (.ref self)] [(.ref self)]))
  obtain ⟨T1, X1, e1, st1⟩ := getF X0 hx hZ hown (host := "") (Or.inl (hw _ (List.mem_of_getElem? (i := 22) rfl))) Via.refl e0 F_self (g := (mkF m 1 #[.val (.ref self)] [(.ref self)])) rfl rfl (hb hby d7_1)
  refine A (st1 _) ?_
  show D (T1.setTop (mkF m 4 #[.val (.ref self)] [.null]))
  refine F _ (Jvm.JW.ret X1 hlk (v := some .null) (fun h => by rw [hrt] at h; cases h) (fun fs hr => retOut X1 hx hrt rfl (Or.inr (Or.inr (Or.inr (Or.inr ⟨rfl, rfl, rfl⟩)))) (hb hby d7_4) hr) rfl ?_ (by decide) (by decide))
  exact ⟨rfl, (Fr.nil n0), e1⟩
theorem d6_0 : decode prog_11_method_10_code 0 = .ok (.aload_n 0, 1) := by decide +kernel
theorem d6_1 : decode prog_11_method_10_code 1 = .ok (.getfield 15, 3) := by decide +kernel
theorem d6_4 : decode prog_11_method_10_code 4 = .ok (.areturn, 1) := by decide +kernel
theorem pn6 : plainFor (⟨"com/example/carmenta/carmenta/Decoder$Source", "buffer", "()[B"⟩ : MethodName) = true := by decide +kernel
theorem ef6 (self : Addr) (m : MethodId) : entryFrame m #[(.ref self)] 1 = mkF m 0 #[.val (.ref self)] [] := by first | (simp [entryFrame, mkF, argsToLocals, Value.category]; done) | rfl
set_option maxRecDepth 65536 in
set_option maxHeartbeats 40000000 in
theorem rm6 (l : Launch) (Z : State) (a0 : Array Value) (hw : ∀ d ∈ tables_1, d.before a0 Z = true) (ws : List Jvm.Cond) (self : Addr) (h0 : Heap) (n0 : Nat) (w : Addr) (F_self : Fld Z h0 self "com/example/carmenta/carmenta/Decoder$Source" "buffer" "[B" (.ref w)) :
    JMet l Z (⟨"com/example/carmenta/carmenta/Decoder$Source", "buffer", "()[B"⟩ : MethodName) prog_11_method_10_code 1 (some (.array .byte)) ws ({ frames := 0, cells := 0, slots := 0, locals := 0 } : Room) #[(.ref self)] h0 (QP (.ref w) h0 n0) := by
  refine Jvm.JW.body #[.val (.ref self)] pn6 (ef6 self) ?_
  intro p e s m below meth c T0 D A F X0 hx hZ hby hml hown hnm hrt hlk e0
  refine A (XS.aloadN X0.here hx rfl (hb hby d6_0) rfl rfl) ?_
  show D (T0.setTop (mkF m 1 #[.val (.ref self)] [(.ref self)]))
  obtain ⟨T1, X1, e1, st1⟩ := getF X0 hx hZ hown (host := "") (Or.inl (hw _ (List.mem_of_getElem? (i := 24) rfl))) Via.refl e0 F_self (g := (mkF m 1 #[.val (.ref self)] [(.ref self)])) rfl rfl (hb hby d6_1)
  refine A (st1 _) ?_
  show D (T1.setTop (mkF m 4 #[.val (.ref self)] [(.ref w)]))
  refine F _ (Jvm.JW.ret X1 hlk (v := some (.ref w)) (fun h => by rw [hrt] at h; cases h) (fun fs hr => retOut X1 hx hrt rfl (Or.inr (Or.inr (Or.inr (Or.inr ⟨rfl, rfl, rfl⟩)))) (hb hby d6_4) hr) rfl ?_ (by decide) (by decide))
  exact ⟨rfl, (Fr.nil n0), e1⟩
theorem d8_0 : decode prog_11_method_11_code 0 = .ok (.aload_n 0, 1) := by decide +kernel
theorem d8_1 : decode prog_11_method_11_code 1 = .ok (.getfield 19, 3) := by decide +kernel
theorem d8_4 : decode prog_11_method_11_code 4 = .ok (.ireturn, 1) := by decide +kernel
theorem pn8 : plainFor (⟨"com/example/carmenta/carmenta/Decoder$Source", "start", "()I"⟩ : MethodName) = true := by decide +kernel
theorem ef8 (self : Addr) (m : MethodId) : entryFrame m #[(.ref self)] 1 = mkF m 0 #[.val (.ref self)] [] := by first | (simp [entryFrame, mkF, argsToLocals, Value.category]; done) | rfl
set_option maxRecDepth 65536 in
set_option maxHeartbeats 40000000 in
theorem rm8 (l : Launch) (Z : State) (a0 : Array Value) (hw : ∀ d ∈ tables_1, d.before a0 Z = true) (ws : List Jvm.Cond) (self : Addr) (h0 : Heap) (n0 : Nat) (w : Int32) (F_self : Fld Z h0 self "com/example/carmenta/carmenta/Decoder$Source" "start" "I" (.int w)) :
    JMet l Z (⟨"com/example/carmenta/carmenta/Decoder$Source", "start", "()I"⟩ : MethodName) prog_11_method_11_code 1 (some .int) ws ({ frames := 0, cells := 0, slots := 0, locals := 0 } : Room) #[(.ref self)] h0 (QP (.int w) h0 n0) := by
  refine Jvm.JW.body #[.val (.ref self)] pn8 (ef8 self) ?_
  intro p e s m below meth c T0 D A F X0 hx hZ hby hml hown hnm hrt hlk e0
  refine A (XS.aloadN X0.here hx rfl (hb hby d8_0) rfl rfl) ?_
  show D (T0.setTop (mkF m 1 #[.val (.ref self)] [(.ref self)]))
  obtain ⟨T1, X1, e1, st1⟩ := getF X0 hx hZ hown (host := "") (Or.inl (hw _ (List.mem_of_getElem? (i := 26) rfl))) Via.refl e0 F_self (g := (mkF m 1 #[.val (.ref self)] [(.ref self)])) rfl rfl (hb hby d8_1)
  refine A (st1 _) ?_
  show D (T1.setTop (mkF m 4 #[.val (.ref self)] [(.int w)]))
  refine F _ (Jvm.JW.ret X1 hlk (v := some (.int w)) (fun h => by rw [hrt] at h; cases h) (fun fs hr => retOut X1 hx hrt rfl (Or.inl ⟨rfl, Or.inl rfl, _, rfl⟩) (hb hby d8_4) hr) rfl ?_ (by decide) (by decide))
  exact ⟨rfl, (Fr.nil n0), e1⟩
theorem d9_0 : decode prog_11_method_12_code 0 = .ok (.aload_n 0, 1) := by decide +kernel
theorem d9_1 : decode prog_11_method_12_code 1 = .ok (.getfield 23, 3) := by decide +kernel
theorem d9_4 : decode prog_11_method_12_code 4 = .ok (.ireturn, 1) := by decide +kernel
theorem pn9 : plainFor (⟨"com/example/carmenta/carmenta/Decoder$Source", "limit", "()I"⟩ : MethodName) = true := by decide +kernel
theorem ef9 (self : Addr) (m : MethodId) : entryFrame m #[(.ref self)] 1 = mkF m 0 #[.val (.ref self)] [] := by first | (simp [entryFrame, mkF, argsToLocals, Value.category]; done) | rfl
set_option maxRecDepth 65536 in
set_option maxHeartbeats 40000000 in
theorem rm9 (l : Launch) (Z : State) (a0 : Array Value) (hw : ∀ d ∈ tables_1, d.before a0 Z = true) (ws : List Jvm.Cond) (self : Addr) (h0 : Heap) (n0 : Nat) (w : Int32) (F_self : Fld Z h0 self "com/example/carmenta/carmenta/Decoder$Source" "limit" "I" (.int w)) :
    JMet l Z (⟨"com/example/carmenta/carmenta/Decoder$Source", "limit", "()I"⟩ : MethodName) prog_11_method_12_code 1 (some .int) ws ({ frames := 0, cells := 0, slots := 0, locals := 0 } : Room) #[(.ref self)] h0 (QP (.int w) h0 n0) := by
  refine Jvm.JW.body #[.val (.ref self)] pn9 (ef9 self) ?_
  intro p e s m below meth c T0 D A F X0 hx hZ hby hml hown hnm hrt hlk e0
  refine A (XS.aloadN X0.here hx rfl (hb hby d9_0) rfl rfl) ?_
  show D (T0.setTop (mkF m 1 #[.val (.ref self)] [(.ref self)]))
  obtain ⟨T1, X1, e1, st1⟩ := getF X0 hx hZ hown (host := "") (Or.inl (hw _ (List.mem_of_getElem? (i := 28) rfl))) Via.refl e0 F_self (g := (mkF m 1 #[.val (.ref self)] [(.ref self)])) rfl rfl (hb hby d9_1)
  refine A (st1 _) ?_
  show D (T1.setTop (mkF m 4 #[.val (.ref self)] [(.int w)]))
  refine F _ (Jvm.JW.ret X1 hlk (v := some (.int w)) (fun h => by rw [hrt] at h; cases h) (fun fs hr => retOut X1 hx hrt rfl (Or.inl ⟨rfl, Or.inl rfl, _, rfl⟩) (hb hby d9_4) hr) rfl ?_ (by decide) (by decide))
  exact ⟨rfl, (Fr.nil n0), e1⟩
theorem own_ix {v x : Int32} (h : v = (x &&& (65535 : Int32))) : ∃ k : Nat, v.toInt = k ∧ k < 65536 := by
  have h1 := c_mask x 65535 16 (by decide) (by decide)
  rw [← h] at h1
  exact ⟨v.toInt.toNat, by omega, by omega⟩
theorem pn0 : plainFor x = true := by decide +kernel
theorem pd0_0 : parseMethodDescriptor "(Ljava/io/InputStream;)Lcom/example/carmenta/carmenta/Decoder$Source;" = some ⟨[(.object "java/io/InputStream")], some (.object "com/example/carmenta/carmenta/Decoder$Source")⟩ := by decide +kernel
theorem pd0_1 : parseMethodDescriptor "()[B" = some ⟨[], some (.array .byte)⟩ := by decide +kernel
theorem pd0_2 : parseMethodDescriptor "()Ljava/io/InputStream;" = some ⟨[], some (.object "java/io/InputStream")⟩ := by decide +kernel
theorem pd0_3 : parseMethodDescriptor "()I" = some ⟨[], some .int⟩ := by decide +kernel
theorem ef0 (p1 : Int32) (p2 : Int32) (m : MethodId) : entryFrame m #[(.int p1), (.int p2)] maxLocals = mkF m 0 #[.val (.int p1), .val (.int p2), .unset, .unset, .unset, .unset, .unset] [] := by first | (simp [entryFrame, mkF, argsToLocals, Value.category, maxLocals]; done) | rfl
set_option maxRecDepth 65536 in
set_option maxHeartbeats 40000000 in
theorem rm0 (l : Launch) (Z : State) (a0 : Array Value) (hw : ∀ d ∈ tables_1, d.before a0 Z = true) (ws : List Jvm.Cond) (p1 : Int32) (p2 : Int32) (h0 : Heap) (n0 : Nat) (Z0 : n0 ≤ h0.size) :
    JMet l Z x code maxLocals ret ws room_1 #[(.int p1), (.int p2)] h0 (QL n0) := by
  refine Jvm.JW.body #[.val (.int p1), .val (.int p2), .unset, .unset, .unset, .unset, .unset] pn0 (ef0 p1 p2) ?_
  intro p e s m below meth c T0 D A F X0 hx hZ hby hml hown hnm hrt hlk e0
  refine A (XS.aconstNull X0.here hx rfl (hb hby at_0)) ?_
  show D (T0.setTop (mkF m 1 #[.val (.int p1), .val (.int p2), .unset, .unset, .unset, .unset, .unset] [.null]))
  refine A (X0.checkcastNull hx (g := (mkF m 1 #[.val (.int p1), .val (.int p2), .unset, .unset, .unset, .unset, .unset] [.null])) rfl rfl (hb hby at_1) _) ?_
  show D (T0.setTop (mkF m 4 #[.val (.int p1), .val (.int p2), .unset, .unset, .unset, .unset, .unset] [.null]))
  refine Adv.callS A X0 hx hZ hown (hw _ (List.mem_of_getElem? (i := 0) rfl)) (hw _ (List.mem_of_getElem? (i := 1) rfl)) (hw _ (List.mem_of_getElem? (i := 2) rfl)) (hw _ (List.mem_of_getElem? (i := 3) rfl)) e0 (rm1 l Z a0 hw [] h0 n0 Z0) 0 (g := (mkF m 4 #[.val (.int p1), .val (.int p2), .unset, .unset, .unset, .unset, .unset] [.null])) rfl (by rw [hml]; rfl) [.null] [] rfl (lenOf pd0_0 rfl) rfl (by show 2 * 0 + _ ≤ _; exact Nat.le_of_eq rfl) (hb hby at_4) (by decide) (by decide) (by decide) (by decide) (by decide) ?_
  rintro T1 L1 _ X1 ⟨a1, b1, rfl, N1_q, K1, E1_q, F1_in, F1_buffer, F1_start, F1_limit, V1_q, sz_a1, sz_b1⟩
  have N1 := Fr.app (Fr.nil n0) N1_q
  have g_a1 : n0 ≤ a1 := Nat.le_trans Z0 sz_a1
  have g_b1 : n0 ≤ b1 := Nat.le_trans Z0 sz_b1
  have Z_1 : n0 ≤ T1.heap.size := Nat.le_trans Z0 K1.1
  show D (T1.setTop (mkF m 7 #[.val (.int p1), .val (.int p2), .unset, .unset, .unset, .unset, .unset] [(.ref a1)]))
  refine A (XS.astoreN X1.here hx rfl (hb hby at_7) rfl rfl (l' := #[.val (.int p1), .val (.int p2), .val (.ref a1), .unset, .unset, .unset, .unset]) rfl) ?_
  show D (T1.setTop (mkF m 8 #[.val (.int p1), .val (.int p2), .val (.ref a1), .unset, .unset, .unset, .unset] []))
  refine A (XS.aconstNull X1.here hx rfl (hb hby at_8)) ?_
  show D (T1.setTop (mkF m 9 #[.val (.int p1), .val (.int p2), .val (.ref a1), .unset, .unset, .unset, .unset] [.null]))
  refine A (X1.checkcastNull hx (g := (mkF m 9 #[.val (.int p1), .val (.int p2), .val (.ref a1), .unset, .unset, .unset, .unset] [.null])) rfl rfl (hb hby at_9) _) ?_
  show D (T1.setTop (mkF m 12 #[.val (.int p1), .val (.int p2), .val (.ref a1), .unset, .unset, .unset, .unset] [.null]))
  refine Adv.callS A X1 hx hZ hown (hw _ (List.mem_of_getElem? (i := 0) rfl)) (hw _ (List.mem_of_getElem? (i := 1) rfl)) (hw _ (List.mem_of_getElem? (i := 2) rfl)) (hw _ (List.mem_of_getElem? (i := 3) rfl)) rfl (rm1 l Z a0 hw [] T1.heap n0 Z_1) 0 (g := (mkF m 12 #[.val (.int p1), .val (.int p2), .val (.ref a1), .unset, .unset, .unset, .unset] [.null])) rfl (by rw [hml]; rfl) [.null] [] rfl (lenOf pd0_0 rfl) rfl (by show 2 * 0 + _ ≤ _; exact Nat.le_of_eq rfl) (hb hby at_12) (by decide) (by decide) (by decide) (by decide) (by decide) ?_
  rintro T2 L2 _ X2 ⟨a2, b2, rfl, N2_q, K2, E2_q, F2_in, F2_buffer, F2_start, F2_limit, V2_q, sz_a2, sz_b2⟩
  have N2 := Fr.app N1 N2_q
  have ne_a1_a2 : a1 ≠ a2 := Nat.ne_of_lt (Nat.lt_of_lt_of_le E1_q.lt sz_a2)
  have ne_b1_a2 : b1 ≠ a2 := Nat.ne_of_lt (Nat.lt_of_lt_of_le V1_q.lt sz_a2)
  have g_a2 : n0 ≤ a2 := Nat.le_trans Z_1 sz_a2
  have ne_a1_b2 : a1 ≠ b2 := Nat.ne_of_lt (Nat.lt_of_lt_of_le E1_q.lt sz_b2)
  have ne_b1_b2 : b1 ≠ b2 := Nat.ne_of_lt (Nat.lt_of_lt_of_le V1_q.lt sz_b2)
  have g_b2 : n0 ≤ b2 := Nat.le_trans Z_1 sz_b2
  have E_a1_2 := E1_q.keep K2
  have F_in_a1_2 := F1_in.keep K2 nin0
  have F_buffer_a1_2 := F1_buffer.keep K2 nin0
  have F_start_a1_2 := F1_start.keep K2 nin0
  have F_limit_a1_2 := F1_limit.keep K2 nin0
  have V_b1_2 := V1_q.keep K2 nin0
  have Z_2 : n0 ≤ T2.heap.size := Nat.le_trans Z_1 K2.1
  show D (T2.setTop (mkF m 15 #[.val (.int p1), .val (.int p2), .val (.ref a1), .unset, .unset, .unset, .unset] [(.ref a2)]))
  refine A (XS.astoreN X2.here hx rfl (hb hby at_15) rfl rfl (l' := #[.val (.int p1), .val (.int p2), .val (.ref a1), .val (.ref a2), .unset, .unset, .unset]) rfl) ?_
  show D (T2.setTop (mkF m 16 #[.val (.int p1), .val (.int p2), .val (.ref a1), .val (.ref a2), .unset, .unset, .unset] []))
  refine A (XS.aloadN X2.here hx rfl (hb hby at_16) rfl rfl) ?_
  show D (T2.setTop (mkF m 17 #[.val (.int p1), .val (.int p2), .val (.ref a1), .val (.ref a2), .unset, .unset, .unset] [(.ref a1)]))
  refine Adv.callV A X2 hx hZ hown (hw _ (List.mem_of_getElem? (i := 30) rfl)) (hw _ (List.mem_of_getElem? (i := 31) rfl)) (notFace_of_selects (args := #[]) (mvT hZ (hw _ (List.mem_of_getElem? (i := 33) rfl)))) (hw _ (List.mem_of_getElem? (i := 33) rfl)) (hw _ (List.mem_of_getElem? (i := 32) rfl)) (hw _ (List.mem_of_getElem? (i := 2) rfl)) (hw _ (List.mem_of_getElem? (i := 34) rfl)) rfl E_a1_2 (rm6 l Z a0 hw [] a1 T2.heap n0 b1 F_buffer_a1_2) 0 (g := (mkF m 17 #[.val (.int p1), .val (.int p2), .val (.ref a1), .val (.ref a2), .unset, .unset, .unset] [(.ref a1)])) rfl (by rw [hml]; rfl) [] [] rfl (lenOf pd0_1 rfl) rfl (by show 2 * 0 + _ ≤ _; exact Nat.le_of_eq rfl) (hb hby at_17) (by decide) (by decide) (by decide) (by decide) (by decide) ?_
  rintro T3 L3 _ X3 ⟨rfl, N3_q, e3⟩
  have N3 := Fr.app N2 N3_q
  show D (T3.setTop (mkF m 20 #[.val (.int p1), .val (.int p2), .val (.ref a1), .val (.ref a2), .unset, .unset, .unset] [(.ref b1)]))
  refine A (XS.astore X3.here hx rfl (hb hby at_20) rfl rfl (l' := #[.val (.int p1), .val (.int p2), .val (.ref a1), .val (.ref a2), .val (.ref b1), .unset, .unset]) rfl) ?_
  show D (T3.setTop (mkF m 22 #[.val (.int p1), .val (.int p2), .val (.ref a1), .val (.ref a2), .val (.ref b1), .unset, .unset] []))
  refine A (XS.aloadN X3.here hx rfl (hb hby at_22) rfl rfl) ?_
  show D (T3.setTop (mkF m 23 #[.val (.int p1), .val (.int p2), .val (.ref a1), .val (.ref a2), .val (.ref b1), .unset, .unset] [(.ref a2)]))
  refine Adv.callV A X3 hx hZ hown (hw _ (List.mem_of_getElem? (i := 30) rfl)) (hw _ (List.mem_of_getElem? (i := 31) rfl)) (notFace_of_selects (args := #[]) (mvT hZ (hw _ (List.mem_of_getElem? (i := 33) rfl)))) (hw _ (List.mem_of_getElem? (i := 33) rfl)) (hw _ (List.mem_of_getElem? (i := 32) rfl)) (hw _ (List.mem_of_getElem? (i := 2) rfl)) (hw _ (List.mem_of_getElem? (i := 34) rfl)) e3 E2_q (rm6 l Z a0 hw [] a2 T2.heap n0 b2 F2_buffer) 0 (g := (mkF m 23 #[.val (.int p1), .val (.int p2), .val (.ref a1), .val (.ref a2), .val (.ref b1), .unset, .unset] [(.ref a2)])) rfl (by rw [hml]; rfl) [] [] rfl (lenOf pd0_1 rfl) rfl (by show 2 * 0 + _ ≤ _; exact Nat.le_of_eq rfl) (hb hby at_23) (by decide) (by decide) (by decide) (by decide) (by decide) ?_
  rintro T4 L4 _ X4 ⟨rfl, N4_q, e4⟩
  have N4 := Fr.app N3 N4_q
  show D (T4.setTop (mkF m 26 #[.val (.int p1), .val (.int p2), .val (.ref a1), .val (.ref a2), .val (.ref b1), .unset, .unset] [(.ref b2)]))
  refine A (XS.astore X4.here hx rfl (hb hby at_26) rfl rfl (l' := #[.val (.int p1), .val (.int p2), .val (.ref a1), .val (.ref a2), .val (.ref b1), .val (.ref b2), .unset]) rfl) ?_
  show D (T4.setTop (mkF m 28 #[.val (.int p1), .val (.int p2), .val (.ref a1), .val (.ref a2), .val (.ref b1), .val (.ref b2), .unset] []))
  refine A (XS.aloadN X4.here hx rfl (hb hby at_28) rfl rfl) ?_
  show D (T4.setTop (mkF m 29 #[.val (.int p1), .val (.int p2), .val (.ref a1), .val (.ref a2), .val (.ref b1), .val (.ref b2), .unset] [(.ref a1)]))
  refine Adv.callV A X4 hx hZ hown (hw _ (List.mem_of_getElem? (i := 35) rfl)) (hw _ (List.mem_of_getElem? (i := 36) rfl)) (notFace_of_selects (args := #[]) (mvT hZ (hw _ (List.mem_of_getElem? (i := 38) rfl)))) (hw _ (List.mem_of_getElem? (i := 38) rfl)) (hw _ (List.mem_of_getElem? (i := 37) rfl)) (hw _ (List.mem_of_getElem? (i := 2) rfl)) (hw _ (List.mem_of_getElem? (i := 39) rfl)) e4 E_a1_2 (rm7 l Z a0 hw [] a1 T2.heap n0 F_in_a1_2) 0 (g := (mkF m 29 #[.val (.int p1), .val (.int p2), .val (.ref a1), .val (.ref a2), .val (.ref b1), .val (.ref b2), .unset] [(.ref a1)])) rfl (by rw [hml]; rfl) [] [] rfl (lenOf pd0_2 rfl) rfl (by show 2 * 0 + _ ≤ _; exact Nat.le_of_eq rfl) (hb hby at_29) (by decide) (by decide) (by decide) (by decide) (by decide) ?_
  rintro T5 L5 _ X5 ⟨rfl, N5_q, e5⟩
  have N5 := Fr.app N4 N5_q
  show D (T5.setTop (mkF m 32 #[.val (.int p1), .val (.int p2), .val (.ref a1), .val (.ref a2), .val (.ref b1), .val (.ref b2), .unset] [.null]))
  refine A (XS.ifnonnullNo X5.here hx rfl (hb hby at_32) rfl) ?_
  show D (T5.setTop (mkF m 35 #[.val (.int p1), .val (.int p2), .val (.ref a1), .val (.ref a2), .val (.ref b1), .val (.ref b2), .unset] []))
  refine A (XS.aloadN X5.here hx rfl (hb hby at_35) rfl rfl) ?_
  show D (T5.setTop (mkF m 36 #[.val (.int p1), .val (.int p2), .val (.ref a1), .val (.ref a2), .val (.ref b1), .val (.ref b2), .unset] [(.ref a1)]))
  refine Adv.callV A X5 hx hZ hown (hw _ (List.mem_of_getElem? (i := 40) rfl)) (hw _ (List.mem_of_getElem? (i := 41) rfl)) (notFace_of_selects (args := #[]) (mvT hZ (hw _ (List.mem_of_getElem? (i := 43) rfl)))) (hw _ (List.mem_of_getElem? (i := 43) rfl)) (hw _ (List.mem_of_getElem? (i := 42) rfl)) (hw _ (List.mem_of_getElem? (i := 2) rfl)) (hw _ (List.mem_of_getElem? (i := 44) rfl)) e5 E_a1_2 (rm8 l Z a0 hw [] a1 T2.heap n0 (0 : Int32) F_start_a1_2) 0 (g := (mkF m 36 #[.val (.int p1), .val (.int p2), .val (.ref a1), .val (.ref a2), .val (.ref b1), .val (.ref b2), .unset] [(.ref a1)])) rfl (by rw [hml]; rfl) [] [] rfl (lenOf pd0_3 rfl) rfl (by show 2 * 0 + _ ≤ _; exact Nat.le_of_eq rfl) (hb hby at_36) (by decide) (by decide) (by decide) (by decide) (by decide) ?_
  rintro T6 L6 _ X6 ⟨rfl, N6_q, e6⟩
  have N6 := Fr.app N5 N6_q
  show D (T6.setTop (mkF m 39 #[.val (.int p1), .val (.int p2), .val (.ref a1), .val (.ref a2), .val (.ref b1), .val (.ref b2), .unset] [(.int (0 : Int32))]))
  refine A (XS.ifNo X6.here hx rfl (hb hby at_39) rfl ((if0 _ _).trans (teq (by decide : (0 : Int32) = (0 : Int32))).2)) ?_
  show D (T6.setTop (mkF m 42 #[.val (.int p1), .val (.int p2), .val (.ref a1), .val (.ref a2), .val (.ref b1), .val (.ref b2), .unset] []))
  refine A (XS.aloadN X6.here hx rfl (hb hby at_42) rfl rfl) ?_
  show D (T6.setTop (mkF m 43 #[.val (.int p1), .val (.int p2), .val (.ref a1), .val (.ref a2), .val (.ref b1), .val (.ref b2), .unset] [(.ref a1)]))
  refine Adv.callV A X6 hx hZ hown (hw _ (List.mem_of_getElem? (i := 45) rfl)) (hw _ (List.mem_of_getElem? (i := 46) rfl)) (notFace_of_selects (args := #[]) (mvT hZ (hw _ (List.mem_of_getElem? (i := 48) rfl)))) (hw _ (List.mem_of_getElem? (i := 48) rfl)) (hw _ (List.mem_of_getElem? (i := 47) rfl)) (hw _ (List.mem_of_getElem? (i := 2) rfl)) (hw _ (List.mem_of_getElem? (i := 49) rfl)) e6 E_a1_2 (rm9 l Z a0 hw [] a1 T2.heap n0 (0 : Int32) F_limit_a1_2) 0 (g := (mkF m 43 #[.val (.int p1), .val (.int p2), .val (.ref a1), .val (.ref a2), .val (.ref b1), .val (.ref b2), .unset] [(.ref a1)])) rfl (by rw [hml]; rfl) [] [] rfl (lenOf pd0_3 rfl) rfl (by show 2 * 0 + _ ≤ _; exact Nat.le_of_eq rfl) (hb hby at_43) (by decide) (by decide) (by decide) (by decide) (by decide) ?_
  rintro T7 L7 _ X7 ⟨rfl, N7_q, e7⟩
  have N7 := Fr.app N6 N7_q
  show D (T7.setTop (mkF m 46 #[.val (.int p1), .val (.int p2), .val (.ref a1), .val (.ref a2), .val (.ref b1), .val (.ref b2), .unset] [(.int (0 : Int32))]))
  refine A (XS.ifYes X7.here hx rfl (pc0 := 46) (pc' := 51) rfl (hb hby at_46) rfl ((if0 _ _).trans (teq (by decide : (0 : Int32) = (0 : Int32))).1) (by decide) (by decide)) ?_
  show D (T7.setTop (mkF m 51 #[.val (.int p1), .val (.int p2), .val (.ref a1), .val (.ref a2), .val (.ref b1), .val (.ref b2), .unset] []))
  refine A (XS.aload X7.here hx rfl (hb hby at_51) rfl rfl) ?_
  show D (T7.setTop (mkF m 53 #[.val (.int p1), .val (.int p2), .val (.ref a1), .val (.ref a2), .val (.ref b1), .val (.ref b2), .unset] [(.ref b1)]))
  refine A (XS.ifnullNo X7.here hx rfl (hb hby at_53) rfl) ?_
  show D (T7.setTop (mkF m 56 #[.val (.int p1), .val (.int p2), .val (.ref a1), .val (.ref a2), .val (.ref b1), .val (.ref b2), .unset] []))
  refine A (XS.aload X7.here hx rfl (hb hby at_56) rfl rfl) ?_
  show D (T7.setTop (mkF m 58 #[.val (.int p1), .val (.int p2), .val (.ref a1), .val (.ref a2), .val (.ref b1), .val (.ref b2), .unset] [(.ref b2)]))
  refine A (XS.ifnullNo X7.here hx rfl (hb hby at_58) rfl) ?_
  show D (T7.setTop (mkF m 61 #[.val (.int p1), .val (.int p2), .val (.ref a1), .val (.ref a2), .val (.ref b1), .val (.ref b2), .unset] []))
  refine A (XS.aload X7.here hx rfl (hb hby at_61) rfl rfl) ?_
  show D (T7.setTop (mkF m 63 #[.val (.int p1), .val (.int p2), .val (.ref a1), .val (.ref a2), .val (.ref b1), .val (.ref b2), .unset] [(.ref b1)]))
  refine Adv.lenI A X7 hx hZ e7 V_b1_2 (g := (mkF m 63 #[.val (.int p1), .val (.int p2), .val (.ref a1), .val (.ref a2), .val (.ref b1), .val (.ref b2), .unset] [(.ref b1)])) rfl rfl (hb hby at_63) ?_
  show D (T7.setTop (mkF m 64 #[.val (.int p1), .val (.int p2), .val (.ref a1), .val (.ref a2), .val (.ref b1), .val (.ref b2), .unset] [(.int (65536 : Int32))]))
  refine A (X7.ldcInt hx hown (mvT hZ (hw _ (List.mem_of_getElem? (i := 50) rfl))) (g := (mkF m 64 #[.val (.int p1), .val (.int p2), .val (.ref a1), .val (.ref a2), .val (.ref b1), .val (.ref b2), .unset] [(.int (65536 : Int32))])) rfl (hb hby at_64) _) ?_
  show D (T7.setTop (mkF m 66 #[.val (.int p1), .val (.int p2), .val (.ref a1), .val (.ref a2), .val (.ref b1), .val (.ref b2), .unset] [(.int (65536 : Int32)), (.int (65536 : Int32))]))
  refine A (XS.icmpNo X7.here hx rfl (hb hby at_66) rfl (teq (by decide : (65536 : Int32) = (65536 : Int32))).2) ?_
  show D (T7.setTop (mkF m 69 #[.val (.int p1), .val (.int p2), .val (.ref a1), .val (.ref a2), .val (.ref b1), .val (.ref b2), .unset] []))
  refine A (XS.aload X7.here hx rfl (hb hby at_69) rfl rfl) ?_
  show D (T7.setTop (mkF m 71 #[.val (.int p1), .val (.int p2), .val (.ref a1), .val (.ref a2), .val (.ref b1), .val (.ref b2), .unset] [(.ref b1)]))
  refine Adv.lenI A X7 hx hZ e7 V_b1_2 (g := (mkF m 71 #[.val (.int p1), .val (.int p2), .val (.ref a1), .val (.ref a2), .val (.ref b1), .val (.ref b2), .unset] [(.ref b1)])) rfl rfl (hb hby at_71) ?_
  show D (T7.setTop (mkF m 72 #[.val (.int p1), .val (.int p2), .val (.ref a1), .val (.ref a2), .val (.ref b1), .val (.ref b2), .unset] [(.int (65536 : Int32))]))
  refine A (X7.ldcInt hx hown (mvT hZ (hw _ (List.mem_of_getElem? (i := 50) rfl))) (g := (mkF m 72 #[.val (.int p1), .val (.int p2), .val (.ref a1), .val (.ref a2), .val (.ref b1), .val (.ref b2), .unset] [(.int (65536 : Int32))])) rfl (hb hby at_72) _) ?_
  show D (T7.setTop (mkF m 74 #[.val (.int p1), .val (.int p2), .val (.ref a1), .val (.ref a2), .val (.ref b1), .val (.ref b2), .unset] [(.int (65536 : Int32)), (.int (65536 : Int32))]))
  refine A (XS.icmpYes X7.here hx rfl (pc0 := 74) (pc' := 79) rfl (hb hby at_74) rfl (teq (by decide : (65536 : Int32) = (65536 : Int32))).1 (by decide) (by decide)) ?_
  show D (T7.setTop (mkF m 79 #[.val (.int p1), .val (.int p2), .val (.ref a1), .val (.ref a2), .val (.ref b1), .val (.ref b2), .unset] []))
  refine A (XS.aload X7.here hx rfl (hb hby at_79) rfl rfl) ?_
  show D (T7.setTop (mkF m 81 #[.val (.int p1), .val (.int p2), .val (.ref a1), .val (.ref a2), .val (.ref b1), .val (.ref b2), .unset] [(.ref b1)]))
  refine A (XS.aload X7.here hx rfl (hb hby at_81) rfl rfl) ?_
  show D (T7.setTop (mkF m 83 #[.val (.int p1), .val (.int p2), .val (.ref a1), .val (.ref a2), .val (.ref b1), .val (.ref b2), .unset] [(.ref b2), (.ref b1)]))
  refine A (Jvm.RoadKit.acmp (g := (mkF m 83 #[.val (.int p1), .val (.int p2), .val (.ref a1), .val (.ref a2), .val (.ref b1), .val (.ref b2), .unset] [(.ref b2), (.ref b1)])) X7 hx rfl rfl rfl (pc0 := 83) (pc' := 88) (same := false) rfl (hb hby at_83) rfl (decide_eq_false fun q => ne_b1_b2 (Value.ref.inj q)) (by decide) (by decide)) ?_
  show D (T7.setTop (mkF m 88 #[.val (.int p1), .val (.int p2), .val (.ref a1), .val (.ref a2), .val (.ref b1), .val (.ref b2), .unset] []))
  refine A (XS.iloadN X7.here hx rfl (hb hby at_88) rfl) ?_
  show D (T7.setTop (mkF m 89 #[.val (.int p1), .val (.int p2), .val (.ref a1), .val (.ref a2), .val (.ref b1), .val (.ref b2), .unset] [(.int p1)]))
  refine A (X7.ldcInt hx hown (mvT hZ (hw _ (List.mem_of_getElem? (i := 51) rfl))) (g := (mkF m 89 #[.val (.int p1), .val (.int p2), .val (.ref a1), .val (.ref a2), .val (.ref b1), .val (.ref b2), .unset] [(.int p1)])) rfl (hb hby at_89) _) ?_
  show D (T7.setTop (mkF m 91 #[.val (.int p1), .val (.int p2), .val (.ref a1), .val (.ref a2), .val (.ref b1), .val (.ref b2), .unset] [(.int (65535 : Int32)), (.int p1)]))
  refine A (XS.iand X7.here hx rfl (hb hby at_91) rfl) ?_
  show D (T7.setTop (mkF m 92 #[.val (.int p1), .val (.int p2), .val (.ref a1), .val (.ref a2), .val (.ref b1), .val (.ref b2), .unset] [(.int (p1 &&& (65535 : Int32)))]))
  refine A (XS.istore X7.here hx rfl (hb hby at_92) rfl (l' := #[.val (.int p1), .val (.int p2), .val (.ref a1), .val (.ref a2), .val (.ref b1), .val (.ref b2), .val (.int (p1 &&& (65535 : Int32)))]) rfl) ?_
  show D (T7.setTop (mkF m 94 #[.val (.int p1), .val (.int p2), .val (.ref a1), .val (.ref a2), .val (.ref b1), .val (.ref b2), .val (.int (p1 &&& (65535 : Int32)))] []))
  suffices Kx6_94 : ∀ x6_94 : Int32, x6_94 = (p1 &&& (65535 : Int32)) → D (T7.setTop (mkF m 94 #[.val (.int p1), .val (.int p2), .val (.ref a1), .val (.ref a2), .val (.ref b1), .val (.ref b2), .val (.int x6_94)] [])) from Kx6_94 _ rfl
  intro x6_94 hx6_94
  obtain ⟨k, hk, hk4⟩ := own_ix hx6_94
  refine A (XS.aload X7.here hx rfl (hb hby at_94) rfl rfl) ?_
  show D (T7.setTop (mkF m 96 #[.val (.int p1), .val (.int p2), .val (.ref a1), .val (.ref a2), .val (.ref b1), .val (.ref b2), .val (.int x6_94)] [(.ref b1)]))
  refine A (XS.iload X7.here hx rfl (hb hby at_96) rfl) ?_
  show D (T7.setTop (mkF m 98 #[.val (.int p1), .val (.int p2), .val (.ref a1), .val (.ref a2), .val (.ref b1), .val (.ref b2), .val (.int x6_94)] [(.int x6_94), (.ref b1)]))
  refine Adv.ldB A X7 hx hZ e7 V_b1_2 (k := k) hk hk4 (g := (mkF m 98 #[.val (.int p1), .val (.int p2), .val (.ref a1), .val (.ref a2), .val (.ref b1), .val (.ref b2), .val (.int x6_94)] [(.int x6_94), (.ref b1)])) rfl rfl (hb hby at_98) ?_
  show D (T7.setTop (mkF m 99 #[.val (.int p1), .val (.int p2), .val (.ref a1), .val (.ref a2), .val (.ref b1), .val (.ref b2), .val (.int x6_94)] [(.int ((fun _ => 0 : Nat → Int32) k))]))
  show D (T7.setTop (mkF m 99 #[.val (.int p1), .val (.int p2), .val (.ref a1), .val (.ref a2), .val (.ref b1), .val (.ref b2), .val (.int x6_94)] [(.int (0 : Int32))]))
  refine A (XS.ifYes X7.here hx rfl (pc0 := 99) (pc' := 104) rfl (hb hby at_99) rfl ((if0 _ _).trans (teq (by decide : (0 : Int32) = (0 : Int32))).1) (by decide) (by decide)) ?_
  show D (T7.setTop (mkF m 104 #[.val (.int p1), .val (.int p2), .val (.ref a1), .val (.ref a2), .val (.ref b1), .val (.ref b2), .val (.int x6_94)] []))
  refine A (XS.aload X7.here hx rfl (hb hby at_104) rfl rfl) ?_
  show D (T7.setTop (mkF m 106 #[.val (.int p1), .val (.int p2), .val (.ref a1), .val (.ref a2), .val (.ref b1), .val (.ref b2), .val (.int x6_94)] [(.ref b1)]))
  refine A (XS.iload X7.here hx rfl (hb hby at_106) rfl) ?_
  show D (T7.setTop (mkF m 108 #[.val (.int p1), .val (.int p2), .val (.ref a1), .val (.ref a2), .val (.ref b1), .val (.ref b2), .val (.int x6_94)] [(.int x6_94), (.ref b1)]))
  refine A (XS.iloadN X7.here hx rfl (hb hby at_108) rfl) ?_
  show D (T7.setTop (mkF m 109 #[.val (.int p1), .val (.int p2), .val (.ref a1), .val (.ref a2), .val (.ref b1), .val (.ref b2), .val (.int x6_94)] [(.int p2), (.int x6_94), (.ref b1)]))
  refine A (XS.iconst X7.here hx rfl (hb hby at_109)) ?_
  show D (T7.setTop (mkF m 110 #[.val (.int p1), .val (.int p2), .val (.ref a1), .val (.ref a2), .val (.ref b1), .val (.ref b2), .val (.int x6_94)] [(.int (1 : Int32)), (.int p2), (.int x6_94), (.ref b1)]))
  refine A (XS.ior X7.here hx rfl (hb hby at_110) rfl) ?_
  show D (T7.setTop (mkF m 111 #[.val (.int p1), .val (.int p2), .val (.ref a1), .val (.ref a2), .val (.ref b1), .val (.ref b2), .val (.int x6_94)] [(.int (p2 ||| (1 : Int32))), (.int x6_94), (.ref b1)]))
  refine A (XS.i2b X7.here hx rfl (hb hby at_111) rfl) ?_
  show D (T7.setTop (mkF m 112 #[.val (.int p1), .val (.int p2), .val (.ref a1), .val (.ref a2), .val (.ref b1), .val (.ref b2), .val (.int x6_94)] [(.int ((p2 ||| (1 : Int32)).toInt8.toInt32)), (.int x6_94), (.ref b1)]))
  refine Adv.stB A X7 hx hZ e7 V_b1_2 (k := k) hk hk4 (g := (mkF m 112 #[.val (.int p1), .val (.int p2), .val (.ref a1), .val (.ref a2), .val (.ref b1), .val (.ref b2), .val (.int x6_94)] [(.int ((p2 ||| (1 : Int32)).toInt8.toInt32)), (.int x6_94), (.ref b1)])) rfl rfl (hb hby at_112) ?_
  intro T8 h8 X8 e8 W8 Vb1_8
  have N8 := Fr.snoc X8 N7 g_b1
  have E_a1_8 := E_a1_2.wr W8
  have F_in_a1_8 := F_in_a1_2.other W8 (Or.inl (ne_ari E_a1_2 (hw _ (List.mem_of_getElem? (i := 9) rfl)) V_b1_2))
  have F_buffer_a1_8 := F_buffer_a1_2.other W8 (Or.inl (ne_ari E_a1_2 (hw _ (List.mem_of_getElem? (i := 9) rfl)) V_b1_2))
  have F_start_a1_8 := F_start_a1_2.other W8 (Or.inl (ne_ari E_a1_2 (hw _ (List.mem_of_getElem? (i := 9) rfl)) V_b1_2))
  have F_limit_a1_8 := F_limit_a1_2.other W8 (Or.inl (ne_ari E_a1_2 (hw _ (List.mem_of_getElem? (i := 9) rfl)) V_b1_2))
  have E_a2_8 := E2_q.wr W8
  have F_in_a2_8 := F2_in.other W8 (Or.inl (Ne.symm ne_b1_a2))
  have F_buffer_a2_8 := F2_buffer.other W8 (Or.inl (Ne.symm ne_b1_a2))
  have F_start_a2_8 := F2_start.other W8 (Or.inl (Ne.symm ne_b1_a2))
  have F_limit_a2_8 := F2_limit.other W8 (Or.inl (Ne.symm ne_b1_a2))
  have V_b2_8 := V2_q.other W8 (Ne.symm ne_b1_b2)
  have Z_8 : n0 ≤ h8.size := Nat.le_trans Z_2 (Nat.le_of_eq W8.size.symm)
  show D (T8.setTop (mkF m 113 #[.val (.int p1), .val (.int p2), .val (.ref a1), .val (.ref a2), .val (.ref b1), .val (.ref b2), .val (.int x6_94)] []))
  refine A (XS.aload X8.here hx rfl (hb hby at_113) rfl rfl) ?_
  show D (T8.setTop (mkF m 115 #[.val (.int p1), .val (.int p2), .val (.ref a1), .val (.ref a2), .val (.ref b1), .val (.ref b2), .val (.int x6_94)] [(.ref b2)]))
  refine A (XS.iload X8.here hx rfl (hb hby at_115) rfl) ?_
  show D (T8.setTop (mkF m 117 #[.val (.int p1), .val (.int p2), .val (.ref a1), .val (.ref a2), .val (.ref b1), .val (.ref b2), .val (.int x6_94)] [(.int x6_94), (.ref b2)]))
  refine Adv.ldB A X8 hx hZ e8 V_b2_8 (k := k) hk hk4 (g := (mkF m 117 #[.val (.int p1), .val (.int p2), .val (.ref a1), .val (.ref a2), .val (.ref b1), .val (.ref b2), .val (.int x6_94)] [(.int x6_94), (.ref b2)])) rfl rfl (hb hby at_117) ?_
  show D (T8.setTop (mkF m 118 #[.val (.int p1), .val (.int p2), .val (.ref a1), .val (.ref a2), .val (.ref b1), .val (.ref b2), .val (.int x6_94)] [(.int ((fun _ => 0 : Nat → Int32) k))]))
  show D (T8.setTop (mkF m 118 #[.val (.int p1), .val (.int p2), .val (.ref a1), .val (.ref a2), .val (.ref b1), .val (.ref b2), .val (.int x6_94)] [(.int (0 : Int32))]))
  refine A (XS.ifNo X8.here hx rfl (hb hby at_118) rfl ((if0 _ _).trans (teq (by decide : (0 : Int32) = (0 : Int32))).2)) ?_
  show D (T8.setTop (mkF m 121 #[.val (.int p1), .val (.int p2), .val (.ref a1), .val (.ref a2), .val (.ref b1), .val (.ref b2), .val (.int x6_94)] []))
  refine A (XS.iconst X8.here hx rfl (hb hby at_121)) ?_
  show D (T8.setTop (mkF m 122 #[.val (.int p1), .val (.int p2), .val (.ref a1), .val (.ref a2), .val (.ref b1), .val (.ref b2), .val (.int x6_94)] [(.int (1 : Int32))]))
  refine A (XS.goto X8.here hx rfl (pc0 := 122) (pc' := 126) rfl (hb hby at_122) (by decide) (by decide)) ?_
  show D (T8.setTop (mkF m 126 #[.val (.int p1), .val (.int p2), .val (.ref a1), .val (.ref a2), .val (.ref b1), .val (.ref b2), .val (.int x6_94)] [(.int (1 : Int32))]))
  exact F _ (Jvm.JW.ret X8 hlk (v := some (.int (1 : Int32))) (fun h => by rw [hrt] at h; cases h) (fun fs hr => retOut X8 hx hrt rfl (Or.inl ⟨rfl, Or.inr (Or.inl rfl), _, rfl⟩) (hb hby at_126) hr) rfl ⟨rfl, N8⟩ (by decide) (by decide))
set_option maxRecDepth 65536 in
set_option maxHeartbeats 40000000 in
theorem comes_1 {Post : Tables → Env → Array Value → State → Outcome → State → Prop} (hpost : ∀ tb e args s v u, (limb_1_1.after args s (.returned v) u = true ∧ limb_1_2.after args s (.returned v) u = true ∧ True) → FrameEnd s (.returned v) u (Jvm.fieldLocs frame_1_writes args s ++ Jvm.arrayLocs frame_1_arrays args s ++ Jvm.staticLocs frame_1_statics s) 16 157312 → Post tb e args s (.returned v) u) :
    ArmFor flags0 classFile x code maxLocals ret World_1 tables_1 room_1 Calls_1 rest_1 Pre_1 Post := by
  intro l hfl _ _ p e ha hc hk s m args below hf hA hF happ hP
  obtain ⟨hcalls, hrest, hpre⟩ := hP
  obtain ⟨-, -, -, hnamed, -, -, -, hat⟩ := (Spec.applies_iff hf).mp happ
  obtain ⟨hg, hn⟩ := and_e (Cond.before_iff.mp (show (Jvm.Cond.and given_1 narrow_1).before args s = true from hpre))
  obtain ⟨g0, g1⟩ := and_e hg
  obtain ⟨t1, g2⟩ := and_e g1
  obtain ⟨w0, w1, rfl⟩ : ∃ w0 w1 : Value, args = #[w0, w1] := by
    have hs : args.size = 2 := by simpa [Cond.value, given_1] using g0
    obtain ⟨L⟩ := args
    match L, hs with
    | [w0, w1], _ => exact ⟨w0, w1, rfl⟩
  have hw := fun d (hd : d ∈ tables_1) => atoms_spec (ws := Jvm.Cond.code x code maxLocals ret :: tables_1) hat d (List.mem_cons_of_mem _ hd)
  obtain ⟨i0, q0⟩ := is_v t1
  obtain rfl : w0 = (.int i0) := Option.some.inj q0
  obtain ⟨i1, q1⟩ := is_v g2
  obtain rfl : w1 = (.int i1) := Option.some.inj q1
  obtain ⟨n, o, h1, h2, h3, _, L, rfl, ⟨rfl, N⟩, hq⟩ := rm0 l s _ hw tables_1 i0 i1 s.heap s.heap.size (Nat.le_refl _) p e ha hc hk s m _ below hf ((Spec.applies_iff_loose hf).mp happ).1 ⟨rfl, State.Warmed39.refl s, rfl⟩ trivial
  refine ⟨n, _, h1, h2, h3, hpost _ _ _ _ _ _ ⟨Cond.after_iff.mpr rfl, Cond.after_iff.mpr (eq_i res_at (Term.int_eval (1)) rfl), trivial⟩ ⟨hq.1, hq.2.1, (hq.2.2.sift fun y hy => Or.inr (N y hy)).mono (by decide) (by decide)⟩⟩
theorem main_1_1 : Claimed_1_1 := comes_1 fun _ _ _ _ _ _ h hF => ⟨h.1, hF⟩
theorem main_1_2 : Claimed_1_2 := comes_1 fun _ _ _ _ _ _ h hF => ⟨h.2.1, hF⟩
end Jvm.Pilot.@@N@@
namespace Jvm.Pilot.@@N@@
open Jvm Jvm.ClassFile Sem Op Lib Jvm.Free Jvm.Stand Jvm.Pilot.@@N@@.Jvm.D
/-! MADE BY PROGRAM (witnessworld.py) out of the Statement's table words and the real class files: 10 classes; the members and pool entries that the words name. The judged class is class 1, her method 1. -/
namespace start1
open Jvm.ClassFile
def u (s : String) : CpInfo := .utf8 (stringToUtf16 s)
/-- a pool by its gaps: so many unusable entries, then the entry; so many at the end -/
def gap : Nat → List CpInfo → List CpInfo
  | 0, r => r
  | n + 1, r => .unusable :: gap n r
def poolList (es : List (Nat × CpInfo)) (last : Nat) : List CpInfo := es.foldr (fun e r => gap e.1 (e.2 :: r)) (gap last [])
def pool (es : List (Nat × CpInfo)) (last : Nat) : Array CpInfo := ⟨poolList es last⟩
def fileOf (pool : Array CpInfo) (this : Nat) (attrs : Array Attribute := #[]) (ms : Array MethodInfo := #[]) (fl : Nat := 33) (sup : Nat := 0) (ifs : Array Nat := #[]) (fds : Array FieldInfo := #[]) : ClassFile where
  minorVersion := 0
  majorVersion := 65
  constantPool := pool
  accessFlags := fl
  thisClass := this
  superClass := sup
  interfaces := ifs
  fields := fds
  methods := ms
  attributes := attrs
def plain (name : String) (sup : Option ClassId) : Class where
  name := name
  kind := .ordinary
  loader := none
  accessFlags := 33
  super := sup
  interfaces := #[]
  cf := none
  fields := #[]
  methods := #[]
  instanceTypes := #[]
  staticTypes := #[]
  resolved := #[]
  callSites := []
  init := .initialized
  statics := none
  mirror := none

def pool0 : Array CpInfo := pool [(5, u "<init>"), (0, u "()V"), (1, .class_ 10), (1, u "java/lang/Object")] 113

def k0c0 : Code := { maxStack := 0, maxLocals := 1, code := object_method_1_code, exceptionTable := #[], attributes := #[] }
def k0m0 : Method := { name := "<init>", desc := "()V", sig := { parameters := [], returnType := none }, accessFlags := 1, code := some k0c0 }
/-- java/lang/Object -/
def k0 : Class := { plain "java/lang/Object" none with
  accessFlags := 33
  interfaces := #[]
  cf := some (fileOf pool0 8 #[] #[{ accessFlags := 1, nameIndex := 5, descriptorIndex := 6, attributes := #[] }] 33 0 #[] #[])
  fields := #[]
  methods := #[k0m0]
  instanceTypes := #[]
  staticTypes := #[]
  resolved := Array.replicate 124 none
  statics := none }

def pool1 : Array CpInfo := pool [(2, .class_ 4), (1, u "java/lang/Object"), (0, u "<init>"), (0, u "()V"), (2, .methodref 10 11), (0, .class_ 12), (0, .nameAndType 13 14), (0, u "com/example/carmenta/carmenta/Decoder$Source"), (0, u "of"), (0, u "(Ljava/io/InputStream;)Lcom/example/carmenta/carmenta/Decoder$Source;"), (0, .methodref 10 16), (0, .nameAndType 17 18), (0, u "buffer"), (0, u "()[B"), (0, .methodref 10 20), (0, .nameAndType 21 22), (0, u "in"), (0, u "()Ljava/io/InputStream;"), (0, .methodref 10 24), (0, .nameAndType 25 26), (0, u "start"), (0, u "()I"), (0, .methodref 10 28), (0, .nameAndType 29 26), (0, u "limit"), (0, .integer 65536), (2, .integer 65535), (0, .class_ 35), (0, u "com/example/carmenta/carmenta/SourceOfPinLaw"), (2, u "law"), (0, u "(II)Z")] 7

def k1m0 : Method := { name := "<init>", desc := "()V", sig := { parameters := [], returnType := none }, accessFlags := 1, code := none }
def k1c1 : Code := { maxStack := 4, maxLocals := 7, code := code, exceptionTable := #[], attributes := #[] }
def k1m1 : Method := { name := "law", desc := "(II)Z", sig := { parameters := [.int, .int], returnType := some .boolean }, accessFlags := 9, code := some k1c1 }
/-- com/example/carmenta/carmenta/SourceOfPinLaw -/
def k1 : Class := { plain "com/example/carmenta/carmenta/SourceOfPinLaw" (some 0) with
  accessFlags := 49
  interfaces := #[]
  cf := some (fileOf pool1 34 #[] #[{ accessFlags := 1, nameIndex := 5, descriptorIndex := 6, attributes := #[] }, { accessFlags := 9, nameIndex := 38, descriptorIndex := 39, attributes := #[] }] 49 2 #[] #[])
  fields := #[]
  methods := #[k1m0, k1m1]
  instanceTypes := #[]
  staticTypes := #[]
  resolved := Array.replicate 47 none
  statics := none }

def pool2 : Array CpInfo := pool [(1, .methodref 2 3), (0, .class_ 4), (0, .nameAndType 5 6), (0, u "java/lang/Object"), (0, u "<init>"), (0, u "()V"), (0, .class_ 8), (0, u "java/lang/Record")] 13

def k2c0 : Code := { maxStack := 1, maxLocals := 1, code := jdk_30_method_1_code, exceptionTable := #[], attributes := #[] }
def k2m0 : Method := { name := "<init>", desc := "()V", sig := { parameters := [], returnType := none }, accessFlags := 4, code := some k2c0 }
/-- java/lang/Record -/
def k2 : Class := { plain "java/lang/Record" (some 0) with
  accessFlags := 1057
  interfaces := #[]
  cf := some (fileOf pool2 7 #[] #[{ accessFlags := 4, nameIndex := 5, descriptorIndex := 6, attributes := #[] }] 1057 2 #[] #[])
  fields := #[]
  methods := #[k2m0]
  instanceTypes := #[]
  staticTypes := #[]
  resolved := Array.replicate 22 none
  statics := none }

def pool3 : Array CpInfo := pool [(1, .class_ 2), (0, u "com/example/carmenta/carmenta/Decoder"), (0, .methodref 4 5), (0, .class_ 6), (0, .nameAndType 7 8), (0, u "java/lang/Record"), (0, u "<init>"), (0, u "()V"), (0, .fieldref 10 11), (0, .class_ 12), (0, .nameAndType 13 14), (0, u "com/example/carmenta/carmenta/Decoder$Source"), (0, u "in"), (0, u "Ljava/io/InputStream;"), (0, .fieldref 10 16), (0, .nameAndType 17 18), (0, u "buffer"), (0, u "[B"), (0, .fieldref 10 20), (0, .nameAndType 21 22), (0, u "start"), (0, u "I"), (0, .fieldref 10 24), (0, .nameAndType 25 22), (0, u "limit"), (0, .integer 65536), (0, .methodref 10 28), (0, .nameAndType 29 30), (0, u "of"), (0, u "(Ljava/io/InputStream;I)Lcom/example/carmenta/carmenta/Decoder$Source;"), (0, .methodref 10 32), (0, .nameAndType 7 33), (0, u "(Ljava/io/InputStream;[BII)V"), (9, u "()I"), (6, u "()[B"), (29, u "(Ljava/io/InputStream;)Lcom/example/carmenta/carmenta/Decoder$Source;"), (4, u "()Ljava/io/InputStream;")] 25

def k3c0 : Code := { maxStack := 2, maxLocals := 5, code := prog_11_method_1_code, exceptionTable := #[], attributes := #[] }
def k3m0 : Method := { name := "<init>", desc := "(Ljava/io/InputStream;[BII)V", sig := { parameters := [(.object "java/io/InputStream"), (.array .byte), .int, .int], returnType := none }, accessFlags := 0, code := some k3c0 }
def k3c1 : Code := { maxStack := 2, maxLocals := 1, code := prog_11_method_2_code, exceptionTable := #[], attributes := #[] }
def k3m1 : Method := { name := "of", desc := "(Ljava/io/InputStream;)Lcom/example/carmenta/carmenta/Decoder$Source;", sig := { parameters := [(.object "java/io/InputStream")], returnType := some (.object "com/example/carmenta/carmenta/Decoder$Source") }, accessFlags := 8, code := some k3c1 }
def k3c2 : Code := { maxStack := 6, maxLocals := 2, code := prog_11_method_3_code, exceptionTable := #[], attributes := #[] }
def k3m2 : Method := { name := "of", desc := "(Ljava/io/InputStream;I)Lcom/example/carmenta/carmenta/Decoder$Source;", sig := { parameters := [(.object "java/io/InputStream"), .int], returnType := some (.object "com/example/carmenta/carmenta/Decoder$Source") }, accessFlags := 8, code := some k3c2 }
def k3c3 : Code := { maxStack := 1, maxLocals := 1, code := prog_11_method_9_code, exceptionTable := #[], attributes := #[] }
def k3m3 : Method := { name := "in", desc := "()Ljava/io/InputStream;", sig := { parameters := [], returnType := some (.object "java/io/InputStream") }, accessFlags := 1, code := some k3c3 }
def k3c4 : Code := { maxStack := 1, maxLocals := 1, code := prog_11_method_10_code, exceptionTable := #[], attributes := #[] }
def k3m4 : Method := { name := "buffer", desc := "()[B", sig := { parameters := [], returnType := some (.array .byte) }, accessFlags := 1, code := some k3c4 }
def k3c5 : Code := { maxStack := 1, maxLocals := 1, code := prog_11_method_11_code, exceptionTable := #[], attributes := #[] }
def k3m5 : Method := { name := "start", desc := "()I", sig := { parameters := [], returnType := some .int }, accessFlags := 1, code := some k3c5 }
def k3c6 : Code := { maxStack := 1, maxLocals := 1, code := prog_11_method_12_code, exceptionTable := #[], attributes := #[] }
def k3m6 : Method := { name := "limit", desc := "()I", sig := { parameters := [], returnType := some .int }, accessFlags := 1, code := some k3c6 }
/-- com/example/carmenta/carmenta/Decoder$Source -/
def k3 : Class := { plain "com/example/carmenta/carmenta/Decoder$Source" (some 2) with
  accessFlags := 48
  interfaces := #[]
  cf := some (fileOf pool3 10 #[.nestHost 1] #[{ accessFlags := 0, nameIndex := 7, descriptorIndex := 33, attributes := #[] }, { accessFlags := 8, nameIndex := 29, descriptorIndex := 80, attributes := #[] }, { accessFlags := 8, nameIndex := 29, descriptorIndex := 30, attributes := #[] }, { accessFlags := 1, nameIndex := 13, descriptorIndex := 85, attributes := #[] }, { accessFlags := 1, nameIndex := 17, descriptorIndex := 50, attributes := #[] }, { accessFlags := 1, nameIndex := 21, descriptorIndex := 43, attributes := #[] }, { accessFlags := 1, nameIndex := 25, descriptorIndex := 43, attributes := #[] }] 48 4 #[] #[{ accessFlags := 18, nameIndex := 13, descriptorIndex := 14, attributes := #[] }, { accessFlags := 18, nameIndex := 17, descriptorIndex := 18, attributes := #[] }, { accessFlags := 18, nameIndex := 21, descriptorIndex := 22, attributes := #[] }, { accessFlags := 18, nameIndex := 25, descriptorIndex := 22, attributes := #[] }])
  fields := #[{ name := "in", type := (.object "java/io/InputStream"), accessFlags := 18, slot := 0, constantValue := 0 }, { name := "buffer", type := (.array .byte), accessFlags := 18, slot := 1, constantValue := 0 }, { name := "start", type := .int, accessFlags := 18, slot := 2, constantValue := 0 }, { name := "limit", type := .int, accessFlags := 18, slot := 3, constantValue := 0 }]
  methods := #[k3m0, k3m1, k3m2, k3m3, k3m4, k3m5, k3m6]
  instanceTypes := #[(.object "java/io/InputStream"), (.array .byte), .int, .int]
  staticTypes := #[]
  resolved := Array.replicate 111 none
  statics := none }

def pool4 : Array CpInfo := pool [(1, u "java/lang/Cloneable"), (0, .class_ 1), (0, u "java/lang/Object"), (0, .class_ 3)] 3

/-- java/lang/Cloneable -/
def k4 : Class := { plain "java/lang/Cloneable" (some 0) with
  accessFlags := 1537
  interfaces := #[]
  cf := some (fileOf pool4 2 #[] #[] 1537 4 #[] #[])
  fields := #[]
  methods := #[]
  instanceTypes := #[]
  staticTypes := #[]
  resolved := Array.replicate 8 none
  statics := none }

def pool5 : Array CpInfo := pool [(1, u "java/io/Serializable"), (0, .class_ 1), (0, u "java/lang/Object"), (0, .class_ 3)] 3

/-- java/io/Serializable -/
def k5 : Class := { plain "java/io/Serializable" (some 0) with
  accessFlags := 1537
  interfaces := #[]
  cf := some (fileOf pool5 2 #[] #[] 1537 4 #[] #[])
  fields := #[]
  methods := #[]
  instanceTypes := #[]
  staticTypes := #[]
  resolved := Array.replicate 8 none
  statics := none }

/-- the primitive byte -/
def k6 : Class := { plain "byte" none with kind := .primitive 'B', accessFlags := 0x411 }
/-- [B -/
def k7 : Class := { plain "[B" (some 0) with kind := .array 6 .byte, interfaces := #[4, 5], accessFlags := 1041 }

/-- the primitive int -/
def k8 : Class := { plain "int" none with kind := .primitive 'I', accessFlags := 0x411 }
/-- [I -/
def k9 : Class := { plain "[I" (some 0) with kind := .array 8 .int, interfaces := #[4, 5], accessFlags := 1041 }

def heap : Heap := #[]
def classes : Array Class := #[k0, k1, k2, k3, k4, k5, k6, k7, k8, k9]
def interned : List (Array UInt16 × Addr) := []
def slotsUsed : Nat := 0
def theMethod : MethodId := ⟨1, 1⟩
def args0 : Array Value := #[.int 3, .int 4]
def aboutOver (below : List Frame) : State where
  vm := { classes := classes, interned := interned.toArray }
  heap := heap
  slotsUsed := slotsUsed
  threads := #[{ frames := .invoking theMethod args0 :: below }]
def below0 : List Frame := [.native { method := ⟨0, 0⟩, args := #[] }]
def about1 : State := aboutOver below0
def p0 : Program := .bare "" "" ""
def e0 : Env := launch0.env 0 0 0
theorem w_frames : about1.frames = Frame.invoking theMethod args0 :: below0 := rfl
set_option maxRecDepth 65536 in
theorem w_args : argsFit about1.vm theMethod args0 = true := by decide +kernel
set_option maxRecDepth 65536 in
theorem w_heap : heapFits about1 = true := by decide +kernel
set_option maxRecDepth 65536 in
theorem w_runnable : about1.curStatus? = some .runnable := by decide +kernel
set_option maxRecDepth 65536 in
theorem w_alone : about1.alone = true := by decide +kernel
set_option maxRecDepth 65536 in
theorem w_named : about1.methodNamed? x = some theMethod := by decide +kernel
set_option maxRecDepth 65536 in
theorem w_hears : about1.hears theMethod below0 = true := by decide +kernel
set_option maxRecDepth 65536 in
theorem w_ripe : about1.ripe theMethod args0 below0 = true := by decide +kernel
theorem w_running : about1.status = .running := rfl
set_option maxRecDepth 65536 in
theorem w_room : about1.hasRoom e0.platform room_1 = true :=
  launch0.hasRoom_least _ room_1 (by decide +kernel) (by decide +kernel) (by decide +kernel) (by decide +kernel) (by decide +kernel) (by decide +kernel)
theorem allAtoms_all (ts : List Jvm.Cond) (a : Array Jvm.Value) (st : Jvm.State) : (allAtoms ts).before a st = ts.all (fun c => c.before a st) := by
  induction ts with
  | nil => rfl
  | cons c t ih =>
    show (Jvm.Cond.and c (allAtoms t)).before a st = _
    rw [Jvm.Cond.before_and, ih, List.all_cons]
def words1 : List Jvm.Cond := Jvm.Cond.code x code maxLocals ret :: tables_1
/-- a 'code' word, met by the world's own term for the bytes: nothing is compared byte by byte -/
theorem code_word {y : MethodName} {bytes : ByteArray} {mx : Nat} {rt : Option FieldType} {a : Array Value} {s : State} {m : MethodId} {meth : Method} {c : Code} (h1 : s.methodNamed? y = some m) (h2 : s.vm.method? m = some meth) (h3 : meth.code = some c) (h4 : c.code = bytes)
    (h5 : (c.maxLocals == mx && c.exceptionTable.isEmpty && decide (c.maxStack ≤ mostOperands) && decide (meth.sig.returnType = rt) && !meth.locks && decide (parseMethodDescriptor y.desc = some meth.sig)) = true) : (Jvm.Cond.code y bytes mx rt).before a s = true := by
  simp only [Bool.and_eq_true, beq_iff_eq, Bool.not_eq_true', decide_eq_true_eq] at h5
  obtain ⟨⟨⟨⟨⟨g1, g2⟩, g3⟩, g4⟩, g5⟩, g6⟩ := h5
  simp [Cond.before, Cond.holds, Cond.value, h1, h2, h3, h4, g1, g2, g3, g4, g5, g6]
def isCode : Jvm.Cond → Bool
  | .code _ _ _ _ => true
  | _ => false
theorem all_split {L : List Jvm.Cond} {P : Jvm.Cond → Bool} (h1 : L.all (fun c => isCode c || P c) = true) (h2 : ∀ c ∈ L.filter isCode, P c = true) : L.all P = true := by
  refine List.all_eq_true.mpr fun c hc => ?_
  have h := List.all_eq_true.mp h1 c hc
  rcases Bool.eq_false_or_eq_true (isCode c) with hi | hi
  · exact h2 c (List.mem_filter.mpr ⟨hc, hi⟩)
  · simpa [hi] using h
set_option maxRecDepth 65536 in
theorem w_c0 : (Jvm.Cond.code x code maxLocals ret).before args0 about1 = true := code_word (m := ⟨1, 1⟩) (meth := k1m1) (c := k1c1) (by decide +kernel) rfl rfl rfl (by decide +kernel)
set_option maxRecDepth 65536 in
theorem w_c1 : (Jvm.Cond.code ({ cls := "com/example/carmenta/carmenta/Decoder$Source", name := "of", desc := "(Ljava/io/InputStream;)Lcom/example/carmenta/carmenta/Decoder$Source;" } : Jvm.MethodName) prog_11_method_2_code (1 : Nat) (Option.some (Jvm.ClassFile.FieldType.object "com/example/carmenta/carmenta/Decoder$Source"))).before args0 about1 = true := code_word (m := ⟨3, 1⟩) (meth := k3m1) (c := k3c1) (by decide +kernel) rfl rfl rfl (by decide +kernel)
set_option maxRecDepth 65536 in
theorem w_c2 : (Jvm.Cond.code ({ cls := "com/example/carmenta/carmenta/Decoder$Source", name := "of", desc := "(Ljava/io/InputStream;I)Lcom/example/carmenta/carmenta/Decoder$Source;" } : Jvm.MethodName) prog_11_method_3_code (2 : Nat) (Option.some (Jvm.ClassFile.FieldType.object "com/example/carmenta/carmenta/Decoder$Source"))).before args0 about1 = true := code_word (m := ⟨3, 2⟩) (meth := k3m2) (c := k3c2) (by decide +kernel) rfl rfl rfl (by decide +kernel)
set_option maxRecDepth 65536 in
theorem w_c3 : (Jvm.Cond.code ({ cls := "com/example/carmenta/carmenta/Decoder$Source", name := "<init>", desc := "(Ljava/io/InputStream;[BII)V" } : Jvm.MethodName) prog_11_method_1_code (5 : Nat) (Option.none : Option Jvm.ClassFile.FieldType)).before args0 about1 = true := code_word (m := ⟨3, 0⟩) (meth := k3m0) (c := k3c0) (by decide +kernel) rfl rfl rfl (by decide +kernel)
set_option maxRecDepth 65536 in
theorem w_c4 : (Jvm.Cond.code ({ cls := "java/lang/Record", name := "<init>", desc := "()V" } : Jvm.MethodName) jdk_30_method_1_code (1 : Nat) (Option.none : Option Jvm.ClassFile.FieldType)).before args0 about1 = true := code_word (m := ⟨2, 0⟩) (meth := k2m0) (c := k2c0) (by decide +kernel) rfl rfl rfl (by decide +kernel)
set_option maxRecDepth 65536 in
theorem w_c5 : (Jvm.Cond.code ({ cls := "java/lang/Object", name := "<init>", desc := "()V" } : Jvm.MethodName) object_method_1_code (1 : Nat) (Option.none : Option Jvm.ClassFile.FieldType)).before args0 about1 = true := code_word (m := ⟨0, 0⟩) (meth := k0m0) (c := k0c0) (by decide +kernel) rfl rfl rfl (by decide +kernel)
set_option maxRecDepth 65536 in
theorem w_c6 : (Jvm.Cond.code ({ cls := "com/example/carmenta/carmenta/Decoder$Source", name := "buffer", desc := "()[B" } : Jvm.MethodName) prog_11_method_10_code (1 : Nat) (Option.some (Jvm.ClassFile.FieldType.array Jvm.ClassFile.FieldType.byte))).before args0 about1 = true := code_word (m := ⟨3, 4⟩) (meth := k3m4) (c := k3c4) (by decide +kernel) rfl rfl rfl (by decide +kernel)
set_option maxRecDepth 65536 in
theorem w_c7 : (Jvm.Cond.code ({ cls := "com/example/carmenta/carmenta/Decoder$Source", name := "in", desc := "()Ljava/io/InputStream;" } : Jvm.MethodName) prog_11_method_9_code (1 : Nat) (Option.some (Jvm.ClassFile.FieldType.object "java/io/InputStream"))).before args0 about1 = true := code_word (m := ⟨3, 3⟩) (meth := k3m3) (c := k3c3) (by decide +kernel) rfl rfl rfl (by decide +kernel)
set_option maxRecDepth 65536 in
theorem w_c8 : (Jvm.Cond.code ({ cls := "com/example/carmenta/carmenta/Decoder$Source", name := "start", desc := "()I" } : Jvm.MethodName) prog_11_method_11_code (1 : Nat) (Option.some Jvm.ClassFile.FieldType.int)).before args0 about1 = true := code_word (m := ⟨3, 5⟩) (meth := k3m5) (c := k3c5) (by decide +kernel) rfl rfl rfl (by decide +kernel)
set_option maxRecDepth 65536 in
theorem w_c9 : (Jvm.Cond.code ({ cls := "com/example/carmenta/carmenta/Decoder$Source", name := "limit", desc := "()I" } : Jvm.MethodName) prog_11_method_12_code (1 : Nat) (Option.some Jvm.ClassFile.FieldType.int)).before args0 about1 = true := code_word (m := ⟨3, 6⟩) (meth := k3m6) (c := k3c6) (by decide +kernel) rfl rfl rfl (by decide +kernel)
def codes1 : List Jvm.Cond := [Jvm.Cond.code x code maxLocals ret, Jvm.Cond.code ({ cls := "com/example/carmenta/carmenta/Decoder$Source", name := "of", desc := "(Ljava/io/InputStream;)Lcom/example/carmenta/carmenta/Decoder$Source;" } : Jvm.MethodName) prog_11_method_2_code (1 : Nat) (Option.some (Jvm.ClassFile.FieldType.object "com/example/carmenta/carmenta/Decoder$Source")), Jvm.Cond.code ({ cls := "com/example/carmenta/carmenta/Decoder$Source", name := "of", desc := "(Ljava/io/InputStream;I)Lcom/example/carmenta/carmenta/Decoder$Source;" } : Jvm.MethodName) prog_11_method_3_code (2 : Nat) (Option.some (Jvm.ClassFile.FieldType.object "com/example/carmenta/carmenta/Decoder$Source")), Jvm.Cond.code ({ cls := "com/example/carmenta/carmenta/Decoder$Source", name := "<init>", desc := "(Ljava/io/InputStream;[BII)V" } : Jvm.MethodName) prog_11_method_1_code (5 : Nat) (Option.none : Option Jvm.ClassFile.FieldType), Jvm.Cond.code ({ cls := "java/lang/Record", name := "<init>", desc := "()V" } : Jvm.MethodName) jdk_30_method_1_code (1 : Nat) (Option.none : Option Jvm.ClassFile.FieldType), Jvm.Cond.code ({ cls := "java/lang/Object", name := "<init>", desc := "()V" } : Jvm.MethodName) object_method_1_code (1 : Nat) (Option.none : Option Jvm.ClassFile.FieldType), Jvm.Cond.code ({ cls := "com/example/carmenta/carmenta/Decoder$Source", name := "buffer", desc := "()[B" } : Jvm.MethodName) prog_11_method_10_code (1 : Nat) (Option.some (Jvm.ClassFile.FieldType.array Jvm.ClassFile.FieldType.byte)), Jvm.Cond.code ({ cls := "com/example/carmenta/carmenta/Decoder$Source", name := "in", desc := "()Ljava/io/InputStream;" } : Jvm.MethodName) prog_11_method_9_code (1 : Nat) (Option.some (Jvm.ClassFile.FieldType.object "java/io/InputStream")), Jvm.Cond.code ({ cls := "com/example/carmenta/carmenta/Decoder$Source", name := "start", desc := "()I" } : Jvm.MethodName) prog_11_method_11_code (1 : Nat) (Option.some Jvm.ClassFile.FieldType.int), Jvm.Cond.code ({ cls := "com/example/carmenta/carmenta/Decoder$Source", name := "limit", desc := "()I" } : Jvm.MethodName) prog_11_method_12_code (1 : Nat) (Option.some Jvm.ClassFile.FieldType.int)]
set_option maxRecDepth 65536 in
theorem codes_eq : words1.filter isCode = codes1 := rfl
theorem w_codes : ∀ c ∈ words1.filter isCode, c.before args0 about1 = true := by
  rw [codes_eq]
  intro c hc
  simp only [codes1, List.mem_cons, List.not_mem_nil, or_false] at hc
  rcases hc with rfl | rfl | rfl | rfl | rfl | rfl | rfl | rfl | rfl | rfl
  · exact w_c0
  · exact w_c1
  · exact w_c2
  · exact w_c3
  · exact w_c4
  · exact w_c5
  · exact w_c6
  · exact w_c7
  · exact w_c8
  · exact w_c9
set_option maxRecDepth 65536 in
theorem w_t1 : (words1.take 24).all (fun c => isCode c || c.before args0 about1) = true := by decide +kernel
set_option maxRecDepth 65536 in
theorem w_t2 : ((words1.drop 24).take 24).all (fun c => isCode c || c.before args0 about1) = true := by decide +kernel
set_option maxRecDepth 65536 in
theorem w_t3 : ((words1.drop 24).drop 24).all (fun c => isCode c || c.before args0 about1) = true := by decide +kernel
theorem w_tables : (allAtoms (Jvm.Cond.code x code maxLocals ret :: tables_1)).before args0 about1 = true := by
  rw [allAtoms_all]
  show words1.all (fun c => c.before args0 about1) = true
  refine all_split ?_ w_codes
  rw [← List.take_append_drop 24 words1, List.all_append, w_t1, ← List.take_append_drop 24 (words1.drop 24), List.all_append, w_t2, w_t3]
  rfl
set_option maxRecDepth 65536 in
theorem w_case : (Jvm.Cond.and given_1 narrow_1).before args0 about1 = true := by decide +kernel
theorem w_applies : (headSpec (Jvm.Cond.code x code maxLocals ret :: tables_1) room_1).applies x e0.platform about1 = true :=
  (Spec.applies_iff w_frames).mpr ⟨w_running, w_runnable, w_alone, w_named, w_hears, w_ripe, w_room, w_tables⟩
theorem atStart : AtStart classFile x code maxLocals ret World_1 tables_1 room_1 Calls_1 rest_1 Pre_1 launch0 p0 e0 about1 theMethod args0 below0 :=
  ⟨lists_1, trivial, launch0.admits_env _ _ _, launch0.least_env, fairChoices_fair.cas, fairChoices_fair.clock, w_frames, w_args, w_heap, w_applies, trivial, trivial, w_case⟩
end start1
theorem witness_1 : WitnessClaimed_1 := ⟨start1.p0, start1.e0, start1.about1, start1.theMethod, start1.args0, start1.below0, start1.atStart⟩
end Jvm.Pilot.@@N@@
