import JvmDerived
import JvmDerived.Pilot.@@N@@Statement
import JvmDerived.Pilot.@@N@@Code
set_option linter.unusedVariables false
set_option linter.unusedSimpArgs false
namespace Jvm.JW
open Sem ClassFile Op Lib Jvm.Stand Jvm.Free Jvm.LawKit Jvm.RoadKit
/-! The walk in continuation form: D holds of a machine state if the run from it ends as the contract says. -/
def Dn (p : Program) (e : Env) (below : List Frame) (s : State) (Q : Option Value → Heap → List Loc → Prop) (k n : Nat) (S : State) : Prop :=
  ∃ s₂ o, Steps p.tables e below S s₂ ∧ s₂.status = .running ∧ Ended s₂ below o ∧ ∃ v L, o = .returned v ∧ Q v s₂.heap L ∧ FrameEnd s o s₂ L k n
def Adv (p : Program) (e : Env) (below : List Frame) (D : State → Prop) : Prop :=
  ∀ {S S' : State}, (∀ {t : State}, Steps p.tables e below S' t → Steps p.tables e below S t) → D S' → D S
theorem Adv.dn {p : Program} {e : Env} {below : List Frame} {s : State} {Q : Option Value → Heap → List Loc → Prop} {k n : Nat} : Adv p e below (Dn p e below s Q k n) := by
  intro S S' h d
  obtain ⟨s2, o, h1, h2⟩ := d
  exact ⟨s2, o, h h1, h2⟩
theorem Adv.tr {p : Program} {e : Env} {below : List Frame} {D : State → Prop} (A : Adv p e below D) {S S' : State} (h : Steps p.tables e below S S') (d : D S') : D S := A (fun k => h.trans k) d
abbrev JMet (l : Launch) (Z : State) (y : MethodName) (bytes : ByteArray) (maxL : Nat) (ret : Option FieldType) (ws : List Cond) (rm : Room) (as' : Array Value) (h0 : Heap) (Q : Option Value → Heap → List Loc → Prop) : Prop :=
  MetFree l y (head1 (Cond.code y bytes maxL ret :: ws) rm) (fun a U => a = as' ∧ Z.Warmed39 U.vm ∧ U.heap = h0) (fun _ _ _ _ _ => True) (fun _ U o U' => ∃ v L, o = .returned v ∧ Q v U'.heap L ∧ FrameEnd U o U' L rm.cells rm.slots)
/-- a body that returns r and leaves the heap as it was -/
def QP (r : Value) (h0 : Heap) (n0 : Nat) (v : Option Value) (h : Heap) (L : List Loc) : Prop := v = some r ∧ Fr n0 L ∧ h = h0
/-- the law: it returns 1; nothing that stood at the start is written -/
def QL (n0 : Nat) (v : Option Value) (h : Heap) (L : List Loc) : Prop := v = some (.int 1) ∧ Fr n0 L
section Kit
variable {p : Program} {l : Launch} {e : Env} {R : Room} {s : State} {m : MethodId} {args : Array Value} {below : List Frame} {meth : Method} {c : Code} {T : State} {locs : List Loc} {cells slots : Nat} {Z : State} {a0 : Array Value} {h : Heap} {D : State → Prop}
theorem ret (X : Stand p l e R s m args below meth c T locs cells slots) (hlk : meth.locks = false) {Q : Option Value → Heap → List Loc → Prop} {k n : Nat} {S : State} {v : Option Value} (hv : meth.sig.returnType = none → v = none)
    (hst : ∀ fs, (∀ (f : JFrame) (acts : List Action), f.method = m → f.locked = none → f.entered = [] → (doReturn e (T.setTop f) acts v).1 = T.setFrames fs) → Steps p.tables e below S (T.setFrames fs))
    {hh : Heap} (eT : T.heap = hh) (hq : Q v hh locs) (hk : cells ≤ k) (hn : slots ≤ n) : Dn p e below s Q k n S := by
  subst eT
  obtain ⟨fs, hr, hrun, hended, hW, hsame⟩ := X.leave (v := v) hv hlk
  exact ⟨_, _, hst fs hr, hrun, hended, _, _, rfl, hq, ⟨_, rfl⟩, hW, hsame.mono hk hn⟩
theorem body {y : MethodName} {bytes : ByteArray} {maxL : Nat} {rt : Option FieldType} {ws : List Cond} {rm : Room} {as' : Array Value} {h0 : Heap} {Q : Option Value → Heap → List Loc → Prop} (Ls : Array Slot) (hpl : plainFor y = true) (hef : ∀ m, entryFrame m as' maxL = mkF m 0 Ls [])
    (bd : ∀ (p : Program) (e : Env) (s : State) (m : MethodId) (below : List Frame) (meth : Method) (c : Code) (T0 : State) (D : State → Prop), Adv p e below D → (∀ S, Dn p e below s Q rm.cells rm.slots S → D S) → Stand p l e rm s m as' below meth c T0 [] 0 0 → p.tables.exec = Jvm.exec → Z.Warmed39 s.vm → c.code = bytes → c.maxLocals = maxL → s.vm.findClass y.cls = some m.cls → meth.name = y.name → meth.sig.returnType = rt → meth.locks = false → T0.heap = h0 → D (T0.setTop (mkF m 0 Ls []))) :
    JMet l Z y bytes maxL rt ws rm as' h0 Q := by
  refine MetFree.of_bodySF hpl hisR ?_
  intro p e s m args below meth c s₁ Bd hml hP hK
  obtain ⟨rfl, hZ, hh⟩ := hP
  have q := bd p e s m below meth c s₁ (Dn p e below s Q rm.cells rm.slots) Adv.dn (fun _ d => d) (Stand.of_body Bd) Bd.exec hZ Bd.bytes hml (findClass_of_methodNamed Bd.named) (name_of_methodNamed Bd.named Bd.method).1 Bd.returns Bd.notSynchronized (by rw [← hh, Bd.state]; rfl)
  rw [← hef m] at q
  exact q
theorem Adv.callS (A : Adv p e below D) (X : Stand p l e R s m args below meth c T locs cells slots) (hx : p.tables.exec = Jvm.exec) (hZ : Z.Warmed39 s.vm) {own : String} {index : Nat} {y : MethodName} {bytes : ByteArray} {maxL : Nat} {rt : Option FieldType} {rm : Room} {as' : Array Value} {Q : Option Value → Heap → List Loc → Prop}
    (hown : s.vm.findClass own = some m.cls) (w1 : (Cond.methodLink own index y).before a0 Z = true) (w2 : (Cond.static y).before a0 Z = true) (w3 : (Cond.initialized y.cls).before a0 Z = true) (w4 : (Cond.code y bytes maxL rt).before a0 Z = true) (eT : T.heap = h)
    (hM : JMet l Z y bytes maxL rt [] rm as' h Q) (W : Nat) {g : JFrame} (hg : g.method = m) (hsz : g.locals.size = c.maxLocals) (argsL rest : List Value) (has : as' = argsL.toArray)
    (hlen : ∀ sig, parseMethodDescriptor y.desc = some sig → argsL.length = sig.parameters.length) (hstack : g.stack = argsL.reverse ++ rest) (hW : 2 * g.monitorRoom + (rest.map fun v => v.category).sum ≤ W)
    (hd : decode c.code g.pc = .ok (.invokestatic index, 3)) (hy : y.cls ≠ "java/lang/invoke/MethodHandle" ∧ y.cls ≠ "java/lang/invoke/VarHandle") (hf : rm.frames + 1 ≤ R.frames) (hl : W + (maxL + 11) + rm.locals ≤ R.locals) (hc : cells + rm.cells ≤ R.cells) (hs : slots + rm.slots ≤ R.slots)
    (k : ∀ (T' : State) (L' : List Loc) (v : Option Value), Stand p l e R s m args below meth c T' (locs ++ L') (cells + rm.cells) (slots + rm.slots) → Q v T'.heap L' → D (T'.setTop { g with pc := g.pc + 3, stack := v.toList ++ rest })) : D (T.setTop g) := by
  subst has
  obtain ⟨v, _, ⟨T', L, k', n'⟩, -, X', ⟨Lc, hQ, l', y', z'⟩, st⟩ := Jvm.LawKit.callS X hx (y := y) hown (mvT hZ w1) (mvT hZ w2) (mvT hZ w3) (mvT hZ w4) hy (backOf (W := W) hM hZ w4 w3 hf hl) (g := g) hg hsz (argsL := argsL) (rest := rest) hlen hstack hW hd (fun _ _ => ⟨rfl, eT, hc, hs⟩)
  dsimp only [Pt.U, Pt.locs, Pt.cells, Pt.slots] at X' l' y' z' st hQ
  subst l' y' z'
  exact A (fun q => st _ q) (k T' Lc v X' hQ)
theorem Adv.callI (A : Adv p e below D) (X : Stand p l e R s m args below meth c T locs cells slots) (hx : p.tables.exec = Jvm.exec) (hZ : Z.Warmed39 s.vm) {own : String} {index : Nat} {y : MethodName} {bytes : ByteArray} {maxL : Nat} {rm : Room} {as' : Array Value} {Q : Option Value → Heap → List Loc → Prop}
    (hown : s.vm.findClass own = some m.cls) (hi : y.name = "<init>") (w1 : (Cond.methodLink own index y).before a0 Z = true) (w2 : (Cond.instanceMethod y).before a0 Z = true) (w3 : (Cond.initialized y.cls).before a0 Z = true) (w4 : (Cond.code y bytes maxL none).before a0 Z = true) (eT : T.heap = h)
    (hM : JMet l Z y bytes maxL none [] rm as' h Q) (W : Nat) {g : JFrame} (hg : g.method = m) (hsz : g.locals.size = c.maxLocals) (a : Addr) (argsL rest : List Value) (has : as' = (.ref a :: argsL).toArray)
    (hlen : ∀ sig, parseMethodDescriptor y.desc = some sig → argsL.length = sig.parameters.length) (hstack : g.stack = argsL.reverse ++ .ref a :: rest) (hW : 2 * g.monitorRoom + (rest.map fun v => v.category).sum ≤ W)
    (hd : decode c.code g.pc = .ok (.invokespecial index, 3)) (hy : y.cls ≠ "java/lang/invoke/MethodHandle" ∧ y.cls ≠ "java/lang/invoke/VarHandle") (hf : rm.frames + 1 ≤ R.frames) (hl : W + (maxL + 11) + rm.locals ≤ R.locals) (hc : cells + rm.cells ≤ R.cells) (hs : slots + rm.slots ≤ R.slots)
    (k : ∀ (T' : State) (L' : List Loc) (v : Option Value), Stand p l e R s m args below meth c T' (locs ++ L') (cells + rm.cells) (slots + rm.slots) → Q v T'.heap L' → D (T'.setTop { g with pc := g.pc + 3, stack := v.toList ++ rest })) : D (T.setTop g) := by
  subst has
  obtain ⟨v, _, ⟨T', L, k', n'⟩, -, X', ⟨Lc, hQ, l', y', z'⟩, st⟩ := X.specialBack hx (y := y) hi hown (mvT hZ w1) (mvT hZ w2) (mvT hZ w4) hy (backOf (W := W) hM hZ w4 w3 hf hl) (g := g) hg hsz (Steps.refl _) (a := a) (argsL := argsL) (rest := rest) hlen hstack hW hd (fun _ _ => ⟨rfl, eT, hc, hs⟩)
  dsimp only [Pt.U, Pt.locs, Pt.cells, Pt.slots] at X' l' y' z' st hQ
  subst l' y' z'
  exact A.tr st (k T' Lc v X' hQ)
theorem Adv.callV (A : Adv p e below D) (X : Stand p l e R s m args below meth c T locs cells slots) (hx : p.tables.exec = Jvm.exec) (hZ : Z.Warmed39 s.vm) {own C : String} {index : Nat} {y z : MethodName} {bytes : ByteArray} {maxL : Nat} {rt : Option FieldType} {rm : Room} {as' : Array Value} {Q : Option Value → Heap → List Loc → Prop} {a : Addr}
    (hown : s.vm.findClass own = some m.cls) (w1 : (Cond.methodLink own index y).before a0 Z = true) (w2 : (Cond.declares y).before a0 Z = true) (nf : NotFace s y) (w5 : (Cond.selects C y z).before a0 Z = true) (w6 : (Cond.instanceMethod z).before a0 Z = true) (w3 : (Cond.initialized z.cls).before a0 Z = true) (w4 : (Cond.code z bytes maxL rt).before a0 Z = true) (eT : T.heap = h) (E : Exa Z h a C)
    (hM : JMet l Z z bytes maxL rt [] rm as' h Q) (W : Nat) {g : JFrame} (hg : g.method = m) (hsz : g.locals.size = c.maxLocals) (argsL rest : List Value) (has : as' = (.ref a :: argsL).toArray)
    (hlen : ∀ sig, parseMethodDescriptor y.desc = some sig → argsL.length = sig.parameters.length) (hstack : g.stack = argsL.reverse ++ .ref a :: rest) (hW : 2 * g.monitorRoom + (rest.map fun v => v.category).sum ≤ W)
    (hd : decode c.code g.pc = .ok (.invokevirtual index, 3)) (hy : y.cls ≠ "java/lang/invoke/MethodHandle" ∧ y.cls ≠ "java/lang/invoke/VarHandle") (hf : rm.frames + 1 ≤ R.frames) (hl : W + (maxL + 11) + rm.locals ≤ R.locals) (hc : cells + rm.cells ≤ R.cells) (hs : slots + rm.slots ≤ R.slots)
    (k : ∀ (T' : State) (L' : List Loc) (v : Option Value), Stand p l e R s m args below meth c T' (locs ++ L') (cells + rm.cells) (slots + rm.slots) → Q v T'.heap L' → D (T'.setTop { g with pc := g.pc + 3, stack := v.toList ++ rest })) : D (T.setTop g) := by
  subst has
  obtain ⟨cq, kq, qa, qb, qc⟩ := isOf hZ eT E
  obtain ⟨v, _, ⟨T', L, k', n'⟩, -, X', ⟨Lc, hQ, l', y', z'⟩, st⟩ := X.virtualBack hx (y := y) (z := z) hown (mvT hZ w1) (mvT hZ w2) nf (mvT hZ w5) (mvT hZ w6) hy (backOf (W := W) hM hZ w4 w3 hf hl) qa qc (g := g) hg hsz (Steps.refl _) (argsL := argsL) (rest := rest) hlen hstack hW hd (fun _ _ => ⟨rfl, eT, hc, hs⟩)
  dsimp only [Pt.U, Pt.locs, Pt.cells, Pt.slots] at X' l' y' z' st hQ
  subst l' y' z'
  exact A.tr st (k T' Lc v X' hQ)
theorem Adv.callU (A : Adv p e below D) (X : Stand p l e R s m args below meth c T locs cells slots) (hx : p.tables.exec = Jvm.exec) (hZ : Z.Warmed39 s.vm) {own C owner : String} {index : Nat} {y z : MethodName} {bytes : ByteArray} {maxL : Nat} {rt : Option FieldType} {rm : Room} {as' : Array Value} {Q : Option Value → Heap → List Loc → Prop} {a : Addr}
    (hown : s.vm.findClass own = some m.cls) (w1 : (Cond.methodLink own index y).before a0 Z = true) (w7 : (Cond.sameMethod y.cls owner y.name y.desc).before a0 Z = true) (w2 : (Cond.declares ⟨owner, y.name, y.desc⟩).before a0 Z = true) (w5 : (Cond.selects C y z).before a0 Z = true) (w6 : (Cond.instanceMethod z).before a0 Z = true) (w3 : (Cond.initialized z.cls).before a0 Z = true) (w4 : (Cond.code z bytes maxL rt).before a0 Z = true) (eT : T.heap = h) (E : Exa Z h a C)
    (hM : JMet l Z z bytes maxL rt [] rm as' h Q) (W : Nat) {g : JFrame} (hg : g.method = m) (hsz : g.locals.size = c.maxLocals) (argsL rest : List Value) (has : as' = (.ref a :: argsL).toArray)
    (hlen : ∀ sig, parseMethodDescriptor y.desc = some sig → argsL.length = sig.parameters.length) (hstack : g.stack = argsL.reverse ++ .ref a :: rest) (hW : 2 * g.monitorRoom + (rest.map fun v => v.category).sum ≤ W)
    (hd : decode c.code g.pc = .ok (.invokevirtual index, 3)) (hy : owner ≠ "java/lang/invoke/MethodHandle" ∧ owner ≠ "java/lang/invoke/VarHandle") (hf : rm.frames + 1 ≤ R.frames) (hl : W + (maxL + 11) + rm.locals ≤ R.locals) (hc : cells + rm.cells ≤ R.cells) (hs : slots + rm.slots ≤ R.slots)
    (k : ∀ (T' : State) (L' : List Loc) (v : Option Value), Stand p l e R s m args below meth c T' (locs ++ L') (cells + rm.cells) (slots + rm.slots) → Q v T'.heap L' → D (T'.setTop { g with pc := g.pc + 3, stack := v.toList ++ rest })) : D (T.setTop g) := by
  subst has
  obtain ⟨cq, kq, qa, qb, qc⟩ := isOf hZ eT E
  obtain ⟨v, _, ⟨T', L, k', n'⟩, -, X', ⟨Lc, hQ, l', y', z'⟩, st⟩ := X.virtualBackUp hx (x := y) (y := z) (owner := owner) hown (mvT hZ w1) (mvT hZ w7) (mvT hZ w2) hy (mvT hZ w5) (mvT hZ w6) (backOf (W := W) hM hZ w4 w3 hf hl) qa qc (g := g) hg hsz (Steps.refl _) (argsL := argsL) (rest := rest) hlen hstack hW hd (fun _ _ => ⟨rfl, eT, hc, hs⟩)
  dsimp only [Pt.U, Pt.locs, Pt.cells, Pt.slots] at X' l' y' z' st hQ
  subst l' y' z'
  exact A.tr st (k T' Lc v X' hQ)
theorem Adv.callP (A : Adv p e below D) (X : Stand p l e R s m args below meth c T locs cells slots) (hx : p.tables.exec = Jvm.exec) (hZ : Z.Warmed39 s.vm) {own C : String} {index kn : Nat} {y : MethodName} {bytes : ByteArray} {maxL : Nat} {rt : Option FieldType} {rm : Room} {as' : Array Value} {Q : Option Value → Heap → List Loc → Prop} {a : Addr}
    (hown : s.vm.findClass own = some m.cls) (w1 : (Cond.methodLink own index y).before a0 Z = true) (w2 : (Cond.instanceMethod y).before a0 Z = true) (wi : (Cond.instantiable y.cls kn).before a0 Z = true) (w5 : (Cond.privateMethod y).before a0 Z = true) (w3 : (Cond.initialized y.cls).before a0 Z = true) (w4 : (Cond.code y bytes maxL rt).before a0 Z = true) (eT : T.heap = h) (E : Exa Z h a C)
    (hM : JMet l Z y bytes maxL rt [] rm as' h Q) (W : Nat) {g : JFrame} (hg : g.method = m) (hsz : g.locals.size = c.maxLocals) (argsL rest : List Value) (has : as' = (.ref a :: argsL).toArray)
    (hlen : ∀ sig, parseMethodDescriptor y.desc = some sig → argsL.length = sig.parameters.length) (hstack : g.stack = argsL.reverse ++ .ref a :: rest) (hW : 2 * g.monitorRoom + (rest.map fun v => v.category).sum ≤ W)
    (hd : decode c.code g.pc = .ok (.invokevirtual index, 3)) (hy : y.cls ≠ "java/lang/invoke/MethodHandle" ∧ y.cls ≠ "java/lang/invoke/VarHandle") (hf : rm.frames + 1 ≤ R.frames) (hl : W + (maxL + 11) + rm.locals ≤ R.locals) (hc : cells + rm.cells ≤ R.cells) (hs : slots + rm.slots ≤ R.slots)
    (k : ∀ (T' : State) (L' : List Loc) (v : Option Value), Stand p l e R s m args below meth c T' (locs ++ L') (cells + rm.cells) (slots + rm.slots) → Q v T'.heap L' → D (T'.setTop { g with pc := g.pc + 3, stack := v.toList ++ rest })) : D (T.setTop g) := by
  subst has
  obtain ⟨ce, hce, hob⟩ := E.cell
  have hpriv : s.PrivateAt y := Cond.privateMethod_at (mvP hZ w5 (args := #[]))
  have hins : (Cond.instanceMethod y).before args s = true := mvT hZ w2
  have hwi : (Cond.instantiable y.cls kn).before args s = true := mvT hZ wi
  obtain ⟨ck, kk, c1, c2, -, c4, -⟩ := Cond.instantiable_spec hwi
  have hsel := selects_self_of_private c1 c2 (Bool.or_eq_false_iff.mp c4).1 hpriv hins hy
  obtain ⟨v, _, ⟨T', L, k', n'⟩, -, X', ⟨Lc, hQ, l', y', z'⟩, st⟩ := X.privateBack hx (y := y) hown (mvT hZ w1) hins hsel hpriv (mvT hZ w4) hy (backOf (W := W) hM hZ w4 w3 hf hl) (g := g) hg hsz (Steps.refl _) (a := a) (cell := ce) (by rw [eT]; exact hce) hob (argsL := argsL) (rest := rest) hlen hstack hW hd (fun _ _ => ⟨rfl, eT, hc, hs⟩)
  dsimp only [Pt.U, Pt.locs, Pt.cells, Pt.slots] at X' l' y' z' st hQ
  subst l' y' z'
  exact A.tr st (k T' Lc v X' hQ)
end Kit
/-! ### arrays by a function of the place -/
section Arrays
variable {p : Program} {l : Launch} {e : Env} {R : Room} {s : State} {m : MethodId} {args : Array Value} {below : List Frame} {meth : Method} {c : Code} {T : State} {locs : List Loc} {cells slots : Nat} {Z : State} {a0 : Array Value} {h h' : Heap} {D : State → Prop} {a b : Addr} {ty : FieldType} {n : Nat} {f : Nat → Int32} {fJ : Nat → Int64} {sl : Nat} {v : Value} {ws : List Addr}
def ArI (Z : State) (h : Heap) (a : Addr) (ty : FieldType) (n : Nat) (f : Nat → Int32) : Prop :=
  n < 2147483648 ∧ ∃ c : Cell, Arr Z h a c ty ∧ c.slots.size = n ∧ ∀ i, i < n → c.slots[i]? = some (.int (f i))
def ArJ (Z : State) (h : Heap) (a : Addr) (n : Nat) (f : Nat → Int64) : Prop :=
  n < 2147483648 ∧ ∃ c : Cell, Arr Z h a c .long ∧ c.slots.size = n ∧ ∀ i, i < n → c.slots[i]? = some (.long (f i))
theorem ArI.lt (F : ArI Z h a ty n f) : a < h.size := by obtain ⟨-, c, A, -⟩ := F; exact A.lt
theorem ArI.ext (F : ArI Z h a ty n f) (E : Ext h h') : ArI Z h' a ty n f := by obtain ⟨q, c, A, r⟩ := F; exact ⟨q, c, A.ext E, r⟩
theorem ArI.other (F : ArI Z h b ty n f) (W : Wr h h' a sl v) (q : b ≠ a) : ArI Z h' b ty n f := by obtain ⟨z, c, A, r⟩ := F; exact ⟨z, c, A.other W q, r⟩
theorem ArI.keep (F : ArI Z h a ty n f) (K : Keep h h' ws) (q : a ∉ ws) : ArI Z h' a ty n f := by obtain ⟨z, c, A, r⟩ := F; exact ⟨z, c, ⟨K.2.1 a c A.1 q, A.2⟩, r⟩
theorem ArI.eqf {g : Nat → Int32} (F : ArI Z h a ty n f) (q : ∀ i, i < n → f i = g i) : ArI Z h a ty n g := by
  obtain ⟨z, c, A, r, H⟩ := F; exact ⟨z, c, A, r, fun i hi => by rw [← q i hi]; exact H i hi⟩
theorem ArJ.lt (F : ArJ Z h a n fJ) : a < h.size := by obtain ⟨-, c, A, -⟩ := F; exact A.lt
theorem ArJ.ext (F : ArJ Z h a n fJ) (E : Ext h h') : ArJ Z h' a n fJ := by obtain ⟨q, c, A, r⟩ := F; exact ⟨q, c, A.ext E, r⟩
theorem ArJ.other (F : ArJ Z h b n fJ) (W : Wr h h' a sl v) (q : b ≠ a) : ArJ Z h' b n fJ := by obtain ⟨z, c, A, r⟩ := F; exact ⟨z, c, A.other W q, r⟩
theorem ArJ.keep (F : ArJ Z h a n fJ) (K : Keep h h' ws) (q : a ∉ ws) : ArJ Z h' a n fJ := by obtain ⟨z, c, A, r⟩ := F; exact ⟨z, c, ⟨K.2.1 a c A.1 q, A.2⟩, r⟩
theorem ArJ.eqf {g : Nat → Int64} (F : ArJ Z h a n fJ) (q : ∀ i, i < n → fJ i = g i) : ArJ Z h a n g := by
  obtain ⟨z, c, A, r, H⟩ := F; exact ⟨z, c, A, r, fun i hi => by rw [← q i hi]; exact H i hi⟩
theorem ne_ari {C : String} {k : Nat} (F : Exa Z h a C) (wi : (Cond.instantiable C k).before a0 Z = true) (G : ArI Z h b ty n f) : a ≠ b := by obtain ⟨-, c, A, -⟩ := G; exact ne_arr F wi A
theorem ne_arj {C : String} {k : Nat} (F : Exa Z h a C) (wi : (Cond.instantiable C k).before a0 Z = true) (G : ArJ Z h b n fJ) : a ≠ b := by obtain ⟨-, c, A, -⟩ := G; exact ne_arr F wi A
theorem ne_arr2 {c1 c2 : Cell} {t1 t2 : FieldType} (F : Arr Z h a c1 t1) (G : Arr Z h b c2 t2) (hn : t1 ≠ t2) : a ≠ b := fun q => by
  subst q
  cases F.1.symm.trans G.1
  obtain ⟨-, k1, j1, comp1, j2⟩ := F.2.1
  obtain ⟨-, k2, i1, comp2, i2⟩ := G.2.1
  cases j1.symm.trans i1
  rw [j2] at i2
  injection i2 with _ q2
  exact hn q2
theorem ne_aij {n' : Nat} (F : ArI Z h a ty n f) (G : ArJ Z h b n' fJ) (hn : ty ≠ .long) : a ≠ b := by obtain ⟨-, c, A, -⟩ := F; obtain ⟨-, c', A', -⟩ := G; exact ne_arr2 A A' hn
theorem to_nat {j : Int32} {k : Nat} (hk : j.toInt = k) : j.toNatClampNeg = k := by simp only [Int32.toNatClampNeg, hk, Int.toNat_natCast]
theorem inb {cl : Cell} {j : Int32} {k : Nat} (hk : j.toInt = k) (hkn : k < n) (hs : cl.slots.size = n) : ¬ (j < 0 ∨ cl.slots.size ≤ j.toNatClampNeg) := by
  rw [to_nat hk, hs, Int32.lt_iff_toInt_lt, hk, show (0 : Int32).toInt = 0 from rfl]; omega
theorem ixadd {x d : Int32} {k j : Nat} (hx : x.toInt = k) (hd : d.toInt = j) (h : k + j < 2147483648) : (x + d).toInt = ((k + j : Nat) : Int) := by
  have h2 := c_iadd x d
  have h3 := rng32 (x + d)
  omega
theorem ArI.mk {k : ClassId} {z : Int32} (A : Arr Z h a (newA k ty z) ty) (hn : z.toInt = n) (hd : defaultValue ty = .int 0) : ArI Z h a ty n (fun _ => 0) := by
  have hz := to_nat hn
  refine ⟨?_, _, A, by rw [sz_new, hz], fun i hi => ?_⟩
  · have := Int32.toInt_lt z; omega
  · simp [newA, hz, hi, hd]
theorem ArJ.mk {k : ClassId} {z : Int32} (A : Arr Z h a (newA k .long z) .long) (hn : z.toInt = n) : ArJ Z h a n (fun _ => 0) := by
  have hz := to_nat hn
  refine ⟨?_, _, A, by rw [sz_new, hz], fun i hi => ?_⟩
  · have := Int32.toInt_lt z; omega
  · simp [newA, hz, hi, defaultValue]
theorem set_at {cl : Cell} {i k : Nat} (hk : k < cl.slots.size) : (cl.setSlot k v).slots[i]? = if i = k then some v else cl.slots[i]? := by
  simp only [Cell.setSlot, Array.getElem?_setIfInBounds]
  by_cases q : i = k
  · subst q; simp [hk]
  · simp [q, Ne.symm q]
theorem ArI.set {x : Int32} {k : Nat} (F : ArI Z h a ty n f) (W : Wr h h' a k (.int x)) (hk : k < n) : ArI Z h' a ty n (fun i => if i = k then x else f i) := by
  obtain ⟨z, c, A, r, H⟩ := F
  refine ⟨z, _, A.same W, by rw [sz_set, r], fun i hi => ?_⟩
  rw [set_at (by omega)]
  by_cases q : i = k
  · simp [q]
  · simp [q, H i hi]
theorem ArJ.set {x : Int64} {k : Nat} (F : ArJ Z h a n fJ) (W : Wr h h' a k (.long x)) (hk : k < n) : ArJ Z h' a n (fun i => if i = k then x else fJ i) := by
  obtain ⟨z, c, A, r, H⟩ := F
  refine ⟨z, _, A.same W, by rw [sz_set, r], fun i hi => ?_⟩
  rw [set_at (by omega)]
  by_cases q : i = k
  · simp [q]
  · simp [q, H i hi]
theorem Adv.ldI (A : Adv p e below D) (X : Stand p l e R s m args below meth c T locs cells slots) (hx : p.tables.exec = Jvm.exec) (hZ : Z.Warmed39 s.vm) (eT : T.heap = h) (F : ArI Z h a .int n f) {j : Int32} {k : Nat} (hk : j.toInt = k) (hkn : k < n) {g : JFrame} (hg : g.method = m) {rest : List Value} (hs : g.stack = .int j :: .ref a :: rest) (hd : decode c.code g.pc = .ok (.iaload, 1))
    (kk : D (T.setTop { g with pc := g.pc + 1, stack := .int (f k) :: rest })) : D (T.setTop g) := by
  obtain ⟨-, cl, Ar, r, H⟩ := F
  exact A (X.iaload hx (j := j) (v := .int (f k)) (by rw [eT]; exact Ar.1) (State.isArrayOf_alike hZ.alike Ar.2.1) Ar.2.2 (inb hk hkn r) (by rw [to_nat hk]; exact H k hkn) (g := g) hg hs hd _) kk
theorem Adv.ldB (A : Adv p e below D) (X : Stand p l e R s m args below meth c T locs cells slots) (hx : p.tables.exec = Jvm.exec) (hZ : Z.Warmed39 s.vm) (eT : T.heap = h) (F : ArI Z h a .byte n f) {j : Int32} {k : Nat} (hk : j.toInt = k) (hkn : k < n) {g : JFrame} (hg : g.method = m) {rest : List Value} (hs : g.stack = .int j :: .ref a :: rest) (hd : decode c.code g.pc = .ok (.baload, 1))
    (kk : D (T.setTop { g with pc := g.pc + 1, stack := .int (f k) :: rest })) : D (T.setTop g) := by
  obtain ⟨-, cl, Ar, r, H⟩ := F
  exact A (X.baloadBytes hx (j := j) (v := .int (f k)) (by rw [eT]; exact Ar.1) (State.isArrayOf_alike hZ.alike Ar.2.1) Ar.2.2 (inb hk hkn r) (by rw [to_nat hk]; exact H k hkn) (g := g) hg hs hd _) kk
theorem Adv.ldJ (A : Adv p e below D) (X : Stand p l e R s m args below meth c T locs cells slots) (hx : p.tables.exec = Jvm.exec) (hZ : Z.Warmed39 s.vm) (eT : T.heap = h) (F : ArJ Z h a n fJ) {j : Int32} {k : Nat} (hk : j.toInt = k) (hkn : k < n) {g : JFrame} (hg : g.method = m) {rest : List Value} (hs : g.stack = .int j :: .ref a :: rest) (hd : decode c.code g.pc = .ok (.laload, 1))
    (kk : D (T.setTop { g with pc := g.pc + 1, stack := .long (fJ k) :: rest })) : D (T.setTop g) := by
  obtain ⟨-, cl, Ar, r, H⟩ := F
  exact A (X.laload hx (j := j) (v := .long (fJ k)) (by rw [eT]; exact Ar.1) (State.isArrayOf_alike hZ.alike Ar.2.1) Ar.2.2 (inb hk hkn r) (by rw [to_nat hk]; exact H k hkn) (g := g) hg hs hd _) kk
theorem len32 {cl : Cell} (z : n < 2147483648) (r : cl.slots.size = n) : cl.slots.size.toInt32 = Int32.ofNat n   := by rw [r]
theorem Adv.lenI (A : Adv p e below D) (X : Stand p l e R s m args below meth c T locs cells slots) (hx : p.tables.exec = Jvm.exec) (hZ : Z.Warmed39 s.vm) (eT : T.heap = h) (F : ArI Z h a ty n f) {g : JFrame} (hg : g.method = m) {rest : List Value} (hs : g.stack = .ref a :: rest) (hd : decode c.code g.pc = .ok (.arraylength, 1))
    (kk : D (T.setTop { g with pc := g.pc + 1, stack := .int (Int32.ofNat n) :: rest })) : D (T.setTop g) := by
  obtain ⟨z, cl, Ar, r, H⟩ := F
  rw [← len32 z r] at kk
  exact A (X.arraylength hx (by rw [eT]; exact Ar.1) (State.isArrayOf_alike hZ.alike Ar.2.1) (g := g) hg hs hd _) kk
theorem Adv.lenJ (A : Adv p e below D) (X : Stand p l e R s m args below meth c T locs cells slots) (hx : p.tables.exec = Jvm.exec) (hZ : Z.Warmed39 s.vm) (eT : T.heap = h) (F : ArJ Z h a n fJ) {g : JFrame} (hg : g.method = m) {rest : List Value} (hs : g.stack = .ref a :: rest) (hd : decode c.code g.pc = .ok (.arraylength, 1))
    (kk : D (T.setTop { g with pc := g.pc + 1, stack := .int (Int32.ofNat n) :: rest })) : D (T.setTop g) := by
  obtain ⟨z, cl, Ar, r, H⟩ := F
  rw [← len32 z r] at kk
  exact A (X.arraylength hx (by rw [eT]; exact Ar.1) (State.isArrayOf_alike hZ.alike Ar.2.1) (g := g) hg hs hd _) kk
theorem Adv.stI (A : Adv p e below D) (X : Stand p l e R s m args below meth c T locs cells slots) (hx : p.tables.exec = Jvm.exec) (hZ : Z.Warmed39 s.vm) (eT : T.heap = h) (F : ArI Z h a .int n f) {j x : Int32} {k : Nat} (hk : j.toInt = k) (hkn : k < n) {g : JFrame} (hg : g.method = m) {rest : List Value} (hs : g.stack = .int x :: .int j :: .ref a :: rest) (hd : decode c.code g.pc = .ok (.iastore, 1))
    (kk : ∀ T' h', Stand p l e R s m args below meth c T' (locs ++ [⟨a, k⟩]) cells slots → T'.heap = h' → Wr h h' a k (.int x) → ArI Z h' a .int n (fun i => if i = k then x else f i) → D (T'.setTop { g with pc := g.pc + 1, stack := rest })) : D (T.setTop g) := by
  obtain ⟨cl, Ar, r, H⟩ := F.2
  obtain ⟨T', h', X', e', W, st⟩ := Jvm.RoadKit.stI X hx hZ eT Ar (j := j) (x := x) (inb hk hkn r) hg hs hd
  rw [to_nat hk] at X' W
  exact A (fun q => st _ q) (kk T' h' X' e' W (F.set W hkn))
theorem Adv.stB (A : Adv p e below D) (X : Stand p l e R s m args below meth c T locs cells slots) (hx : p.tables.exec = Jvm.exec) (hZ : Z.Warmed39 s.vm) (eT : T.heap = h) (F : ArI Z h a .byte n f) {j x : Int32} {k : Nat} (hk : j.toInt = k) (hkn : k < n) {g : JFrame} (hg : g.method = m) {rest : List Value} (hs : g.stack = .int x :: .int j :: .ref a :: rest) (hd : decode c.code g.pc = .ok (.bastore, 1))
    (kk : ∀ T' h', Stand p l e R s m args below meth c T' (locs ++ [⟨a, k⟩]) cells slots → T'.heap = h' → Wr h h' a k (.int x.toInt8.toInt32) → ArI Z h' a .byte n (fun i => if i = k then x.toInt8.toInt32 else f i) → D (T'.setTop { g with pc := g.pc + 1, stack := rest })) : D (T.setTop g) := by
  obtain ⟨cl, Ar, r, H⟩ := F.2
  obtain ⟨T', h', X', e', W, st⟩ := Jvm.RoadKit.stB X hx hZ eT Ar (j := j) (x := x) (inb hk hkn r) hg hs hd
  rw [to_nat hk] at X' W
  exact A (fun q => st _ q) (kk T' h' X' e' W (F.set W hkn))
theorem Adv.stJ (A : Adv p e below D) (X : Stand p l e R s m args below meth c T locs cells slots) (hx : p.tables.exec = Jvm.exec) (hZ : Z.Warmed39 s.vm) (eT : T.heap = h) (F : ArJ Z h a n fJ) {j : Int32} {x : Int64} {k : Nat} (hk : j.toInt = k) (hkn : k < n) {g : JFrame} (hg : g.method = m) {rest : List Value} (hs : g.stack = .long x :: .int j :: .ref a :: rest) (hd : decode c.code g.pc = .ok (.lastore, 1))
    (kk : ∀ T' h', Stand p l e R s m args below meth c T' (locs ++ [⟨a, k⟩]) cells slots → T'.heap = h' → Wr h h' a k (.long x) → ArJ Z h' a n (fun i => if i = k then x else fJ i) → D (T'.setTop { g with pc := g.pc + 1, stack := rest })) : D (T.setTop g) := by
  obtain ⟨cl, Ar, r, H⟩ := F.2
  obtain ⟨T', h', X', e', W, st⟩ := Jvm.RoadKit.stJ X hx hZ eT Ar (j := j) (x := x) (inb hk hkn r) hg hs hd
  rw [to_nat hk] at X' W
  exact A (fun q => st _ q) (kk T' h' X' e' W (F.set W hkn))
theorem Adv.newI (A : Adv p e below D) (X : Stand p l e R s m args below meth c T locs cells slots) (hx : p.tables.exec = Jvm.exec) (hZ : Z.Warmed39 s.vm) {aty : ArrayType} (w : (Cond.arrayClass (newarray.typeOf aty)).before a0 Z = true) (eT : T.heap = h) {z : Int32} (hz : z.toInt = n) (cap : Nat) (hcap : n ≤ cap) (hb : cap * 8 ≤ 536870912) (hdv : defaultValue (newarray.typeOf aty) = .int 0) {ad : String} (had : "[" ++ (newarray.typeOf aty).toString = ad) (hc : cells + 1 ≤ R.cells) (hl : slots + cap ≤ R.slots) {g : JFrame} (hg : g.method = m) {rest : List Value} (hs : g.stack = .int z :: rest) (hd : decode c.code g.pc = .ok (.newarray aty, 2))
    (kk : ∀ T' h' a, a = h.size → Stand p l e R s m args below meth c T' locs (cells + 1) (slots + cap) → T'.heap = h' → Ext h h' → ArI Z h' a (newarray.typeOf aty) n (fun _ => 0) → Exa Z h' a ad → D (T'.setTop { g with pc := g.pc + 2, stack := .ref a :: rest })) : D (T.setTop g) := by
  have q0 : ¬ z < 0 := by rw [Int32.lt_iff_toInt_lt, hz, show (0 : Int32).toInt = 0 from rfl]; omega
  obtain ⟨T', h', k, X', e', E, Ar, Ex, st⟩ := newPE X hx hZ w eT hg hd hs q0 (cap := cap) (by rw [to_nat hz]; exact hcap) hb hc hl had
  exact A (fun q => st _ q) (kk T' h' _ rfl X' e' E (ArI.mk Ar hz hdv) Ex)
theorem Adv.newJ (A : Adv p e below D) (X : Stand p l e R s m args below meth c T locs cells slots) (hx : p.tables.exec = Jvm.exec) (hZ : Z.Warmed39 s.vm) (w : (Cond.arrayClass .long).before a0 Z = true) (eT : T.heap = h) {z : Int32} (hz : z.toInt = n) (cap : Nat) (hcap : n ≤ cap) (hb : cap * 8 ≤ 536870912) (hc : cells + 1 ≤ R.cells) (hl : slots + cap ≤ R.slots) {g : JFrame} (hg : g.method = m) {rest : List Value} (hs : g.stack = .int z :: rest) (hd : decode c.code g.pc = .ok (.newarray .long, 2))
    (kk : ∀ T' h' a, a = h.size → Stand p l e R s m args below meth c T' locs (cells + 1) (slots + cap) → T'.heap = h' → Ext h h' → ArJ Z h' a n (fun _ => 0) → D (T'.setTop { g with pc := g.pc + 2, stack := .ref a :: rest })) : D (T.setTop g) := by
  have q0 : ¬ z < 0 := by rw [Int32.lt_iff_toInt_lt, hz, show (0 : Int32).toInt = 0 from rfl]; omega
  obtain ⟨T', h', k, X', e', E, Ar, st⟩   := newP (aty := .long) X hx hZ w eT hg hd hs q0 (cap := cap) (by rw [to_nat hz]; exact hcap) hb hc hl
  exact A (fun q => st _ q) (kk T' h' _ rfl X' e' E (ArJ.mk Ar hz))
theorem Adv.cloneI (A : Adv p e below D) (X : Stand p l e R s m args below meth c T locs cells slots) (hx : p.tables.exec = Jvm.exec) (hZ : Z.Warmed39 s.vm) {own ad : String} {index : Nat} (hown : s.vm.findClass own = some m.cls)
    (w1 : (Cond.methodLink own index ⟨ad, "clone", "()Ljava/lang/Object;"⟩).before a0 Z = true) (w2 : (Cond.sameMethod ad "java/lang/Object" "clone" "()Ljava/lang/Object;").before a0 Z = true) (w3 : (Cond.native ⟨"java/lang/Object", "clone", "()Ljava/lang/Object;"⟩).before a0 Z = true)
    (w4 : (Cond.instanceMethod ⟨"java/lang/Object", "clone", "()Ljava/lang/Object;"⟩).before a0 Z = true) (w5 : (Cond.selects ad ⟨ad, "clone", "()Ljava/lang/Object;"⟩ ⟨"java/lang/Object", "clone", "()Ljava/lang/Object;"⟩).before a0 Z = true) (w6 : (Cond.castable ad "java/lang/Cloneable").before a0 Z = true)
    (eT : T.heap = h) (F : ArI Z h a ty n f) (hfit : ∀ i, i < n → fits ty (.int (f i)) = true) (E : Exa Z h a ad) (W cap : Nat) (hcap : n ≤ cap) {g : JFrame} (hg : g.method = m) (hsz : g.locals.size = c.maxLocals) {rest : List Value} (hs : g.stack = .ref a :: rest) (hd : decode c.code g.pc = .ok (.invokevirtual index, 3))
    (hW : 2 * g.monitorRoom + (rest.map fun v => v.category).sum ≤ W) (hf : 1 ≤ R.frames) (hl : W + 14 ≤ R.locals) (hc : cells + 1 ≤ R.cells) (hsl : slots + cap ≤ R.slots)
    (kk : ∀ T' h' b, b = h.size → Stand p l e R s m args below meth c T' locs (cells + 1) (slots + cap) → T'.heap = h' → Ext h h' → ArI Z h' b ty n f → Exa Z h' b ad → D (T'.setTop { g with pc := g.pc + 3, stack := .ref b :: rest })) : D (T.setTop g) := by
  obtain ⟨z, cl, Ar, r, H⟩ := F
  have FC : FitC Z cl := fitC_of Ar fun i hi v hv => by rw [H i (by omega)] at hv; cases hv; exact hfit i (by omega)
  obtain ⟨T', h', X', e', Ex, Ar', E', st⟩ := cloneA X hx hZ hown w1 w2 w3 w4 w5 w6 eT Ar E FC hg hsz hs hd hf hW hl (by rw [r]; exact hcap) hc hsl
  exact A (fun q => st _ q) (kk T' h' _ rfl X' e' Ex ⟨z, _, Ar', r, H⟩ E')
end Arrays
end Jvm.JW
namespace Jvm.Pilot.@@N@@
open Jvm Jvm.ClassFile Sem Op Lib Jvm.Free Jvm.Stand Jvm.LawKit Jvm.RoadKit Bundle Jvm.JW Jvm.Pilot.@@N@@.Jvm.D
theorem d5_0 : decode jdk_33_method_47_code 0 = .ok (.iload_n 0, 1) := by decide +kernel
theorem d5_1 : decode jdk_33_method_47_code 1 = .ok (.ifCond .gt 14, 3) := by decide +kernel
theorem d5_4 : decode jdk_33_method_47_code 4 = .ok (.iload_n 0, 1) := by decide +kernel
theorem d5_5 : decode jdk_33_method_47_code 5 = .ok (.ifCond .ne 8, 3) := by decide +kernel
theorem d5_8 : decode jdk_33_method_47_code 8 = .ok (.bipush 32, 2) := by decide +kernel
theorem d5_10 : decode jdk_33_method_47_code 10 = .ok (.goto 4, 3) := by decide +kernel
theorem d5_13 : decode jdk_33_method_47_code 13 = .ok (.iconst 0, 1) := by decide +kernel
theorem d5_14 : decode jdk_33_method_47_code 14 = .ok (.ireturn, 1) := by decide +kernel
theorem d5_15 : decode jdk_33_method_47_code 15 = .ok (.bipush 31, 2) := by decide +kernel
theorem d5_17 : decode jdk_33_method_47_code 17 = .ok (.istore_n 1, 1) := by decide +kernel
theorem d5_18 : decode jdk_33_method_47_code 18 = .ok (.iload_n 0, 1) := by decide +kernel
theorem d5_19 : decode jdk_33_method_47_code 19 = .ok (.ldc_w 264, 3) := by decide +kernel
theorem d5_22 : decode jdk_33_method_47_code 22 = .ok (.if_icmp .lt 11, 3) := by decide +kernel
theorem d5_25 : decode jdk_33_method_47_code 25 = .ok (.iinc 1 (-16), 3) := by decide +kernel
theorem d5_28 : decode jdk_33_method_47_code 28 = .ok (.iload_n 0, 1) := by decide +kernel
theorem d5_29 : decode jdk_33_method_47_code 29 = .ok (.bipush 16, 2) := by decide +kernel
theorem d5_31 : decode jdk_33_method_47_code 31 = .ok (.iushr, 1) := by decide +kernel
theorem d5_32 : decode jdk_33_method_47_code 32 = .ok (.istore_n 0, 1) := by decide +kernel
theorem d5_33 : decode jdk_33_method_47_code 33 = .ok (.iload_n 0, 1) := by decide +kernel
theorem d5_34 : decode jdk_33_method_47_code 34 = .ok (.sipush 256, 3) := by decide +kernel
theorem d5_37 : decode jdk_33_method_47_code 37 = .ok (.if_icmp .lt 11, 3) := by decide +kernel
theorem d5_40 : decode jdk_33_method_47_code 40 = .ok (.iinc 1 (-8), 3) := by decide +kernel
theorem d5_43 : decode jdk_33_method_47_code 43 = .ok (.iload_n 0, 1) := by decide +kernel
theorem d5_44 : decode jdk_33_method_47_code 44 = .ok (.bipush 8, 2) := by decide +kernel
theorem d5_46 : decode jdk_33_method_47_code 46 = .ok (.iushr, 1) := by decide +kernel
theorem d5_47 : decode jdk_33_method_47_code 47 = .ok (.istore_n 0, 1) := by decide +kernel
theorem d5_48 : decode jdk_33_method_47_code 48 = .ok (.iload_n 0, 1) := by decide +kernel
theorem d5_49 : decode jdk_33_method_47_code 49 = .ok (.bipush 16, 2) := by decide +kernel
theorem d5_51 : decode jdk_33_method_47_code 51 = .ok (.if_icmp .lt 10, 3) := by decide +kernel
theorem d5_54 : decode jdk_33_method_47_code 54 = .ok (.iinc 1 (-4), 3) := by decide +kernel
theorem d5_57 : decode jdk_33_method_47_code 57 = .ok (.iload_n 0, 1) := by decide +kernel
theorem d5_58 : decode jdk_33_method_47_code 58 = .ok (.iconst 4, 1) := by decide +kernel
theorem d5_59 : decode jdk_33_method_47_code 59 = .ok (.iushr, 1) := by decide +kernel
theorem d5_60 : decode jdk_33_method_47_code 60 = .ok (.istore_n 0, 1) := by decide +kernel
theorem d5_61 : decode jdk_33_method_47_code 61 = .ok (.iload_n 0, 1) := by decide +kernel
theorem d5_62 : decode jdk_33_method_47_code 62 = .ok (.iconst 4, 1) := by decide +kernel
theorem d5_63 : decode jdk_33_method_47_code 63 = .ok (.if_icmp .lt 10, 3) := by decide +kernel
theorem d5_66 : decode jdk_33_method_47_code 66 = .ok (.iinc 1 (-2), 3) := by decide +kernel
theorem d5_69 : decode jdk_33_method_47_code 69 = .ok (.iload_n 0, 1) := by decide +kernel
theorem d5_70 : decode jdk_33_method_47_code 70 = .ok (.iconst 2, 1) := by decide +kernel
theorem d5_71 : decode jdk_33_method_47_code 71 = .ok (.iushr, 1) := by decide +kernel
theorem d5_72 : decode jdk_33_method_47_code 72 = .ok (.istore_n 0, 1) := by decide +kernel
theorem d5_73 : decode jdk_33_method_47_code 73 = .ok (.iload_n 1, 1) := by decide +kernel
theorem d5_74 : decode jdk_33_method_47_code 74 = .ok (.iload_n 0, 1) := by decide +kernel
theorem d5_75 : decode jdk_33_method_47_code 75 = .ok (.iconst 1, 1) := by decide +kernel
theorem d5_76 : decode jdk_33_method_47_code 76 = .ok (.iushr, 1) := by decide +kernel
theorem d5_77 : decode jdk_33_method_47_code 77 = .ok (.isub, 1) := by decide +kernel
theorem d5_78 : decode jdk_33_method_47_code 78 = .ok (.ireturn, 1) := by decide +kernel
theorem pn5 : plainFor (⟨"java/lang/Integer", "numberOfLeadingZeros", "(I)I"⟩ : MethodName) = true := by decide +kernel
theorem ef5 (p1 : Int32) (m : MethodId) : entryFrame m #[(.int p1)] 2 = mkF m 0 #[.val (.int p1), .unset] [] := by first | (simp [entryFrame, mkF, argsToLocals, Value.category]; done) | rfl
def f5 (p1 : Int32) : Int32 := if (0 : Int32) < p1 then (let v33_0 := (if p1 < (65536 : Int32) then p1 else ((p1.toUInt32 >>> ((16 : Int32) &&& 31).toUInt32).toInt32)); let v33_1 := (if p1 < (65536 : Int32) then (31 : Int32) else (15 : Int32)); let v48_0 := (if v33_0 < (256 : Int32) then v33_0 else ((v33_0.toUInt32 >>> ((8 : Int32) &&& 31).toUInt32).toInt32)); let v48_1 := (if v33_0 < (256 : Int32) then v33_1 else (v33_1 + (-8 : Int32))); let v61_0 := (if v48_0 < (16 : Int32) then v48_0 else ((v48_0.toUInt32 >>> ((4 : Int32) &&& 31).toUInt32).toInt32)); let v61_1 := (if v48_0 < (16 : Int32) then v48_1 else (v48_1 + (-4 : Int32))); let v73_0 := (if v61_0 < (4 : Int32) then v61_0 else ((v61_0.toUInt32 >>> ((2 : Int32) &&& 31).toUInt32).toInt32)); let v73_1 := (if v61_0 < (4 : Int32) then v61_1 else (v61_1 + (-2 : Int32))); (v73_1 - ((v73_0.toUInt32 >>> ((1 : Int32) &&& 31).toUInt32).toInt32))) else (if p1 = (0 : Int32) then ((32 : Int32)) else ((0 : Int32)))
set_option maxRecDepth 65536 in
set_option maxHeartbeats 40000000 in
theorem rm5 (l : Launch) (Z : State) (a0 : Array Value) (hw : ∀ d ∈ tables_1, d.before a0 Z = true) (ws : List Jvm.Cond) (p1 : Int32) (h0 : Heap) (n0 : Nat) :
    JMet l Z (⟨"java/lang/Integer", "numberOfLeadingZeros", "(I)I"⟩ : MethodName) jdk_33_method_47_code 2 (some .int) ws ({ frames := 0, cells := 0, slots := 0, locals := 0 } : Room) #[(.int p1)] h0 (QP (.int (f5 p1)) h0 n0) := by
  refine Jvm.JW.body #[.val (.int p1), .unset] pn5 (ef5 p1) ?_
  intro p e s m below meth c T0 D A F X0 hx hZ hby hml hown hnm hrt hlk e0
  refine A (XS.iloadN X0.here hx rfl (hb hby d5_0) rfl) ?_
  show D (T0.setTop (mkF m 1 #[.val (.int p1), .unset] [(.int p1)]))
  by_cases c1_1 : (0 : Int32) < p1
  · refine A (XS.ifYes X0.here hx rfl (pc0 := 1) (pc' := 15) rfl (hb hby d5_1) rfl ((if0 _ _).trans (tlt c1_1).2.2.1) (by decide) (by decide)) ?_
    show D (T0.setTop (mkF m 15 #[.val (.int p1), .unset] []))
    refine A (XS.bipush X0.here hx rfl (hb hby d5_15)) ?_
    show D (T0.setTop (mkF m 17 #[.val (.int p1), .unset] [(.int (31 : Int32))]))
    refine A (XS.istoreN X0.here hx rfl (hb hby d5_17) rfl (l' := #[.val (.int p1), .val (.int (31 : Int32))]) rfl) ?_
    show D (T0.setTop (mkF m 18 #[.val (.int p1), .val (.int (31 : Int32))] []))
    refine A (XS.iloadN X0.here hx rfl (hb hby d5_18) rfl) ?_
    show D (T0.setTop (mkF m 19 #[.val (.int p1), .val (.int (31 : Int32))] [(.int p1)]))
    refine A (X0.ldcwInt hx hown (mvT hZ (hw _ (List.mem_of_getElem? (i := 21) rfl))) (g := (mkF m 19 #[.val (.int p1), .val (.int (31 : Int32))] [(.int p1)])) rfl (hb hby d5_19) _) ?_
    show D (T0.setTop (mkF m 22 #[.val (.int p1), .val (.int (31 : Int32))] [(.int (65536 : Int32)), (.int p1)]))
    suffices Km33_2 : ∀ (v33_0 : Int32) (v33_1 : Int32), v33_0 = (if p1 < (65536 : Int32) then p1 else ((p1.toUInt32 >>> ((16 : Int32) &&& 31).toUInt32).toInt32)) → v33_1 = (if p1 < (65536 : Int32) then (31 : Int32) else (15 : Int32)) → D (T0.setTop (mkF m 33 #[.val (.int v33_0), .val (.int v33_1)] [])) by
      by_cases c22_1 : p1 < (65536 : Int32)
      · refine A (XS.icmpYes X0.here hx rfl (pc0 := 22) (pc' := 33) rfl (hb hby d5_22) rfl (tlt c22_1).1 (by decide) (by decide)) ?_
        show D (T0.setTop (mkF m 33 #[.val (.int p1), .val (.int (31 : Int32))] []))
        exact Km33_2 _ _ ((if_pos c22_1)).symm ((if_pos c22_1)).symm
      · refine A (XS.icmpNo X0.here hx rfl (hb hby d5_22) rfl (flt c22_1).1) ?_
        show D (T0.setTop (mkF m 25 #[.val (.int p1), .val (.int (31 : Int32))] []))
        refine A (XS.iinc X0.here hx rfl (hb hby d5_25) rfl (l' := #[.val (.int p1), .val (.int ((31 : Int32) + (-16 : Int32)))]) rfl) ?_
        show D (T0.setTop (mkF m 28 #[.val (.int p1), .val (.int ((31 : Int32) + (-16 : Int32)))] []))
        suffices Kq3 : ∀ q3 : Int32, q3 = (15 : Int32) → D (T0.setTop (mkF m 28 #[.val (.int p1), .val (.int q3)] [])) from Kq3 _ (by decide)
        rintro _ rfl
        show D (T0.setTop (mkF m 28 #[.val (.int p1), .val (.int (15 : Int32))] []))
        refine A (XS.iloadN X0.here hx rfl (hb hby d5_28) rfl) ?_
        show D (T0.setTop (mkF m 29 #[.val (.int p1), .val (.int (15 : Int32))] [(.int p1)]))
        refine A (XS.bipush X0.here hx rfl (hb hby d5_29)) ?_
        show D (T0.setTop (mkF m 31 #[.val (.int p1), .val (.int (15 : Int32))] [(.int (16 : Int32)), (.int p1)]))
        refine A (XS.iushr X0.here hx rfl (hb hby d5_31) rfl) ?_
        show D (T0.setTop (mkF m 32 #[.val (.int p1), .val (.int (15 : Int32))] [(.int ((p1.toUInt32 >>> ((16 : Int32) &&& 31).toUInt32).toInt32))]))
        refine A (XS.istoreN X0.here hx rfl (hb hby d5_32) rfl (l' := #[.val (.int ((p1.toUInt32 >>> ((16 : Int32) &&& 31).toUInt32).toInt32)), .val (.int (15 : Int32))]) rfl) ?_
        show D (T0.setTop (mkF m 33 #[.val (.int ((p1.toUInt32 >>> ((16 : Int32) &&& 31).toUInt32).toInt32)), .val (.int (15 : Int32))] []))
        exact Km33_2 _ _ ((if_neg c22_1)).symm ((if_neg c22_1)).symm
    intro v33_0 v33_1 hv33_0 hv33_1
    show D (T0.setTop (mkF m 33 #[.val (.int v33_0), .val (.int v33_1)] []))
    refine A (XS.iloadN X0.here hx rfl (hb hby d5_33) rfl) ?_
    show D (T0.setTop (mkF m 34 #[.val (.int v33_0), .val (.int v33_1)] [(.int v33_0)]))
    refine A (XS.sipush X0.here hx rfl (hb hby d5_34)) ?_
    show D (T0.setTop (mkF m 37 #[.val (.int v33_0), .val (.int v33_1)] [(.int (256 : Int32)), (.int v33_0)]))
    suffices Km48_4 : ∀ (v48_0 : Int32) (v48_1 : Int32), v48_0 = (if v33_0 < (256 : Int32) then v33_0 else ((v33_0.toUInt32 >>> ((8 : Int32) &&& 31).toUInt32).toInt32)) → v48_1 = (if v33_0 < (256 : Int32) then v33_1 else (v33_1 + (-8 : Int32))) → D (T0.setTop (mkF m 48 #[.val (.int v48_0), .val (.int v48_1)] [])) by
      by_cases c37_1 : v33_0 < (256 : Int32)
      · refine A (XS.icmpYes X0.here hx rfl (pc0 := 37) (pc' := 48) rfl (hb hby d5_37) rfl (tlt c37_1).1 (by decide) (by decide)) ?_
        show D (T0.setTop (mkF m 48 #[.val (.int v33_0), .val (.int v33_1)] []))
        exact Km48_4 _ _ ((if_pos c37_1)).symm ((if_pos c37_1)).symm
      · refine A (XS.icmpNo X0.here hx rfl (hb hby d5_37) rfl (flt c37_1).1) ?_
        show D (T0.setTop (mkF m 40 #[.val (.int v33_0), .val (.int v33_1)] []))
        refine A (XS.iinc X0.here hx rfl (hb hby d5_40) rfl (l' := #[.val (.int v33_0), .val (.int (v33_1 + (-8 : Int32)))]) rfl) ?_
        show D (T0.setTop (mkF m 43 #[.val (.int v33_0), .val (.int (v33_1 + (-8 : Int32)))] []))
        refine A (XS.iloadN X0.here hx rfl (hb hby d5_43) rfl) ?_
        show D (T0.setTop (mkF m 44 #[.val (.int v33_0), .val (.int (v33_1 + (-8 : Int32)))] [(.int v33_0)]))
        refine A (XS.bipush X0.here hx rfl (hb hby d5_44)) ?_
        show D (T0.setTop (mkF m 46 #[.val (.int v33_0), .val (.int (v33_1 + (-8 : Int32)))] [(.int (8 : Int32)), (.int v33_0)]))
        refine A (XS.iushr X0.here hx rfl (hb hby d5_46) rfl) ?_
        show D (T0.setTop (mkF m 47 #[.val (.int v33_0), .val (.int (v33_1 + (-8 : Int32)))] [(.int ((v33_0.toUInt32 >>> ((8 : Int32) &&& 31).toUInt32).toInt32))]))
        refine A (XS.istoreN X0.here hx rfl (hb hby d5_47) rfl (l' := #[.val (.int ((v33_0.toUInt32 >>> ((8 : Int32) &&& 31).toUInt32).toInt32)), .val (.int (v33_1 + (-8 : Int32)))]) rfl) ?_
        show D (T0.setTop (mkF m 48 #[.val (.int ((v33_0.toUInt32 >>> ((8 : Int32) &&& 31).toUInt32).toInt32)), .val (.int (v33_1 + (-8 : Int32)))] []))
        exact Km48_4 _ _ ((if_neg c37_1)).symm ((if_neg c37_1)).symm
    intro v48_0 v48_1 hv48_0 hv48_1
    show D (T0.setTop (mkF m 48 #[.val (.int v48_0), .val (.int v48_1)] []))
    refine A (XS.iloadN X0.here hx rfl (hb hby d5_48) rfl) ?_
    show D (T0.setTop (mkF m 49 #[.val (.int v48_0), .val (.int v48_1)] [(.int v48_0)]))
    refine A (XS.bipush X0.here hx rfl (hb hby d5_49)) ?_
    show D (T0.setTop (mkF m 51 #[.val (.int v48_0), .val (.int v48_1)] [(.int (16 : Int32)), (.int v48_0)]))
    suffices Km61_5 : ∀ (v61_0 : Int32) (v61_1 : Int32), v61_0 = (if v48_0 < (16 : Int32) then v48_0 else ((v48_0.toUInt32 >>> ((4 : Int32) &&& 31).toUInt32).toInt32)) → v61_1 = (if v48_0 < (16 : Int32) then v48_1 else (v48_1 + (-4 : Int32))) → D (T0.setTop (mkF m 61 #[.val (.int v61_0), .val (.int v61_1)] [])) by
      by_cases c51_1 : v48_0 < (16 : Int32)
      · refine A (XS.icmpYes X0.here hx rfl (pc0 := 51) (pc' := 61) rfl (hb hby d5_51) rfl (tlt c51_1).1 (by decide) (by decide)) ?_
        show D (T0.setTop (mkF m 61 #[.val (.int v48_0), .val (.int v48_1)] []))
        exact Km61_5 _ _ ((if_pos c51_1)).symm ((if_pos c51_1)).symm
      · refine A (XS.icmpNo X0.here hx rfl (hb hby d5_51) rfl (flt c51_1).1) ?_
        show D (T0.setTop (mkF m 54 #[.val (.int v48_0), .val (.int v48_1)] []))
        refine A (XS.iinc X0.here hx rfl (hb hby d5_54) rfl (l' := #[.val (.int v48_0), .val (.int (v48_1 + (-4 : Int32)))]) rfl) ?_
        show D (T0.setTop (mkF m 57 #[.val (.int v48_0), .val (.int (v48_1 + (-4 : Int32)))] []))
        refine A (XS.iloadN X0.here hx rfl (hb hby d5_57) rfl) ?_
        show D (T0.setTop (mkF m 58 #[.val (.int v48_0), .val (.int (v48_1 + (-4 : Int32)))] [(.int v48_0)]))
        refine A (XS.iconst X0.here hx rfl (hb hby d5_58)) ?_
        show D (T0.setTop (mkF m 59 #[.val (.int v48_0), .val (.int (v48_1 + (-4 : Int32)))] [(.int (4 : Int32)), (.int v48_0)]))
        refine A (XS.iushr X0.here hx rfl (hb hby d5_59) rfl) ?_
        show D (T0.setTop (mkF m 60 #[.val (.int v48_0), .val (.int (v48_1 + (-4 : Int32)))] [(.int ((v48_0.toUInt32 >>> ((4 : Int32) &&& 31).toUInt32).toInt32))]))
        refine A (XS.istoreN X0.here hx rfl (hb hby d5_60) rfl (l' := #[.val (.int ((v48_0.toUInt32 >>> ((4 : Int32) &&& 31).toUInt32).toInt32)), .val (.int (v48_1 + (-4 : Int32)))]) rfl) ?_
        show D (T0.setTop (mkF m 61 #[.val (.int ((v48_0.toUInt32 >>> ((4 : Int32) &&& 31).toUInt32).toInt32)), .val (.int (v48_1 + (-4 : Int32)))] []))
        exact Km61_5 _ _ ((if_neg c51_1)).symm ((if_neg c51_1)).symm
    intro v61_0 v61_1 hv61_0 hv61_1
    show D (T0.setTop (mkF m 61 #[.val (.int v61_0), .val (.int v61_1)] []))
    refine A (XS.iloadN X0.here hx rfl (hb hby d5_61) rfl) ?_
    show D (T0.setTop (mkF m 62 #[.val (.int v61_0), .val (.int v61_1)] [(.int v61_0)]))
    refine A (XS.iconst X0.here hx rfl (hb hby d5_62)) ?_
    show D (T0.setTop (mkF m 63 #[.val (.int v61_0), .val (.int v61_1)] [(.int (4 : Int32)), (.int v61_0)]))
    suffices Km73_6 : ∀ (v73_0 : Int32) (v73_1 : Int32), v73_0 = (if v61_0 < (4 : Int32) then v61_0 else ((v61_0.toUInt32 >>> ((2 : Int32) &&& 31).toUInt32).toInt32)) → v73_1 = (if v61_0 < (4 : Int32) then v61_1 else (v61_1 + (-2 : Int32))) → D (T0.setTop (mkF m 73 #[.val (.int v73_0), .val (.int v73_1)] [])) by
      by_cases c63_1 : v61_0 < (4 : Int32)
      · refine A (XS.icmpYes X0.here hx rfl (pc0 := 63) (pc' := 73) rfl (hb hby d5_63) rfl (tlt c63_1).1 (by decide) (by decide)) ?_
        show D (T0.setTop (mkF m 73 #[.val (.int v61_0), .val (.int v61_1)] []))
        exact Km73_6 _ _ ((if_pos c63_1)).symm ((if_pos c63_1)).symm
      · refine A (XS.icmpNo X0.here hx rfl (hb hby d5_63) rfl (flt c63_1).1) ?_
        show D (T0.setTop (mkF m 66 #[.val (.int v61_0), .val (.int v61_1)] []))
        refine A (XS.iinc X0.here hx rfl (hb hby d5_66) rfl (l' := #[.val (.int v61_0), .val (.int (v61_1 + (-2 : Int32)))]) rfl) ?_
        show D (T0.setTop (mkF m 69 #[.val (.int v61_0), .val (.int (v61_1 + (-2 : Int32)))] []))
        refine A (XS.iloadN X0.here hx rfl (hb hby d5_69) rfl) ?_
        show D (T0.setTop (mkF m 70 #[.val (.int v61_0), .val (.int (v61_1 + (-2 : Int32)))] [(.int v61_0)]))
        refine A (XS.iconst X0.here hx rfl (hb hby d5_70)) ?_
        show D (T0.setTop (mkF m 71 #[.val (.int v61_0), .val (.int (v61_1 + (-2 : Int32)))] [(.int (2 : Int32)), (.int v61_0)]))
        refine A (XS.iushr X0.here hx rfl (hb hby d5_71) rfl) ?_
        show D (T0.setTop (mkF m 72 #[.val (.int v61_0), .val (.int (v61_1 + (-2 : Int32)))] [(.int ((v61_0.toUInt32 >>> ((2 : Int32) &&& 31).toUInt32).toInt32))]))
        refine A (XS.istoreN X0.here hx rfl (hb hby d5_72) rfl (l' := #[.val (.int ((v61_0.toUInt32 >>> ((2 : Int32) &&& 31).toUInt32).toInt32)), .val (.int (v61_1 + (-2 : Int32)))]) rfl) ?_
        show D (T0.setTop (mkF m 73 #[.val (.int ((v61_0.toUInt32 >>> ((2 : Int32) &&& 31).toUInt32).toInt32)), .val (.int (v61_1 + (-2 : Int32)))] []))
        exact Km73_6 _ _ ((if_neg c63_1)).symm ((if_neg c63_1)).symm
    intro v73_0 v73_1 hv73_0 hv73_1
    show D (T0.setTop (mkF m 73 #[.val (.int v73_0), .val (.int v73_1)] []))
    refine A (XS.iloadN X0.here hx rfl (hb hby d5_73) rfl) ?_
    show D (T0.setTop (mkF m 74 #[.val (.int v73_0), .val (.int v73_1)] [(.int v73_1)]))
    refine A (XS.iloadN X0.here hx rfl (hb hby d5_74) rfl) ?_
    show D (T0.setTop (mkF m 75 #[.val (.int v73_0), .val (.int v73_1)] [(.int v73_0), (.int v73_1)]))
    refine A (XS.iconst X0.here hx rfl (hb hby d5_75)) ?_
    show D (T0.setTop (mkF m 76 #[.val (.int v73_0), .val (.int v73_1)] [(.int (1 : Int32)), (.int v73_0), (.int v73_1)]))
    refine A (XS.iushr X0.here hx rfl (hb hby d5_76) rfl) ?_
    show D (T0.setTop (mkF m 77 #[.val (.int v73_0), .val (.int v73_1)] [(.int ((v73_0.toUInt32 >>> ((1 : Int32) &&& 31).toUInt32).toInt32)), (.int v73_1)]))
    refine A (XS.isub X0.here hx rfl (hb hby d5_77) rfl) ?_
    show D (T0.setTop (mkF m 78 #[.val (.int v73_0), .val (.int v73_1)] [(.int (v73_1 - ((v73_0.toUInt32 >>> ((1 : Int32) &&& 31).toUInt32).toInt32)))]))
    refine F _ (Jvm.JW.ret X0 hlk (v := some (.int (v73_1 - ((v73_0.toUInt32 >>> ((1 : Int32) &&& 31).toUInt32).toInt32)))) (fun h => by rw [hrt] at h; cases h) (fun fs hr => retOut X0 hx hrt rfl (Or.inl ⟨rfl, Or.inl rfl, _, rfl⟩) (hb hby d5_78) hr) rfl ?_ (by decide) (by decide))
    exact ⟨congrArg (fun z => some (Value.int z)) (by subst hv73_1; subst hv73_0; subst hv61_1; subst hv61_0; subst hv48_1; subst hv48_0; subst hv33_1; subst hv33_0; exact (if_pos c1_1).symm), (Fr.nil n0), e0⟩
  · refine A (XS.ifNo X0.here hx rfl (hb hby d5_1) rfl ((if0 _ _).trans (flt c1_1).2.2.1)) ?_
    show D (T0.setTop (mkF m 4 #[.val (.int p1), .unset] []))
    refine A (XS.iloadN X0.here hx rfl (hb hby d5_4) rfl) ?_
    show D (T0.setTop (mkF m 5 #[.val (.int p1), .unset] [(.int p1)]))
    by_cases c5_7 : p1 = (0 : Int32)
    · refine A (XS.ifNo X0.here hx rfl (hb hby d5_5) rfl ((if0 _ _).trans (teq c5_7).2)) ?_
      show D (T0.setTop (mkF m 8 #[.val (.int p1), .unset] []))
      refine A (XS.bipush X0.here hx rfl (hb hby d5_8)) ?_
      show D (T0.setTop (mkF m 10 #[.val (.int p1), .unset] [(.int (32 : Int32))]))
      refine A (XS.goto X0.here hx rfl (pc0 := 10) (pc' := 14) rfl (hb hby d5_10) (by decide) (by decide)) ?_
      show D (T0.setTop (mkF m 14 #[.val (.int p1), .unset] [(.int (32 : Int32))]))
      refine F _ (Jvm.JW.ret X0 hlk (v := some (.int (32 : Int32))) (fun h => by rw [hrt] at h; cases h) (fun fs hr => retOut X0 hx hrt rfl (Or.inl ⟨rfl, Or.inl rfl, _, rfl⟩) (hb hby d5_14) hr) rfl ?_ (by decide) (by decide))
      exact ⟨congrArg (fun z => some (Value.int z)) (by exact ((if_neg c1_1).trans (if_pos c5_7)).symm), (Fr.nil n0), e0⟩
    · refine A (XS.ifYes X0.here hx rfl (pc0 := 5) (pc' := 13) rfl (hb hby d5_5) rfl ((if0 _ _).trans (feq c5_7).2) (by decide) (by decide)) ?_
      show D (T0.setTop (mkF m 13 #[.val (.int p1), .unset] []))
      refine A (XS.iconst X0.here hx rfl (hb hby d5_13)) ?_
      show D (T0.setTop (mkF m 14 #[.val (.int p1), .unset] [(.int (0 : Int32))]))
      refine F _ (Jvm.JW.ret X0 hlk (v := some (.int (0 : Int32))) (fun h => by rw [hrt] at h; cases h) (fun fs hr => retOut X0 hx hrt rfl (Or.inl ⟨rfl, Or.inl rfl, _, rfl⟩) (hb hby d5_14) hr) rfl ?_ (by decide) (by decide))
      exact ⟨congrArg (fun z => some (Value.int z)) (by exact ((if_neg c1_1).trans (if_neg c5_7)).symm), (Fr.nil n0), e0⟩
theorem d4_0 : decode jdk_35_method_48_code 0 = .ok (.lload_n 0, 1) := by decide +kernel
theorem d4_1 : decode jdk_35_method_48_code 1 = .ok (.bipush 32, 2) := by decide +kernel
theorem d4_3 : decode jdk_35_method_48_code 3 = .ok (.lushr, 1) := by decide +kernel
theorem d4_4 : decode jdk_35_method_48_code 4 = .ok (.l2i, 1) := by decide +kernel
theorem d4_5 : decode jdk_35_method_48_code 5 = .ok (.istore_n 2, 1) := by decide +kernel
theorem d4_6 : decode jdk_35_method_48_code 6 = .ok (.iload_n 2, 1) := by decide +kernel
theorem d4_7 : decode jdk_35_method_48_code 7 = .ok (.ifCond .ne 14, 3) := by decide +kernel
theorem d4_10 : decode jdk_35_method_48_code 10 = .ok (.bipush 32, 2) := by decide +kernel
theorem d4_12 : decode jdk_35_method_48_code 12 = .ok (.lload_n 0, 1) := by decide +kernel
theorem d4_13 : decode jdk_35_method_48_code 13 = .ok (.l2i, 1) := by decide +kernel
theorem d4_14 : decode jdk_35_method_48_code 14 = .ok (.invokestatic 308, 3) := by decide +kernel
theorem d4_17 : decode jdk_35_method_48_code 17 = .ok (.iadd, 1) := by decide +kernel
theorem d4_18 : decode jdk_35_method_48_code 18 = .ok (.goto 7, 3) := by decide +kernel
theorem d4_21 : decode jdk_35_method_48_code 21 = .ok (.iload_n 2, 1) := by decide +kernel
theorem d4_22 : decode jdk_35_method_48_code 22 = .ok (.invokestatic 308, 3) := by decide +kernel
theorem d4_25 : decode jdk_35_method_48_code 25 = .ok (.ireturn, 1) := by decide +kernel
theorem pn4 : plainFor (⟨"java/lang/Long", "numberOfLeadingZeros", "(J)I"⟩ : MethodName) = true := by decide +kernel
theorem pd4_0 : parseMethodDescriptor "(I)I" = some ⟨[.int], some .int⟩ := by decide +kernel
theorem ef4 (p1 : Int64) (m : MethodId) : entryFrame m #[(.long p1)] 3 = mkF m 0 #[.val (.long p1), .second, .unset] [] := by first | (simp [entryFrame, mkF, argsToLocals, Value.category]; done) | rfl
def f4 (p1 : Int64) : Int32 := let x2_6 := (((p1.toUInt64 >>> ((32 : Int32) &&& 0x3f).toInt64.toUInt64).toInt64).toInt32); if x2_6 = (0 : Int32) then (((32 : Int32) + (f5 (p1.toInt32)))) else ((f5 x2_6))
set_option maxRecDepth 65536 in
set_option maxHeartbeats 40000000 in
theorem rm4 (l : Launch) (Z : State) (a0 : Array Value) (hw : ∀ d ∈ tables_1, d.before a0 Z = true) (ws : List Jvm.Cond) (p1 : Int64) (h0 : Heap) (n0 : Nat) :
    JMet l Z (⟨"java/lang/Long", "numberOfLeadingZeros", "(J)I"⟩ : MethodName) jdk_35_method_48_code 3 (some .int) ws ({ frames := 1, cells := 0, slots := 0, locals := 14 } : Room) #[(.long p1)] h0 (QP (.int (f4 p1)) h0 n0) := by
  refine Jvm.JW.body #[.val (.long p1), .second, .unset] pn4 (ef4 p1) ?_
  intro p e s m below meth c T0 D A F X0 hx hZ hby hml hown hnm hrt hlk e0
  refine A (XS.lloadN X0.here hx rfl (hb hby d4_0) rfl) ?_
  show D (T0.setTop (mkF m 1 #[.val (.long p1), .second, .unset] [(.long p1)]))
  refine A (XS.bipush X0.here hx rfl (hb hby d4_1)) ?_
  show D (T0.setTop (mkF m 3 #[.val (.long p1), .second, .unset] [(.int (32 : Int32)), (.long p1)]))
  refine A (XS.lushr X0.here hx rfl (hb hby d4_3) rfl) ?_
  show D (T0.setTop (mkF m 4 #[.val (.long p1), .second, .unset] [(.long ((p1.toUInt64 >>> ((32 : Int32) &&& 0x3f).toInt64.toUInt64).toInt64))]))
  refine A (XS.l2i X0.here hx rfl (hb hby d4_4) rfl) ?_
  show D (T0.setTop (mkF m 5 #[.val (.long p1), .second, .unset] [(.int (((p1.toUInt64 >>> ((32 : Int32) &&& 0x3f).toInt64.toUInt64).toInt64).toInt32))]))
  refine A (XS.istoreN X0.here hx rfl (hb hby d4_5) rfl (l' := #[.val (.long p1), .second, .val (.int (((p1.toUInt64 >>> ((32 : Int32) &&& 0x3f).toInt64.toUInt64).toInt64).toInt32))]) rfl) ?_
  show D (T0.setTop (mkF m 6 #[.val (.long p1), .second, .val (.int (((p1.toUInt64 >>> ((32 : Int32) &&& 0x3f).toInt64.toUInt64).toInt64).toInt32))] []))
  suffices Kx2_6 : ∀ x2_6 : Int32, x2_6 = (((p1.toUInt64 >>> ((32 : Int32) &&& 0x3f).toInt64.toUInt64).toInt64).toInt32) → D (T0.setTop (mkF m 6 #[.val (.long p1), .second, .val (.int x2_6)] [])) from Kx2_6 _ rfl
  intro x2_6 hx2_6
  refine A (XS.iloadN X0.here hx rfl (hb hby d4_6) rfl) ?_
  show D (T0.setTop (mkF m 7 #[.val (.long p1), .second, .val (.int x2_6)] [(.int x2_6)]))
  by_cases c7_1 : x2_6 = (0 : Int32)
  · refine A (XS.ifNo X0.here hx rfl (hb hby d4_7) rfl ((if0 _ _).trans (teq c7_1).2)) ?_
    show D (T0.setTop (mkF m 10 #[.val (.long p1), .second, .val (.int x2_6)] []))
    refine A (XS.bipush X0.here hx rfl (hb hby d4_10)) ?_
    show D (T0.setTop (mkF m 12 #[.val (.long p1), .second, .val (.int x2_6)] [(.int (32 : Int32))]))
    refine A (XS.lloadN X0.here hx rfl (hb hby d4_12) rfl) ?_
    show D (T0.setTop (mkF m 13 #[.val (.long p1), .second, .val (.int x2_6)] [(.long p1), (.int (32 : Int32))]))
    refine A (XS.l2i X0.here hx rfl (hb hby d4_13) rfl) ?_
    show D (T0.setTop (mkF m 14 #[.val (.long p1), .second, .val (.int x2_6)] [(.int (p1.toInt32)), (.int (32 : Int32))]))
    refine Adv.callS A X0 hx hZ hown (hw _ (List.mem_of_getElem? (i := 17) rfl)) (hw _ (List.mem_of_getElem? (i := 18) rfl)) (hw _ (List.mem_of_getElem? (i := 19) rfl)) (hw _ (List.mem_of_getElem? (i := 20) rfl)) e0 (rm5 l Z a0 hw [] (p1.toInt32) h0 n0) 1 (g := (mkF m 14 #[.val (.long p1), .second, .val (.int x2_6)] [(.int (p1.toInt32)), (.int (32 : Int32))])) rfl (by rw [hml]; rfl) [(.int (p1.toInt32))] [(.int (32 : Int32))] rfl (lenOf pd4_0 rfl) rfl (by show 2 * 0 + _ ≤ _; exact Nat.le_of_eq rfl) (hb hby d4_14) (by decide) (by decide) (by decide) (by decide) (by decide) ?_
    rintro T2 L2 _ X2 ⟨rfl, N2q, e2⟩
    have N2 := Fr.app (Fr.nil n0) N2q
    show D (T2.setTop (mkF m 17 #[.val (.long p1), .second, .val (.int x2_6)] [(.int (f5 (p1.toInt32))), (.int (32 : Int32))]))
    refine A (XS.iadd X2.here hx rfl (hb hby d4_17) rfl) ?_
    show D (T2.setTop (mkF m 18 #[.val (.long p1), .second, .val (.int x2_6)] [(.int ((32 : Int32) + (f5 (p1.toInt32))))]))
    refine A (XS.goto X2.here hx rfl (pc0 := 18) (pc' := 25) rfl (hb hby d4_18) (by decide) (by decide)) ?_
    show D (T2.setTop (mkF m 25 #[.val (.long p1), .second, .val (.int x2_6)] [(.int ((32 : Int32) + (f5 (p1.toInt32))))]))
    refine F _ (Jvm.JW.ret X2 hlk (v := some (.int ((32 : Int32) + (f5 (p1.toInt32))))) (fun h => by rw [hrt] at h; cases h) (fun fs hr => retOut X2 hx hrt rfl (Or.inl ⟨rfl, Or.inl rfl, _, rfl⟩) (hb hby d4_25) hr) rfl ?_ (by decide) (by decide))
    exact ⟨congrArg (fun z => some (Value.int z)) (by subst hx2_6; exact (if_pos c7_1).symm), N2, e2⟩
  · refine A (XS.ifYes X0.here hx rfl (pc0 := 7) (pc' := 21) rfl (hb hby d4_7) rfl ((if0 _ _).trans (feq c7_1).2) (by decide) (by decide)) ?_
    show D (T0.setTop (mkF m 21 #[.val (.long p1), .second, .val (.int x2_6)] []))
    refine A (XS.iloadN X0.here hx rfl (hb hby d4_21) rfl) ?_
    show D (T0.setTop (mkF m 22 #[.val (.long p1), .second, .val (.int x2_6)] [(.int x2_6)]))
    refine Adv.callS A X0 hx hZ hown (hw _ (List.mem_of_getElem? (i := 17) rfl)) (hw _ (List.mem_of_getElem? (i := 18) rfl)) (hw _ (List.mem_of_getElem? (i := 19) rfl)) (hw _ (List.mem_of_getElem? (i := 20) rfl)) e0 (rm5 l Z a0 hw [] x2_6 h0 n0) 0 (g := (mkF m 22 #[.val (.long p1), .second, .val (.int x2_6)] [(.int x2_6)])) rfl (by rw [hml]; rfl) [(.int x2_6)] [] rfl (lenOf pd4_0 rfl) rfl (by show 2 * 0 + _ ≤ _; exact Nat.le_of_eq rfl) (hb hby d4_22) (by decide) (by decide) (by decide) (by decide) (by decide) ?_
    rintro T3 L3 _ X3 ⟨rfl, N3q, e3⟩
    have N3 := Fr.app (Fr.nil n0) N3q
    show D (T3.setTop (mkF m 25 #[.val (.long p1), .second, .val (.int x2_6)] [(.int (f5 x2_6))]))
    refine F _ (Jvm.JW.ret X3 hlk (v := some (.int (f5 x2_6))) (fun h => by rw [hrt] at h; cases h) (fun fs hr => retOut X3 hx hrt rfl (Or.inl ⟨rfl, Or.inl rfl, _, rfl⟩) (hb hby d4_25) hr) rfl ?_ (by decide) (by decide))
    exact ⟨congrArg (fun z => some (Value.int z)) (by subst hx2_6; exact (if_neg c7_1).symm), N3, e3⟩
theorem d3_0 : decode prog_28_method_6_code 0 = .ok (.bipush 64, 2) := by decide +kernel
theorem d3_2 : decode prog_28_method_6_code 2 = .ok (.lload_n 0, 1) := by decide +kernel
theorem d3_3 : decode prog_28_method_6_code 3 = .ok (.invokestatic 21, 3) := by decide +kernel
theorem d3_6 : decode prog_28_method_6_code 6 = .ok (.isub, 1) := by decide +kernel
theorem d3_7 : decode prog_28_method_6_code 7 = .ok (.bipush 7, 2) := by decide +kernel
theorem d3_9 : decode prog_28_method_6_code 9 = .ok (.iadd, 1) := by decide +kernel
theorem d3_10 : decode prog_28_method_6_code 10 = .ok (.bipush 8, 2) := by decide +kernel
theorem d3_12 : decode prog_28_method_6_code 12 = .ok (.idiv, 1) := by decide +kernel
theorem d3_13 : decode prog_28_method_6_code 13 = .ok (.ireturn, 1) := by decide +kernel
theorem pn3 : plainFor (⟨"com/example/wireproof/wireproof/codec/rlp/Prefix", "lengthOfLength", "(J)I"⟩ : MethodName) = true := by decide +kernel
theorem pd3_0 : parseMethodDescriptor "(J)I" = some ⟨[.long], some .int⟩ := by decide +kernel
theorem ef3 (p1 : Int64) (m : MethodId) : entryFrame m #[(.long p1)] 2 = mkF m 0 #[.val (.long p1), .second] [] := by first | (simp [entryFrame, mkF, argsToLocals, Value.category]; done) | rfl
def f3 (p1 : Int64) : Int32 := ((((64 : Int32) - (f4 p1)) + (7 : Int32)) / (8 : Int32))
set_option maxRecDepth 65536 in
set_option maxHeartbeats 40000000 in
theorem rm3 (l : Launch) (Z : State) (a0 : Array Value) (hw : ∀ d ∈ tables_1, d.before a0 Z = true) (ws : List Jvm.Cond) (p1 : Int64) (h0 : Heap) (n0 : Nat) :
    JMet l Z (⟨"com/example/wireproof/wireproof/codec/rlp/Prefix", "lengthOfLength", "(J)I"⟩ : MethodName) prog_28_method_6_code 2 (some .int) ws ({ frames := 2, cells := 0, slots := 0, locals := 29 } : Room) #[(.long p1)] h0 (QP (.int (f3 p1)) h0 n0) := by
  refine Jvm.JW.body #[.val (.long p1), .second] pn3 (ef3 p1) ?_
  intro p e s m below meth c T0 D A F X0 hx hZ hby hml hown hnm hrt hlk e0
  refine A (XS.bipush X0.here hx rfl (hb hby d3_0)) ?_
  show D (T0.setTop (mkF m 2 #[.val (.long p1), .second] [(.int (64 : Int32))]))
  refine A (XS.lloadN X0.here hx rfl (hb hby d3_2) rfl) ?_
  show D (T0.setTop (mkF m 3 #[.val (.long p1), .second] [(.long p1), (.int (64 : Int32))]))
  refine Adv.callS A X0 hx hZ hown (hw _ (List.mem_of_getElem? (i := 13) rfl)) (hw _ (List.mem_of_getElem? (i := 14) rfl)) (hw _ (List.mem_of_getElem? (i := 15) rfl)) (hw _ (List.mem_of_getElem? (i := 16) rfl)) e0 (rm4 l Z a0 hw [] p1 h0 n0) 1 (g := (mkF m 3 #[.val (.long p1), .second] [(.long p1), (.int (64 : Int32))])) rfl (by rw [hml]; rfl) [(.long p1)] [(.int (64 : Int32))] rfl (lenOf pd3_0 rfl) rfl (by show 2 * 0 + _ ≤ _; exact Nat.le_of_eq rfl) (hb hby d3_3) (by decide) (by decide) (by decide) (by decide) (by decide) ?_
  rintro T1 L1 _ X1 ⟨rfl, N1q, e1⟩
  have N1 := Fr.app (Fr.nil n0) N1q
  show D (T1.setTop (mkF m 6 #[.val (.long p1), .second] [(.int (f4 p1)), (.int (64 : Int32))]))
  refine A (XS.isub X1.here hx rfl (hb hby d3_6) rfl) ?_
  show D (T1.setTop (mkF m 7 #[.val (.long p1), .second] [(.int ((64 : Int32) - (f4 p1)))]))
  refine A (XS.bipush X1.here hx rfl (hb hby d3_7)) ?_
  show D (T1.setTop (mkF m 9 #[.val (.long p1), .second] [(.int (7 : Int32)), (.int ((64 : Int32) - (f4 p1)))]))
  refine A (XS.iadd X1.here hx rfl (hb hby d3_9) rfl) ?_
  show D (T1.setTop (mkF m 10 #[.val (.long p1), .second] [(.int (((64 : Int32) - (f4 p1)) + (7 : Int32)))]))
  refine A (XS.bipush X1.here hx rfl (hb hby d3_10)) ?_
  show D (T1.setTop (mkF m 12 #[.val (.long p1), .second] [(.int (8 : Int32)), (.int (((64 : Int32) - (f4 p1)) + (7 : Int32)))]))
  refine A (XS.idiv X1.here hx rfl (hb hby d3_12) rfl (by decide)) ?_
  show D (T1.setTop (mkF m 13 #[.val (.long p1), .second] [(.int ((((64 : Int32) - (f4 p1)) + (7 : Int32)) / (8 : Int32)))]))
  refine F _ (Jvm.JW.ret X1 hlk (v := some (.int ((((64 : Int32) - (f4 p1)) + (7 : Int32)) / (8 : Int32)))) (fun h => by rw [hrt] at h; cases h) (fun fs hr => retOut X1 hx hrt rfl (Or.inl ⟨rfl, Or.inl rfl, _, rfl⟩) (hb hby d3_13) hr) rfl ?_ (by decide) (by decide))
  exact ⟨congrArg (fun z => some (Value.int z)) (by rfl), N1, e1⟩
theorem d2_0 : decode prog_28_method_3_code 0 = .ok (.iload_n 0, 1) := by decide +kernel
theorem d2_1 : decode prog_28_method_3_code 1 = .ok (.sipush 128, 3) := by decide +kernel
theorem d2_4 : decode prog_28_method_3_code 4 = .ok (.if_icmp .ge 7, 3) := by decide +kernel
theorem d2_7 : decode prog_28_method_3_code 7 = .ok (.iconst 1, 1) := by decide +kernel
theorem d2_8 : decode prog_28_method_3_code 8 = .ok (.goto 4, 3) := by decide +kernel
theorem d2_11 : decode prog_28_method_3_code 11 = .ok (.iconst 0, 1) := by decide +kernel
theorem d2_12 : decode prog_28_method_3_code 12 = .ok (.ireturn, 1) := by decide +kernel
theorem pn2 : plainFor (⟨"com/example/wireproof/wireproof/codec/rlp/Prefix", "isOwnEncoding", "(I)Z"⟩ : MethodName) = true := by decide +kernel
theorem ef2 (p1 : Int32) (m : MethodId) : entryFrame m #[(.int p1)] 1 = mkF m 0 #[.val (.int p1)] [] := by first | (simp [entryFrame, mkF, argsToLocals, Value.category]; done) | rfl
def f2 (p1 : Int32) : Int32 := if p1 < (128 : Int32) then ((1 : Int32)) else ((0 : Int32))
set_option maxRecDepth 65536 in
set_option maxHeartbeats 40000000 in
theorem rm2 (l : Launch) (Z : State) (a0 : Array Value) (hw : ∀ d ∈ tables_1, d.before a0 Z = true) (ws : List Jvm.Cond) (p1 : Int32) (h0 : Heap) (n0 : Nat) :
    JMet l Z (⟨"com/example/wireproof/wireproof/codec/rlp/Prefix", "isOwnEncoding", "(I)Z"⟩ : MethodName) prog_28_method_3_code 1 (some .boolean) ws ({ frames := 0, cells := 0, slots := 0, locals := 0 } : Room) #[(.int p1)] h0 (QP (.int (f2 p1)) h0 n0) := by
  refine Jvm.JW.body #[.val (.int p1)] pn2 (ef2 p1) ?_
  intro p e s m below meth c T0 D A F X0 hx hZ hby hml hown hnm hrt hlk e0
  refine A (XS.iloadN X0.here hx rfl (hb hby d2_0) rfl) ?_
  show D (T0.setTop (mkF m 1 #[.val (.int p1)] [(.int p1)]))
  refine A (XS.sipush X0.here hx rfl (hb hby d2_1)) ?_
  show D (T0.setTop (mkF m 4 #[.val (.int p1)] [(.int (128 : Int32)), (.int p1)]))
  by_cases c4_1 : p1 < (128 : Int32)
  · refine A (XS.icmpNo X0.here hx rfl (hb hby d2_4) rfl (tlt c4_1).2.1) ?_
    show D (T0.setTop (mkF m 7 #[.val (.int p1)] []))
    refine A (XS.iconst X0.here hx rfl (hb hby d2_7)) ?_
    show D (T0.setTop (mkF m 8 #[.val (.int p1)] [(.int (1 : Int32))]))
    refine A (XS.goto X0.here hx rfl (pc0 := 8) (pc' := 12) rfl (hb hby d2_8) (by decide) (by decide)) ?_
    show D (T0.setTop (mkF m 12 #[.val (.int p1)] [(.int (1 : Int32))]))
    refine F _ (Jvm.JW.ret X0 hlk (v := some (.int (1 : Int32))) (fun h => by rw [hrt] at h; cases h) (fun fs hr => retOut X0 hx hrt rfl (Or.inl ⟨rfl, Or.inr (Or.inl rfl), _, rfl⟩) (hb hby d2_12) hr) rfl ?_ (by decide) (by decide))
    exact ⟨congrArg (fun z => some (Value.int z)) (by exact (if_pos c4_1).symm), (Fr.nil n0), e0⟩
  · refine A (XS.icmpYes X0.here hx rfl (pc0 := 4) (pc' := 11) rfl (hb hby d2_4) rfl (flt c4_1).2.1 (by decide) (by decide)) ?_
    show D (T0.setTop (mkF m 11 #[.val (.int p1)] []))
    refine A (XS.iconst X0.here hx rfl (hb hby d2_11)) ?_
    show D (T0.setTop (mkF m 12 #[.val (.int p1)] [(.int (0 : Int32))]))
    refine F _ (Jvm.JW.ret X0 hlk (v := some (.int (0 : Int32))) (fun h => by rw [hrt] at h; cases h) (fun fs hr => retOut X0 hx hrt rfl (Or.inl ⟨rfl, Or.inr (Or.inl rfl), _, rfl⟩) (hb hby d2_12) hr) rfl ?_ (by decide) (by decide))
    exact ⟨congrArg (fun z => some (Value.int z)) (by exact (if_neg c4_1).symm), (Fr.nil n0), e0⟩
def own_S (x c q : Int32) : Int32 := if x < c then x else ((x.toUInt32 >>> (q &&& 31).toUInt32).toInt32)
def own_N (x c n d : Int32) : Int32 := if x < c then n else n + d
theorem own_S16 (x : Int32) (h1 : 0 ≤ x.toInt) (h2 : x.toInt < 2147483648) : 0 ≤ (own_S x 65536 16).toInt ∧ (own_S x 65536 16).toInt < 65536 := by
  have a := c_iushr x 16 16 (by decide) (by decide)
  unfold own_S
  simp only [Int32.lt_iff_toInt_lt, show (65536 : Int32).toInt = 65536 from rfl]
  split
  · omega
  · rw [a]; omega
theorem own_S8 (x : Int32) (h1 : 0 ≤ x.toInt) (h2 : x.toInt < 65536) : 0 ≤ (own_S x 256 8).toInt ∧ (own_S x 256 8).toInt < 256 := by
  have a := c_iushr x 8 8 (by decide) (by decide)
  unfold own_S
  simp only [Int32.lt_iff_toInt_lt, show (256 : Int32).toInt = 256 from rfl]
  split
  · omega
  · rw [a]; omega
theorem own_S4 (x : Int32) (h1 : 0 ≤ x.toInt) (h2 : x.toInt < 256) : 0 ≤ (own_S x 16 4).toInt ∧ (own_S x 16 4).toInt < 16 := by
  have a := c_iushr x 4 4 (by decide) (by decide)
  unfold own_S
  simp only [Int32.lt_iff_toInt_lt, show (16 : Int32).toInt = 16 from rfl]
  split
  · omega
  · rw [a]; omega
theorem own_S2 (x : Int32) (h1 : 0 ≤ x.toInt) (h2 : x.toInt < 16) : 0 ≤ (own_S x 4 2).toInt ∧ (own_S x 4 2).toInt < 4 := by
  have a := c_iushr x 2 2 (by decide) (by decide)
  unfold own_S
  simp only [Int32.lt_iff_toInt_lt, show (4 : Int32).toInt = 4 from rfl]
  split
  · omega
  · rw [a]; omega
theorem own_Nb (x c n d : Int32) (L H E : Int) (hd : d.toInt = -E) (hE : 0 ≤ E ∧ E ≤ 16) (h : L ≤ n.toInt ∧ n.toInt ≤ H) (hL : 0 ≤ L - E) (hH : H ≤ 31) : L - E ≤ (own_N x c n d).toInt ∧ (own_N x c n d).toInt ≤ H := by
  have a := c_iadd n d
  have b := rng32 (n + d)
  unfold own_N
  split
  · omega
  · omega
theorem own_f5 (x : Int32) : 0 ≤ (f5 x).toInt ∧ (f5 x).toInt ≤ 32 := by
  have e : f5 x = if (0 : Int32) < x then (own_N (own_S (own_S (own_S x 65536 16) 256 8) 16 4) 4 (own_N (own_S (own_S x 65536 16) 256 8) 16 (own_N (own_S x 65536 16) 256 (if x < (65536 : Int32) then (31 : Int32) else (15 : Int32)) (-8)) (-4)) (-2) - (((own_S (own_S (own_S (own_S x 65536 16) 256 8) 16 4) 4 2).toUInt32 >>> ((1 : Int32) &&& 31).toUInt32).toInt32)) else (if x = (0 : Int32) then (32 : Int32) else (0 : Int32)) := rfl
  rw [e]
  split
  · rename_i h
    rw [Int32.lt_iff_toInt_lt, show (0 : Int32).toInt = 0 from rfl] at h
    have s1 := own_S16 x (by omega) x.toInt_lt
    have s2 := own_S8 _ s1.1 s1.2
    have s3 := own_S4 _ s2.1 s2.2
    have s4 := own_S2 _ s3.1 s3.2
    have t0 : 15 ≤ (if x < (65536 : Int32) then (31 : Int32) else (15 : Int32)).toInt ∧ (if x < (65536 : Int32) then (31 : Int32) else (15 : Int32)).toInt ≤ 31 := by split <;> decide
    have t1 := own_Nb (own_S x 65536 16) 256 _ (-8) 15 31 8 (by decide) (by omega) t0 (by omega) (by omega)
    have t2 := own_Nb (own_S (own_S x 65536 16) 256 8) 16 _ (-4) 7 31 4 (by decide) (by omega) t1 (by omega) (by omega)
    have t3 := own_Nb (own_S (own_S (own_S x 65536 16) 256 8) 16 4) 4 _ (-2) 3 31 2 (by decide) (by omega) t2 (by omega) (by omega)
    generalize own_S (own_S (own_S (own_S x 65536 16) 256 8) 16 4) 4 2 = d at *
    generalize own_N (own_S (own_S (own_S x 65536 16) 256 8) 16 4) 4 _ (-2) = n at *
    have a := c_iushr d 1 1 (by decide) (by decide)
    have b := c_isub n ((d.toUInt32 >>> ((1 : Int32) &&& 31).toUInt32).toInt32)
    have r := rng32 (n - ((d.toUInt32 >>> ((1 : Int32) &&& 31).toUInt32).toInt32))
    omega
  · split <;> decide
theorem own_f4 (x : Int64) : 0 ≤ (f4 x).toInt ∧ (f4 x).toInt ≤ 64 := by
  have e : f4 x = if (((x.toUInt64 >>> ((32 : Int32) &&& 0x3f).toInt64.toUInt64).toInt64).toInt32) = (0 : Int32) then (32 : Int32) + f5 x.toInt32 else f5 (((x.toUInt64 >>> ((32 : Int32) &&& 0x3f).toInt64.toUInt64).toInt64).toInt32) := rfl
  rw [e]
  split
  · have a := own_f5 x.toInt32
    have b := c_iadd 32 (f5 x.toInt32)
    have r := rng32 (32 + f5 x.toInt32)
    have : (32 : Int32).toInt = 32 := rfl
    omega
  · have a := own_f5 (((x.toUInt64 >>> ((32 : Int32) &&& 0x3f).toInt64.toUInt64).toInt64).toInt32)
    omega
theorem own_f3 (x : Int64) : 0 ≤ (f3 x).toInt ∧ (f3 x).toInt ≤ 8 := by
  unfold f3
  have a := own_f4 x
  have b := c_isub 64 (f4 x)
  have r := rng32 (64 - f4 x)
  have b2 := c_iadd (64 - f4 x) 7
  have r2 := rng32 (64 - f4 x + 7)
  have h64 : (64 : Int32).toInt = 64 := rfl
  have h7 : (7 : Int32).toInt = 7 := rfl
  have d := (c_idiv (64 - f4 x + 7) 8 8 (by decide) (by decide)).1 (by omega)
  omega
theorem own_byte (x : Int32) (h0 : 128 ≤ x.toInt) (h1 : x.toInt ≤ 255) : ((x.toInt8.toInt32).toInt8.toInt32 &&& (255 : Int32)).toInt = x.toInt := by
  have a := c_i2b x
  have b := c_i2b x.toInt8.toInt32
  have m := c_mask (x.toInt8.toInt32).toInt8.toInt32 255 8 (by decide) (by decide)
  omega
/-- what is asked of the first byte -/
def own_P (p3 : Int32) (p4 : Int64) (b : Int32) : Prop := 128 ≤ (b &&& (255 : Int32)).toInt ∧ (p4 = 0 → (b &&& (255 : Int32)).toInt = p3.toInt)
theorem own_qa {p3 : Int32} {p4 : Int64} (hp3 : p3.toInt = 128 ∨ p3.toInt = 192) (hp4 : 0 ≤ p4.toInt) (h : ¬ (0 : Int32) < (lcmpW p4 (55 : Int64))) {b : Int32} (hb : b = (((p3.toInt64 + p4).toInt32).toInt8.toInt32).toInt8.toInt32) : own_P p3 p4 b := by
  rw [lw_gt, Int64.lt_iff_toInt_lt, show (55 : Int64).toInt = 55 from rfl] at h
  have e1 := c_i2l p3
  have e2 := c_ladd p3.toInt64 p4
  have e3 := rng64 (p3.toInt64 + p4)
  have e4 := c_l2i (p3.toInt64 + p4)
  have e5 := rng32 (p3.toInt64 + p4).toInt32
  have e6 : (p3.toInt64 + p4).toInt32.toInt = p3.toInt + p4.toInt := by omega
  subst hb
  unfold own_P
  rw [own_byte _ (by omega) (by omega), e6]
  refine ⟨by omega, fun q => ?_⟩
  subst q
  have : (0 : Int64).toInt = 0 := rfl
  omega
theorem own_qb {p3 : Int32} {p4 : Int64} (hp3 : p3.toInt = 128 ∨ p3.toInt = 192) (h : (0 : Int32) < (lcmpW p4 (55 : Int64))) {x : Int32} (hx : 0 ≤ x.toInt ∧ x.toInt ≤ 8) {b : Int32} (hb : b = (((p3 + (55 : Int32)) + x).toInt8.toInt32).toInt8.toInt32) : own_P p3 p4 b := by
  rw [lw_gt, Int64.lt_iff_toInt_lt, show (55 : Int64).toInt = 55 from rfl] at h
  have e1 := c_iadd p3 55
  have e2 := rng32 (p3 + 55)
  have e3 := c_iadd (p3 + 55) x
  have e4 := rng32 (p3 + 55 + x)
  have h55 : (55 : Int32).toInt = 55 := rfl
  subst hb
  unfold own_P
  rw [own_byte _ (by omega) (by omega)]
  refine ⟨by omega, fun q => ?_⟩
  subst q
  have : (0 : Int64).toInt = 0 := rfl
  omega
theorem own_ixe {x i : Int32} {ll ii : Nat} (hll : x.toInt = ll) (hi : i.toInt = ii) (hlt : ii < ll) (h8 : ll ≤ 8) : ((((1 : Int32) + x) - (1 : Int32)) - i).toInt = ((ll - ii : Nat) : Int) := by
  have e1 := c_iadd 1 x
  have r1 := rng32 (1 + x)
  have e2 := c_isub (1 + x) 1
  have r2 := rng32 (1 + x - 1)
  have e3 := c_isub (1 + x - 1) i
  have r3 := rng32 (1 + x - 1 - i)
  have h1 : (1 : Int32).toInt = 1 := rfl
  omega
theorem own_lt {x i : Int32} {ll ii : Nat} (h : i < x) (hll : x.toInt = ll) (hi : i.toInt = ii) : ii < ll := by rw [Int32.lt_iff_toInt_lt] at h; omega
theorem d1_0 : decode prog_28_method_5_code 0 = .ok (.lload_n 3, 1) := by decide +kernel
theorem d1_1 : decode prog_28_method_5_code 1 = .ok (.ldc2_w 15, 3) := by decide +kernel
theorem d1_4 : decode prog_28_method_5_code 4 = .ok (.lcmp, 1) := by decide +kernel
theorem d1_5 : decode prog_28_method_5_code 5 = .ok (.ifCond .gt 20, 3) := by decide +kernel
theorem d1_8 : decode prog_28_method_5_code 8 = .ok (.aload_n 0, 1) := by decide +kernel
theorem d1_9 : decode prog_28_method_5_code 9 = .ok (.iload_n 1, 1) := by decide +kernel
theorem d1_10 : decode prog_28_method_5_code 10 = .ok (.iload_n 2, 1) := by decide +kernel
theorem d1_11 : decode prog_28_method_5_code 11 = .ok (.i2l, 1) := by decide +kernel
theorem d1_12 : decode prog_28_method_5_code 12 = .ok (.lload_n 3, 1) := by decide +kernel
theorem d1_13 : decode prog_28_method_5_code 13 = .ok (.ladd, 1) := by decide +kernel
theorem d1_14 : decode prog_28_method_5_code 14 = .ok (.l2i, 1) := by decide +kernel
theorem d1_15 : decode prog_28_method_5_code 15 = .ok (.i2b, 1) := by decide +kernel
theorem d1_16 : decode prog_28_method_5_code 16 = .ok (.bastore, 1) := by decide +kernel
theorem d1_17 : decode prog_28_method_5_code 17 = .ok (.iload_n 1, 1) := by decide +kernel
theorem d1_18 : decode prog_28_method_5_code 18 = .ok (.iconst 1, 1) := by decide +kernel
theorem d1_19 : decode prog_28_method_5_code 19 = .ok (.iadd, 1) := by decide +kernel
theorem d1_20 : decode prog_28_method_5_code 20 = .ok (.istore 5, 2) := by decide +kernel
theorem d1_22 : decode prog_28_method_5_code 22 = .ok (.goto 62, 3) := by decide +kernel
theorem d1_25 : decode prog_28_method_5_code 25 = .ok (.lload_n 3, 1) := by decide +kernel
theorem d1_26 : decode prog_28_method_5_code 26 = .ok (.invokestatic 17, 3) := by decide +kernel
theorem d1_29 : decode prog_28_method_5_code 29 = .ok (.istore 6, 2) := by decide +kernel
theorem d1_31 : decode prog_28_method_5_code 31 = .ok (.aload_n 0, 1) := by decide +kernel
theorem d1_32 : decode prog_28_method_5_code 32 = .ok (.iload_n 1, 1) := by decide +kernel
theorem d1_33 : decode prog_28_method_5_code 33 = .ok (.iload_n 2, 1) := by decide +kernel
theorem d1_34 : decode prog_28_method_5_code 34 = .ok (.bipush 55, 2) := by decide +kernel
theorem d1_36 : decode prog_28_method_5_code 36 = .ok (.iadd, 1) := by decide +kernel
theorem d1_37 : decode prog_28_method_5_code 37 = .ok (.iload 6, 2) := by decide +kernel
theorem d1_39 : decode prog_28_method_5_code 39 = .ok (.iadd, 1) := by decide +kernel
theorem d1_40 : decode prog_28_method_5_code 40 = .ok (.i2b, 1) := by decide +kernel
theorem d1_41 : decode prog_28_method_5_code 41 = .ok (.bastore, 1) := by decide +kernel
theorem d1_42 : decode prog_28_method_5_code 42 = .ok (.iload_n 1, 1) := by decide +kernel
theorem d1_43 : decode prog_28_method_5_code 43 = .ok (.iconst 1, 1) := by decide +kernel
theorem d1_44 : decode prog_28_method_5_code 44 = .ok (.iadd, 1) := by decide +kernel
theorem d1_45 : decode prog_28_method_5_code 45 = .ok (.iload 6, 2) := by decide +kernel
theorem d1_47 : decode prog_28_method_5_code 47 = .ok (.iadd, 1) := by decide +kernel
theorem d1_48 : decode prog_28_method_5_code 48 = .ok (.istore 5, 2) := by decide +kernel
theorem d1_50 : decode prog_28_method_5_code 50 = .ok (.iconst 0, 1) := by decide +kernel
theorem d1_51 : decode prog_28_method_5_code 51 = .ok (.istore 7, 2) := by decide +kernel
theorem d1_53 : decode prog_28_method_5_code 53 = .ok (.iload 7, 2) := by decide +kernel
theorem d1_55 : decode prog_28_method_5_code 55 = .ok (.iload 6, 2) := by decide +kernel
theorem d1_57 : decode prog_28_method_5_code 57 = .ok (.if_icmp .ge 27, 3) := by decide +kernel
theorem d1_60 : decode prog_28_method_5_code 60 = .ok (.aload_n 0, 1) := by decide +kernel
theorem d1_61 : decode prog_28_method_5_code 61 = .ok (.iload 5, 2) := by decide +kernel
theorem d1_63 : decode prog_28_method_5_code 63 = .ok (.iconst 1, 1) := by decide +kernel
theorem d1_64 : decode prog_28_method_5_code 64 = .ok (.isub, 1) := by decide +kernel
theorem d1_65 : decode prog_28_method_5_code 65 = .ok (.iload 7, 2) := by decide +kernel
theorem d1_67 : decode prog_28_method_5_code 67 = .ok (.isub, 1) := by decide +kernel
theorem d1_68 : decode prog_28_method_5_code 68 = .ok (.lload_n 3, 1) := by decide +kernel
theorem d1_69 : decode prog_28_method_5_code 69 = .ok (.bipush 8, 2) := by decide +kernel
theorem d1_71 : decode prog_28_method_5_code 71 = .ok (.iload 7, 2) := by decide +kernel
theorem d1_73 : decode prog_28_method_5_code 73 = .ok (.imul, 1) := by decide +kernel
theorem d1_74 : decode prog_28_method_5_code 74 = .ok (.lushr, 1) := by decide +kernel
theorem d1_75 : decode prog_28_method_5_code 75 = .ok (.l2i, 1) := by decide +kernel
theorem d1_76 : decode prog_28_method_5_code 76 = .ok (.i2b, 1) := by decide +kernel
theorem d1_77 : decode prog_28_method_5_code 77 = .ok (.bastore, 1) := by decide +kernel
theorem d1_78 : decode prog_28_method_5_code 78 = .ok (.iinc 7 1, 3) := by decide +kernel
theorem d1_81 : decode prog_28_method_5_code 81 = .ok (.goto (-28), 3) := by decide +kernel
theorem d1_84 : decode prog_28_method_5_code 84 = .ok (.iload 5, 2) := by decide +kernel
theorem d1_86 : decode prog_28_method_5_code 86 = .ok (.ireturn, 1) := by decide +kernel
theorem pn1 : plainFor (⟨"com/example/wireproof/wireproof/codec/rlp/Prefix", "write", "([BIIJ)I"⟩ : MethodName) = true := by decide +kernel
theorem pd1_0 : parseMethodDescriptor "(J)I" = some ⟨[.long], some .int⟩ := by decide +kernel
theorem ef1_0 (p1 : Addr) (p3 : Int32) (p4 : Int64) (m : MethodId) : entryFrame m #[(.ref p1), (.int (0 : Int32)), (.int p3), (.long p4)] 8 = mkF m 0 #[.val (.ref p1), .val (.int (0 : Int32)), .val (.int p3), .val (.long p4), .second, .unset, .unset, .unset] [] := by first | (simp [entryFrame, mkF, argsToLocals, Value.category]; done) | rfl
set_option maxRecDepth 65536 in
set_option maxHeartbeats 40000000 in
theorem rm1 (l : Launch) (Z : State) (a0 : Array Value) (hw : ∀ d ∈ tables_1, d.before a0 Z = true) (ws : List Jvm.Cond) (p1 : Addr) (p3 : Int32) (p4 : Int64) (h0 : Heap) (n0 : Nat) (n : Nat) (f : Nat → Int32) (Z0 : n0 ≤ h0.size) (g_p1 : n0 ≤ p1) (hp3 : p3.toInt = 128 ∨ p3.toInt = 192) (hp4 : 0 ≤ p4.toInt) (hn : n = 9 ∨ (n = 1 ∧ p4.toInt ≤ 55)) (V_p1 : ArI Z h0 p1 .byte n f) :
    JMet l Z (⟨"com/example/wireproof/wireproof/codec/rlp/Prefix", "write", "([BIIJ)I"⟩ : MethodName) prog_28_method_5_code 8 (some .int) ws ({ frames := 3, cells := 0, slots := 0, locals := 42 } : Room) #[(.ref p1), (.int (0 : Int32)), (.int p3), (.long p4)] h0 (fun v h L => ∃ (r : Int32) (f' : Nat → Int32), v = some (.int r) ∧ Fr n0 L ∧ Keep h0 h [p1] ∧ ArI Z h p1 .byte n f' ∧ own_P p3 p4 (f' 0)) := by
  refine Jvm.JW.body #[.val (.ref p1), .val (.int (0 : Int32)), .val (.int p3), .val (.long p4), .second, .unset, .unset, .unset] pn1 (ef1_0 p1 p3 p4) ?_
  intro p e s m below meth c T0 D A F X0 hx hZ hby hml hown hnm hrt hlk e0
  refine A (XS.lloadN X0.here hx rfl (hb hby d1_0) rfl) ?_
  show D (T0.setTop (mkF m 1 #[.val (.ref p1), .val (.int (0 : Int32)), .val (.int p3), .val (.long p4), .second, .unset, .unset, .unset] [(.long p4)]))
  refine A (X0.ldc2Long hx hown (mvT hZ (hw _ (List.mem_of_getElem? (i := 5) rfl))) (g := (mkF m 1 #[.val (.ref p1), .val (.int (0 : Int32)), .val (.int p3), .val (.long p4), .second, .unset, .unset, .unset] [(.long p4)])) rfl (hb hby d1_1) _) ?_
  show D (T0.setTop (mkF m 4 #[.val (.ref p1), .val (.int (0 : Int32)), .val (.int p3), .val (.long p4), .second, .unset, .unset, .unset] [(.long (55 : Int64)), (.long p4)]))
  refine A (XS.lcmp X0.here hx rfl (hb hby d1_4) rfl) ?_
  show D (T0.setTop (mkF m 5 #[.val (.ref p1), .val (.int (0 : Int32)), .val (.int p3), .val (.long p4), .second, .unset, .unset, .unset] [(.int (lcmpW p4 (55 : Int64)))]))
  by_cases c5_1 : (0 : Int32) < (lcmpW p4 (55 : Int64))
  · refine A (XS.ifYes X0.here hx rfl (pc0 := 5) (pc' := 25) rfl (hb hby d1_5) rfl ((if0 _ _).trans (tlt c5_1).2.2.1) (by decide) (by decide)) ?_
    show D (T0.setTop (mkF m 25 #[.val (.ref p1), .val (.int (0 : Int32)), .val (.int p3), .val (.long p4), .second, .unset, .unset, .unset] []))
    refine A (XS.lloadN X0.here hx rfl (hb hby d1_25) rfl) ?_
    show D (T0.setTop (mkF m 26 #[.val (.ref p1), .val (.int (0 : Int32)), .val (.int p3), .val (.long p4), .second, .unset, .unset, .unset] [(.long p4)]))
    refine Adv.callS A X0 hx hZ hown (hw _ (List.mem_of_getElem? (i := 10) rfl)) (hw _ (List.mem_of_getElem? (i := 11) rfl)) (hw _ (List.mem_of_getElem? (i := 3) rfl)) (hw _ (List.mem_of_getElem? (i := 12) rfl)) e0 (rm3 l Z a0 hw [] p4 h0 n0) 0 (g := (mkF m 26 #[.val (.ref p1), .val (.int (0 : Int32)), .val (.int p3), .val (.long p4), .second, .unset, .unset, .unset] [(.long p4)])) rfl (by rw [hml]; rfl) [(.long p4)] [] rfl (lenOf pd1_0 rfl) rfl (by show 2 * 0 + _ ≤ _; exact Nat.le_of_eq rfl) (hb hby d1_26) (by decide) (by decide) (by decide) (by decide) (by decide) ?_
    rintro T2 L2 _ X2 ⟨rfl, N2_q, e2⟩
    have N2 := Fr.app (Fr.nil n0) N2_q
    show D (T2.setTop (mkF m 29 #[.val (.ref p1), .val (.int (0 : Int32)), .val (.int p3), .val (.long p4), .second, .unset, .unset, .unset] [(.int (f3 p4))]))
    refine A (XS.istore X2.here hx rfl (hb hby d1_29) rfl (l' := #[.val (.ref p1), .val (.int (0 : Int32)), .val (.int p3), .val (.long p4), .second, .unset, .val (.int (f3 p4)), .unset]) rfl) ?_
    show D (T2.setTop (mkF m 31 #[.val (.ref p1), .val (.int (0 : Int32)), .val (.int p3), .val (.long p4), .second, .unset, .val (.int (f3 p4)), .unset] []))
    suffices Kx6_31 : ∀ x6_31 : Int32, x6_31 = (f3 p4) → D (T2.setTop (mkF m 31 #[.val (.ref p1), .val (.int (0 : Int32)), .val (.int p3), .val (.long p4), .second, .unset, .val (.int x6_31), .unset] [])) from Kx6_31 _ rfl
    intro x6_31 hx6_31
    have hl8 := own_f3 p4
    rw [← hx6_31] at hl8
    obtain ⟨ll, hll⟩ : ∃ ll : Nat, x6_31.toInt = ll := ⟨x6_31.toInt.toNat, by omega⟩
    have hll8 : ll ≤ 8 := by omega
    refine A (XS.aloadN X2.here hx rfl (hb hby d1_31) rfl rfl) ?_
    show D (T2.setTop (mkF m 32 #[.val (.ref p1), .val (.int (0 : Int32)), .val (.int p3), .val (.long p4), .second, .unset, .val (.int x6_31), .unset] [(.ref p1)]))
    refine A (XS.iloadN X2.here hx rfl (hb hby d1_32) rfl) ?_
    show D (T2.setTop (mkF m 33 #[.val (.ref p1), .val (.int (0 : Int32)), .val (.int p3), .val (.long p4), .second, .unset, .val (.int x6_31), .unset] [(.int (0 : Int32)), (.ref p1)]))
    refine A (XS.iloadN X2.here hx rfl (hb hby d1_33) rfl) ?_
    show D (T2.setTop (mkF m 34 #[.val (.ref p1), .val (.int (0 : Int32)), .val (.int p3), .val (.long p4), .second, .unset, .val (.int x6_31), .unset] [(.int p3), (.int (0 : Int32)), (.ref p1)]))
    refine A (XS.bipush X2.here hx rfl (hb hby d1_34)) ?_
    show D (T2.setTop (mkF m 36 #[.val (.ref p1), .val (.int (0 : Int32)), .val (.int p3), .val (.long p4), .second, .unset, .val (.int x6_31), .unset] [(.int (55 : Int32)), (.int p3), (.int (0 : Int32)), (.ref p1)]))
    refine A (XS.iadd X2.here hx rfl (hb hby d1_36) rfl) ?_
    show D (T2.setTop (mkF m 37 #[.val (.ref p1), .val (.int (0 : Int32)), .val (.int p3), .val (.long p4), .second, .unset, .val (.int x6_31), .unset] [(.int (p3 + (55 : Int32))), (.int (0 : Int32)), (.ref p1)]))
    refine A (XS.iload X2.here hx rfl (hb hby d1_37) rfl) ?_
    show D (T2.setTop (mkF m 39 #[.val (.ref p1), .val (.int (0 : Int32)), .val (.int p3), .val (.long p4), .second, .unset, .val (.int x6_31), .unset] [(.int x6_31), (.int (p3 + (55 : Int32))), (.int (0 : Int32)), (.ref p1)]))
    refine A (XS.iadd X2.here hx rfl (hb hby d1_39) rfl) ?_
    show D (T2.setTop (mkF m 40 #[.val (.ref p1), .val (.int (0 : Int32)), .val (.int p3), .val (.long p4), .second, .unset, .val (.int x6_31), .unset] [(.int ((p3 + (55 : Int32)) + x6_31)), (.int (0 : Int32)), (.ref p1)]))
    refine A (XS.i2b X2.here hx rfl (hb hby d1_40) rfl) ?_
    show D (T2.setTop (mkF m 41 #[.val (.ref p1), .val (.int (0 : Int32)), .val (.int p3), .val (.long p4), .second, .unset, .val (.int x6_31), .unset] [(.int (((p3 + (55 : Int32)) + x6_31).toInt8.toInt32)), (.int (0 : Int32)), (.ref p1)]))
    refine Adv.stB A X2 hx hZ e2 V_p1 (k := 0) (by decide) (by omega) (g := (mkF m 41 #[.val (.ref p1), .val (.int (0 : Int32)), .val (.int p3), .val (.long p4), .second, .unset, .val (.int x6_31), .unset] [(.int (((p3 + (55 : Int32)) + x6_31).toInt8.toInt32)), (.int (0 : Int32)), (.ref p1)])) rfl rfl (hb hby d1_41) ?_
    intro T3 h3 X3 e3 W3 Vp1_3
    have N3 := Fr.snoc X3 N2 g_p1
    have Z_3 : n0 ≤ h3.size := Nat.le_trans Z0 (Nat.le_of_eq W3.size.symm)
    have KK_3 : Keep h0 h3 [p1] := (Keep.refl h0 [p1]).wr W3 (Or.inl (List.mem_of_getElem? (i := 0) rfl))
    show D (T3.setTop (mkF m 42 #[.val (.ref p1), .val (.int (0 : Int32)), .val (.int p3), .val (.long p4), .second, .unset, .val (.int x6_31), .unset] []))
    obtain ⟨fn4, hfn4⟩ : ∃ z : Nat → Int32, z = (fun ix => if ix = 0 then (((p3 + (55 : Int32)) + x6_31).toInt8.toInt32).toInt8.toInt32 else f ix) := ⟨_, rfl⟩
    rw [← hfn4] at Vp1_3
    refine A (XS.iloadN X3.here hx rfl (hb hby d1_42) rfl) ?_
    show D (T3.setTop (mkF m 43 #[.val (.ref p1), .val (.int (0 : Int32)), .val (.int p3), .val (.long p4), .second, .unset, .val (.int x6_31), .unset] [(.int (0 : Int32))]))
    refine A (XS.iconst X3.here hx rfl (hb hby d1_43)) ?_
    show D (T3.setTop (mkF m 44 #[.val (.ref p1), .val (.int (0 : Int32)), .val (.int p3), .val (.long p4), .second, .unset, .val (.int x6_31), .unset] [(.int (1 : Int32)), (.int (0 : Int32))]))
    refine A (XS.iadd X3.here hx rfl (hb hby d1_44) rfl) ?_
    show D (T3.setTop (mkF m 45 #[.val (.ref p1), .val (.int (0 : Int32)), .val (.int p3), .val (.long p4), .second, .unset, .val (.int x6_31), .unset] [(.int ((0 : Int32) + (1 : Int32)))]))
    suffices Kq5 : ∀ q5 : Int32, q5 = (1 : Int32) → D (T3.setTop (mkF m 45 #[.val (.ref p1), .val (.int (0 : Int32)), .val (.int p3), .val (.long p4), .second, .unset, .val (.int x6_31), .unset] [(.int q5)])) from Kq5 _ (by decide)
    rintro _ rfl
    show D (T3.setTop (mkF m 45 #[.val (.ref p1), .val (.int (0 : Int32)), .val (.int p3), .val (.long p4), .second, .unset, .val (.int x6_31), .unset] [(.int (1 : Int32))]))
    refine A (XS.iload X3.here hx rfl (hb hby d1_45) rfl) ?_
    show D (T3.setTop (mkF m 47 #[.val (.ref p1), .val (.int (0 : Int32)), .val (.int p3), .val (.long p4), .second, .unset, .val (.int x6_31), .unset] [(.int x6_31), (.int (1 : Int32))]))
    refine A (XS.iadd X3.here hx rfl (hb hby d1_47) rfl) ?_
    show D (T3.setTop (mkF m 48 #[.val (.ref p1), .val (.int (0 : Int32)), .val (.int p3), .val (.long p4), .second, .unset, .val (.int x6_31), .unset] [(.int ((1 : Int32) + x6_31))]))
    refine A (XS.istore X3.here hx rfl (hb hby d1_48) rfl (l' := #[.val (.ref p1), .val (.int (0 : Int32)), .val (.int p3), .val (.long p4), .second, .val (.int ((1 : Int32) + x6_31)), .val (.int x6_31), .unset]) rfl) ?_
    show D (T3.setTop (mkF m 50 #[.val (.ref p1), .val (.int (0 : Int32)), .val (.int p3), .val (.long p4), .second, .val (.int ((1 : Int32) + x6_31)), .val (.int x6_31), .unset] []))
    refine A (XS.iconst X3.here hx rfl (hb hby d1_50)) ?_
    show D (T3.setTop (mkF m 51 #[.val (.ref p1), .val (.int (0 : Int32)), .val (.int p3), .val (.long p4), .second, .val (.int ((1 : Int32) + x6_31)), .val (.int x6_31), .unset] [(.int (0 : Int32))]))
    refine A (XS.istore X3.here hx rfl (hb hby d1_51) rfl (l' := #[.val (.ref p1), .val (.int (0 : Int32)), .val (.int p3), .val (.long p4), .second, .val (.int ((1 : Int32) + x6_31)), .val (.int x6_31), .val (.int (0 : Int32))]) rfl) ?_
    show D (T3.setTop (mkF m 53 #[.val (.ref p1), .val (.int (0 : Int32)), .val (.int p3), .val (.long p4), .second, .val (.int ((1 : Int32) + x6_31)), .val (.int x6_31), .val (.int (0 : Int32))] []))
    have hn9 : n = 9 := by rcases hn with q | q; exact q; exact absurd ((lw_gt _ _).mp c5_1) (by rw [Int64.lt_iff_toInt_lt, show (55 : Int64).toInt = 55 from rfl]; omega)
    suffices LP6 : ∀ (kk : Nat) (ii : Nat) (i : Int32) (fi : Nat → Int32) (T6 : State) (H6 : Heap) (lc6 : List Loc), ll - ii = kk → (i.toInt = ii) → (ii ≤ ll) → (fi 0 = (((p3 + (55 : Int32)) + x6_31).toInt8.toInt32).toInt8.toInt32) → (Stand p l e ({ frames := 3, cells := 0, slots := 0, locals := 42 } : Room) s m #[(.ref p1), (.int (0 : Int32)), (.int p3), (.long p4)] below meth c T6 lc6 0 0) → (T6.heap = H6) → (Fr n0 lc6) → (n0 ≤ H6.size) → (Keep h0 H6 [p1]) → (ArI Z H6 p1 .byte n fi) → D (T6.setTop (mkF m 53 #[.val (.ref p1), .val (.int (0 : Int32)), .val (.int p3), .val (.long p4), .second, .val (.int ((1 : Int32) + x6_31)), .val (.int x6_31), .val (.int i)] [])) from LP6 _ 0 (0 : Int32) fn4 _ _ _ rfl (by decide) (Nat.zero_le _) (by rw [hfn4]; rfl) X3 e3 N3 Z_3 KK_3 Vp1_3
    intro kk6
    induction kk6 using Nat.strongRecOn with
    | _ kk6 ih6 =>
      intro ii i fi T6 H6 lc6 hm6 hi hil hf0 X6 e6 N6 Zq6 KK_6 V_p1_6
      show D (T6.setTop (mkF m 53 #[.val (.ref p1), .val (.int (0 : Int32)), .val (.int p3), .val (.long p4), .second, .val (.int ((1 : Int32) + x6_31)), .val (.int x6_31), .val (.int i)] []))
      refine A (XS.iload X6.here hx rfl (hb hby d1_53) rfl) ?_
      show D (T6.setTop (mkF m 55 #[.val (.ref p1), .val (.int (0 : Int32)), .val (.int p3), .val (.long p4), .second, .val (.int ((1 : Int32) + x6_31)), .val (.int x6_31), .val (.int i)] [(.int i)]))
      refine A (XS.iload X6.here hx rfl (hb hby d1_55) rfl) ?_
      show D (T6.setTop (mkF m 57 #[.val (.ref p1), .val (.int (0 : Int32)), .val (.int p3), .val (.long p4), .second, .val (.int ((1 : Int32) + x6_31)), .val (.int x6_31), .val (.int i)] [(.int x6_31), (.int i)]))
      by_cases c57_7 : i < x6_31
      · refine A (XS.icmpNo X6.here hx rfl (hb hby d1_57) rfl (tlt c57_7).2.1) ?_
        show D (T6.setTop (mkF m 60 #[.val (.ref p1), .val (.int (0 : Int32)), .val (.int p3), .val (.long p4), .second, .val (.int ((1 : Int32) + x6_31)), .val (.int x6_31), .val (.int i)] []))
        refine A (XS.aloadN X6.here hx rfl (hb hby d1_60) rfl rfl) ?_
        show D (T6.setTop (mkF m 61 #[.val (.ref p1), .val (.int (0 : Int32)), .val (.int p3), .val (.long p4), .second, .val (.int ((1 : Int32) + x6_31)), .val (.int x6_31), .val (.int i)] [(.ref p1)]))
        refine A (XS.iload X6.here hx rfl (hb hby d1_61) rfl) ?_
        show D (T6.setTop (mkF m 63 #[.val (.ref p1), .val (.int (0 : Int32)), .val (.int p3), .val (.long p4), .second, .val (.int ((1 : Int32) + x6_31)), .val (.int x6_31), .val (.int i)] [(.int ((1 : Int32) + x6_31)), (.ref p1)]))
        refine A (XS.iconst X6.here hx rfl (hb hby d1_63)) ?_
        show D (T6.setTop (mkF m 64 #[.val (.ref p1), .val (.int (0 : Int32)), .val (.int p3), .val (.long p4), .second, .val (.int ((1 : Int32) + x6_31)), .val (.int x6_31), .val (.int i)] [(.int (1 : Int32)), (.int ((1 : Int32) + x6_31)), (.ref p1)]))
        refine A (XS.isub X6.here hx rfl (hb hby d1_64) rfl) ?_
        show D (T6.setTop (mkF m 65 #[.val (.ref p1), .val (.int (0 : Int32)), .val (.int p3), .val (.long p4), .second, .val (.int ((1 : Int32) + x6_31)), .val (.int x6_31), .val (.int i)] [(.int (((1 : Int32) + x6_31) - (1 : Int32))), (.ref p1)]))
        refine A (XS.iload X6.here hx rfl (hb hby d1_65) rfl) ?_
        show D (T6.setTop (mkF m 67 #[.val (.ref p1), .val (.int (0 : Int32)), .val (.int p3), .val (.long p4), .second, .val (.int ((1 : Int32) + x6_31)), .val (.int x6_31), .val (.int i)] [(.int i), (.int (((1 : Int32) + x6_31) - (1 : Int32))), (.ref p1)]))
        refine A (XS.isub X6.here hx rfl (hb hby d1_67) rfl) ?_
        show D (T6.setTop (mkF m 68 #[.val (.ref p1), .val (.int (0 : Int32)), .val (.int p3), .val (.long p4), .second, .val (.int ((1 : Int32) + x6_31)), .val (.int x6_31), .val (.int i)] [(.int ((((1 : Int32) + x6_31) - (1 : Int32)) - i)), (.ref p1)]))
        refine A (XS.lloadN X6.here hx rfl (hb hby d1_68) rfl) ?_
        show D (T6.setTop (mkF m 69 #[.val (.ref p1), .val (.int (0 : Int32)), .val (.int p3), .val (.long p4), .second, .val (.int ((1 : Int32) + x6_31)), .val (.int x6_31), .val (.int i)] [(.long p4), (.int ((((1 : Int32) + x6_31) - (1 : Int32)) - i)), (.ref p1)]))
        refine A (XS.bipush X6.here hx rfl (hb hby d1_69)) ?_
        show D (T6.setTop (mkF m 71 #[.val (.ref p1), .val (.int (0 : Int32)), .val (.int p3), .val (.long p4), .second, .val (.int ((1 : Int32) + x6_31)), .val (.int x6_31), .val (.int i)] [(.int (8 : Int32)), (.long p4), (.int ((((1 : Int32) + x6_31) - (1 : Int32)) - i)), (.ref p1)]))
        refine A (XS.iload X6.here hx rfl (hb hby d1_71) rfl) ?_
        show D (T6.setTop (mkF m 73 #[.val (.ref p1), .val (.int (0 : Int32)), .val (.int p3), .val (.long p4), .second, .val (.int ((1 : Int32) + x6_31)), .val (.int x6_31), .val (.int i)] [(.int i), (.int (8 : Int32)), (.long p4), (.int ((((1 : Int32) + x6_31) - (1 : Int32)) - i)), (.ref p1)]))
        refine A (XS.imul X6.here hx rfl (hb hby d1_73) rfl) ?_
        show D (T6.setTop (mkF m 74 #[.val (.ref p1), .val (.int (0 : Int32)), .val (.int p3), .val (.long p4), .second, .val (.int ((1 : Int32) + x6_31)), .val (.int x6_31), .val (.int i)] [(.int ((8 : Int32) * i)), (.long p4), (.int ((((1 : Int32) + x6_31) - (1 : Int32)) - i)), (.ref p1)]))
        refine A (XS.lushr X6.here hx rfl (hb hby d1_74) rfl) ?_
        show D (T6.setTop (mkF m 75 #[.val (.ref p1), .val (.int (0 : Int32)), .val (.int p3), .val (.long p4), .second, .val (.int ((1 : Int32) + x6_31)), .val (.int x6_31), .val (.int i)] [(.long ((p4.toUInt64 >>> (((8 : Int32) * i) &&& 0x3f).toInt64.toUInt64).toInt64)), (.int ((((1 : Int32) + x6_31) - (1 : Int32)) - i)), (.ref p1)]))
        refine A (XS.l2i X6.here hx rfl (hb hby d1_75) rfl) ?_
        show D (T6.setTop (mkF m 76 #[.val (.ref p1), .val (.int (0 : Int32)), .val (.int p3), .val (.long p4), .second, .val (.int ((1 : Int32) + x6_31)), .val (.int x6_31), .val (.int i)] [(.int (((p4.toUInt64 >>> (((8 : Int32) * i) &&& 0x3f).toInt64.toUInt64).toInt64).toInt32)), (.int ((((1 : Int32) + x6_31) - (1 : Int32)) - i)), (.ref p1)]))
        refine A (XS.i2b X6.here hx rfl (hb hby d1_76) rfl) ?_
        show D (T6.setTop (mkF m 77 #[.val (.ref p1), .val (.int (0 : Int32)), .val (.int p3), .val (.long p4), .second, .val (.int ((1 : Int32) + x6_31)), .val (.int x6_31), .val (.int i)] [(.int ((((p4.toUInt64 >>> (((8 : Int32) * i) &&& 0x3f).toInt64.toUInt64).toInt64).toInt32).toInt8.toInt32)), (.int ((((1 : Int32) + x6_31) - (1 : Int32)) - i)), (.ref p1)]))
        refine Adv.stB A X6 hx hZ e6 V_p1_6 (k := (ll - ii)) (own_ixe hll hi (own_lt c57_7 hll hi) hll8) (by have := own_lt c57_7 hll hi; omega) (g := (mkF m 77 #[.val (.ref p1), .val (.int (0 : Int32)), .val (.int p3), .val (.long p4), .second, .val (.int ((1 : Int32) + x6_31)), .val (.int x6_31), .val (.int i)] [(.int ((((p4.toUInt64 >>> (((8 : Int32) * i) &&& 0x3f).toInt64.toUInt64).toInt64).toInt32).toInt8.toInt32)), (.int ((((1 : Int32) + x6_31) - (1 : Int32)) - i)), (.ref p1)])) rfl rfl (hb hby d1_77) ?_
        intro T8 h8 X8 e8 W8 Vp1_8
        have N8 := Fr.snoc X8 N6 g_p1
        have Z_8 : n0 ≤ h8.size := Nat.le_trans Zq6 (Nat.le_of_eq W8.size.symm)
        have KK_8 : Keep h0 h8 [p1] := KK_6.wr W8 (Or.inl (List.mem_of_getElem? (i := 0) rfl))
        show D (T8.setTop (mkF m 78 #[.val (.ref p1), .val (.int (0 : Int32)), .val (.int p3), .val (.long p4), .second, .val (.int ((1 : Int32) + x6_31)), .val (.int x6_31), .val (.int i)] []))
        obtain ⟨fn9, hfn9⟩ : ∃ z : Nat → Int32, z = (fun ix => if ix = (ll - ii) then ((((p4.toUInt64 >>> (((8 : Int32) * i) &&& 0x3f).toInt64.toUInt64).toInt64).toInt32).toInt8.toInt32).toInt8.toInt32 else fi ix) := ⟨_, rfl⟩
        rw [← hfn9] at Vp1_8
        refine A (XS.iinc X8.here hx rfl (hb hby d1_78) rfl (l' := #[.val (.ref p1), .val (.int (0 : Int32)), .val (.int p3), .val (.long p4), .second, .val (.int ((1 : Int32) + x6_31)), .val (.int x6_31), .val (.int (i + (1 : Int32)))]) rfl) ?_
        show D (T8.setTop (mkF m 81 #[.val (.ref p1), .val (.int (0 : Int32)), .val (.int p3), .val (.long p4), .second, .val (.int ((1 : Int32) + x6_31)), .val (.int x6_31), .val (.int (i + (1 : Int32)))] []))
        refine A (XS.goto X8.here hx rfl (pc0 := 81) (pc' := 53) rfl (hb hby d1_81) (by decide) (by decide)) ?_
        show D (T8.setTop (mkF m 53 #[.val (.ref p1), .val (.int (0 : Int32)), .val (.int p3), .val (.long p4), .second, .val (.int ((1 : Int32) + x6_31)), .val (.int x6_31), .val (.int (i + (1 : Int32)))] []))
        exact ih6 _ (by have := own_lt c57_7 hll hi; omega) (ii + 1) (i + (1 : Int32)) fn9 _ _ _ rfl (ixadd hi (by decide) (by omega)) (by have := own_lt c57_7 hll hi; omega) (by rw [hfn9]; show (if 0 = ll - ii then _ else fi 0) = _; rw [if_neg (by have := own_lt c57_7 hll hi; omega)]; exact hf0) X8 e8 N8 Z_8 KK_8 Vp1_8
      · refine A (XS.icmpYes X6.here hx rfl (pc0 := 57) (pc' := 84) rfl (hb hby d1_57) rfl (flt c57_7).2.1 (by decide) (by decide)) ?_
        show D (T6.setTop (mkF m 84 #[.val (.ref p1), .val (.int (0 : Int32)), .val (.int p3), .val (.long p4), .second, .val (.int ((1 : Int32) + x6_31)), .val (.int x6_31), .val (.int i)] []))
        refine A (XS.iload X6.here hx rfl (hb hby d1_84) rfl) ?_
        show D (T6.setTop (mkF m 86 #[.val (.ref p1), .val (.int (0 : Int32)), .val (.int p3), .val (.long p4), .second, .val (.int ((1 : Int32) + x6_31)), .val (.int x6_31), .val (.int i)] [(.int ((1 : Int32) + x6_31))]))
        refine F _ (Jvm.JW.ret X6 hlk (v := some (.int ((1 : Int32) + x6_31))) (fun h => by rw [hrt] at h; cases h) (fun fs hr => retOut X6 hx hrt rfl (Or.inl ⟨rfl, Or.inl rfl, _, rfl⟩) (hb hby d1_86) hr) e6 ?_ (by decide) (by decide))
        exact ⟨((1 : Int32) + x6_31), fi, rfl, N6, KK_6, V_p1_6, (own_qb hp3 c5_1 hl8 hf0)⟩
  · refine A (XS.ifNo X0.here hx rfl (hb hby d1_5) rfl ((if0 _ _).trans (flt c5_1).2.2.1)) ?_
    show D (T0.setTop (mkF m 8 #[.val (.ref p1), .val (.int (0 : Int32)), .val (.int p3), .val (.long p4), .second, .unset, .unset, .unset] []))
    refine A (XS.aloadN X0.here hx rfl (hb hby d1_8) rfl rfl) ?_
    show D (T0.setTop (mkF m 9 #[.val (.ref p1), .val (.int (0 : Int32)), .val (.int p3), .val (.long p4), .second, .unset, .unset, .unset] [(.ref p1)]))
    refine A (XS.iloadN X0.here hx rfl (hb hby d1_9) rfl) ?_
    show D (T0.setTop (mkF m 10 #[.val (.ref p1), .val (.int (0 : Int32)), .val (.int p3), .val (.long p4), .second, .unset, .unset, .unset] [(.int (0 : Int32)), (.ref p1)]))
    refine A (XS.iloadN X0.here hx rfl (hb hby d1_10) rfl) ?_
    show D (T0.setTop (mkF m 11 #[.val (.ref p1), .val (.int (0 : Int32)), .val (.int p3), .val (.long p4), .second, .unset, .unset, .unset] [(.int p3), (.int (0 : Int32)), (.ref p1)]))
    refine A (XS.i2l X0.here hx rfl (hb hby d1_11) rfl) ?_
    show D (T0.setTop (mkF m 12 #[.val (.ref p1), .val (.int (0 : Int32)), .val (.int p3), .val (.long p4), .second, .unset, .unset, .unset] [(.long (p3.toInt64)), (.int (0 : Int32)), (.ref p1)]))
    refine A (XS.lloadN X0.here hx rfl (hb hby d1_12) rfl) ?_
    show D (T0.setTop (mkF m 13 #[.val (.ref p1), .val (.int (0 : Int32)), .val (.int p3), .val (.long p4), .second, .unset, .unset, .unset] [(.long p4), (.long (p3.toInt64)), (.int (0 : Int32)), (.ref p1)]))
    refine A (XS.ladd X0.here hx rfl (hb hby d1_13) rfl) ?_
    show D (T0.setTop (mkF m 14 #[.val (.ref p1), .val (.int (0 : Int32)), .val (.int p3), .val (.long p4), .second, .unset, .unset, .unset] [(.long ((p3.toInt64) + p4)), (.int (0 : Int32)), (.ref p1)]))
    refine A (XS.l2i X0.here hx rfl (hb hby d1_14) rfl) ?_
    show D (T0.setTop (mkF m 15 #[.val (.ref p1), .val (.int (0 : Int32)), .val (.int p3), .val (.long p4), .second, .unset, .unset, .unset] [(.int (((p3.toInt64) + p4).toInt32)), (.int (0 : Int32)), (.ref p1)]))
    refine A (XS.i2b X0.here hx rfl (hb hby d1_15) rfl) ?_
    show D (T0.setTop (mkF m 16 #[.val (.ref p1), .val (.int (0 : Int32)), .val (.int p3), .val (.long p4), .second, .unset, .unset, .unset] [(.int ((((p3.toInt64) + p4).toInt32).toInt8.toInt32)), (.int (0 : Int32)), (.ref p1)]))
    refine Adv.stB A X0 hx hZ e0 V_p1 (k := 0) (by decide) (by omega) (g := (mkF m 16 #[.val (.ref p1), .val (.int (0 : Int32)), .val (.int p3), .val (.long p4), .second, .unset, .unset, .unset] [(.int ((((p3.toInt64) + p4).toInt32).toInt8.toInt32)), (.int (0 : Int32)), (.ref p1)])) rfl rfl (hb hby d1_16) ?_
    intro T10 h10 X10 e10 W10 Vp1_10
    have N10 := Fr.snoc X10 (Fr.nil n0) g_p1
    have Z_10 : n0 ≤ h10.size := Nat.le_trans Z0 (Nat.le_of_eq W10.size.symm)
    have KK_10 : Keep h0 h10 [p1] := (Keep.refl h0 [p1]).wr W10 (Or.inl (List.mem_of_getElem? (i := 0) rfl))
    show D (T10.setTop (mkF m 17 #[.val (.ref p1), .val (.int (0 : Int32)), .val (.int p3), .val (.long p4), .second, .unset, .unset, .unset] []))
    obtain ⟨fn11, hfn11⟩ : ∃ z : Nat → Int32, z = (fun ix => if ix = 0 then ((((p3.toInt64) + p4).toInt32).toInt8.toInt32).toInt8.toInt32 else f ix) := ⟨_, rfl⟩
    rw [← hfn11] at Vp1_10
    refine A (XS.iloadN X10.here hx rfl (hb hby d1_17) rfl) ?_
    show D (T10.setTop (mkF m 18 #[.val (.ref p1), .val (.int (0 : Int32)), .val (.int p3), .val (.long p4), .second, .unset, .unset, .unset] [(.int (0 : Int32))]))
    refine A (XS.iconst X10.here hx rfl (hb hby d1_18)) ?_
    show D (T10.setTop (mkF m 19 #[.val (.ref p1), .val (.int (0 : Int32)), .val (.int p3), .val (.long p4), .second, .unset, .unset, .unset] [(.int (1 : Int32)), (.int (0 : Int32))]))
    refine A (XS.iadd X10.here hx rfl (hb hby d1_19) rfl) ?_
    show D (T10.setTop (mkF m 20 #[.val (.ref p1), .val (.int (0 : Int32)), .val (.int p3), .val (.long p4), .second, .unset, .unset, .unset] [(.int ((0 : Int32) + (1 : Int32)))]))
    suffices Kq12 : ∀ q12 : Int32, q12 = (1 : Int32) → D (T10.setTop (mkF m 20 #[.val (.ref p1), .val (.int (0 : Int32)), .val (.int p3), .val (.long p4), .second, .unset, .unset, .unset] [(.int q12)])) from Kq12 _ (by decide)
    rintro _ rfl
    show D (T10.setTop (mkF m 20 #[.val (.ref p1), .val (.int (0 : Int32)), .val (.int p3), .val (.long p4), .second, .unset, .unset, .unset] [(.int (1 : Int32))]))
    refine A (XS.istore X10.here hx rfl (hb hby d1_20) rfl (l' := #[.val (.ref p1), .val (.int (0 : Int32)), .val (.int p3), .val (.long p4), .second, .val (.int (1 : Int32)), .unset, .unset]) rfl) ?_
    show D (T10.setTop (mkF m 22 #[.val (.ref p1), .val (.int (0 : Int32)), .val (.int p3), .val (.long p4), .second, .val (.int (1 : Int32)), .unset, .unset] []))
    refine A (XS.goto X10.here hx rfl (pc0 := 22) (pc' := 84) rfl (hb hby d1_22) (by decide) (by decide)) ?_
    show D (T10.setTop (mkF m 84 #[.val (.ref p1), .val (.int (0 : Int32)), .val (.int p3), .val (.long p4), .second, .val (.int (1 : Int32)), .unset, .unset] []))
    refine A (XS.iload X10.here hx rfl (hb hby d1_84) rfl) ?_
    show D (T10.setTop (mkF m 86 #[.val (.ref p1), .val (.int (0 : Int32)), .val (.int p3), .val (.long p4), .second, .val (.int (1 : Int32)), .unset, .unset] [(.int (1 : Int32))]))
    refine F _ (Jvm.JW.ret X10 hlk (v := some (.int (1 : Int32))) (fun h => by rw [hrt] at h; cases h) (fun fs hr => retOut X10 hx hrt rfl (Or.inl ⟨rfl, Or.inl rfl, _, rfl⟩) (hb hby d1_86) hr) e10 ?_ (by decide) (by decide))
    exact ⟨(1 : Int32), fn11, rfl, N10, KK_10, Vp1_10, (own_qa hp3 hp4 c5_1 (by rw [hfn11]; rfl))⟩
theorem own_base {v x : Int32} (h : v = (if (x &&& (1 : Int32)) = (0 : Int32) then (128 : Int32) else (192 : Int32))) : v.toInt = 128 ∨ v.toInt = 192 := by
  rw [h]; split
  · exact Or.inl (by decide)
  · exact Or.inr (by decide)
theorem own_len {v x : Int64} (h : v = (x &&& (9223372036854775807 : Int64))) : 0 ≤ v.toInt := by
  have := c_maskL x 9223372036854775807 63 (by decide) (by decide)
  rw [h]; omega
theorem own_fin (x4 x7 x11 w : Int32) (h7 : x7.toInt = (128 : Int32).toInt) (h11 : 128 ≤ x11.toInt) (hw : w = (if x4 < x7 then (1 : Int32) else (0 : Int32))) :
    (if (f2 x4) = w then (if (127 : Int32) < x4 then (if (f2 x4) = (0 : Int32) then (if (f2 x11) = (0 : Int32) then (1 : Int32) else (0 : Int32)) else (0 : Int32)) else (if (f2 x4) = (1 : Int32) then (if (f2 x11) = (0 : Int32) then (1 : Int32) else (0 : Int32)) else (0 : Int32))) else (0 : Int32)) = 1 := by
  have e7 : x7 = 128 := Int32.toInt_inj.mp h7
  subst e7
  have e128 : (128 : Int32).toInt = 128 := rfl
  have e127 : (127 : Int32).toInt = 127 := rfl
  have e11 : f2 x11 = 0 := by unfold f2; rw [if_neg (by rw [Int32.lt_iff_toInt_lt]; omega)]
  by_cases h : x4 < 128
  · have e4 : f2 x4 = 1 := by unfold f2; rw [if_pos h]
    rw [if_pos h] at hw
    rw [Int32.lt_iff_toInt_lt] at h
    rw [e4, e11, hw, if_pos rfl, if_neg (by rw [Int32.lt_iff_toInt_lt]; omega), if_pos rfl, if_pos rfl]
  · have e4 : f2 x4 = 0 := by unfold f2; rw [if_neg h]
    rw [if_neg h] at hw
    rw [Int32.lt_iff_toInt_lt] at h
    rw [e4, e11, hw, if_pos rfl, if_pos (by rw [Int32.lt_iff_toInt_lt]; omega), if_pos rfl, if_pos rfl]
theorem pn0 : plainFor x = true := by decide +kernel
theorem pd0_0 : parseMethodDescriptor "([BIIJ)I" = some ⟨[(.array .byte), .int, .int, .long], some .int⟩ := by decide +kernel
theorem pd0_1 : parseMethodDescriptor "(I)Z" = some ⟨[.int], some .boolean⟩ := by decide +kernel
theorem ef0 (p1 : Int32) (p2 : Int64) (p3 : Int32) (m : MethodId) : entryFrame m #[(.int p1), (.long p2), (.int p3)] maxLocals = mkF m 0 #[.val (.int p1), .val (.long p2), .second, .val (.int p3), .unset, .unset, .unset, .unset, .unset, .unset, .unset, .unset, .unset, .unset] [] := by first | (simp [entryFrame, mkF, argsToLocals, Value.category, maxLocals]; done) | rfl
set_option maxRecDepth 65536 in
set_option maxHeartbeats 40000000 in
theorem rm0 (l : Launch) (Z : State) (a0 : Array Value) (hw : ∀ d ∈ tables_1, d.before a0 Z = true) (ws : List Jvm.Cond) (p1 : Int32) (p2 : Int64) (p3 : Int32) (h0 : Heap) (n0 : Nat) (Z0 : n0 ≤ h0.size) :
    JMet l Z x code maxLocals ret ws room_1 #[(.int p1), (.long p2), (.int p3)] h0 (QL n0) := by
  refine Jvm.JW.body #[.val (.int p1), .val (.long p2), .second, .val (.int p3), .unset, .unset, .unset, .unset, .unset, .unset, .unset, .unset, .unset, .unset] pn0 (ef0 p1 p2 p3) ?_
  intro p e s m below meth c T0 D A F X0 hx hZ hby hml hown hnm hrt hlk e0
  refine A (XS.iloadN X0.here hx rfl (hb hby at_0) rfl) ?_
  show D (T0.setTop (mkF m 1 #[.val (.int p1), .val (.long p2), .second, .val (.int p3), .unset, .unset, .unset, .unset, .unset, .unset, .unset, .unset, .unset, .unset] [(.int p1)]))
  refine A (XS.sipush X0.here hx rfl (hb hby at_1)) ?_
  show D (T0.setTop (mkF m 4 #[.val (.int p1), .val (.long p2), .second, .val (.int p3), .unset, .unset, .unset, .unset, .unset, .unset, .unset, .unset, .unset, .unset] [(.int (255 : Int32)), (.int p1)]))
  refine A (XS.iand X0.here hx rfl (hb hby at_4) rfl) ?_
  show D (T0.setTop (mkF m 5 #[.val (.int p1), .val (.long p2), .second, .val (.int p3), .unset, .unset, .unset, .unset, .unset, .unset, .unset, .unset, .unset, .unset] [(.int (p1 &&& (255 : Int32)))]))
  refine A (XS.istore X0.here hx rfl (hb hby at_5) rfl (l' := #[.val (.int p1), .val (.long p2), .second, .val (.int p3), .val (.int (p1 &&& (255 : Int32))), .unset, .unset, .unset, .unset, .unset, .unset, .unset, .unset, .unset]) rfl) ?_
  show D (T0.setTop (mkF m 7 #[.val (.int p1), .val (.long p2), .second, .val (.int p3), .val (.int (p1 &&& (255 : Int32))), .unset, .unset, .unset, .unset, .unset, .unset, .unset, .unset, .unset] []))
  suffices Kx4_7 : ∀ x4_7 : Int32, x4_7 = (p1 &&& (255 : Int32)) → D (T0.setTop (mkF m 7 #[.val (.int p1), .val (.long p2), .second, .val (.int p3), .val (.int x4_7), .unset, .unset, .unset, .unset, .unset, .unset, .unset, .unset, .unset] [])) from Kx4_7 _ rfl
  intro x4_7 hx4_7
  refine A (XS.iconst X0.here hx rfl (hb hby at_7)) ?_
  show D (T0.setTop (mkF m 8 #[.val (.int p1), .val (.long p2), .second, .val (.int p3), .val (.int x4_7), .unset, .unset, .unset, .unset, .unset, .unset, .unset, .unset, .unset] [(.int (1 : Int32))]))
  refine Adv.newI A X0 hx hZ (aty := .byte) (hw _ (List.mem_of_getElem? (i := 0) rfl)) e0 (n := 1) (by decide) 1 (by decide) (by decide) rfl (ad := "[B") (by decide) (by decide) (by decide) (g := (mkF m 8 #[.val (.int p1), .val (.long p2), .second, .val (.int p3), .val (.int x4_7), .unset, .unset, .unset, .unset, .unset, .unset, .unset, .unset, .unset] [(.int (1 : Int32))])) rfl rfl (hb hby at_8) ?_
  intro T1 h1 b1 q_b1 X1 e1 E1 V_b1 EA_b1
  have g_b1 : n0 ≤ b1 := Nat.le_trans Z0 (Nat.le_of_eq q_b1.symm)
  have Z_1 : n0 ≤ h1.size := Nat.le_trans Z0 E1.1
  show D (T1.setTop (mkF m 10 #[.val (.int p1), .val (.long p2), .second, .val (.int p3), .val (.int x4_7), .unset, .unset, .unset, .unset, .unset, .unset, .unset, .unset, .unset] [(.ref b1)]))
  refine A (XS.astore X1.here hx rfl (hb hby at_10) rfl rfl (l' := #[.val (.int p1), .val (.long p2), .second, .val (.int p3), .val (.int x4_7), .val (.ref b1), .unset, .unset, .unset, .unset, .unset, .unset, .unset, .unset]) rfl) ?_
  show D (T1.setTop (mkF m 12 #[.val (.int p1), .val (.long p2), .second, .val (.int p3), .val (.int x4_7), .val (.ref b1), .unset, .unset, .unset, .unset, .unset, .unset, .unset, .unset] []))
  refine A (XS.bipush X1.here hx rfl (hb hby at_12)) ?_
  show D (T1.setTop (mkF m 14 #[.val (.int p1), .val (.long p2), .second, .val (.int p3), .val (.int x4_7), .val (.ref b1), .unset, .unset, .unset, .unset, .unset, .unset, .unset, .unset] [(.int (9 : Int32))]))
  refine Adv.newI A X1 hx hZ (aty := .byte) (hw _ (List.mem_of_getElem? (i := 0) rfl)) e1 (n := 9) (by decide) 9 (by decide) (by decide) rfl (ad := "[B") (by decide) (by decide) (by decide) (g := (mkF m 14 #[.val (.int p1), .val (.long p2), .second, .val (.int p3), .val (.int x4_7), .val (.ref b1), .unset, .unset, .unset, .unset, .unset, .unset, .unset, .unset] [(.int (9 : Int32))])) rfl rfl (hb hby at_14) ?_
  intro T2 h2 b2 q_b2 X2 e2 E2 V_b2 EA_b2
  have ne_b1_b2 : b1 ≠ b2 := Nat.ne_of_lt (Nat.lt_of_lt_of_le V_b1.lt (Nat.le_of_eq q_b2.symm))
  have g_b2 : n0 ≤ b2 := Nat.le_trans Z_1 (Nat.le_of_eq q_b2.symm)
  have V_b1_2 := V_b1.ext E2
  have Z_2 : n0 ≤ h2.size := Nat.le_trans Z_1 E2.1
  show D (T2.setTop (mkF m 16 #[.val (.int p1), .val (.long p2), .second, .val (.int p3), .val (.int x4_7), .val (.ref b1), .unset, .unset, .unset, .unset, .unset, .unset, .unset, .unset] [(.ref b2)]))
  refine A (XS.astore X2.here hx rfl (hb hby at_16) rfl rfl (l' := #[.val (.int p1), .val (.long p2), .second, .val (.int p3), .val (.int x4_7), .val (.ref b1), .val (.ref b2), .unset, .unset, .unset, .unset, .unset, .unset, .unset]) rfl) ?_
  show D (T2.setTop (mkF m 18 #[.val (.int p1), .val (.long p2), .second, .val (.int p3), .val (.int x4_7), .val (.ref b1), .val (.ref b2), .unset, .unset, .unset, .unset, .unset, .unset, .unset] []))
  refine A (XS.aload X2.here hx rfl (hb hby at_18) rfl rfl) ?_
  show D (T2.setTop (mkF m 20 #[.val (.int p1), .val (.long p2), .second, .val (.int p3), .val (.int x4_7), .val (.ref b1), .val (.ref b2), .unset, .unset, .unset, .unset, .unset, .unset, .unset] [(.ref b1)]))
  refine A (XS.iconst X2.here hx rfl (hb hby at_20)) ?_
  show D (T2.setTop (mkF m 21 #[.val (.int p1), .val (.long p2), .second, .val (.int p3), .val (.int x4_7), .val (.ref b1), .val (.ref b2), .unset, .unset, .unset, .unset, .unset, .unset, .unset] [(.int (0 : Int32)), (.ref b1)]))
  refine A (XS.sipush X2.here hx rfl (hb hby at_21)) ?_
  show D (T2.setTop (mkF m 24 #[.val (.int p1), .val (.long p2), .second, .val (.int p3), .val (.int x4_7), .val (.ref b1), .val (.ref b2), .unset, .unset, .unset, .unset, .unset, .unset, .unset] [(.int (128 : Int32)), (.int (0 : Int32)), (.ref b1)]))
  refine A (XS.lconst X2.here hx rfl (hb hby at_24)) ?_
  show D (T2.setTop (mkF m 25 #[.val (.int p1), .val (.long p2), .second, .val (.int p3), .val (.int x4_7), .val (.ref b1), .val (.ref b2), .unset, .unset, .unset, .unset, .unset, .unset, .unset] [(.long (0 : Int64)), (.int (128 : Int32)), (.int (0 : Int32)), (.ref b1)]))
  refine Adv.callS A X2 hx hZ hown (hw _ (List.mem_of_getElem? (i := 1) rfl)) (hw _ (List.mem_of_getElem? (i := 2) rfl)) (hw _ (List.mem_of_getElem? (i := 3) rfl)) (hw _ (List.mem_of_getElem? (i := 4) rfl)) e2 (rm1 l Z a0 hw [] b1 (128 : Int32) (0 : Int64) h2 n0 1 (fun _ => 0) Z_2 g_b1 (Or.inl (by decide)) (by decide) (Or.inr ⟨rfl, by decide⟩) V_b1_2) 0 (g := (mkF m 25 #[.val (.int p1), .val (.long p2), .second, .val (.int p3), .val (.int x4_7), .val (.ref b1), .val (.ref b2), .unset, .unset, .unset, .unset, .unset, .unset, .unset] [(.long (0 : Int64)), (.int (128 : Int32)), (.int (0 : Int32)), (.ref b1)])) rfl (by rw [hml]; rfl) [(.ref b1), (.int (0 : Int32)), (.int (128 : Int32)), (.long (0 : Int64))] [] rfl (lenOf pd0_0 rfl) rfl (by show 2 * 0 + _ ≤ _; exact Nat.le_of_eq rfl) (hb hby at_25) (by decide) (by decide) (by decide) (by decide) (by decide) ?_
  rintro T3 L3 _ X3 ⟨rw3, fw3, rfl, N3_q, K3, V3_q, P3⟩
  have N3 := Fr.app (Fr.nil n0) N3_q
  have V_b2_3 := V_b2.keep K3 (ninS (Ne.symm ne_b1_b2) nin0)
  have Z_3 : n0 ≤ T3.heap.size := Nat.le_trans Z_2 K3.1
  show D (T3.setTop (mkF m 28 #[.val (.int p1), .val (.long p2), .second, .val (.int p3), .val (.int x4_7), .val (.ref b1), .val (.ref b2), .unset, .unset, .unset, .unset, .unset, .unset, .unset] [(.int rw3)]))
  refine A (XS.pop X3.here hx rfl (hb hby at_28) rfl rfl) ?_
  show D (T3.setTop (mkF m 29 #[.val (.int p1), .val (.long p2), .second, .val (.int p3), .val (.int x4_7), .val (.ref b1), .val (.ref b2), .unset, .unset, .unset, .unset, .unset, .unset, .unset] []))
  refine A (XS.aload X3.here hx rfl (hb hby at_29) rfl rfl) ?_
  show D (T3.setTop (mkF m 31 #[.val (.int p1), .val (.long p2), .second, .val (.int p3), .val (.int x4_7), .val (.ref b1), .val (.ref b2), .unset, .unset, .unset, .unset, .unset, .unset, .unset] [(.ref b1)]))
  refine A (XS.iconst X3.here hx rfl (hb hby at_31)) ?_
  show D (T3.setTop (mkF m 32 #[.val (.int p1), .val (.long p2), .second, .val (.int p3), .val (.int x4_7), .val (.ref b1), .val (.ref b2), .unset, .unset, .unset, .unset, .unset, .unset, .unset] [(.int (0 : Int32)), (.ref b1)]))
  refine Adv.ldB A X3 hx hZ rfl V3_q (k := 0) (by decide) (by decide) (g := (mkF m 32 #[.val (.int p1), .val (.long p2), .second, .val (.int p3), .val (.int x4_7), .val (.ref b1), .val (.ref b2), .unset, .unset, .unset, .unset, .unset, .unset, .unset] [(.int (0 : Int32)), (.ref b1)])) rfl rfl (hb hby at_32) ?_
  show D (T3.setTop (mkF m 33 #[.val (.int p1), .val (.long p2), .second, .val (.int p3), .val (.int x4_7), .val (.ref b1), .val (.ref b2), .unset, .unset, .unset, .unset, .unset, .unset, .unset] [(.int (fw3 0))]))
  refine A (XS.sipush X3.here hx rfl (hb hby at_33)) ?_
  show D (T3.setTop (mkF m 36 #[.val (.int p1), .val (.long p2), .second, .val (.int p3), .val (.int x4_7), .val (.ref b1), .val (.ref b2), .unset, .unset, .unset, .unset, .unset, .unset, .unset] [(.int (255 : Int32)), (.int (fw3 0))]))
  refine A (XS.iand X3.here hx rfl (hb hby at_36) rfl) ?_
  show D (T3.setTop (mkF m 37 #[.val (.int p1), .val (.long p2), .second, .val (.int p3), .val (.int x4_7), .val (.ref b1), .val (.ref b2), .unset, .unset, .unset, .unset, .unset, .unset, .unset] [(.int ((fw3 0) &&& (255 : Int32)))]))
  refine A (XS.istore X3.here hx rfl (hb hby at_37) rfl (l' := #[.val (.int p1), .val (.long p2), .second, .val (.int p3), .val (.int x4_7), .val (.ref b1), .val (.ref b2), .val (.int ((fw3 0) &&& (255 : Int32))), .unset, .unset, .unset, .unset, .unset, .unset]) rfl) ?_
  show D (T3.setTop (mkF m 39 #[.val (.int p1), .val (.long p2), .second, .val (.int p3), .val (.int x4_7), .val (.ref b1), .val (.ref b2), .val (.int ((fw3 0) &&& (255 : Int32))), .unset, .unset, .unset, .unset, .unset, .unset] []))
  suffices Kx7_39 : ∀ x7_39 : Int32, x7_39 = ((fw3 0) &&& (255 : Int32)) → D (T3.setTop (mkF m 39 #[.val (.int p1), .val (.long p2), .second, .val (.int p3), .val (.int x4_7), .val (.ref b1), .val (.ref b2), .val (.int x7_39), .unset, .unset, .unset, .unset, .unset, .unset] [])) from Kx7_39 _ rfl
  intro x7_39 hx7_39
  refine A (XS.iloadN X3.here hx rfl (hb hby at_39) rfl) ?_
  show D (T3.setTop (mkF m 40 #[.val (.int p1), .val (.long p2), .second, .val (.int p3), .val (.int x4_7), .val (.ref b1), .val (.ref b2), .val (.int x7_39), .unset, .unset, .unset, .unset, .unset, .unset] [(.int p3)]))
  refine A (XS.iconst X3.here hx rfl (hb hby at_40)) ?_
  show D (T3.setTop (mkF m 41 #[.val (.int p1), .val (.long p2), .second, .val (.int p3), .val (.int x4_7), .val (.ref b1), .val (.ref b2), .val (.int x7_39), .unset, .unset, .unset, .unset, .unset, .unset] [(.int (1 : Int32)), (.int p3)]))
  refine A (XS.iand X3.here hx rfl (hb hby at_41) rfl) ?_
  show D (T3.setTop (mkF m 42 #[.val (.int p1), .val (.long p2), .second, .val (.int p3), .val (.int x4_7), .val (.ref b1), .val (.ref b2), .val (.int x7_39), .unset, .unset, .unset, .unset, .unset, .unset] [(.int (p3 &&& (1 : Int32)))]))
  suffices Km54_4 : ∀ (v54s0 : Int32), v54s0 = (if (p3 &&& (1 : Int32)) = (0 : Int32) then (128 : Int32) else (192 : Int32)) → D (T3.setTop (mkF m 54 #[.val (.int p1), .val (.long p2), .second, .val (.int p3), .val (.int x4_7), .val (.ref b1), .val (.ref b2), .val (.int x7_39), .unset, .unset, .unset, .unset, .unset, .unset] [(.int v54s0)])) by
    by_cases c42_0 : (p3 &&& (1 : Int32)) = (0 : Int32)
    · refine A (XS.ifYes X3.here hx rfl (pc0 := 42) (pc' := 51) rfl (hb hby at_42) rfl ((if0 _ _).trans (teq c42_0).1) (by decide) (by decide)) ?_
      show D (T3.setTop (mkF m 51 #[.val (.int p1), .val (.long p2), .second, .val (.int p3), .val (.int x4_7), .val (.ref b1), .val (.ref b2), .val (.int x7_39), .unset, .unset, .unset, .unset, .unset, .unset] []))
      refine A (XS.sipush X3.here hx rfl (hb hby at_51)) ?_
      show D (T3.setTop (mkF m 54 #[.val (.int p1), .val (.long p2), .second, .val (.int p3), .val (.int x4_7), .val (.ref b1), .val (.ref b2), .val (.int x7_39), .unset, .unset, .unset, .unset, .unset, .unset] [(.int (128 : Int32))]))
      exact Km54_4 _ ((if_pos c42_0)).symm
    · refine A (XS.ifNo X3.here hx rfl (hb hby at_42) rfl ((if0 _ _).trans (feq c42_0).1)) ?_
      show D (T3.setTop (mkF m 45 #[.val (.int p1), .val (.long p2), .second, .val (.int p3), .val (.int x4_7), .val (.ref b1), .val (.ref b2), .val (.int x7_39), .unset, .unset, .unset, .unset, .unset, .unset] []))
      refine A (XS.sipush X3.here hx rfl (hb hby at_45)) ?_
      show D (T3.setTop (mkF m 48 #[.val (.int p1), .val (.long p2), .second, .val (.int p3), .val (.int x4_7), .val (.ref b1), .val (.ref b2), .val (.int x7_39), .unset, .unset, .unset, .unset, .unset, .unset] [(.int (192 : Int32))]))
      refine A (XS.goto X3.here hx rfl (pc0 := 48) (pc' := 54) rfl (hb hby at_48) (by decide) (by decide)) ?_
      show D (T3.setTop (mkF m 54 #[.val (.int p1), .val (.long p2), .second, .val (.int p3), .val (.int x4_7), .val (.ref b1), .val (.ref b2), .val (.int x7_39), .unset, .unset, .unset, .unset, .unset, .unset] [(.int (192 : Int32))]))
      exact Km54_4 _ ((if_neg c42_0)).symm
  intro v54s0 hv54s0
  show D (T3.setTop (mkF m 54 #[.val (.int p1), .val (.long p2), .second, .val (.int p3), .val (.int x4_7), .val (.ref b1), .val (.ref b2), .val (.int x7_39), .unset, .unset, .unset, .unset, .unset, .unset] [(.int v54s0)]))
  refine A (XS.istore X3.here hx rfl (hb hby at_54) rfl (l' := #[.val (.int p1), .val (.long p2), .second, .val (.int p3), .val (.int x4_7), .val (.ref b1), .val (.ref b2), .val (.int x7_39), .val (.int v54s0), .unset, .unset, .unset, .unset, .unset]) rfl) ?_
  show D (T3.setTop (mkF m 56 #[.val (.int p1), .val (.long p2), .second, .val (.int p3), .val (.int x4_7), .val (.ref b1), .val (.ref b2), .val (.int x7_39), .val (.int v54s0), .unset, .unset, .unset, .unset, .unset] []))
  refine A (XS.lloadN X3.here hx rfl (hb hby at_56) rfl) ?_
  show D (T3.setTop (mkF m 57 #[.val (.int p1), .val (.long p2), .second, .val (.int p3), .val (.int x4_7), .val (.ref b1), .val (.ref b2), .val (.int x7_39), .val (.int v54s0), .unset, .unset, .unset, .unset, .unset] [(.long p2)]))
  refine A (X3.ldc2Long hx hown (mvT hZ (hw _ (List.mem_of_getElem? (i := 6) rfl))) (g := (mkF m 57 #[.val (.int p1), .val (.long p2), .second, .val (.int p3), .val (.int x4_7), .val (.ref b1), .val (.ref b2), .val (.int x7_39), .val (.int v54s0), .unset, .unset, .unset, .unset, .unset] [(.long p2)])) rfl (hb hby at_57) _) ?_
  show D (T3.setTop (mkF m 60 #[.val (.int p1), .val (.long p2), .second, .val (.int p3), .val (.int x4_7), .val (.ref b1), .val (.ref b2), .val (.int x7_39), .val (.int v54s0), .unset, .unset, .unset, .unset, .unset] [(.long (9223372036854775807 : Int64)), (.long p2)]))
  refine A (XS.land X3.here hx rfl (hb hby at_60) rfl) ?_
  show D (T3.setTop (mkF m 61 #[.val (.int p1), .val (.long p2), .second, .val (.int p3), .val (.int x4_7), .val (.ref b1), .val (.ref b2), .val (.int x7_39), .val (.int v54s0), .unset, .unset, .unset, .unset, .unset] [(.long (p2 &&& (9223372036854775807 : Int64)))]))
  refine A (XS.lstore X3.here hx rfl (hb hby at_61) rfl (l' := #[.val (.int p1), .val (.long p2), .second, .val (.int p3), .val (.int x4_7), .val (.ref b1), .val (.ref b2), .val (.int x7_39), .val (.int v54s0), .val (.long (p2 &&& (9223372036854775807 : Int64))), .second, .unset, .unset, .unset]) rfl) ?_
  show D (T3.setTop (mkF m 63 #[.val (.int p1), .val (.long p2), .second, .val (.int p3), .val (.int x4_7), .val (.ref b1), .val (.ref b2), .val (.int x7_39), .val (.int v54s0), .val (.long (p2 &&& (9223372036854775807 : Int64))), .second, .unset, .unset, .unset] []))
  suffices Kx9_63 : ∀ x9_63 : Int64, x9_63 = (p2 &&& (9223372036854775807 : Int64)) → D (T3.setTop (mkF m 63 #[.val (.int p1), .val (.long p2), .second, .val (.int p3), .val (.int x4_7), .val (.ref b1), .val (.ref b2), .val (.int x7_39), .val (.int v54s0), .val (.long x9_63), .second, .unset, .unset, .unset] [])) from Kx9_63 _ rfl
  intro x9_63 hx9_63
  refine A (XS.aload X3.here hx rfl (hb hby at_63) rfl rfl) ?_
  show D (T3.setTop (mkF m 65 #[.val (.int p1), .val (.long p2), .second, .val (.int p3), .val (.int x4_7), .val (.ref b1), .val (.ref b2), .val (.int x7_39), .val (.int v54s0), .val (.long x9_63), .second, .unset, .unset, .unset] [(.ref b2)]))
  refine A (XS.iconst X3.here hx rfl (hb hby at_65)) ?_
  show D (T3.setTop (mkF m 66 #[.val (.int p1), .val (.long p2), .second, .val (.int p3), .val (.int x4_7), .val (.ref b1), .val (.ref b2), .val (.int x7_39), .val (.int v54s0), .val (.long x9_63), .second, .unset, .unset, .unset] [(.int (0 : Int32)), (.ref b2)]))
  refine A (XS.iload X3.here hx rfl (hb hby at_66) rfl) ?_
  show D (T3.setTop (mkF m 68 #[.val (.int p1), .val (.long p2), .second, .val (.int p3), .val (.int x4_7), .val (.ref b1), .val (.ref b2), .val (.int x7_39), .val (.int v54s0), .val (.long x9_63), .second, .unset, .unset, .unset] [(.int v54s0), (.int (0 : Int32)), (.ref b2)]))
  refine A (XS.lload X3.here hx rfl (hb hby at_68) rfl) ?_
  show D (T3.setTop (mkF m 70 #[.val (.int p1), .val (.long p2), .second, .val (.int p3), .val (.int x4_7), .val (.ref b1), .val (.ref b2), .val (.int x7_39), .val (.int v54s0), .val (.long x9_63), .second, .unset, .unset, .unset] [(.long x9_63), (.int v54s0), (.int (0 : Int32)), (.ref b2)]))
  refine Adv.callS A X3 hx hZ hown (hw _ (List.mem_of_getElem? (i := 1) rfl)) (hw _ (List.mem_of_getElem? (i := 2) rfl)) (hw _ (List.mem_of_getElem? (i := 3) rfl)) (hw _ (List.mem_of_getElem? (i := 4) rfl)) rfl (rm1 l Z a0 hw [] b2 v54s0 x9_63 T3.heap n0 9 (fun _ => 0) Z_3 g_b2 (own_base hv54s0) (own_len hx9_63) (Or.inl rfl) V_b2_3) 0 (g := (mkF m 70 #[.val (.int p1), .val (.long p2), .second, .val (.int p3), .val (.int x4_7), .val (.ref b1), .val (.ref b2), .val (.int x7_39), .val (.int v54s0), .val (.long x9_63), .second, .unset, .unset, .unset] [(.long x9_63), (.int v54s0), (.int (0 : Int32)), (.ref b2)])) rfl (by rw [hml]; rfl) [(.ref b2), (.int (0 : Int32)), (.int v54s0), (.long x9_63)] [] rfl (lenOf pd0_0 rfl) rfl (by show 2 * 0 + _ ≤ _; exact Nat.le_of_eq rfl) (hb hby at_70) (by decide) (by decide) (by decide) (by decide) (by decide) ?_
  rintro T5 L5 _ X5 ⟨rw5, fw5, rfl, N5_q, K5, V5_q, P5⟩
  have N5 := Fr.app N3 N5_q
  have V_b1_5 := V3_q.keep K5 (ninS ne_b1_b2 nin0)
  have Z_5 : n0 ≤ T5.heap.size := Nat.le_trans Z_3 K5.1
  show D (T5.setTop (mkF m 73 #[.val (.int p1), .val (.long p2), .second, .val (.int p3), .val (.int x4_7), .val (.ref b1), .val (.ref b2), .val (.int x7_39), .val (.int v54s0), .val (.long x9_63), .second, .unset, .unset, .unset] [(.int rw5)]))
  refine A (XS.pop X5.here hx rfl (hb hby at_73) rfl rfl) ?_
  show D (T5.setTop (mkF m 74 #[.val (.int p1), .val (.long p2), .second, .val (.int p3), .val (.int x4_7), .val (.ref b1), .val (.ref b2), .val (.int x7_39), .val (.int v54s0), .val (.long x9_63), .second, .unset, .unset, .unset] []))
  refine A (XS.aload X5.here hx rfl (hb hby at_74) rfl rfl) ?_
  show D (T5.setTop (mkF m 76 #[.val (.int p1), .val (.long p2), .second, .val (.int p3), .val (.int x4_7), .val (.ref b1), .val (.ref b2), .val (.int x7_39), .val (.int v54s0), .val (.long x9_63), .second, .unset, .unset, .unset] [(.ref b2)]))
  refine A (XS.iconst X5.here hx rfl (hb hby at_76)) ?_
  show D (T5.setTop (mkF m 77 #[.val (.int p1), .val (.long p2), .second, .val (.int p3), .val (.int x4_7), .val (.ref b1), .val (.ref b2), .val (.int x7_39), .val (.int v54s0), .val (.long x9_63), .second, .unset, .unset, .unset] [(.int (0 : Int32)), (.ref b2)]))
  refine Adv.ldB A X5 hx hZ rfl V5_q (k := 0) (by decide) (by decide) (g := (mkF m 77 #[.val (.int p1), .val (.long p2), .second, .val (.int p3), .val (.int x4_7), .val (.ref b1), .val (.ref b2), .val (.int x7_39), .val (.int v54s0), .val (.long x9_63), .second, .unset, .unset, .unset] [(.int (0 : Int32)), (.ref b2)])) rfl rfl (hb hby at_77) ?_
  show D (T5.setTop (mkF m 78 #[.val (.int p1), .val (.long p2), .second, .val (.int p3), .val (.int x4_7), .val (.ref b1), .val (.ref b2), .val (.int x7_39), .val (.int v54s0), .val (.long x9_63), .second, .unset, .unset, .unset] [(.int (fw5 0))]))
  refine A (XS.sipush X5.here hx rfl (hb hby at_78)) ?_
  show D (T5.setTop (mkF m 81 #[.val (.int p1), .val (.long p2), .second, .val (.int p3), .val (.int x4_7), .val (.ref b1), .val (.ref b2), .val (.int x7_39), .val (.int v54s0), .val (.long x9_63), .second, .unset, .unset, .unset] [(.int (255 : Int32)), (.int (fw5 0))]))
  refine A (XS.iand X5.here hx rfl (hb hby at_81) rfl) ?_
  show D (T5.setTop (mkF m 82 #[.val (.int p1), .val (.long p2), .second, .val (.int p3), .val (.int x4_7), .val (.ref b1), .val (.ref b2), .val (.int x7_39), .val (.int v54s0), .val (.long x9_63), .second, .unset, .unset, .unset] [(.int ((fw5 0) &&& (255 : Int32)))]))
  refine A (XS.istore X5.here hx rfl (hb hby at_82) rfl (l' := #[.val (.int p1), .val (.long p2), .second, .val (.int p3), .val (.int x4_7), .val (.ref b1), .val (.ref b2), .val (.int x7_39), .val (.int v54s0), .val (.long x9_63), .second, .val (.int ((fw5 0) &&& (255 : Int32))), .unset, .unset]) rfl) ?_
  show D (T5.setTop (mkF m 84 #[.val (.int p1), .val (.long p2), .second, .val (.int p3), .val (.int x4_7), .val (.ref b1), .val (.ref b2), .val (.int x7_39), .val (.int v54s0), .val (.long x9_63), .second, .val (.int ((fw5 0) &&& (255 : Int32))), .unset, .unset] []))
  suffices Kx11_84 : ∀ x11_84 : Int32, x11_84 = ((fw5 0) &&& (255 : Int32)) → D (T5.setTop (mkF m 84 #[.val (.int p1), .val (.long p2), .second, .val (.int p3), .val (.int x4_7), .val (.ref b1), .val (.ref b2), .val (.int x7_39), .val (.int v54s0), .val (.long x9_63), .second, .val (.int x11_84), .unset, .unset] [])) from Kx11_84 _ rfl
  intro x11_84 hx11_84
  refine A (XS.iload X5.here hx rfl (hb hby at_84) rfl) ?_
  show D (T5.setTop (mkF m 86 #[.val (.int p1), .val (.long p2), .second, .val (.int p3), .val (.int x4_7), .val (.ref b1), .val (.ref b2), .val (.int x7_39), .val (.int v54s0), .val (.long x9_63), .second, .val (.int x11_84), .unset, .unset] [(.int x4_7)]))
  refine Adv.callS A X5 hx hZ hown (hw _ (List.mem_of_getElem? (i := 7) rfl)) (hw _ (List.mem_of_getElem? (i := 8) rfl)) (hw _ (List.mem_of_getElem? (i := 3) rfl)) (hw _ (List.mem_of_getElem? (i := 9) rfl)) rfl (rm2 l Z a0 hw [] x4_7 T5.heap n0) 0 (g := (mkF m 86 #[.val (.int p1), .val (.long p2), .second, .val (.int p3), .val (.int x4_7), .val (.ref b1), .val (.ref b2), .val (.int x7_39), .val (.int v54s0), .val (.long x9_63), .second, .val (.int x11_84), .unset, .unset] [(.int x4_7)])) rfl (by rw [hml]; rfl) [(.int x4_7)] [] rfl (lenOf pd0_1 rfl) rfl (by show 2 * 0 + _ ≤ _; exact Nat.le_of_eq rfl) (hb hby at_86) (by decide) (by decide) (by decide) (by decide) (by decide) ?_
  rintro T6 L6 _ X6 ⟨rfl, N6_q, e6⟩
  have N6 := Fr.app N5 N6_q
  show D (T6.setTop (mkF m 89 #[.val (.int p1), .val (.long p2), .second, .val (.int p3), .val (.int x4_7), .val (.ref b1), .val (.ref b2), .val (.int x7_39), .val (.int v54s0), .val (.long x9_63), .second, .val (.int x11_84), .unset, .unset] [(.int (f2 x4_7))]))
  refine A (XS.istore X6.here hx rfl (hb hby at_89) rfl (l' := #[.val (.int p1), .val (.long p2), .second, .val (.int p3), .val (.int x4_7), .val (.ref b1), .val (.ref b2), .val (.int x7_39), .val (.int v54s0), .val (.long x9_63), .second, .val (.int x11_84), .val (.int (f2 x4_7)), .unset]) rfl) ?_
  show D (T6.setTop (mkF m 91 #[.val (.int p1), .val (.long p2), .second, .val (.int p3), .val (.int x4_7), .val (.ref b1), .val (.ref b2), .val (.int x7_39), .val (.int v54s0), .val (.long x9_63), .second, .val (.int x11_84), .val (.int (f2 x4_7)), .unset] []))
  refine A (XS.iload X6.here hx rfl (hb hby at_91) rfl) ?_
  show D (T6.setTop (mkF m 93 #[.val (.int p1), .val (.long p2), .second, .val (.int p3), .val (.int x4_7), .val (.ref b1), .val (.ref b2), .val (.int x7_39), .val (.int v54s0), .val (.long x9_63), .second, .val (.int x11_84), .val (.int (f2 x4_7)), .unset] [(.int x11_84)]))
  refine Adv.callS A X6 hx hZ hown (hw _ (List.mem_of_getElem? (i := 7) rfl)) (hw _ (List.mem_of_getElem? (i := 8) rfl)) (hw _ (List.mem_of_getElem? (i := 3) rfl)) (hw _ (List.mem_of_getElem? (i := 9) rfl)) e6 (rm2 l Z a0 hw [] x11_84 T5.heap n0) 0 (g := (mkF m 93 #[.val (.int p1), .val (.long p2), .second, .val (.int p3), .val (.int x4_7), .val (.ref b1), .val (.ref b2), .val (.int x7_39), .val (.int v54s0), .val (.long x9_63), .second, .val (.int x11_84), .val (.int (f2 x4_7)), .unset] [(.int x11_84)])) rfl (by rw [hml]; rfl) [(.int x11_84)] [] rfl (lenOf pd0_1 rfl) rfl (by show 2 * 0 + _ ≤ _; exact Nat.le_of_eq rfl) (hb hby at_93) (by decide) (by decide) (by decide) (by decide) (by decide) ?_
  rintro T7 L7 _ X7 ⟨rfl, N7_q, e7⟩
  have N7 := Fr.app N6 N7_q
  show D (T7.setTop (mkF m 96 #[.val (.int p1), .val (.long p2), .second, .val (.int p3), .val (.int x4_7), .val (.ref b1), .val (.ref b2), .val (.int x7_39), .val (.int v54s0), .val (.long x9_63), .second, .val (.int x11_84), .val (.int (f2 x4_7)), .unset] [(.int (f2 x11_84))]))
  refine A (XS.istore X7.here hx rfl (hb hby at_96) rfl (l' := #[.val (.int p1), .val (.long p2), .second, .val (.int p3), .val (.int x4_7), .val (.ref b1), .val (.ref b2), .val (.int x7_39), .val (.int v54s0), .val (.long x9_63), .second, .val (.int x11_84), .val (.int (f2 x4_7)), .val (.int (f2 x11_84))]) rfl) ?_
  show D (T7.setTop (mkF m 98 #[.val (.int p1), .val (.long p2), .second, .val (.int p3), .val (.int x4_7), .val (.ref b1), .val (.ref b2), .val (.int x7_39), .val (.int v54s0), .val (.long x9_63), .second, .val (.int x11_84), .val (.int (f2 x4_7)), .val (.int (f2 x11_84))] []))
  refine A (XS.iload X7.here hx rfl (hb hby at_98) rfl) ?_
  show D (T7.setTop (mkF m 100 #[.val (.int p1), .val (.long p2), .second, .val (.int p3), .val (.int x4_7), .val (.ref b1), .val (.ref b2), .val (.int x7_39), .val (.int v54s0), .val (.long x9_63), .second, .val (.int x11_84), .val (.int (f2 x4_7)), .val (.int (f2 x11_84))] [(.int (f2 x4_7))]))
  refine A (XS.iload X7.here hx rfl (hb hby at_100) rfl) ?_
  show D (T7.setTop (mkF m 102 #[.val (.int p1), .val (.long p2), .second, .val (.int p3), .val (.int x4_7), .val (.ref b1), .val (.ref b2), .val (.int x7_39), .val (.int v54s0), .val (.long x9_63), .second, .val (.int x11_84), .val (.int (f2 x4_7)), .val (.int (f2 x11_84))] [(.int x4_7), (.int (f2 x4_7))]))
  refine A (XS.iload X7.here hx rfl (hb hby at_102) rfl) ?_
  show D (T7.setTop (mkF m 104 #[.val (.int p1), .val (.long p2), .second, .val (.int p3), .val (.int x4_7), .val (.ref b1), .val (.ref b2), .val (.int x7_39), .val (.int v54s0), .val (.long x9_63), .second, .val (.int x11_84), .val (.int (f2 x4_7)), .val (.int (f2 x11_84))] [(.int x7_39), (.int x4_7), (.int (f2 x4_7))]))
  suffices Km112_8 : ∀ (v112s0 : Int32), v112s0 = (if x4_7 < x7_39 then (1 : Int32) else (0 : Int32)) → D (T7.setTop (mkF m 112 #[.val (.int p1), .val (.long p2), .second, .val (.int p3), .val (.int x4_7), .val (.ref b1), .val (.ref b2), .val (.int x7_39), .val (.int v54s0), .val (.long x9_63), .second, .val (.int x11_84), .val (.int (f2 x4_7)), .val (.int (f2 x11_84))] [(.int v112s0), (.int (f2 x4_7))])) by
    by_cases c104_0 : x4_7 < x7_39
    · refine A (XS.icmpNo X7.here hx rfl (hb hby at_104) rfl (tlt c104_0).2.1) ?_
      show D (T7.setTop (mkF m 107 #[.val (.int p1), .val (.long p2), .second, .val (.int p3), .val (.int x4_7), .val (.ref b1), .val (.ref b2), .val (.int x7_39), .val (.int v54s0), .val (.long x9_63), .second, .val (.int x11_84), .val (.int (f2 x4_7)), .val (.int (f2 x11_84))] [(.int (f2 x4_7))]))
      refine A (XS.iconst X7.here hx rfl (hb hby at_107)) ?_
      show D (T7.setTop (mkF m 108 #[.val (.int p1), .val (.long p2), .second, .val (.int p3), .val (.int x4_7), .val (.ref b1), .val (.ref b2), .val (.int x7_39), .val (.int v54s0), .val (.long x9_63), .second, .val (.int x11_84), .val (.int (f2 x4_7)), .val (.int (f2 x11_84))] [(.int (1 : Int32)), (.int (f2 x4_7))]))
      refine A (XS.goto X7.here hx rfl (pc0 := 108) (pc' := 112) rfl (hb hby at_108) (by decide) (by decide)) ?_
      show D (T7.setTop (mkF m 112 #[.val (.int p1), .val (.long p2), .second, .val (.int p3), .val (.int x4_7), .val (.ref b1), .val (.ref b2), .val (.int x7_39), .val (.int v54s0), .val (.long x9_63), .second, .val (.int x11_84), .val (.int (f2 x4_7)), .val (.int (f2 x11_84))] [(.int (1 : Int32)), (.int (f2 x4_7))]))
      exact Km112_8 _ ((if_pos c104_0)).symm
    · refine A (XS.icmpYes X7.here hx rfl (pc0 := 104) (pc' := 111) rfl (hb hby at_104) rfl (flt c104_0).2.1 (by decide) (by decide)) ?_
      show D (T7.setTop (mkF m 111 #[.val (.int p1), .val (.long p2), .second, .val (.int p3), .val (.int x4_7), .val (.ref b1), .val (.ref b2), .val (.int x7_39), .val (.int v54s0), .val (.long x9_63), .second, .val (.int x11_84), .val (.int (f2 x4_7)), .val (.int (f2 x11_84))] [(.int (f2 x4_7))]))
      refine A (XS.iconst X7.here hx rfl (hb hby at_111)) ?_
      show D (T7.setTop (mkF m 112 #[.val (.int p1), .val (.long p2), .second, .val (.int p3), .val (.int x4_7), .val (.ref b1), .val (.ref b2), .val (.int x7_39), .val (.int v54s0), .val (.long x9_63), .second, .val (.int x11_84), .val (.int (f2 x4_7)), .val (.int (f2 x11_84))] [(.int (0 : Int32)), (.int (f2 x4_7))]))
      exact Km112_8 _ ((if_neg c104_0)).symm
  intro v112s0 hv112s0
  show D (T7.setTop (mkF m 112 #[.val (.int p1), .val (.long p2), .second, .val (.int p3), .val (.int x4_7), .val (.ref b1), .val (.ref b2), .val (.int x7_39), .val (.int v54s0), .val (.long x9_63), .second, .val (.int x11_84), .val (.int (f2 x4_7)), .val (.int (f2 x11_84))] [(.int v112s0), (.int (f2 x4_7))]))
  suffices Km142_9 : ∀ (v142s0 : Int32), v142s0 = (if (f2 x4_7) = v112s0 then (if (127 : Int32) < x4_7 then (if (f2 x4_7) = (0 : Int32) then (if (f2 x11_84) = (0 : Int32) then (1 : Int32) else (0 : Int32)) else (0 : Int32)) else (if (f2 x4_7) = (1 : Int32) then (if (f2 x11_84) = (0 : Int32) then (1 : Int32) else (0 : Int32)) else (0 : Int32))) else (0 : Int32)) → D (T7.setTop (mkF m 142 #[.val (.int p1), .val (.long p2), .second, .val (.int p3), .val (.int x4_7), .val (.ref b1), .val (.ref b2), .val (.int x7_39), .val (.int v54s0), .val (.long x9_63), .second, .val (.int x11_84), .val (.int (f2 x4_7)), .val (.int (f2 x11_84))] [(.int v142s0)])) by
    by_cases c112_0 : (f2 x4_7) = v112s0
    · refine A (XS.icmpNo X7.here hx rfl (hb hby at_112) rfl (teq c112_0).2) ?_
      show D (T7.setTop (mkF m 115 #[.val (.int p1), .val (.long p2), .second, .val (.int p3), .val (.int x4_7), .val (.ref b1), .val (.ref b2), .val (.int x7_39), .val (.int v54s0), .val (.long x9_63), .second, .val (.int x11_84), .val (.int (f2 x4_7)), .val (.int (f2 x11_84))] []))
      refine A (XS.iload X7.here hx rfl (hb hby at_115) rfl) ?_
      show D (T7.setTop (mkF m 117 #[.val (.int p1), .val (.long p2), .second, .val (.int p3), .val (.int x4_7), .val (.ref b1), .val (.ref b2), .val (.int x7_39), .val (.int v54s0), .val (.long x9_63), .second, .val (.int x11_84), .val (.int (f2 x4_7)), .val (.int (f2 x11_84))] [(.int (f2 x4_7))]))
      refine A (XS.iload X7.here hx rfl (hb hby at_117) rfl) ?_
      show D (T7.setTop (mkF m 119 #[.val (.int p1), .val (.long p2), .second, .val (.int p3), .val (.int x4_7), .val (.ref b1), .val (.ref b2), .val (.int x7_39), .val (.int v54s0), .val (.long x9_63), .second, .val (.int x11_84), .val (.int (f2 x4_7)), .val (.int (f2 x11_84))] [(.int x4_7), (.int (f2 x4_7))]))
      refine A (XS.bipush X7.here hx rfl (hb hby at_119)) ?_
      show D (T7.setTop (mkF m 121 #[.val (.int p1), .val (.long p2), .second, .val (.int p3), .val (.int x4_7), .val (.ref b1), .val (.ref b2), .val (.int x7_39), .val (.int v54s0), .val (.long x9_63), .second, .val (.int x11_84), .val (.int (f2 x4_7)), .val (.int (f2 x11_84))] [(.int (127 : Int32)), (.int x4_7), (.int (f2 x4_7))]))
      by_cases c121_1 : (127 : Int32) < x4_7
      · refine A (XS.icmpYes X7.here hx rfl (pc0 := 121) (pc' := 128) rfl (hb hby at_121) rfl (tlt c121_1).2.2.1 (by decide) (by decide)) ?_
        show D (T7.setTop (mkF m 128 #[.val (.int p1), .val (.long p2), .second, .val (.int p3), .val (.int x4_7), .val (.ref b1), .val (.ref b2), .val (.int x7_39), .val (.int v54s0), .val (.long x9_63), .second, .val (.int x11_84), .val (.int (f2 x4_7)), .val (.int (f2 x11_84))] [(.int (f2 x4_7))]))
        refine A (XS.iconst X7.here hx rfl (hb hby at_128)) ?_
        show D (T7.setTop (mkF m 129 #[.val (.int p1), .val (.long p2), .second, .val (.int p3), .val (.int x4_7), .val (.ref b1), .val (.ref b2), .val (.int x7_39), .val (.int v54s0), .val (.long x9_63), .second, .val (.int x11_84), .val (.int (f2 x4_7)), .val (.int (f2 x11_84))] [(.int (0 : Int32)), (.int (f2 x4_7))]))
        by_cases c129_2 : (f2 x4_7) = (0 : Int32)
        · refine A (XS.icmpNo X7.here hx rfl (hb hby at_129) rfl (teq c129_2).2) ?_
          show D (T7.setTop (mkF m 132 #[.val (.int p1), .val (.long p2), .second, .val (.int p3), .val (.int x4_7), .val (.ref b1), .val (.ref b2), .val (.int x7_39), .val (.int v54s0), .val (.long x9_63), .second, .val (.int x11_84), .val (.int (f2 x4_7)), .val (.int (f2 x11_84))] []))
          refine A (XS.iload X7.here hx rfl (hb hby at_132) rfl) ?_
          show D (T7.setTop (mkF m 134 #[.val (.int p1), .val (.long p2), .second, .val (.int p3), .val (.int x4_7), .val (.ref b1), .val (.ref b2), .val (.int x7_39), .val (.int v54s0), .val (.long x9_63), .second, .val (.int x11_84), .val (.int (f2 x4_7)), .val (.int (f2 x11_84))] [(.int (f2 x11_84))]))
          by_cases c134_3 : (f2 x11_84) = (0 : Int32)
          · refine A (XS.ifNo X7.here hx rfl (hb hby at_134) rfl ((if0 _ _).trans (teq c134_3).2)) ?_
            show D (T7.setTop (mkF m 137 #[.val (.int p1), .val (.long p2), .second, .val (.int p3), .val (.int x4_7), .val (.ref b1), .val (.ref b2), .val (.int x7_39), .val (.int v54s0), .val (.long x9_63), .second, .val (.int x11_84), .val (.int (f2 x4_7)), .val (.int (f2 x11_84))] []))
            refine A (XS.iconst X7.here hx rfl (hb hby at_137)) ?_
            show D (T7.setTop (mkF m 138 #[.val (.int p1), .val (.long p2), .second, .val (.int p3), .val (.int x4_7), .val (.ref b1), .val (.ref b2), .val (.int x7_39), .val (.int v54s0), .val (.long x9_63), .second, .val (.int x11_84), .val (.int (f2 x4_7)), .val (.int (f2 x11_84))] [(.int (1 : Int32))]))
            refine A (XS.goto X7.here hx rfl (pc0 := 138) (pc' := 142) rfl (hb hby at_138) (by decide) (by decide)) ?_
            show D (T7.setTop (mkF m 142 #[.val (.int p1), .val (.long p2), .second, .val (.int p3), .val (.int x4_7), .val (.ref b1), .val (.ref b2), .val (.int x7_39), .val (.int v54s0), .val (.long x9_63), .second, .val (.int x11_84), .val (.int (f2 x4_7)), .val (.int (f2 x11_84))] [(.int (1 : Int32))]))
            exact Km142_9 _ (((((if_pos c112_0)).trans (if_pos c121_1)).trans (if_pos c129_2)).trans (if_pos c134_3)).symm
          · refine A (XS.ifYes X7.here hx rfl (pc0 := 134) (pc' := 141) rfl (hb hby at_134) rfl ((if0 _ _).trans (feq c134_3).2) (by decide) (by decide)) ?_
            show D (T7.setTop (mkF m 141 #[.val (.int p1), .val (.long p2), .second, .val (.int p3), .val (.int x4_7), .val (.ref b1), .val (.ref b2), .val (.int x7_39), .val (.int v54s0), .val (.long x9_63), .second, .val (.int x11_84), .val (.int (f2 x4_7)), .val (.int (f2 x11_84))] []))
            refine A (XS.iconst X7.here hx rfl (hb hby at_141)) ?_
            show D (T7.setTop (mkF m 142 #[.val (.int p1), .val (.long p2), .second, .val (.int p3), .val (.int x4_7), .val (.ref b1), .val (.ref b2), .val (.int x7_39), .val (.int v54s0), .val (.long x9_63), .second, .val (.int x11_84), .val (.int (f2 x4_7)), .val (.int (f2 x11_84))] [(.int (0 : Int32))]))
            exact Km142_9 _ (((((if_pos c112_0)).trans (if_pos c121_1)).trans (if_pos c129_2)).trans (if_neg c134_3)).symm
        · refine A (XS.icmpYes X7.here hx rfl (pc0 := 129) (pc' := 141) rfl (hb hby at_129) rfl (feq c129_2).2 (by decide) (by decide)) ?_
          show D (T7.setTop (mkF m 141 #[.val (.int p1), .val (.long p2), .second, .val (.int p3), .val (.int x4_7), .val (.ref b1), .val (.ref b2), .val (.int x7_39), .val (.int v54s0), .val (.long x9_63), .second, .val (.int x11_84), .val (.int (f2 x4_7)), .val (.int (f2 x11_84))] []))
          refine A (XS.iconst X7.here hx rfl (hb hby at_141)) ?_
          show D (T7.setTop (mkF m 142 #[.val (.int p1), .val (.long p2), .second, .val (.int p3), .val (.int x4_7), .val (.ref b1), .val (.ref b2), .val (.int x7_39), .val (.int v54s0), .val (.long x9_63), .second, .val (.int x11_84), .val (.int (f2 x4_7)), .val (.int (f2 x11_84))] [(.int (0 : Int32))]))
          exact Km142_9 _ ((((if_pos c112_0)).trans (if_pos c121_1)).trans (if_neg c129_2)).symm
      · refine A (XS.icmpNo X7.here hx rfl (hb hby at_121) rfl (flt c121_1).2.2.1) ?_
        show D (T7.setTop (mkF m 124 #[.val (.int p1), .val (.long p2), .second, .val (.int p3), .val (.int x4_7), .val (.ref b1), .val (.ref b2), .val (.int x7_39), .val (.int v54s0), .val (.long x9_63), .second, .val (.int x11_84), .val (.int (f2 x4_7)), .val (.int (f2 x11_84))] [(.int (f2 x4_7))]))
        refine A (XS.iconst X7.here hx rfl (hb hby at_124)) ?_
        show D (T7.setTop (mkF m 125 #[.val (.int p1), .val (.long p2), .second, .val (.int p3), .val (.int x4_7), .val (.ref b1), .val (.ref b2), .val (.int x7_39), .val (.int v54s0), .val (.long x9_63), .second, .val (.int x11_84), .val (.int (f2 x4_7)), .val (.int (f2 x11_84))] [(.int (1 : Int32)), (.int (f2 x4_7))]))
        refine A (XS.goto X7.here hx rfl (pc0 := 125) (pc' := 129) rfl (hb hby at_125) (by decide) (by decide)) ?_
        show D (T7.setTop (mkF m 129 #[.val (.int p1), .val (.long p2), .second, .val (.int p3), .val (.int x4_7), .val (.ref b1), .val (.ref b2), .val (.int x7_39), .val (.int v54s0), .val (.long x9_63), .second, .val (.int x11_84), .val (.int (f2 x4_7)), .val (.int (f2 x11_84))] [(.int (1 : Int32)), (.int (f2 x4_7))]))
        by_cases c129_2 : (f2 x4_7) = (1 : Int32)
        · refine A (XS.icmpNo X7.here hx rfl (hb hby at_129) rfl (teq c129_2).2) ?_
          show D (T7.setTop (mkF m 132 #[.val (.int p1), .val (.long p2), .second, .val (.int p3), .val (.int x4_7), .val (.ref b1), .val (.ref b2), .val (.int x7_39), .val (.int v54s0), .val (.long x9_63), .second, .val (.int x11_84), .val (.int (f2 x4_7)), .val (.int (f2 x11_84))] []))
          refine A (XS.iload X7.here hx rfl (hb hby at_132) rfl) ?_
          show D (T7.setTop (mkF m 134 #[.val (.int p1), .val (.long p2), .second, .val (.int p3), .val (.int x4_7), .val (.ref b1), .val (.ref b2), .val (.int x7_39), .val (.int v54s0), .val (.long x9_63), .second, .val (.int x11_84), .val (.int (f2 x4_7)), .val (.int (f2 x11_84))] [(.int (f2 x11_84))]))
          by_cases c134_3 : (f2 x11_84) = (0 : Int32)
          · refine A (XS.ifNo X7.here hx rfl (hb hby at_134) rfl ((if0 _ _).trans (teq c134_3).2)) ?_
            show D (T7.setTop (mkF m 137 #[.val (.int p1), .val (.long p2), .second, .val (.int p3), .val (.int x4_7), .val (.ref b1), .val (.ref b2), .val (.int x7_39), .val (.int v54s0), .val (.long x9_63), .second, .val (.int x11_84), .val (.int (f2 x4_7)), .val (.int (f2 x11_84))] []))
            refine A (XS.iconst X7.here hx rfl (hb hby at_137)) ?_
            show D (T7.setTop (mkF m 138 #[.val (.int p1), .val (.long p2), .second, .val (.int p3), .val (.int x4_7), .val (.ref b1), .val (.ref b2), .val (.int x7_39), .val (.int v54s0), .val (.long x9_63), .second, .val (.int x11_84), .val (.int (f2 x4_7)), .val (.int (f2 x11_84))] [(.int (1 : Int32))]))
            refine A (XS.goto X7.here hx rfl (pc0 := 138) (pc' := 142) rfl (hb hby at_138) (by decide) (by decide)) ?_
            show D (T7.setTop (mkF m 142 #[.val (.int p1), .val (.long p2), .second, .val (.int p3), .val (.int x4_7), .val (.ref b1), .val (.ref b2), .val (.int x7_39), .val (.int v54s0), .val (.long x9_63), .second, .val (.int x11_84), .val (.int (f2 x4_7)), .val (.int (f2 x11_84))] [(.int (1 : Int32))]))
            exact Km142_9 _ (((((if_pos c112_0)).trans (if_neg c121_1)).trans (if_pos c129_2)).trans (if_pos c134_3)).symm
          · refine A (XS.ifYes X7.here hx rfl (pc0 := 134) (pc' := 141) rfl (hb hby at_134) rfl ((if0 _ _).trans (feq c134_3).2) (by decide) (by decide)) ?_
            show D (T7.setTop (mkF m 141 #[.val (.int p1), .val (.long p2), .second, .val (.int p3), .val (.int x4_7), .val (.ref b1), .val (.ref b2), .val (.int x7_39), .val (.int v54s0), .val (.long x9_63), .second, .val (.int x11_84), .val (.int (f2 x4_7)), .val (.int (f2 x11_84))] []))
            refine A (XS.iconst X7.here hx rfl (hb hby at_141)) ?_
            show D (T7.setTop (mkF m 142 #[.val (.int p1), .val (.long p2), .second, .val (.int p3), .val (.int x4_7), .val (.ref b1), .val (.ref b2), .val (.int x7_39), .val (.int v54s0), .val (.long x9_63), .second, .val (.int x11_84), .val (.int (f2 x4_7)), .val (.int (f2 x11_84))] [(.int (0 : Int32))]))
            exact Km142_9 _ (((((if_pos c112_0)).trans (if_neg c121_1)).trans (if_pos c129_2)).trans (if_neg c134_3)).symm
        · refine A (XS.icmpYes X7.here hx rfl (pc0 := 129) (pc' := 141) rfl (hb hby at_129) rfl (feq c129_2).2 (by decide) (by decide)) ?_
          show D (T7.setTop (mkF m 141 #[.val (.int p1), .val (.long p2), .second, .val (.int p3), .val (.int x4_7), .val (.ref b1), .val (.ref b2), .val (.int x7_39), .val (.int v54s0), .val (.long x9_63), .second, .val (.int x11_84), .val (.int (f2 x4_7)), .val (.int (f2 x11_84))] []))
          refine A (XS.iconst X7.here hx rfl (hb hby at_141)) ?_
          show D (T7.setTop (mkF m 142 #[.val (.int p1), .val (.long p2), .second, .val (.int p3), .val (.int x4_7), .val (.ref b1), .val (.ref b2), .val (.int x7_39), .val (.int v54s0), .val (.long x9_63), .second, .val (.int x11_84), .val (.int (f2 x4_7)), .val (.int (f2 x11_84))] [(.int (0 : Int32))]))
          exact Km142_9 _ ((((if_pos c112_0)).trans (if_neg c121_1)).trans (if_neg c129_2)).symm
    · refine A (XS.icmpYes X7.here hx rfl (pc0 := 112) (pc' := 141) rfl (hb hby at_112) rfl (feq c112_0).2 (by decide) (by decide)) ?_
      show D (T7.setTop (mkF m 141 #[.val (.int p1), .val (.long p2), .second, .val (.int p3), .val (.int x4_7), .val (.ref b1), .val (.ref b2), .val (.int x7_39), .val (.int v54s0), .val (.long x9_63), .second, .val (.int x11_84), .val (.int (f2 x4_7)), .val (.int (f2 x11_84))] []))
      refine A (XS.iconst X7.here hx rfl (hb hby at_141)) ?_
      show D (T7.setTop (mkF m 142 #[.val (.int p1), .val (.long p2), .second, .val (.int p3), .val (.int x4_7), .val (.ref b1), .val (.ref b2), .val (.int x7_39), .val (.int v54s0), .val (.long x9_63), .second, .val (.int x11_84), .val (.int (f2 x4_7)), .val (.int (f2 x11_84))] [(.int (0 : Int32))]))
      exact Km142_9 _ ((if_neg c112_0)).symm
  intro v142s0 hv142s0
  show D (T7.setTop (mkF m 142 #[.val (.int p1), .val (.long p2), .second, .val (.int p3), .val (.int x4_7), .val (.ref b1), .val (.ref b2), .val (.int x7_39), .val (.int v54s0), .val (.long x9_63), .second, .val (.int x11_84), .val (.int (f2 x4_7)), .val (.int (f2 x11_84))] [(.int v142s0)]))
  obtain rfl : v142s0 = (1 : Int32) := by
    have p1q := P3.2 rfl
    have p2q := P5.1
    rw [← hx7_39] at p1q
    rw [← hx11_84] at p2q
    rw [hv142s0]
    exact own_fin _ _ _ _ p1q p2q hv112s0
  show D (T7.setTop (mkF m 142 #[.val (.int p1), .val (.long p2), .second, .val (.int p3), .val (.int x4_7), .val (.ref b1), .val (.ref b2), .val (.int x7_39), .val (.int v54s0), .val (.long x9_63), .second, .val (.int x11_84), .val (.int (f2 x4_7)), .val (.int (f2 x11_84))] [(.int (1 : Int32))]))
  exact F _ (Jvm.JW.ret X7 hlk (v := some (.int (1 : Int32))) (fun h => by rw [hrt] at h; cases h) (fun fs hr => retOut X7 hx hrt rfl (Or.inl ⟨rfl, Or.inr (Or.inl rfl), _, rfl⟩) (hb hby at_142) hr) rfl ⟨rfl, N7⟩ (by decide) (by decide))
set_option maxRecDepth 65536 in
set_option maxHeartbeats 40000000 in
theorem comes_1 {Post : Tables → Env → Array Value → State → Outcome → State → Prop} (hpost : ∀ tb e args s v u, (limb_1_1.after args s (.returned v) u = true ∧ limb_1_2.after args s (.returned v) u = true ∧ True) → FrameEnd s (.returned v) u (Jvm.fieldLocs frame_1_writes args s ++ Jvm.arrayLocs frame_1_arrays args s ++ Jvm.staticLocs frame_1_statics s) 16 128 → Post tb e args s (.returned v) u) :
    ArmFor flags0 classFile x code maxLocals ret World_1 tables_1 room_1 Calls_1 rest_1 Pre_1 Post := by
  intro l hfl _ _ p e ha hc hk s m args below hf hA hF happ hP
  obtain ⟨hcalls, hrest, hpre⟩ := hP
  obtain ⟨-, -, -, hnamed, -, -, -, hat⟩ := (Spec.applies_iff hf).mp happ
  obtain ⟨hg, hn⟩ := and_e (Cond.before_iff.mp (show (Jvm.Cond.and given_1 narrow_1).before args s = true from hpre))
  obtain ⟨g0, g1⟩ := and_e hg
  obtain ⟨t1, g2⟩ := and_e g1
  obtain ⟨t2, g3⟩ := and_e g2
  obtain ⟨w0, w1, w2, rfl⟩ : ∃ w0 w1 w2 : Value, args = #[w0, w1, w2] := by
    have hs : args.size = 3 := by simpa [Cond.value, given_1] using g0
    obtain ⟨L⟩ := args
    match L, hs with
    | [w0, w1, w2], _ => exact ⟨w0, w1, w2, rfl⟩
  have hw := fun d (hd : d ∈ tables_1) => atoms_spec (ws := Jvm.Cond.code x code maxLocals ret :: tables_1) hat d (List.mem_cons_of_mem _ hd)
  obtain ⟨i0, q0⟩ := is_v t1
  obtain rfl : w0 = (.int i0) := Option.some.inj q0
  obtain ⟨i1, q1⟩ := isL_v t2
  obtain rfl : w1 = (.long i1) := Option.some.inj q1
  obtain ⟨i2, q2⟩ := is_v g3
  obtain rfl : w2 = (.int i2) := Option.some.inj q2
  obtain ⟨n, o, h1, h2, h3, _, L, rfl, ⟨rfl, N⟩, hq⟩ := rm0 l s _ hw tables_1 i0 i1 i2 s.heap s.heap.size (Nat.le_refl _) p e ha hc hk s m _ below hf ((Spec.applies_iff_loose hf).mp happ).1 ⟨rfl, State.Warmed39.refl s, rfl⟩ trivial
  refine ⟨n, _, h1, h2, h3, hpost _ _ _ _ _ _ ⟨Cond.after_iff.mpr rfl, Cond.after_iff.mpr (eq_i res_at (Term.int_eval (1)) rfl), trivial⟩ ⟨hq.1, hq.2.1, (hq.2.2.sift fun y hy => Or.inr (N y hy)).mono (by decide) (by decide)⟩⟩
theorem main_1_1 : Claimed_1_1 := comes_1 fun _ _ _ _ _ _ h hF => ⟨h.1, hF⟩
theorem main_1_2 : Claimed_1_2 := comes_1 fun _ _ _ _ _ _ h hF => ⟨h.2.1, hF⟩
end Jvm.Pilot.@@N@@
namespace Jvm.Pilot.@@N@@
open Jvm Jvm.ClassFile Sem Op Lib Jvm.Free Jvm.Stand Jvm.Pilot.@@N@@.Jvm.D
/-! MADE BY PROGRAM (witnessworld.py) out of the Statement's table words and the real class files: 15 classes; the members and pool entries that the words name. The judged class is class 1, her method 1. -/
namespace start1
open Jvm.ClassFile
def u (s : String) : CpInfo := .utf8 (stringToUtf16 s)
/-- a pool by its gaps: so many unusable entries, then the entry; so many at the end -/
def gap : Nat → List CpInfo → List CpInfo
  | 0, r => r
  | n + 1, r => .unusable :: gap n r
def poolList (es : List (Nat × CpInfo)) (last : Nat) : List CpInfo := es.foldr (fun e r => gap e.1 (e.2 :: r)) (gap last [])
def pool (es : List (Nat × CpInfo)) (last : Nat) : Array CpInfo := ⟨poolList es last⟩
def fileOf (pool : Array CpInfo) (this : Nat) (attrs : Array Attribute := #[]) (ms : Array MethodInfo := #[]) (fl : Nat := 33) (sup : Nat := 0) (ifs : Array Nat := #[]) (fds : Array FieldInfo := #[]) : ClassFile where
  minorVersion := 0
  majorVersion := 65
  constantPool := pool
  accessFlags := fl
  thisClass := this
  superClass := sup
  interfaces := ifs
  fields := fds
  methods := ms
  attributes := attrs
def plain (name : String) (sup : Option ClassId) : Class where
  name := name
  kind := .ordinary
  loader := none
  accessFlags := 33
  super := sup
  interfaces := #[]
  cf := none
  fields := #[]
  methods := #[]
  instanceTypes := #[]
  staticTypes := #[]
  resolved := #[]
  callSites := []
  init := .initialized
  statics := none
  mirror := none

def pool0 : Array CpInfo := pool [(5, u "<init>"), (0, u "()V"), (1, .class_ 10), (1, u "java/lang/Object")] 113

def k0m0 : Method := { name := "<init>", desc := "()V", sig := { parameters := [], returnType := none }, accessFlags := 1, code := none }
/-- java/lang/Object -/
def k0 : Class := { plain "java/lang/Object" none with
  accessFlags := 33
  interfaces := #[]
  cf := some (fileOf pool0 8 #[] #[{ accessFlags := 1, nameIndex := 5, descriptorIndex := 6, attributes := #[] }] 33 0 #[] #[])
  fields := #[]
  methods := #[k0m0]
  instanceTypes := #[]
  staticTypes := #[]
  resolved := Array.replicate 124 none
  statics := none }

def pool1 : Array CpInfo := pool [(2, .class_ 4), (1, u "java/lang/Object"), (0, u "<init>"), (0, u "()V"), (0, .class_ 8), (0, u "com/example/wireproof/wireproof/codec/rlp/Prefix"), (0, .methodref 7 10), (0, .nameAndType 11 12), (0, u "write"), (0, u "([BIIJ)I"), (2, .long 9223372036854775807), (1, .methodref 7 18), (0, .nameAndType 19 20), (0, u "isOwnEncoding"), (0, u "(I)Z"), (0, .class_ 22), (0, u "com/example/wireproof/wireproof/codec/rlp/PrefixIsOwnEncodingPinLaw"), (2, u "law"), (0, u "(IJI)Z")] 5

def k1m0 : Method := { name := "<init>", desc := "()V", sig := { parameters := [], returnType := none }, accessFlags := 2, code := none }
def k1c1 : Code := { maxStack := 5, maxLocals := 14, code := code, exceptionTable := #[], attributes := #[] }
def k1m1 : Method := { name := "law", desc := "(IJI)Z", sig := { parameters := [.int, .long, .int], returnType := some .boolean }, accessFlags := 9, code := some k1c1 }
/-- com/example/wireproof/wireproof/codec/rlp/PrefixIsOwnEncodingPinLaw -/
def k1 : Class := { plain "com/example/wireproof/wireproof/codec/rlp/PrefixIsOwnEncodingPinLaw" (some 0) with
  accessFlags := 49
  interfaces := #[]
  cf := some (fileOf pool1 21 #[] #[{ accessFlags := 2, nameIndex := 5, descriptorIndex := 6, attributes := #[] }, { accessFlags := 9, nameIndex := 25, descriptorIndex := 26, attributes := #[] }] 49 2 #[] #[])
  fields := #[]
  methods := #[k1m0, k1m1]
  instanceTypes := #[]
  staticTypes := #[]
  resolved := Array.replicate 32 none
  statics := none }

def pool2 : Array CpInfo := pool [(1, .class_ 2), (0, u "com/example/wireproof/wireproof/codec/rlp/Prefix"), (0, .class_ 4), (0, u "java/lang/Long"), (1, .class_ 8), (1, u "java/lang/Object"), (0, u "<init>"), (0, u "()V"), (2, u "isOwnEncoding"), (0, u "(I)Z"), (0, .long 55), (1, .methodref 1 18), (0, .nameAndType 19 20), (0, u "lengthOfLength"), (0, u "(J)I"), (0, .methodref 3 22), (0, .nameAndType 23 20), (0, u "numberOfLeadingZeros"), (0, u "STRING"), (0, u "I"), (2, u "LIST"), (1, u "MAX_SHORT_LENGTH"), (1, u "MAX_SHORT_STRING"), (1, u "MAX_SHORT_LIST"), (1, u "MAX_LENGTH"), (6, u "write"), (0, u "([BIIJ)I")] 2

def k2m0 : Method := { name := "<init>", desc := "()V", sig := { parameters := [], returnType := none }, accessFlags := 2, code := none }
def k2c1 : Code := { maxStack := 2, maxLocals := 1, code := prog_28_method_3_code, exceptionTable := #[], attributes := #[] }
def k2m1 : Method := { name := "isOwnEncoding", desc := "(I)Z", sig := { parameters := [.int], returnType := some .boolean }, accessFlags := 8, code := some k2c1 }
def k2c2 : Code := { maxStack := 6, maxLocals := 8, code := prog_28_method_5_code, exceptionTable := #[], attributes := #[] }
def k2m2 : Method := { name := "write", desc := "([BIIJ)I", sig := { parameters := [(.array .byte), .int, .int, .long], returnType := some .int }, accessFlags := 8, code := some k2c2 }
def k2c3 : Code := { maxStack := 3, maxLocals := 2, code := prog_28_method_6_code, exceptionTable := #[], attributes := #[] }
def k2m3 : Method := { name := "lengthOfLength", desc := "(J)I", sig := { parameters := [.long], returnType := some .int }, accessFlags := 10, code := some k2c3 }
/-- com/example/wireproof/wireproof/codec/rlp/Prefix -/
def k2 : Class := { plain "com/example/wireproof/wireproof/codec/rlp/Prefix" (some 0) with
  accessFlags := 48
  interfaces := #[]
  cf := some (fileOf pool2 1 #[] #[{ accessFlags := 2, nameIndex := 9, descriptorIndex := 10, attributes := #[] }, { accessFlags := 8, nameIndex := 13, descriptorIndex := 14, attributes := #[] }, { accessFlags := 8, nameIndex := 43, descriptorIndex := 44, attributes := #[] }, { accessFlags := 10, nameIndex := 19, descriptorIndex := 20, attributes := #[] }] 48 6 #[] #[{ accessFlags := 24, nameIndex := 24, descriptorIndex := 25, attributes := #[] }, { accessFlags := 24, nameIndex := 28, descriptorIndex := 25, attributes := #[] }, { accessFlags := 24, nameIndex := 30, descriptorIndex := 25, attributes := #[] }, { accessFlags := 24, nameIndex := 32, descriptorIndex := 25, attributes := #[] }, { accessFlags := 24, nameIndex := 34, descriptorIndex := 25, attributes := #[] }, { accessFlags := 24, nameIndex := 36, descriptorIndex := 25, attributes := #[] }])
  fields := #[{ name := "STRING", type := .int, accessFlags := 24, slot := 0, constantValue := 0 }, { name := "LIST", type := .int, accessFlags := 24, slot := 1, constantValue := 0 }, { name := "MAX_SHORT_LENGTH", type := .int, accessFlags := 24, slot := 2, constantValue := 0 }, { name := "MAX_SHORT_STRING", type := .int, accessFlags := 24, slot := 3, constantValue := 0 }, { name := "MAX_SHORT_LIST", type := .int, accessFlags := 24, slot := 4, constantValue := 0 }, { name := "MAX_LENGTH", type := .int, accessFlags := 24, slot := 5, constantValue := 0 }]
  methods := #[k2m0, k2m1, k2m2, k2m3]
  instanceTypes := #[]
  staticTypes := #[.int, .int, .int, .int, .int, .int]
  resolved := Array.replicate 47 none
  statics := none }

def pool3 : Array CpInfo := pool [(1, .class_ 2), (0, u "java/io/Serializable"), (0, .class_ 4), (0, u "java/lang/Object")] 2

/-- java/io/Serializable -/
def k3 : Class := { plain "java/io/Serializable" (some 0) with
  accessFlags := 1537
  interfaces := #[]
  cf := some (fileOf pool3 1 #[] #[] 1537 3 #[] #[])
  fields := #[]
  methods := #[]
  instanceTypes := #[]
  staticTypes := #[]
  resolved := Array.replicate 7 none
  statics := none }

def pool4 : Array CpInfo := pool [(2, .class_ 4), (1, u "java/lang/Object"), (0, u "<init>"), (0, u "()V"), (1, .class_ 10), (1, u "java/lang/Number"), (2, .class_ 14), (0, u "java/io/Serializable"), (0, u "serialVersionUID"), (0, u "J")] 20

def k4m0 : Method := { name := "<init>", desc := "()V", sig := { parameters := [], returnType := none }, accessFlags := 1, code := none }
/-- java/lang/Number -/
def k4 : Class := { plain "java/lang/Number" (some 0) with
  accessFlags := 1057
  interfaces := #[3]
  cf := some (fileOf pool4 8 #[] #[{ accessFlags := 1, nameIndex := 5, descriptorIndex := 6, attributes := #[] }] 1057 2 #[13] #[{ accessFlags := 26, nameIndex := 15, descriptorIndex := 16, attributes := #[] }])
  fields := #[{ name := "serialVersionUID", type := .long, accessFlags := 26, slot := 0, constantValue := 0 }]
  methods := #[k4m0]
  instanceTypes := #[]
  staticTypes := #[.long]
  resolved := Array.replicate 37 none
  statics := none }

def pool5 : Array CpInfo := pool [(1, .class_ 2), (0, u "java/lang/Comparable"), (0, .class_ 4), (0, u "java/lang/Object")] 7

/-- java/lang/Comparable -/
def k5 : Class := { plain "java/lang/Comparable" (some 0) with
  accessFlags := 1537
  interfaces := #[]
  cf := some (fileOf pool5 1 #[] #[] 1537 3 #[] #[])
  fields := #[]
  methods := #[]
  instanceTypes := #[]
  staticTypes := #[]
  resolved := Array.replicate 12 none
  statics := none }

def pool6 : Array CpInfo := pool [(1, .class_ 2), (0, u "java/lang/constant/Constable"), (0, .class_ 4), (0, u "java/lang/Object")] 6

/-- java/lang/constant/Constable -/
def k6 : Class := { plain "java/lang/constant/Constable" (some 0) with
  accessFlags := 1537
  interfaces := #[]
  cf := some (fileOf pool6 1 #[] #[] 1537 3 #[] #[])
  fields := #[]
  methods := #[]
  instanceTypes := #[]
  staticTypes := #[]
  resolved := Array.replicate 11 none
  statics := none }

def pool7 : Array CpInfo := pool [(1, .class_ 2), (0, u "java/lang/constant/ConstantDesc"), (0, .class_ 4), (0, u "java/lang/Object")] 32

/-- java/lang/constant/ConstantDesc -/
def k7 : Class := { plain "java/lang/constant/ConstantDesc" (some 0) with
  accessFlags := 1537
  interfaces := #[]
  cf := some (fileOf pool7 1 #[] #[] 1537 3 #[] #[])
  fields := #[]
  methods := #[]
  instanceTypes := #[]
  staticTypes := #[]
  resolved := Array.replicate 37 none
  statics := none }

def pool8 : Array CpInfo := pool [(1, .class_ 2), (0, u "java/lang/Long"), (15, .class_ 20), (1, u "java/lang/Integer"), (79, u "numberOfLeadingZeros"), (0, u "(J)I"), (133, .class_ 237), (1, u "java/lang/Long$LongCache"), (33, .class_ 272), (0, u "java/lang/Number"), (2, u "value"), (0, u "J"), (31, .methodref 18 309), (0, .nameAndType 100 310), (0, u "(I)I"), (50, u "TYPE"), (0, u "Ljava/lang/Class;"), (0, .class_ 364), (0, u "java/lang/Comparable"), (0, .class_ 366), (0, u "java/lang/constant/Constable"), (0, .class_ 368), (0, u "java/lang/constant/ConstantDesc"), (0, u "MIN_VALUE"), (1, u "MAX_VALUE"), (4, u "SIZE"), (0, u "I"), (1, u "BYTES"), (1, u "serialVersionUID")] 142

def k8c0 : Code := { maxStack := 3, maxLocals := 3, code := jdk_35_method_48_code, exceptionTable := #[], attributes := #[] }
def k8m0 : Method := { name := "numberOfLeadingZeros", desc := "(J)I", sig := { parameters := [.long], returnType := some .int }, accessFlags := 9, code := some k8c0 }
/-- java/lang/Long -/
def k8 : Class := { plain "java/lang/Long" (some 4) with
  accessFlags := 49
  interfaces := #[5, 6, 7]
  cf := some (fileOf pool8 1 #[.nestMembers #[235]] #[{ accessFlags := 9, nameIndex := 100, descriptorIndex := 101, attributes := #[] }] 49 271 #[363, 365, 367] #[{ accessFlags := 25, nameIndex := 369, descriptorIndex := 276, attributes := #[] }, { accessFlags := 25, nameIndex := 371, descriptorIndex := 276, attributes := #[] }, { accessFlags := 25, nameIndex := 361, descriptorIndex := 362, attributes := #[] }, { accessFlags := 18, nameIndex := 275, descriptorIndex := 276, attributes := #[] }, { accessFlags := 25, nameIndex := 376, descriptorIndex := 377, attributes := #[] }, { accessFlags := 25, nameIndex := 379, descriptorIndex := 377, attributes := #[] }, { accessFlags := 26, nameIndex := 381, descriptorIndex := 276, attributes := #[] }])
  fields := #[{ name := "MIN_VALUE", type := .long, accessFlags := 25, slot := 0, constantValue := 0 }, { name := "MAX_VALUE", type := .long, accessFlags := 25, slot := 1, constantValue := 0 }, { name := "TYPE", type := (.object "java/lang/Class"), accessFlags := 25, slot := 2, constantValue := 0 }, { name := "value", type := .long, accessFlags := 18, slot := 0, constantValue := 0 }, { name := "SIZE", type := .int, accessFlags := 25, slot := 3, constantValue := 0 }, { name := "BYTES", type := .int, accessFlags := 25, slot := 4, constantValue := 0 }, { name := "serialVersionUID", type := .long, accessFlags := 26, slot := 5, constantValue := 0 }]
  methods := #[k8m0]
  instanceTypes := #[.long]
  staticTypes := #[.long, .long, (.object "java/lang/Class"), .int, .int, .long]
  resolved := Array.replicate 524 none
  statics := none }

def pool9 : Array CpInfo := pool [(1, .class_ 2), (0, u "java/lang/Integer"), (16, u "digits"), (0, u "[C"), (32, u "numberOfLeadingZeros"), (0, u "(I)I"), (30, u "DigitOnes"), (0, u "[B"), (2, u "DigitTens"), (99, .class_ 190), (0, u "java/lang/Integer$IntegerCache"), (3, u "I"), (8, .class_ 204), (0, u "java/lang/Number"), (2, u "value"), (56, .integer 65536), (37, u "TYPE"), (0, u "Ljava/lang/Class;"), (0, .class_ 305), (0, u "java/lang/Comparable"), (0, .class_ 307), (0, u "java/lang/constant/Constable"), (0, .class_ 309), (0, u "java/lang/constant/ConstantDesc"), (0, u "MIN_VALUE"), (1, u "MAX_VALUE"), (3, u "SIZE"), (1, u "BYTES"), (1, u "serialVersionUID"), (0, u "J")] 131

def k9c0 : Code := { maxStack := 3, maxLocals := 2, code := jdk_33_method_47_code, exceptionTable := #[], attributes := #[] }
def k9m0 : Method := { name := "numberOfLeadingZeros", desc := "(I)I", sig := { parameters := [.int], returnType := some .int }, accessFlags := 9, code := some k9c0 }
/-- java/lang/Integer -/
def k9 : Class := { plain "java/lang/Integer" (some 4) with
  accessFlags := 49
  interfaces := #[5, 6, 7]
  cf := some (fileOf pool9 1 #[.nestMembers #[189]] #[{ accessFlags := 9, nameIndex := 53, descriptorIndex := 54, attributes := #[] }] 49 203 #[304, 306, 308] #[{ accessFlags := 25, nameIndex := 310, descriptorIndex := 194, attributes := #[] }, { accessFlags := 25, nameIndex := 312, descriptorIndex := 194, attributes := #[] }, { accessFlags := 25, nameIndex := 302, descriptorIndex := 303, attributes := #[] }, { accessFlags := 24, nameIndex := 19, descriptorIndex := 20, attributes := #[] }, { accessFlags := 24, nameIndex := 89, descriptorIndex := 86, attributes := #[] }, { accessFlags := 24, nameIndex := 85, descriptorIndex := 86, attributes := #[] }, { accessFlags := 18, nameIndex := 207, descriptorIndex := 194, attributes := #[] }, { accessFlags := 25, nameIndex := 316, descriptorIndex := 194, attributes := #[] }, { accessFlags := 25, nameIndex := 318, descriptorIndex := 194, attributes := #[] }, { accessFlags := 26, nameIndex := 320, descriptorIndex := 321, attributes := #[] }])
  fields := #[{ name := "MIN_VALUE", type := .int, accessFlags := 25, slot := 0, constantValue := 0 }, { name := "MAX_VALUE", type := .int, accessFlags := 25, slot := 1, constantValue := 0 }, { name := "TYPE", type := (.object "java/lang/Class"), accessFlags := 25, slot := 2, constantValue := 0 }, { name := "digits", type := (.array .char), accessFlags := 24, slot := 3, constantValue := 0 }, { name := "DigitTens", type := (.array .byte), accessFlags := 24, slot := 4, constantValue := 0 }, { name := "DigitOnes", type := (.array .byte), accessFlags := 24, slot := 5, constantValue := 0 }, { name := "value", type := .int, accessFlags := 18, slot := 0, constantValue := 0 }, { name := "SIZE", type := .int, accessFlags := 25, slot := 6, constantValue := 0 }, { name := "BYTES", type := .int, accessFlags := 25, slot := 7, constantValue := 0 }, { name := "serialVersionUID", type := .long, accessFlags := 26, slot := 8, constantValue := 0 }]
  methods := #[k9m0]
  instanceTypes := #[.int]
  staticTypes := #[.int, .int, (.object "java/lang/Class"), (.array .char), (.array .byte), (.array .byte), .int, .int, .long]
  resolved := Array.replicate 453 none
  statics := none }

def pool10 : Array CpInfo := pool [(1, u "java/lang/Cloneable"), (0, .class_ 1), (0, u "java/lang/Object"), (0, .class_ 3)] 3

/-- java/lang/Cloneable -/
def k10 : Class := { plain "java/lang/Cloneable" (some 0) with
  accessFlags := 1537
  interfaces := #[]
  cf := some (fileOf pool10 2 #[] #[] 1537 4 #[] #[])
  fields := #[]
  methods := #[]
  instanceTypes := #[]
  staticTypes := #[]
  resolved := Array.replicate 8 none
  statics := none }

/-- the primitive byte -/
def k11 : Class := { plain "byte" none with kind := .primitive 'B', accessFlags := 0x411 }
/-- [B -/
def k12 : Class := { plain "[B" (some 0) with kind := .array 11 .byte, interfaces := #[10, 3], accessFlags := 1041 }

/-- the primitive int -/
def k13 : Class := { plain "int" none with kind := .primitive 'I', accessFlags := 0x411 }
/-- [I -/
def k14 : Class := { plain "[I" (some 0) with kind := .array 13 .int, interfaces := #[10, 3], accessFlags := 1041 }

def heap : Heap := #[]
def classes : Array Class := #[k0, k1, k2, k3, k4, k5, k6, k7, k8, k9, k10, k11, k12, k13, k14]
def interned : List (Array UInt16 × Addr) := []
def slotsUsed : Nat := 0
def theMethod : MethodId := ⟨1, 1⟩
def args0 : Array Value := #[.int 3, .long 4, .int 5]
def aboutOver (below : List Frame) : State where
  vm := { classes := classes, interned := interned.toArray }
  heap := heap
  slotsUsed := slotsUsed
  threads := #[{ frames := .invoking theMethod args0 :: below }]
def below0 : List Frame := [.native { method := ⟨0, 0⟩, args := #[] }]
def about1 : State := aboutOver below0
def p0 : Program := .bare "" "" ""
def e0 : Env := launch0.env 0 0 0
theorem w_frames : about1.frames = Frame.invoking theMethod args0 :: below0 := rfl
set_option maxRecDepth 65536 in
theorem w_args : argsFit about1.vm theMethod args0 = true := by decide +kernel
set_option maxRecDepth 65536 in
theorem w_heap : heapFits about1 = true := by decide +kernel
set_option maxRecDepth 65536 in
theorem w_runnable : about1.curStatus? = some .runnable := by decide +kernel
set_option maxRecDepth 65536 in
theorem w_alone : about1.alone = true := by decide +kernel
set_option maxRecDepth 65536 in
theorem w_named : about1.methodNamed? x = some theMethod := by decide +kernel
set_option maxRecDepth 65536 in
theorem w_hears : about1.hears theMethod below0 = true := by decide +kernel
set_option maxRecDepth 65536 in
theorem w_ripe : about1.ripe theMethod args0 below0 = true := by decide +kernel
theorem w_running : about1.status = .running := rfl
set_option maxRecDepth 65536 in
theorem w_room : about1.hasRoom e0.platform room_1 = true :=
  launch0.hasRoom_least _ room_1 (by decide +kernel) (by decide +kernel) (by decide +kernel) (by decide +kernel) (by decide +kernel) (by decide +kernel)
theorem allAtoms_all (ts : List Jvm.Cond) (a : Array Jvm.Value) (st : Jvm.State) : (allAtoms ts).before a st = ts.all (fun c => c.before a st) := by
  induction ts with
  | nil => rfl
  | cons c t ih =>
    show (Jvm.Cond.and c (allAtoms t)).before a st = _
    rw [Jvm.Cond.before_and, ih, List.all_cons]
def words1 : List Jvm.Cond := Jvm.Cond.code x code maxLocals ret :: tables_1
/-- a 'code' word, met by the world's own term for the bytes: nothing is compared byte by byte -/
theorem code_word {y : MethodName} {bytes : ByteArray} {mx : Nat} {rt : Option FieldType} {a : Array Value} {s : State} {m : MethodId} {meth : Method} {c : Code} (h1 : s.methodNamed? y = some m) (h2 : s.vm.method? m = some meth) (h3 : meth.code = some c) (h4 : c.code = bytes)
    (h5 : (c.maxLocals == mx && c.exceptionTable.isEmpty && decide (c.maxStack ≤ mostOperands) && decide (meth.sig.returnType = rt) && !meth.locks && decide (parseMethodDescriptor y.desc = some meth.sig)) = true) : (Jvm.Cond.code y bytes mx rt).before a s = true := by
  simp only [Bool.and_eq_true, beq_iff_eq, Bool.not_eq_true', decide_eq_true_eq] at h5
  obtain ⟨⟨⟨⟨⟨g1, g2⟩, g3⟩, g4⟩, g5⟩, g6⟩ := h5
  simp [Cond.before, Cond.holds, Cond.value, h1, h2, h3, h4, g1, g2, g3, g4, g5, g6]
def isCode : Jvm.Cond → Bool
  | .code _ _ _ _ => true
  | _ => false
theorem all_split {L : List Jvm.Cond} {P : Jvm.Cond → Bool} (h1 : L.all (fun c => isCode c || P c) = true) (h2 : ∀ c ∈ L.filter isCode, P c = true) : L.all P = true := by
  refine List.all_eq_true.mpr fun c hc => ?_
  have h := List.all_eq_true.mp h1 c hc
  rcases Bool.eq_false_or_eq_true (isCode c) with hi | hi
  · exact h2 c (List.mem_filter.mpr ⟨hc, hi⟩)
  · simpa [hi] using h
set_option maxRecDepth 65536 in
theorem w_c0 : (Jvm.Cond.code x code maxLocals ret).before args0 about1 = true := code_word (m := ⟨1, 1⟩) (meth := k1m1) (c := k1c1) (by decide +kernel) rfl rfl rfl (by decide +kernel)
set_option maxRecDepth 65536 in
theorem w_c1 : (Jvm.Cond.code ({ cls := "com/example/wireproof/wireproof/codec/rlp/Prefix", name := "write", desc := "([BIIJ)I" } : Jvm.MethodName) prog_28_method_5_code (8 : Nat) (Option.some Jvm.ClassFile.FieldType.int)).before args0 about1 = true := code_word (m := ⟨2, 2⟩) (meth := k2m2) (c := k2c2) (by decide +kernel) rfl rfl rfl (by decide +kernel)
set_option maxRecDepth 65536 in
theorem w_c2 : (Jvm.Cond.code ({ cls := "com/example/wireproof/wireproof/codec/rlp/Prefix", name := "isOwnEncoding", desc := "(I)Z" } : Jvm.MethodName) prog_28_method_3_code (1 : Nat) (Option.some Jvm.ClassFile.FieldType.boolean)).before args0 about1 = true := code_word (m := ⟨2, 1⟩) (meth := k2m1) (c := k2c1) (by decide +kernel) rfl rfl rfl (by decide +kernel)
set_option maxRecDepth 65536 in
theorem w_c3 : (Jvm.Cond.code ({ cls := "com/example/wireproof/wireproof/codec/rlp/Prefix", name := "lengthOfLength", desc := "(J)I" } : Jvm.MethodName) prog_28_method_6_code (2 : Nat) (Option.some Jvm.ClassFile.FieldType.int)).before args0 about1 = true := code_word (m := ⟨2, 3⟩) (meth := k2m3) (c := k2c3) (by decide +kernel) rfl rfl rfl (by decide +kernel)
set_option maxRecDepth 65536 in
theorem w_c4 : (Jvm.Cond.code ({ cls := "java/lang/Long", name := "numberOfLeadingZeros", desc := "(J)I" } : Jvm.MethodName) jdk_35_method_48_code (3 : Nat) (Option.some Jvm.ClassFile.FieldType.int)).before args0 about1 = true := code_word (m := ⟨8, 0⟩) (meth := k8m0) (c := k8c0) (by decide +kernel) rfl rfl rfl (by decide +kernel)
set_option maxRecDepth 65536 in
theorem w_c5 : (Jvm.Cond.code ({ cls := "java/lang/Integer", name := "numberOfLeadingZeros", desc := "(I)I" } : Jvm.MethodName) jdk_33_method_47_code (2 : Nat) (Option.some Jvm.ClassFile.FieldType.int)).before args0 about1 = true := code_word (m := ⟨9, 0⟩) (meth := k9m0) (c := k9c0) (by decide +kernel) rfl rfl rfl (by decide +kernel)
def codes1 : List Jvm.Cond := [Jvm.Cond.code x code maxLocals ret, Jvm.Cond.code ({ cls := "com/example/wireproof/wireproof/codec/rlp/Prefix", name := "write", desc := "([BIIJ)I" } : Jvm.MethodName) prog_28_method_5_code (8 : Nat) (Option.some Jvm.ClassFile.FieldType.int), Jvm.Cond.code ({ cls := "com/example/wireproof/wireproof/codec/rlp/Prefix", name := "isOwnEncoding", desc := "(I)Z" } : Jvm.MethodName) prog_28_method_3_code (1 : Nat) (Option.some Jvm.ClassFile.FieldType.boolean), Jvm.Cond.code ({ cls := "com/example/wireproof/wireproof/codec/rlp/Prefix", name := "lengthOfLength", desc := "(J)I" } : Jvm.MethodName) prog_28_method_6_code (2 : Nat) (Option.some Jvm.ClassFile.FieldType.int), Jvm.Cond.code ({ cls := "java/lang/Long", name := "numberOfLeadingZeros", desc := "(J)I" } : Jvm.MethodName) jdk_35_method_48_code (3 : Nat) (Option.some Jvm.ClassFile.FieldType.int), Jvm.Cond.code ({ cls := "java/lang/Integer", name := "numberOfLeadingZeros", desc := "(I)I" } : Jvm.MethodName) jdk_33_method_47_code (2 : Nat) (Option.some Jvm.ClassFile.FieldType.int)]
set_option maxRecDepth 65536 in
theorem codes_eq : words1.filter isCode = codes1 := rfl
theorem w_codes : ∀ c ∈ words1.filter isCode, c.before args0 about1 = true := by
  rw [codes_eq]
  intro c hc
  simp only [codes1, List.mem_cons, List.not_mem_nil, or_false] at hc
  rcases hc with rfl | rfl | rfl | rfl | rfl | rfl
  · exact w_c0
  · exact w_c1
  · exact w_c2
  · exact w_c3
  · exact w_c4
  · exact w_c5
set_option maxRecDepth 65536 in
theorem w_t1 : words1.all (fun c => isCode c || c.before args0 about1) = true := by decide +kernel
theorem w_tables : (allAtoms (Jvm.Cond.code x code maxLocals ret :: tables_1)).before args0 about1 = true := by
  rw [allAtoms_all]
  show words1.all (fun c => c.before args0 about1) = true
  refine all_split ?_ w_codes
  rw [w_t1]
set_option maxRecDepth 65536 in
theorem w_case : (Jvm.Cond.and given_1 narrow_1).before args0 about1 = true := by decide +kernel
theorem w_applies : (headSpec (Jvm.Cond.code x code maxLocals ret :: tables_1) room_1).applies x e0.platform about1 = true :=
  (Spec.applies_iff w_frames).mpr ⟨w_running, w_runnable, w_alone, w_named, w_hears, w_ripe, w_room, w_tables⟩
theorem atStart : AtStart classFile x code maxLocals ret World_1 tables_1 room_1 Calls_1 rest_1 Pre_1 launch0 p0 e0 about1 theMethod args0 below0 :=
  ⟨lists_1, trivial, launch0.admits_env _ _ _, launch0.least_env, fairChoices_fair.cas, fairChoices_fair.clock, w_frames, w_args, w_heap, w_applies, trivial, trivial, w_case⟩
end start1
theorem witness_1 : WitnessClaimed_1 := ⟨start1.p0, start1.e0, start1.about1, start1.theMethod, start1.args0, start1.below0, start1.atStart⟩
end Jvm.Pilot.@@N@@
