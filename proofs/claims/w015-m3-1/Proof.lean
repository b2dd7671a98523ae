import JvmDerived
import JvmDerived.Pilot.@@N@@Statement
import JvmDerived.Pilot.@@N@@Code
set_option linter.unusedVariables false
set_option linter.unusedSimpArgs false
namespace Jvm.JW
open Sem ClassFile Op Lib Jvm.Stand Jvm.Free Jvm.LawKit Jvm.RoadKit
/-! The walk in continuation form: D holds of a machine state if the run from it ends as the contract says. -/
def Dn (p : Program) (e : Env) (below : List Frame) (s : State) (Q : Option Value → Heap → List Loc → Prop) (k n : Nat) (S : State) : Prop :=
  ∃ s₂ o, Steps p.tables e below S s₂ ∧ s₂.status = .running ∧ Ended s₂ below o ∧ ∃ v L, o = .returned v ∧ Q v s₂.heap L ∧ FrameEnd s o s₂ L k n
def Adv (p : Program) (e : Env) (below : List Frame) (D : State → Prop) : Prop :=
  ∀ {S S' : State}, (∀ {t : State}, Steps p.tables e below S' t → Steps p.tables e below S t) → D S' → D S
theorem Adv.dn {p : Program} {e : Env} {below : List Frame} {s : State} {Q : Option Value → Heap → List Loc → Prop} {k n : Nat} : Adv p e below (Dn p e below s Q k n) := by
  intro S S' h d
  obtain ⟨s2, o, h1, h2⟩ := d
  exact ⟨s2, o, h h1, h2⟩
theorem Adv.tr {p : Program} {e : Env} {below : List Frame} {D : State → Prop} (A : Adv p e below D) {S S' : State} (h : Steps p.tables e below S S') (d : D S') : D S := A (fun k => h.trans k) d
abbrev JMet (l : Launch) (Z : State) (y : MethodName) (bytes : ByteArray) (maxL : Nat) (ret : Option FieldType) (ws : List Cond) (rm : Room) (as' : Array Value) (h0 : Heap) (Q : Option Value → Heap → List Loc → Prop) : Prop :=
  MetFree l y (head1 (Cond.code y bytes maxL ret :: ws) rm) (fun a U => a = as' ∧ Z.Warmed39 U.vm ∧ U.heap = h0) (fun _ _ _ _ _ => True) (fun _ U o U' => ∃ v L, o = .returned v ∧ Q v U'.heap L ∧ FrameEnd U o U' L rm.cells rm.slots)
/-- a body that returns r and leaves the heap as it was -/
def QP (r : Value) (h0 : Heap) (n0 : Nat) (v : Option Value) (h : Heap) (L : List Loc) : Prop := v = some r ∧ Fr n0 L ∧ h = h0
/-- the law: it returns 1; nothing that stood at the start is written -/
def QL (n0 : Nat) (v : Option Value) (h : Heap) (L : List Loc) : Prop := v = some (.int 1) ∧ Fr n0 L
section Kit
variable {p : Program} {l : Launch} {e : Env} {R : Room} {s : State} {m : MethodId} {args : Array Value} {below : List Frame} {meth : Method} {c : Code} {T : State} {locs : List Loc} {cells slots : Nat} {Z : State} {a0 : Array Value} {h : Heap} {D : State → Prop}
theorem ret (X : Stand p l e R s m args below meth c T locs cells slots) (hlk : meth.locks = false) {Q : Option Value → Heap → List Loc → Prop} {k n : Nat} {S : State} {v : Option Value} (hv : meth.sig.returnType = none → v = none)
    (hst : ∀ fs, (∀ (f : JFrame) (acts : List Action), f.method = m → f.locked = none → f.entered = [] → (doReturn e (T.setTop f) acts v).1 = T.setFrames fs) → Steps p.tables e below S (T.setFrames fs))
    {hh : Heap} (eT : T.heap = hh) (hq : Q v hh locs) (hk : cells ≤ k) (hn : slots ≤ n) : Dn p e below s Q k n S := by
  subst eT
  obtain ⟨fs, hr, hrun, hended, hW, hsame⟩ := X.leave (v := v) hv hlk
  exact ⟨_, _, hst fs hr, hrun, hended, _, _, rfl, hq, ⟨_, rfl⟩, hW, hsame.mono hk hn⟩
theorem body {y : MethodName} {bytes : ByteArray} {maxL : Nat} {rt : Option FieldType} {ws : List Cond} {rm : Room} {as' : Array Value} {h0 : Heap} {Q : Option Value → Heap → List Loc → Prop} (Ls : Array Slot) (hpl : plainFor y = true) (hef : ∀ m, entryFrame m as' maxL = mkF m 0 Ls [])
    (bd : ∀ (p : Program) (e : Env) (s : State) (m : MethodId) (below : List Frame) (meth : Method) (c : Code) (T0 : State) (D : State → Prop), Adv p e below D → (∀ S, Dn p e below s Q rm.cells rm.slots S → D S) → Stand p l e rm s m as' below meth c T0 [] 0 0 → p.tables.exec = Jvm.exec → Z.Warmed39 s.vm → c.code = bytes → c.maxLocals = maxL → s.vm.findClass y.cls = some m.cls → meth.name = y.name → meth.sig.returnType = rt → meth.locks = false → T0.heap = h0 → D (T0.setTop (mkF m 0 Ls []))) :
    JMet l Z y bytes maxL rt ws rm as' h0 Q := by
  refine MetFree.of_bodySF hpl hisR ?_
  intro p e s m args below meth c s₁ Bd hml hP hK
  obtain ⟨rfl, hZ, hh⟩ := hP
  have q := bd p e s m below meth c s₁ (Dn p e below s Q rm.cells rm.slots) Adv.dn (fun _ d => d) (Stand.of_body Bd) Bd.exec hZ Bd.bytes hml (findClass_of_methodNamed Bd.named) (name_of_methodNamed Bd.named Bd.method).1 Bd.returns Bd.notSynchronized (by rw [← hh, Bd.state]; rfl)
  rw [← hef m] at q
  exact q
theorem Adv.callS (A : Adv p e below D) (X : Stand p l e R s m args below meth c T locs cells slots) (hx : p.tables.exec = Jvm.exec) (hZ : Z.Warmed39 s.vm) {own : String} {index : Nat} {y : MethodName} {bytes : ByteArray} {maxL : Nat} {rt : Option FieldType} {rm : Room} {as' : Array Value} {Q : Option Value → Heap → List Loc → Prop}
    (hown : s.vm.findClass own = some m.cls) (w1 : (Cond.methodLink own index y).before a0 Z = true) (w2 : (Cond.static y).before a0 Z = true) (w3 : (Cond.initialized y.cls).before a0 Z = true) (w4 : (Cond.code y bytes maxL rt).before a0 Z = true) (eT : T.heap = h)
    (hM : JMet l Z y bytes maxL rt [] rm as' h Q) (W : Nat) {g : JFrame} (hg : g.method = m) (hsz : g.locals.size = c.maxLocals) (argsL rest : List Value) (has : as' = argsL.toArray)
    (hlen : ∀ sig, parseMethodDescriptor y.desc = some sig → argsL.length = sig.parameters.length) (hstack : g.stack = argsL.reverse ++ rest) (hW : 2 * g.monitorRoom + (rest.map fun v => v.category).sum ≤ W)
    (hd : decode c.code g.pc = .ok (.invokestatic index, 3)) (hy : y.cls ≠ "java/lang/invoke/MethodHandle" ∧ y.cls ≠ "java/lang/invoke/VarHandle") (hf : rm.frames + 1 ≤ R.frames) (hl : W + (maxL + 11) + rm.locals ≤ R.locals) (hc : cells + rm.cells ≤ R.cells) (hs : slots + rm.slots ≤ R.slots)
    (k : ∀ (T' : State) (L' : List Loc) (v : Option Value), Stand p l e R s m args below meth c T' (locs ++ L') (cells + rm.cells) (slots + rm.slots) → Q v T'.heap L' → D (T'.setTop { g with pc := g.pc + 3, stack := v.toList ++ rest })) : D (T.setTop g) := by
  subst has
  obtain ⟨v, _, ⟨T', L, k', n'⟩, -, X', ⟨Lc, hQ, l', y', z'⟩, st⟩ := Jvm.LawKit.callS X hx (y := y) hown (mvT hZ w1) (mvT hZ w2) (mvT hZ w3) (mvT hZ w4) hy (backOf (W := W) hM hZ w4 w3 hf hl) (g := g) hg hsz (argsL := argsL) (rest := rest) hlen hstack hW hd (fun _ _ => ⟨rfl, eT, hc, hs⟩)
  dsimp only [Pt.U, Pt.locs, Pt.cells, Pt.slots] at X' l' y' z' st hQ
  subst l' y' z'
  exact A (fun q => st _ q) (k T' Lc v X' hQ)
theorem Adv.callI (A : Adv p e below D) (X : Stand p l e R s m args below meth c T locs cells slots) (hx : p.tables.exec = Jvm.exec) (hZ : Z.Warmed39 s.vm) {own : String} {index : Nat} {y : MethodName} {bytes : ByteArray} {maxL : Nat} {rm : Room} {as' : Array Value} {Q : Option Value → Heap → List Loc → Prop}
    (hown : s.vm.findClass own = some m.cls) (hi : y.name = "<init>") (w1 : (Cond.methodLink own index y).before a0 Z = true) (w2 : (Cond.instanceMethod y).before a0 Z = true) (w3 : (Cond.initialized y.cls).before a0 Z = true) (w4 : (Cond.code y bytes maxL none).before a0 Z = true) (eT : T.heap = h)
    (hM : JMet l Z y bytes maxL none [] rm as' h Q) (W : Nat) {g : JFrame} (hg : g.method = m) (hsz : g.locals.size = c.maxLocals) (a : Addr) (argsL rest : List Value) (has : as' = (.ref a :: argsL).toArray)
    (hlen : ∀ sig, parseMethodDescriptor y.desc = some sig → argsL.length = sig.parameters.length) (hstack : g.stack = argsL.reverse ++ .ref a :: rest) (hW : 2 * g.monitorRoom + (rest.map fun v => v.category).sum ≤ W)
    (hd : decode c.code g.pc = .ok (.invokespecial index, 3)) (hy : y.cls ≠ "java/lang/invoke/MethodHandle" ∧ y.cls ≠ "java/lang/invoke/VarHandle") (hf : rm.frames + 1 ≤ R.frames) (hl : W + (maxL + 11) + rm.locals ≤ R.locals) (hc : cells + rm.cells ≤ R.cells) (hs : slots + rm.slots ≤ R.slots)
    (k : ∀ (T' : State) (L' : List Loc) (v : Option Value), Stand p l e R s m args below meth c T' (locs ++ L') (cells + rm.cells) (slots + rm.slots) → Q v T'.heap L' → D (T'.setTop { g with pc := g.pc + 3, stack := v.toList ++ rest })) : D (T.setTop g) := by
  subst has
  obtain ⟨v, _, ⟨T', L, k', n'⟩, -, X', ⟨Lc, hQ, l', y', z'⟩, st⟩ := X.specialBack hx (y := y) hi hown (mvT hZ w1) (mvT hZ w2) (mvT hZ w4) hy (backOf (W := W) hM hZ w4 w3 hf hl) (g := g) hg hsz (Steps.refl _) (a := a) (argsL := argsL) (rest := rest) hlen hstack hW hd (fun _ _ => ⟨rfl, eT, hc, hs⟩)
  dsimp only [Pt.U, Pt.locs, Pt.cells, Pt.slots] at X' l' y' z' st hQ
  subst l' y' z'
  exact A.tr st (k T' Lc v X' hQ)
theorem Adv.callV (A : Adv p e below D) (X : Stand p l e R s m args below meth c T locs cells slots) (hx : p.tables.exec = Jvm.exec) (hZ : Z.Warmed39 s.vm) {own C : String} {index : Nat} {y z : MethodName} {bytes : ByteArray} {maxL : Nat} {rt : Option FieldType} {rm : Room} {as' : Array Value} {Q : Option Value → Heap → List Loc → Prop} {a : Addr}
    (hown : s.vm.findClass own = some m.cls) (w1 : (Cond.methodLink own index y).before a0 Z = true) (w2 : (Cond.declares y).before a0 Z = true) (nf : NotFace s y) (w5 : (Cond.selects C y z).before a0 Z = true) (w6 : (Cond.instanceMethod z).before a0 Z = true) (w3 : (Cond.initialized z.cls).before a0 Z = true) (w4 : (Cond.code z bytes maxL rt).before a0 Z = true) (eT : T.heap = h) (E : Exa Z h a C)
    (hM : JMet l Z z bytes maxL rt [] rm as' h Q) (W : Nat) {g : JFrame} (hg : g.method = m) (hsz : g.locals.size = c.maxLocals) (argsL rest : List Value) (has : as' = (.ref a :: argsL).toArray)
    (hlen : ∀ sig, parseMethodDescriptor y.desc = some sig → argsL.length = sig.parameters.length) (hstack : g.stack = argsL.reverse ++ .ref a :: rest) (hW : 2 * g.monitorRoom + (rest.map fun v => v.category).sum ≤ W)
    (hd : decode c.code g.pc = .ok (.invokevirtual index, 3)) (hy : y.cls ≠ "java/lang/invoke/MethodHandle" ∧ y.cls ≠ "java/lang/invoke/VarHandle") (hf : rm.frames + 1 ≤ R.frames) (hl : W + (maxL + 11) + rm.locals ≤ R.locals) (hc : cells + rm.cells ≤ R.cells) (hs : slots + rm.slots ≤ R.slots)
    (k : ∀ (T' : State) (L' : List Loc) (v : Option Value), Stand p l e R s m args below meth c T' (locs ++ L') (cells + rm.cells) (slots + rm.slots) → Q v T'.heap L' → D (T'.setTop { g with pc := g.pc + 3, stack := v.toList ++ rest })) : D (T.setTop g) := by
  subst has
  obtain ⟨cq, kq, qa, qb, qc⟩ := isOf hZ eT E
  obtain ⟨v, _, ⟨T', L, k', n'⟩, -, X', ⟨Lc, hQ, l', y', z'⟩, st⟩ := X.virtualBack hx (y := y) (z := z) hown (mvT hZ w1) (mvT hZ w2) nf (mvT hZ w5) (mvT hZ w6) hy (backOf (W := W) hM hZ w4 w3 hf hl) qa qc (g := g) hg hsz (Steps.refl _) (argsL := argsL) (rest := rest) hlen hstack hW hd (fun _ _ => ⟨rfl, eT, hc, hs⟩)
  dsimp only [Pt.U, Pt.locs, Pt.cells, Pt.slots] at X' l' y' z' st hQ
  subst l' y' z'
  exact A.tr st (k T' Lc v X' hQ)
theorem Adv.callU (A : Adv p e below D) (X : Stand p l e R s m args below meth c T locs cells slots) (hx : p.tables.exec = Jvm.exec) (hZ : Z.Warmed39 s.vm) {own C owner : String} {index : Nat} {y z : MethodName} {bytes : ByteArray} {maxL : Nat} {rt : Option FieldType} {rm : Room} {as' : Array Value} {Q : Option Value → Heap → List Loc → Prop} {a : Addr}
    (hown : s.vm.findClass own = some m.cls) (w1 : (Cond.methodLink own index y).before a0 Z = true) (w7 : (Cond.sameMethod y.cls owner y.name y.desc).before a0 Z = true) (w2 : (Cond.declares ⟨owner, y.name, y.desc⟩).before a0 Z = true) (w5 : (Cond.selects C y z).before a0 Z = true) (w6 : (Cond.instanceMethod z).before a0 Z = true) (w3 : (Cond.initialized z.cls).before a0 Z = true) (w4 : (Cond.code z bytes maxL rt).before a0 Z = true) (eT : T.heap = h) (E : Exa Z h a C)
    (hM : JMet l Z z bytes maxL rt [] rm as' h Q) (W : Nat) {g : JFrame} (hg : g.method = m) (hsz : g.locals.size = c.maxLocals) (argsL rest : List Value) (has : as' = (.ref a :: argsL).toArray)
    (hlen : ∀ sig, parseMethodDescriptor y.desc = some sig → argsL.length = sig.parameters.length) (hstack : g.stack = argsL.reverse ++ .ref a :: rest) (hW : 2 * g.monitorRoom + (rest.map fun v => v.category).sum ≤ W)
    (hd : decode c.code g.pc = .ok (.invokevirtual index, 3)) (hy : owner ≠ "java/lang/invoke/MethodHandle" ∧ owner ≠ "java/lang/invoke/VarHandle") (hf : rm.frames + 1 ≤ R.frames) (hl : W + (maxL + 11) + rm.locals ≤ R.locals) (hc : cells + rm.cells ≤ R.cells) (hs : slots + rm.slots ≤ R.slots)
    (k : ∀ (T' : State) (L' : List Loc) (v : Option Value), Stand p l e R s m args below meth c T' (locs ++ L') (cells + rm.cells) (slots + rm.slots) → Q v T'.heap L' → D (T'.setTop { g with pc := g.pc + 3, stack := v.toList ++ rest })) : D (T.setTop g) := by
  subst has
  obtain ⟨cq, kq, qa, qb, qc⟩ := isOf hZ eT E
  obtain ⟨v, _, ⟨T', L, k', n'⟩, -, X', ⟨Lc, hQ, l', y', z'⟩, st⟩ := X.virtualBackUp hx (x := y) (y := z) (owner := owner) hown (mvT hZ w1) (mvT hZ w7) (mvT hZ w2) hy (mvT hZ w5) (mvT hZ w6) (backOf (W := W) hM hZ w4 w3 hf hl) qa qc (g := g) hg hsz (Steps.refl _) (argsL := argsL) (rest := rest) hlen hstack hW hd (fun _ _ => ⟨rfl, eT, hc, hs⟩)
  dsimp only [Pt.U, Pt.locs, Pt.cells, Pt.slots] at X' l' y' z' st hQ
  subst l' y' z'
  exact A.tr st (k T' Lc v X' hQ)
theorem Adv.callP (A : Adv p e below D) (X : Stand p l e R s m args below meth c T locs cells slots) (hx : p.tables.exec = Jvm.exec) (hZ : Z.Warmed39 s.vm) {own C : String} {index kn : Nat} {y : MethodName} {bytes : ByteArray} {maxL : Nat} {rt : Option FieldType} {rm : Room} {as' : Array Value} {Q : Option Value → Heap → List Loc → Prop} {a : Addr}
    (hown : s.vm.findClass own = some m.cls) (w1 : (Cond.methodLink own index y).before a0 Z = true) (w2 : (Cond.instanceMethod y).before a0 Z = true) (wi : (Cond.instantiable y.cls kn).before a0 Z = true) (w5 : (Cond.privateMethod y).before a0 Z = true) (w3 : (Cond.initialized y.cls).before a0 Z = true) (w4 : (Cond.code y bytes maxL rt).before a0 Z = true) (eT : T.heap = h) (E : Exa Z h a C)
    (hM : JMet l Z y bytes maxL rt [] rm as' h Q) (W : Nat) {g : JFrame} (hg : g.method = m) (hsz : g.locals.size = c.maxLocals) (argsL rest : List Value) (has : as' = (.ref a :: argsL).toArray)
    (hlen : ∀ sig, parseMethodDescriptor y.desc = some sig → argsL.length = sig.parameters.length) (hstack : g.stack = argsL.reverse ++ .ref a :: rest) (hW : 2 * g.monitorRoom + (rest.map fun v => v.category).sum ≤ W)
    (hd : decode c.code g.pc = .ok (.invokevirtual index, 3)) (hy : y.cls ≠ "java/lang/invoke/MethodHandle" ∧ y.cls ≠ "java/lang/invoke/VarHandle") (hf : rm.frames + 1 ≤ R.frames) (hl : W + (maxL + 11) + rm.locals ≤ R.locals) (hc : cells + rm.cells ≤ R.cells) (hs : slots + rm.slots ≤ R.slots)
    (k : ∀ (T' : State) (L' : List Loc) (v : Option Value), Stand p l e R s m args below meth c T' (locs ++ L') (cells + rm.cells) (slots + rm.slots) → Q v T'.heap L' → D (T'.setTop { g with pc := g.pc + 3, stack := v.toList ++ rest })) : D (T.setTop g) := by
  subst has
  obtain ⟨ce, hce, hob⟩ := E.cell
  have hpriv : s.PrivateAt y := Cond.privateMethod_at (mvP hZ w5 (args := #[]))
  have hins : (Cond.instanceMethod y).before args s = true := mvT hZ w2
  have hwi : (Cond.instantiable y.cls kn).before args s = true := mvT hZ wi
  obtain ⟨ck, kk, c1, c2, -, c4, -⟩ := Cond.instantiable_spec hwi
  have hsel := selects_self_of_private c1 c2 (Bool.or_eq_false_iff.mp c4).1 hpriv hins hy
  obtain ⟨v, _, ⟨T', L, k', n'⟩, -, X', ⟨Lc, hQ, l', y', z'⟩, st⟩ := X.privateBack hx (y := y) hown (mvT hZ w1) hins hsel hpriv (mvT hZ w4) hy (backOf (W := W) hM hZ w4 w3 hf hl) (g := g) hg hsz (Steps.refl _) (a := a) (cell := ce) (by rw [eT]; exact hce) hob (argsL := argsL) (rest := rest) hlen hstack hW hd (fun _ _ => ⟨rfl, eT, hc, hs⟩)
  dsimp only [Pt.U, Pt.locs, Pt.cells, Pt.slots] at X' l' y' z' st hQ
  subst l' y' z'
  exact A.tr st (k T' Lc v X' hQ)
end Kit
/-! ### arrays by a function of the place -/
section Arrays
variable {p : Program} {l : Launch} {e : Env} {R : Room} {s : State} {m : MethodId} {args : Array Value} {below : List Frame} {meth : Method} {c : Code} {T : State} {locs : List Loc} {cells slots : Nat} {Z : State} {a0 : Array Value} {h h' : Heap} {D : State → Prop} {a b : Addr} {ty : FieldType} {n : Nat} {f : Nat → Int32} {fJ : Nat → Int64} {sl : Nat} {v : Value} {ws : List Addr}
def ArI (Z : State) (h : Heap) (a : Addr) (ty : FieldType) (n : Nat) (f : Nat → Int32) : Prop :=
  n < 2147483648 ∧ ∃ c : Cell, Arr Z h a c ty ∧ c.slots.size = n ∧ ∀ i, i < n → c.slots[i]? = some (.int (f i))
def ArJ (Z : State) (h : Heap) (a : Addr) (n : Nat) (f : Nat → Int64) : Prop :=
  n < 2147483648 ∧ ∃ c : Cell, Arr Z h a c .long ∧ c.slots.size = n ∧ ∀ i, i < n → c.slots[i]? = some (.long (f i))
theorem ArI.lt (F : ArI Z h a ty n f) : a < h.size := by obtain ⟨-, c, A, -⟩ := F; exact A.lt
theorem ArI.ext (F : ArI Z h a ty n f) (E : Ext h h') : ArI Z h' a ty n f := by obtain ⟨q, c, A, r⟩ := F; exact ⟨q, c, A.ext E, r⟩
theorem ArI.other (F : ArI Z h b ty n f) (W : Wr h h' a sl v) (q : b ≠ a) : ArI Z h' b ty n f := by obtain ⟨z, c, A, r⟩ := F; exact ⟨z, c, A.other W q, r⟩
theorem ArI.keep (F : ArI Z h a ty n f) (K : Keep h h' ws) (q : a ∉ ws) : ArI Z h' a ty n f := by obtain ⟨z, c, A, r⟩ := F; exact ⟨z, c, ⟨K.2.1 a c A.1 q, A.2⟩, r⟩
theorem ArI.eqf {g : Nat → Int32} (F : ArI Z h a ty n f) (q : ∀ i, i < n → f i = g i) : ArI Z h a ty n g := by
  obtain ⟨z, c, A, r, H⟩ := F; exact ⟨z, c, A, r, fun i hi => by rw [← q i hi]; exact H i hi⟩
theorem ArJ.lt (F : ArJ Z h a n fJ) : a < h.size := by obtain ⟨-, c, A, -⟩ := F; exact A.lt
theorem ArJ.ext (F : ArJ Z h a n fJ) (E : Ext h h') : ArJ Z h' a n fJ := by obtain ⟨q, c, A, r⟩ := F; exact ⟨q, c, A.ext E, r⟩
theorem ArJ.other (F : ArJ Z h b n fJ) (W : Wr h h' a sl v) (q : b ≠ a) : ArJ Z h' b n fJ := by obtain ⟨z, c, A, r⟩ := F; exact ⟨z, c, A.other W q, r⟩
theorem ArJ.keep (F : ArJ Z h a n fJ) (K : Keep h h' ws) (q : a ∉ ws) : ArJ Z h' a n fJ := by obtain ⟨z, c, A, r⟩ := F; exact ⟨z, c, ⟨K.2.1 a c A.1 q, A.2⟩, r⟩
theorem ArJ.eqf {g : Nat → Int64} (F : ArJ Z h a n fJ) (q : ∀ i, i < n → fJ i = g i) : ArJ Z h a n g := by
  obtain ⟨z, c, A, r, H⟩ := F; exact ⟨z, c, A, r, fun i hi => by rw [← q i hi]; exact H i hi⟩
theorem ne_ari {C : String} {k : Nat} (F : Exa Z h a C) (wi : (Cond.instantiable C k).before a0 Z = true) (G : ArI Z h b ty n f) : a ≠ b := by obtain ⟨-, c, A, -⟩ := G; exact ne_arr F wi A
theorem ne_arj {C : String} {k : Nat} (F : Exa Z h a C) (wi : (Cond.instantiable C k).before a0 Z = true) (G : ArJ Z h b n fJ) : a ≠ b := by obtain ⟨-, c, A, -⟩ := G; exact ne_arr F wi A
theorem ne_arr2 {c1 c2 : Cell} {t1 t2 : FieldType} (F : Arr Z h a c1 t1) (G : Arr Z h b c2 t2) (hn : t1 ≠ t2) : a ≠ b := fun q => by
  subst q
  cases F.1.symm.trans G.1
  obtain ⟨-, k1, j1, comp1, j2⟩ := F.2.1
  obtain ⟨-, k2, i1, comp2, i2⟩ := G.2.1
  cases j1.symm.trans i1
  rw [j2] at i2
  injection i2 with _ q2
  exact hn q2
theorem ne_aij {n' : Nat} (F : ArI Z h a ty n f) (G : ArJ Z h b n' fJ) (hn : ty ≠ .long) : a ≠ b := by obtain ⟨-, c, A, -⟩ := F; obtain ⟨-, c', A', -⟩ := G; exact ne_arr2 A A' hn
theorem to_nat {j : Int32} {k : Nat} (hk : j.toInt = k) : j.toNatClampNeg = k := by simp only [Int32.toNatClampNeg, hk, Int.toNat_natCast]
theorem inb {cl : Cell} {j : Int32} {k : Nat} (hk : j.toInt = k) (hkn : k < n) (hs : cl.slots.size = n) : ¬ (j < 0 ∨ cl.slots.size ≤ j.toNatClampNeg) := by
  rw [to_nat hk, hs, Int32.lt_iff_toInt_lt, hk, show (0 : Int32).toInt = 0 from rfl]; omega
theorem ixadd {x d : Int32} {k j : Nat} (hx : x.toInt = k) (hd : d.toInt = j) (h : k + j < 2147483648) : (x + d).toInt = ((k + j : Nat) : Int) := by
  have h2 := c_iadd x d
  have h3 := rng32 (x + d)
  omega
theorem ArI.mk {k : ClassId} {z : Int32} (A : Arr Z h a (newA k ty z) ty) (hn : z.toInt = n) (hd : defaultValue ty = .int 0) : ArI Z h a ty n (fun _ => 0) := by
  have hz := to_nat hn
  refine ⟨?_, _, A, by rw [sz_new, hz], fun i hi => ?_⟩
  · have := Int32.toInt_lt z; omega
  · simp [newA, hz, hi, hd]
theorem ArJ.mk {k : ClassId} {z : Int32} (A : Arr Z h a (newA k .long z) .long) (hn : z.toInt = n) : ArJ Z h a n (fun _ => 0) := by
  have hz := to_nat hn
  refine ⟨?_, _, A, by rw [sz_new, hz], fun i hi => ?_⟩
  · have := Int32.toInt_lt z; omega
  · simp [newA, hz, hi, defaultValue]
theorem set_at {cl : Cell} {i k : Nat} (hk : k < cl.slots.size) : (cl.setSlot k v).slots[i]? = if i = k then some v else cl.slots[i]? := by
  simp only [Cell.setSlot, Array.getElem?_setIfInBounds]
  by_cases q : i = k
  · subst q; simp [hk]
  · simp [q, Ne.symm q]
theorem ArI.set {x : Int32} {k : Nat} (F : ArI Z h a ty n f) (W : Wr h h' a k (.int x)) (hk : k < n) : ArI Z h' a ty n (fun i => if i = k then x else f i) := by
  obtain ⟨z, c, A, r, H⟩ := F
  refine ⟨z, _, A.same W, by rw [sz_set, r], fun i hi => ?_⟩
  rw [set_at (by omega)]
  by_cases q : i = k
  · simp [q]
  · simp [q, H i hi]
theorem ArJ.set {x : Int64} {k : Nat} (F : ArJ Z h a n fJ) (W : Wr h h' a k (.long x)) (hk : k < n) : ArJ Z h' a n (fun i => if i = k then x else fJ i) := by
  obtain ⟨z, c, A, r, H⟩ := F
  refine ⟨z, _, A.same W, by rw [sz_set, r], fun i hi => ?_⟩
  rw [set_at (by omega)]
  by_cases q : i = k
  · simp [q]
  · simp [q, H i hi]
theorem Adv.ldI (A : Adv p e below D) (X : Stand p l e R s m args below meth c T locs cells slots) (hx : p.tables.exec = Jvm.exec) (hZ : Z.Warmed39 s.vm) (eT : T.heap = h) (F : ArI Z h a .int n f) {j : Int32} {k : Nat} (hk : j.toInt = k) (hkn : k < n) {g : JFrame} (hg : g.method = m) {rest : List Value} (hs : g.stack = .int j :: .ref a :: rest) (hd : decode c.code g.pc = .ok (.iaload, 1))
    (kk : D (T.setTop { g with pc := g.pc + 1, stack := .int (f k) :: rest })) : D (T.setTop g) := by
  obtain ⟨-, cl, Ar, r, H⟩ := F
  exact A (X.iaload hx (j := j) (v := .int (f k)) (by rw [eT]; exact Ar.1) (State.isArrayOf_alike hZ.alike Ar.2.1) Ar.2.2 (inb hk hkn r) (by rw [to_nat hk]; exact H k hkn) (g := g) hg hs hd _) kk
theorem Adv.ldB (A : Adv p e below D) (X : Stand p l e R s m args below meth c T locs cells slots) (hx : p.tables.exec = Jvm.exec) (hZ : Z.Warmed39 s.vm) (eT : T.heap = h) (F : ArI Z h a .byte n f) {j : Int32} {k : Nat} (hk : j.toInt = k) (hkn : k < n) {g : JFrame} (hg : g.method = m) {rest : List Value} (hs : g.stack = .int j :: .ref a :: rest) (hd : decode c.code g.pc = .ok (.baload, 1))
    (kk : D (T.setTop { g with pc := g.pc + 1, stack := .int (f k) :: rest })) : D (T.setTop g) := by
  obtain ⟨-, cl, Ar, r, H⟩ := F
  exact A (X.baloadBytes hx (j := j) (v := .int (f k)) (by rw [eT]; exact Ar.1) (State.isArrayOf_alike hZ.alike Ar.2.1) Ar.2.2 (inb hk hkn r) (by rw [to_nat hk]; exact H k hkn) (g := g) hg hs hd _) kk
theorem Adv.ldJ (A : Adv p e below D) (X : Stand p l e R s m args below meth c T locs cells slots) (hx : p.tables.exec = Jvm.exec) (hZ : Z.Warmed39 s.vm) (eT : T.heap = h) (F : ArJ Z h a n fJ) {j : Int32} {k : Nat} (hk : j.toInt = k) (hkn : k < n) {g : JFrame} (hg : g.method = m) {rest : List Value} (hs : g.stack = .int j :: .ref a :: rest) (hd : decode c.code g.pc = .ok (.laload, 1))
    (kk : D (T.setTop { g with pc := g.pc + 1, stack := .long (fJ k) :: rest })) : D (T.setTop g) := by
  obtain ⟨-, cl, Ar, r, H⟩ := F
  exact A (X.laload hx (j := j) (v := .long (fJ k)) (by rw [eT]; exact Ar.1) (State.isArrayOf_alike hZ.alike Ar.2.1) Ar.2.2 (inb hk hkn r) (by rw [to_nat hk]; exact H k hkn) (g := g) hg hs hd _) kk
theorem len32 {cl : Cell} (z : n < 2147483648) (r : cl.slots.size = n) : cl.slots.size.toInt32 = Int32.ofNat n   := by rw [r]
theorem Adv.lenI (A : Adv p e below D) (X : Stand p l e R s m args below meth c T locs cells slots) (hx : p.tables.exec = Jvm.exec) (hZ : Z.Warmed39 s.vm) (eT : T.heap = h) (F : ArI Z h a ty n f) {g : JFrame} (hg : g.method = m) {rest : List Value} (hs : g.stack = .ref a :: rest) (hd : decode c.code g.pc = .ok (.arraylength, 1))
    (kk : D (T.setTop { g with pc := g.pc + 1, stack := .int (Int32.ofNat n) :: rest })) : D (T.setTop g) := by
  obtain ⟨z, cl, Ar, r, H⟩ := F
  rw [← len32 z r] at kk
  exact A (X.arraylength hx (by rw [eT]; exact Ar.1) (State.isArrayOf_alike hZ.alike Ar.2.1) (g := g) hg hs hd _) kk
theorem Adv.lenJ (A : Adv p e below D) (X : Stand p l e R s m args below meth c T locs cells slots) (hx : p.tables.exec = Jvm.exec) (hZ : Z.Warmed39 s.vm) (eT : T.heap = h) (F : ArJ Z h a n fJ) {g : JFrame} (hg : g.method = m) {rest : List Value} (hs : g.stack = .ref a :: rest) (hd : decode c.code g.pc = .ok (.arraylength, 1))
    (kk : D (T.setTop { g with pc := g.pc + 1, stack := .int (Int32.ofNat n) :: rest })) : D (T.setTop g) := by
  obtain ⟨z, cl, Ar, r, H⟩ := F
  rw [← len32 z r] at kk
  exact A (X.arraylength hx (by rw [eT]; exact Ar.1) (State.isArrayOf_alike hZ.alike Ar.2.1) (g := g) hg hs hd _) kk
theorem Adv.stI (A : Adv p e below D) (X : Stand p l e R s m args below meth c T locs cells slots) (hx : p.tables.exec = Jvm.exec) (hZ : Z.Warmed39 s.vm) (eT : T.heap = h) (F : ArI Z h a .int n f) {j x : Int32} {k : Nat} (hk : j.toInt = k) (hkn : k < n) {g : JFrame} (hg : g.method = m) {rest : List Value} (hs : g.stack = .int x :: .int j :: .ref a :: rest) (hd : decode c.code g.pc = .ok (.iastore, 1))
    (kk : ∀ T' h', Stand p l e R s m args below meth c T' (locs ++ [⟨a, k⟩]) cells slots → T'.heap = h' → Wr h h' a k (.int x) → ArI Z h' a .int n (fun i => if i = k then x else f i) → D (T'.setTop { g with pc := g.pc + 1, stack := rest })) : D (T.setTop g) := by
  obtain ⟨cl, Ar, r, H⟩ := F.2
  obtain ⟨T', h', X', e', W, st⟩ := Jvm.RoadKit.stI X hx hZ eT Ar (j := j) (x := x) (inb hk hkn r) hg hs hd
  rw [to_nat hk] at X' W
  exact A (fun q => st _ q) (kk T' h' X' e' W (F.set W hkn))
theorem Adv.stB (A : Adv p e below D) (X : Stand p l e R s m args below meth c T locs cells slots) (hx : p.tables.exec = Jvm.exec) (hZ : Z.Warmed39 s.vm) (eT : T.heap = h) (F : ArI Z h a .byte n f) {j x : Int32} {k : Nat} (hk : j.toInt = k) (hkn : k < n) {g : JFrame} (hg : g.method = m) {rest : List Value} (hs : g.stack = .int x :: .int j :: .ref a :: rest) (hd : decode c.code g.pc = .ok (.bastore, 1))
    (kk : ∀ T' h', Stand p l e R s m args below meth c T' (locs ++ [⟨a, k⟩]) cells slots → T'.heap = h' → Wr h h' a k (.int x.toInt8.toInt32) → ArI Z h' a .byte n (fun i => if i = k then x.toInt8.toInt32 else f i) → D (T'.setTop { g with pc := g.pc + 1, stack := rest })) : D (T.setTop g) := by
  obtain ⟨cl, Ar, r, H⟩ := F.2
  obtain ⟨T', h', X', e', W, st⟩ := Jvm.RoadKit.stB X hx hZ eT Ar (j := j) (x := x) (inb hk hkn r) hg hs hd
  rw [to_nat hk] at X' W
  exact A (fun q => st _ q) (kk T' h' X' e' W (F.set W hkn))
theorem Adv.stJ (A : Adv p e below D) (X : Stand p l e R s m args below meth c T locs cells slots) (hx : p.tables.exec = Jvm.exec) (hZ : Z.Warmed39 s.vm) (eT : T.heap = h) (F : ArJ Z h a n fJ) {j : Int32} {x : Int64} {k : Nat} (hk : j.toInt = k) (hkn : k < n) {g : JFrame} (hg : g.method = m) {rest : List Value} (hs : g.stack = .long x :: .int j :: .ref a :: rest) (hd : decode c.code g.pc = .ok (.lastore, 1))
    (kk : ∀ T' h', Stand p l e R s m args below meth c T' (locs ++ [⟨a, k⟩]) cells slots → T'.heap = h' → Wr h h' a k (.long x) → ArJ Z h' a n (fun i => if i = k then x else fJ i) → D (T'.setTop { g with pc := g.pc + 1, stack := rest })) : D (T.setTop g) := by
  obtain ⟨cl, Ar, r, H⟩ := F.2
  obtain ⟨T', h', X', e', W, st⟩ := Jvm.RoadKit.stJ X hx hZ eT Ar (j := j) (x := x) (inb hk hkn r) hg hs hd
  rw [to_nat hk] at X' W
  exact A (fun q => st _ q) (kk T' h' X' e' W (F.set W hkn))
theorem Adv.newI (A : Adv p e below D) (X : Stand p l e R s m args below meth c T locs cells slots) (hx : p.tables.exec = Jvm.exec) (hZ : Z.Warmed39 s.vm) {aty : ArrayType} (w : (Cond.arrayClass (newarray.typeOf aty)).before a0 Z = true) (eT : T.heap = h) {z : Int32} (hz : z.toInt = n) (cap : Nat) (hcap : n ≤ cap) (hb : cap * 8 ≤ 536870912) (hdv : defaultValue (newarray.typeOf aty) = .int 0) {ad : String} (had : "[" ++ (newarray.typeOf aty).toString = ad) (hc : cells + 1 ≤ R.cells) (hl : slots + cap ≤ R.slots) {g : JFrame} (hg : g.method = m) {rest : List Value} (hs : g.stack = .int z :: rest) (hd : decode c.code g.pc = .ok (.newarray aty, 2))
    (kk : ∀ T' h' a, a = h.size → Stand p l e R s m args below meth c T' locs (cells + 1) (slots + cap) → T'.heap = h' → Ext h h' → ArI Z h' a (newarray.typeOf aty) n (fun _ => 0) → Exa Z h' a ad → D (T'.setTop { g with pc := g.pc + 2, stack := .ref a :: rest })) : D (T.setTop g) := by
  have q0 : ¬ z < 0 := by rw [Int32.lt_iff_toInt_lt, hz, show (0 : Int32).toInt = 0 from rfl]; omega
  obtain ⟨T', h', k, X', e', E, Ar, Ex, st⟩ := newPE X hx hZ w eT hg hd hs q0 (cap := cap) (by rw [to_nat hz]; exact hcap) hb hc hl had
  exact A (fun q => st _ q) (kk T' h' _ rfl X' e' E (ArI.mk Ar hz hdv) Ex)
theorem Adv.newJ (A : Adv p e below D) (X : Stand p l e R s m args below meth c T locs cells slots) (hx : p.tables.exec = Jvm.exec) (hZ : Z.Warmed39 s.vm) (w : (Cond.arrayClass .long).before a0 Z = true) (eT : T.heap = h) {z : Int32} (hz : z.toInt = n) (cap : Nat) (hcap : n ≤ cap) (hb : cap * 8 ≤ 536870912) (hc : cells + 1 ≤ R.cells) (hl : slots + cap ≤ R.slots) {g : JFrame} (hg : g.method = m) {rest : List Value} (hs : g.stack = .int z :: rest) (hd : decode c.code g.pc = .ok (.newarray .long, 2))
    (kk : ∀ T' h' a, a = h.size → Stand p l e R s m args below meth c T' locs (cells + 1) (slots + cap) → T'.heap = h' → Ext h h' → ArJ Z h' a n (fun _ => 0) → D (T'.setTop { g with pc := g.pc + 2, stack := .ref a :: rest })) : D (T.setTop g) := by
  have q0 : ¬ z < 0 := by rw [Int32.lt_iff_toInt_lt, hz, show (0 : Int32).toInt = 0 from rfl]; omega
  obtain ⟨T', h', k, X', e', E, Ar, st⟩   := newP (aty := .long) X hx hZ w eT hg hd hs q0 (cap := cap) (by rw [to_nat hz]; exact hcap) hb hc hl
  exact A (fun q => st _ q) (kk T' h' _ rfl X' e' E (ArJ.mk Ar hz))
theorem Adv.cloneI (A : Adv p e below D) (X : Stand p l e R s m args below meth c T locs cells slots) (hx : p.tables.exec = Jvm.exec) (hZ : Z.Warmed39 s.vm) {own ad : String} {index : Nat} (hown : s.vm.findClass own = some m.cls)
    (w1 : (Cond.methodLink own index ⟨ad, "clone", "()Ljava/lang/Object;"⟩).before a0 Z = true) (w2 : (Cond.sameMethod ad "java/lang/Object" "clone" "()Ljava/lang/Object;").before a0 Z = true) (w3 : (Cond.native ⟨"java/lang/Object", "clone", "()Ljava/lang/Object;"⟩).before a0 Z = true)
    (w4 : (Cond.instanceMethod ⟨"java/lang/Object", "clone", "()Ljava/lang/Object;"⟩).before a0 Z = true) (w5 : (Cond.selects ad ⟨ad, "clone", "()Ljava/lang/Object;"⟩ ⟨"java/lang/Object", "clone", "()Ljava/lang/Object;"⟩).before a0 Z = true) (w6 : (Cond.castable ad "java/lang/Cloneable").before a0 Z = true)
    (eT : T.heap = h) (F : ArI Z h a ty n f) (hfit : ∀ i, i < n → fits ty (.int (f i)) = true) (E : Exa Z h a ad) (W cap : Nat) (hcap : n ≤ cap) {g : JFrame} (hg : g.method = m) (hsz : g.locals.size = c.maxLocals) {rest : List Value} (hs : g.stack = .ref a :: rest) (hd : decode c.code g.pc = .ok (.invokevirtual index, 3))
    (hW : 2 * g.monitorRoom + (rest.map fun v => v.category).sum ≤ W) (hf : 1 ≤ R.frames) (hl : W + 14 ≤ R.locals) (hc : cells + 1 ≤ R.cells) (hsl : slots + cap ≤ R.slots)
    (kk : ∀ T' h' b, b = h.size → Stand p l e R s m args below meth c T' locs (cells + 1) (slots + cap) → T'.heap = h' → Ext h h' → ArI Z h' b ty n f → Exa Z h' b ad → D (T'.setTop { g with pc := g.pc + 3, stack := .ref b :: rest })) : D (T.setTop g) := by
  obtain ⟨z, cl, Ar, r, H⟩ := F
  have FC : FitC Z cl := fitC_of Ar fun i hi v hv => by rw [H i (by omega)] at hv; cases hv; exact hfit i (by omega)
  obtain ⟨T', h', X', e', Ex, Ar', E', st⟩ := cloneA X hx hZ hown w1 w2 w3 w4 w5 w6 eT Ar E FC hg hsz hs hd hf hW hl (by rw [r]; exact hcap) hc hsl
  exact A (fun q => st _ q) (kk T' h' _ rfl X' e' Ex ⟨z, _, Ar', r, H⟩ E')
theorem ofNat32 (hn : n < 2147483648) : (Int32.ofNat n).toInt = (n : Int) := Int32.toInt_ofNat_of_lt (by omega)
theorem getD_map (vs : Nat → Value) (d : Value) {i : Nat} (hi : i < n) : (((List.range n).map vs).getD i d) = vs i := by
  simp [List.getD, hi]
theorem ArI.arv (F : ArI Z h a ty n f) (hfit : ∀ i, i < n → fits ty (.int (f i)) = true) : ∃ k, Arv Z h a k ty (Int32.ofNat n) ((List.range n).map fun i => .int (f i)) (.int 0) := by
  obtain ⟨z, cl, Ar, r, H⟩ := F
  have e : (Int32.ofNat n).toNatClampNeg = n := to_nat (ofNat32 z)
  refine ⟨cl.cls, cl, Ar, rfl, by rw [r, e], ?_, fun i hi => ?_, fun i hi => ?_⟩
  · rw [Int32.lt_iff_toInt_lt, ofNat32 z, show (0 : Int32).toInt = 0 from rfl]; omega
  · rw [getD_map _ _ (by omega)]; exact H i (by omega)
  · rw [getD_map _ _ (by omega)]; exact hfit i (by omega)
def intOf : Value → Int32
  | .int x => x
  | _ => 0
theorem Arv.toI {k : ClassId} {vs : List Value} {dv : Value} (F : Arv Z h a k ty (Int32.ofNat n) vs dv) (hn : n < 2147483648) (ht : ty = .int ∨ ty = .boolean ∨ ty = .byte ∨ ty = .char ∨ ty = .short) : ArI Z h a ty n (fun i => intOf (vs.getD i dv)) ∧ ∀ i, i < n → fits ty (.int (intOf (vs.getD i dv))) = true := by
  obtain ⟨cl, Ar, -, S, -, H, G⟩ := F
  rw [to_nat (ofNat32 hn)] at S
  have q : ∀ i, i < n → vs.getD i dv = .int (intOf (vs.getD i dv)) := fun i hi => by
    obtain ⟨x, hx⟩ := fit_I (G i (by omega)) ht
    rw [hx]; rfl
  refine ⟨⟨hn, cl, Ar, S, fun i hi => ?_⟩, fun i hi => ?_⟩
  · rw [← q i hi]; exact H i (by omega)
  · rw [← q i hi]; exact G i (by omega)
theorem Adv.copyI (A : Adv p e below D) (X : Stand p l e R s m args below meth c T locs cells slots) (hx : p.tables.exec = Jvm.exec) (hZ : Z.Warmed39 s.vm) {own : String} {index : Nat} (hown : s.vm.findClass own = some m.cls)
    (w1 : (Cond.methodLink own index Jvm.Stand.acN).before a0 Z = true) (w2 : (Cond.native Jvm.Stand.acN).before a0 Z = true) (w3 : (Cond.static Jvm.Stand.acN).before a0 Z = true) (w4 : (Cond.initialized "java/lang/System").before a0 Z = true) (eT : T.heap = h)
    {f' : Nat → Int32} {n' : Nat} (F : ArI Z h a ty n f) (G : ArI Z h b ty n' f') (ff : ∀ i, i < n → fits ty (.int (f i)) = true) (fg : ∀ i, i < n' → fits ty (.int (f' i)) = true) (hty : ty = .int ∨ ty = .byte) {sp dp nn : Int32} (s1 : 0 ≤ sp.toInt) (s2 : 0 ≤ dp.toInt) (s3 : 0 ≤ nn.toInt) (s4 : sp.toInt + nn.toInt ≤ n) (s5 : dp.toInt + nn.toInt ≤ n')
    {n0 : Nat} (N : Fr n0 locs) (ge : n0 ≤ b) {g : JFrame} (hg : g.method = m) (hsz : g.locals.size = c.maxLocals) {rest : List Value} (hs : g.stack = .int nn :: .int dp :: .ref b :: .int sp :: .ref a :: rest) (hd : decode c.code g.pc = .ok (.invokestatic index, 3))
    (W : Nat) (hW : 2 * g.monitorRoom + (rest.map fun v => v.category).sum ≤ W) (hf : 1 ≤ R.frames) (hlo : W + (nativeFrameWords "java/lang/System" "arraycopy" 5 + 11) ≤ R.locals)
    (kk : ∀ T' h' L f'', Stand p l e R s m args below meth c T' L cells slots → T'.heap = h' → Fr n0 L → Keep h h' [b] → ArI Z h' b ty n' f'' → (∀ i, i < n' → fits ty (.int (f'' i)) = true) → D (T'.setTop { g with pc := g.pc + 3, stack := rest })) : D (T.setTop g) := by
  obtain ⟨k1, Av⟩ := F.arv ff
  obtain ⟨k2, Bv⟩ := G.arv fg
  have z0 : (0 : Int32).toInt = 0 := rfl
  have hn1 := F.1
  have hn2 := G.1
  have e1 := to_nat (ofNat32 hn1)
  have e2 := to_nat (ofNat32 hn2)
  obtain ⟨T', h', L, X', e', N', K, Cv, st⟩ := cpA X hx hZ hown w1 w2 w3 w4 eT Av Bv (us := _) (Or.inl ⟨rfl, by rcases hty with rfl | rfl <;> rfl⟩) (sp := sp) (dp := dp) (nn := nn)
    (by rw [Int32.lt_iff_toInt_lt]; omega) (by rw [Int32.lt_iff_toInt_lt]; omega) (by rw [Int32.lt_iff_toInt_lt]; omega) (by rw [e1]; simp only [Int32.toNatClampNeg]; omega) (by rw [e2]; simp only [Int32.toNatClampNeg]; omega) rfl (by rw [List.length_map, List.length_range]; simp only [Int32.toNatClampNeg]; omega) N ge hg hsz hs hd hf hW hlo
  obtain ⟨I1, I2⟩ := Arv.toI Cv hn2 (by rcases hty with rfl | rfl <;> simp)
  exact A (fun q => st _ q) (kk T' h' L _ X' e' N' K I1 I2)
end Arrays
end Jvm.JW
namespace Jvm.Pilot.@@N@@
open Jvm Jvm.ClassFile Sem Op Lib Jvm.Free Jvm.Stand Jvm.LawKit Jvm.RoadKit Bundle Jvm.JW Jvm.Pilot.@@N@@.Jvm.D
theorem own_keep {Z : State} {h h' : Heap} {C n d : String} {v : Value} (F : Sta Z h C n d v) (K : Keep h h' []) : Sta Z h' C n d v := by
  obtain ⟨cf, i, k, f, st, cell, h1, h2, h3, h4, h5, r⟩ := F; exact ⟨cf, i, k, f, st, cell, h1, h2, h3, h4, K.2.1 _ _ h5 nin0, r⟩
def ArR (Z : State) (h : Heap) (a : Addr) (ty : FieldType) (n : Nat) (f : Nat → Value) : Prop :=
  n < 2147483648 ∧ ∃ c : Cell, Arr Z h a c ty ∧ c.slots.size = n ∧ ∀ i, i < n → c.slots[i]? = some (f i)
section Refs
variable {p : Program} {l : Launch} {e : Env} {R : Room} {s : State} {m : MethodId} {args : Array Value} {below : List Frame} {meth : Method} {c : Code} {T : State} {locs : List Loc} {cells slots : Nat} {Z : State} {a0 : Array Value} {h h' : Heap} {D : State → Prop} {a b : Addr} {ty : FieldType} {n : Nat} {f : Nat → Value} {ws : List Addr}
theorem ArR.lt (F : ArR Z h a ty n f) : a < h.size := by obtain ⟨-, c, A, -⟩ := F; exact A.lt
theorem ArR.ext (F : ArR Z h a ty n f) (E : Ext h h') : ArR Z h' a ty n f := by obtain ⟨q, c, A, r⟩ := F; exact ⟨q, c, A.ext E, r⟩
theorem ArR.keep (F : ArR Z h a ty n f) (K : Keep h h' ws) (q : a ∉ ws) : ArR Z h' a ty n f := by obtain ⟨z, c, A, r⟩ := F; exact ⟨z, c, ⟨K.2.1 a c A.1 q, A.2⟩, r⟩
theorem own_ldR (A : Adv p e below D) (X : Stand p l e R s m args below meth c T locs cells slots) (hx : p.tables.exec = Jvm.exec) (hZ : Z.Warmed39 s.vm) (eT : T.heap = h) (F : ArR Z h a ty n f) (hty : ty.isReference = true) {j : Int32} {k : Nat} (hk : j.toInt = k) (hkn : k < n) {g : JFrame} (hg : g.method = m) {rest : List Value} (hs : g.stack = .int j :: .ref a :: rest) (hd : decode c.code g.pc = .ok (.aaload, 1))
    (kk : D (T.setTop { g with pc := g.pc + 1, stack := f k :: rest })) : D (T.setTop g) := by
  obtain ⟨-, cl, Ar, r, H⟩ := F
  exact A (X.aaload hx (j := j) (v := f k) (by rw [eT]; exact Ar.1) (State.isArrayOf_alike hZ.alike Ar.2.1) hty Ar.2.2 (inb hk hkn r) (by rw [to_nat hk]; exact H k hkn) (g := g) hg hs hd _) kk
theorem own_lenR (A : Adv p e below D) (X : Stand p l e R s m args below meth c T locs cells slots) (hx : p.tables.exec = Jvm.exec) (hZ : Z.Warmed39 s.vm) (eT : T.heap = h) (F : ArR Z h a ty n f) {g : JFrame} (hg : g.method = m) {rest : List Value} (hs : g.stack = .ref a :: rest) (hd : decode c.code g.pc = .ok (.arraylength, 1))
    (kk : D (T.setTop { g with pc := g.pc + 1, stack := .int (Int32.ofNat n) :: rest })) : D (T.setTop g) := by
  obtain ⟨z, cl, Ar, r, H⟩ := F
  rw [← len32 z r] at kk
  exact A (X.arraylength hx (by rw [eT]; exact Ar.1) (State.isArrayOf_alike hZ.alike Ar.2.1) (g := g) hg hs hd _) kk
end Refs
def own_vs (o0 o1 o2 : Addr) (i : Nat) : Value := if i = 0 then .ref o0 else if i = 1 then .ref o1 else .ref o2
theorem d2_0 : decode prog_19_method_1_code 0 = .ok (.getstatic 13, 3) := by decide +kernel
theorem d2_3 : decode prog_19_method_1_code 3 = .ok (.invokevirtual 17, 3) := by decide +kernel
theorem d2_6 : decode prog_19_method_1_code 6 = .ok (.checkcast 18, 3) := by decide +kernel
theorem d2_9 : decode prog_19_method_1_code 9 = .ok (.areturn, 1) := by decide +kernel
theorem pn2 : plainFor (⟨"com/example/wireproof/wireproof/codec/discv5/PacketFlag", "values", "()[Lcom/example/wireproof/wireproof/codec/discv5/PacketFlag;"⟩ : MethodName) = true := by decide +kernel
theorem ef2  (m : MethodId) : entryFrame m #[] 0 = mkF m 0 #[] [] := by first | (simp [entryFrame, mkF, argsToLocals, Value.category]; done) | rfl
set_option maxRecDepth 65536 in
set_option maxHeartbeats 40000000 in
theorem rm2 (l : Launch) (Z : State) (a0 : Array Value) (hw : ∀ d ∈ tables_1, d.before a0 Z = true) (ws : List Jvm.Cond)  (h0 : Heap) (n0 : Nat) (v0 o0 o1 o2 : Addr) (cl : Cell) (Ar : Arr Z h0 v0 cl (.object "com/example/wireproof/wireproof/codec/discv5/PacketFlag")) (Ex : Exa Z h0 v0 "[Lcom/example/wireproof/wireproof/codec/discv5/PacketFlag;") (Fc : FitC Z cl) (hsz : cl.slots.size = 3) (H : ∀ i, i < 3 → cl.slots[i]? = some (own_vs o0 o1 o2 i)) (S_v : Sta Z h0 "com/example/wireproof/wireproof/codec/discv5/PacketFlag" "$VALUES" "[Lcom/example/wireproof/wireproof/codec/discv5/PacketFlag;" (.ref v0)) :
    JMet l Z (⟨"com/example/wireproof/wireproof/codec/discv5/PacketFlag", "values", "()[Lcom/example/wireproof/wireproof/codec/discv5/PacketFlag;"⟩ : MethodName) prog_19_method_1_code 0 (some (.array (.object "com/example/wireproof/wireproof/codec/discv5/PacketFlag"))) ws ({ frames := 1, cells := 1, slots := 3, locals := 14 } : Room) #[] h0 (fun v h L => ∃ b : Addr, v = some (.ref b) ∧ Fr n0 L ∧ Keep h0 h [] ∧ ArR Z h b (.object "com/example/wireproof/wireproof/codec/discv5/PacketFlag") 3 (own_vs o0 o1 o2) ∧ h0.size ≤ b) := by
  refine Jvm.JW.body #[] pn2 (ef2 ) ?_
  intro p e s m below meth c T0 D A F X0 hx hZ hby hml hown hnm hrt hlk e0
  obtain ⟨T1, X1, e1, st1⟩ := getS X0 hx hZ hown (host := "") (hw _ (List.mem_of_getElem? (i := 7) rfl)) Via.refl e0 S_v (g := (mkF m 0 #[] [])) rfl (hb hby d2_0)
  refine A (st1 _) ?_
  show D (T1.setTop (mkF m 3 #[] [(.ref v0)]))
  obtain ⟨T2, h2, X2, e2, E2, Ar2, EA2, st2⟩ := cloneA X1 hx hZ hown (hw _ (List.mem_of_getElem? (i := 9) rfl)) (hw _ (List.mem_of_getElem? (i := 10) rfl)) (hw _ (List.mem_of_getElem? (i := 14) rfl)) (hw _ (List.mem_of_getElem? (i := 12) rfl)) (hw _ (List.mem_of_getElem? (i := 13) rfl)) (hw _ (List.mem_of_getElem? (i := 15) rfl)) e1 Ar Ex Fc (g := (mkF m 3 #[] [(.ref v0)])) rfl (by rw [hml]; rfl) rfl (hb hby d2_3) (by decide) (W := 0) (cap := 3) (by show 2 * 0 + _ ≤ _; exact Nat.le_of_eq rfl) (by decide) (by rw [hsz]; decide) (by decide) (by decide)
  obtain ⟨b2, q_b2⟩ : ∃ z, z = h0.size := ⟨_, rfl⟩
  rw [← q_b2] at Ar2 EA2 st2
  have S_v_2 := S_v.ext E2
  have KK_2 : Keep h0 h2 [] := (Keep.refl h0 []).ext E2
  refine A (st2 _) ?_
  show D (T2.setTop (mkF m 6 #[] [(.ref b2)]))
  obtain ⟨T3, X3, e3, st3⟩ := castY X2 hx hZ hown (hw _ (List.mem_of_getElem? (i := 20) rfl)) e2 (Ins.self EA2) (g := (mkF m 6 #[] [(.ref b2)])) rfl rfl (hb hby d2_6)
  refine A (st3 _) ?_
  show D (T3.setTop (mkF m 9 #[] [(.ref b2)]))
  refine F _ (Jvm.JW.ret X3 hlk (v := some (.ref b2)) (fun h => by rw [hrt] at h; cases h) (fun fs hr => retOut X3 hx hrt rfl (Or.inr (Or.inr (Or.inr (Or.inr ⟨rfl, rfl, rfl⟩)))) (hb hby d2_9) hr) e3 ?_ (by decide) (by decide))
  exact ⟨b2, rfl, (Fr.nil n0), KK_2, ⟨by decide, _, Ar2, hsz, H⟩, Nat.le_of_eq q_b2.symm⟩
theorem d1_0 : decode prog_19_method_4_code 0 = .ok (.invokestatic 40, 3) := by decide +kernel
theorem d1_3 : decode prog_19_method_4_code 3 = .ok (.astore_n 1, 1) := by decide +kernel
theorem d1_4 : decode prog_19_method_4_code 4 = .ok (.aload_n 1, 1) := by decide +kernel
theorem d1_5 : decode prog_19_method_4_code 5 = .ok (.arraylength, 1) := by decide +kernel
theorem d1_6 : decode prog_19_method_4_code 6 = .ok (.istore_n 2, 1) := by decide +kernel
theorem d1_7 : decode prog_19_method_4_code 7 = .ok (.iconst 0, 1) := by decide +kernel
theorem d1_8 : decode prog_19_method_4_code 8 = .ok (.istore_n 3, 1) := by decide +kernel
theorem d1_9 : decode prog_19_method_4_code 9 = .ok (.iload_n 3, 1) := by decide +kernel
theorem d1_10 : decode prog_19_method_4_code 10 = .ok (.iload_n 2, 1) := by decide +kernel
theorem d1_11 : decode prog_19_method_4_code 11 = .ok (.if_icmp .ge 26, 3) := by decide +kernel
theorem d1_14 : decode prog_19_method_4_code 14 = .ok (.aload_n 1, 1) := by decide +kernel
theorem d1_15 : decode prog_19_method_4_code 15 = .ok (.iload_n 3, 1) := by decide +kernel
theorem d1_16 : decode prog_19_method_4_code 16 = .ok (.aaload, 1) := by decide +kernel
theorem d1_17 : decode prog_19_method_4_code 17 = .ok (.astore 4, 2) := by decide +kernel
theorem d1_19 : decode prog_19_method_4_code 19 = .ok (.aload 4, 2) := by decide +kernel
theorem d1_21 : decode prog_19_method_4_code 21 = .ok (.getfield 32, 3) := by decide +kernel
theorem d1_24 : decode prog_19_method_4_code 24 = .ok (.iload_n 0, 1) := by decide +kernel
theorem d1_25 : decode prog_19_method_4_code 25 = .ok (.if_icmp .ne 6, 3) := by decide +kernel
theorem d1_28 : decode prog_19_method_4_code 28 = .ok (.aload 4, 2) := by decide +kernel
theorem d1_30 : decode prog_19_method_4_code 30 = .ok (.areturn, 1) := by decide +kernel
theorem pn1 : plainFor (⟨"com/example/wireproof/wireproof/codec/discv5/PacketFlag", "withCode", "(I)Lcom/example/wireproof/wireproof/codec/discv5/PacketFlag;"⟩ : MethodName) = true := by decide +kernel
theorem pd1_0 : parseMethodDescriptor "()[Lcom/example/wireproof/wireproof/codec/discv5/PacketFlag;" = some ⟨[], some (.array (.object "com/example/wireproof/wireproof/codec/discv5/PacketFlag"))⟩ := by decide +kernel
theorem ef1 (p1 : Int32) (m : MethodId) : entryFrame m #[(.int p1)] 5 = mkF m 0 #[.val (.int p1), .unset, .unset, .unset, .unset] [] := by first | (simp [entryFrame, mkF, argsToLocals, Value.category]; done) | rfl
set_option maxRecDepth 65536 in
set_option maxHeartbeats 40000000 in
theorem rm1_0 (l : Launch) (Z : State) (a0 : Array Value) (hw : ∀ d ∈ tables_1, d.before a0 Z = true) (ws : List Jvm.Cond) (p1 : Int32) (h0 : Heap) (n0 : Nat) (v0 o0 o1 o2 : Addr) (cl : Cell) (Ar : Arr Z h0 v0 cl (.object "com/example/wireproof/wireproof/codec/discv5/PacketFlag")) (Ex : Exa Z h0 v0 "[Lcom/example/wireproof/wireproof/codec/discv5/PacketFlag;") (Fc : FitC Z cl) (hsz : cl.slots.size = 3) (H : ∀ i, i < 3 → cl.slots[i]? = some (own_vs o0 o1 o2 i)) (S_v : Sta Z h0 "com/example/wireproof/wireproof/codec/discv5/PacketFlag" "$VALUES" "[Lcom/example/wireproof/wireproof/codec/discv5/PacketFlag;" (.ref v0)) (Z0 : n0 ≤ h0.size) (F0 : Fld Z h0 o0 "com/example/wireproof/wireproof/codec/discv5/PacketFlag" "code" "I" (.int (0 : Int32))) (F1 : Fld Z h0 o1 "com/example/wireproof/wireproof/codec/discv5/PacketFlag" "code" "I" (.int (1 : Int32))) (F2 : Fld Z h0 o2 "com/example/wireproof/wireproof/codec/discv5/PacketFlag" "code" "I" (.int (2 : Int32))) (hc0 : (0 : Int32) = p1) :
    JMet l Z (⟨"com/example/wireproof/wireproof/codec/discv5/PacketFlag", "withCode", "(I)Lcom/example/wireproof/wireproof/codec/discv5/PacketFlag;"⟩ : MethodName) prog_19_method_4_code 5 (some (.object "com/example/wireproof/wireproof/codec/discv5/PacketFlag")) ws ({ frames := 2, cells := 1, slots := 3, locals := 25 } : Room) #[(.int p1)] h0 (fun v h L => v = some (.ref o0) ∧ Fr n0 L ∧ Keep h0 h []) := by
  refine Jvm.JW.body #[.val (.int p1), .unset, .unset, .unset, .unset] pn1 (ef1 p1) ?_
  intro p e s m below meth c T0 D A F X0 hx hZ hby hml hown hnm hrt hlk e0
  refine Adv.callS A X0 hx hZ hown (hw _ (List.mem_of_getElem? (i := 4) rfl)) (hw _ (List.mem_of_getElem? (i := 5) rfl)) (hw _ (List.mem_of_getElem? (i := 2) rfl)) (hw _ (List.mem_of_getElem? (i := 6) rfl)) e0 (rm2 l Z a0 hw [] h0 n0 v0 o0 o1 o2 cl Ar Ex Fc hsz H S_v) 0 (g := (mkF m 0 #[.val (.int p1), .unset, .unset, .unset, .unset] [])) rfl (by rw [hml]; rfl) [] [] rfl (lenOf pd1_0 rfl) rfl (by show 2 * 0 + _ ≤ _; exact Nat.le_of_eq rfl) (hb hby d1_0) (by decide) (by decide) (by decide) (by decide) (by decide) ?_
  rintro T1 L1 _ X1 ⟨b1, rfl, N1_q, K1, V1_q, szq_b1⟩
  have N1 := Fr.app (Fr.nil n0) N1_q
  have F0_1 := F0.keep K1 nin0
  have F1_1 := F1.keep K1 nin0
  have F2_1 := F2.keep K1 nin0
  have Z_1 : n0 ≤ T1.heap.size := Nat.le_trans Z0 K1.1
  have KK_1 : Keep h0 T1.heap [] := (Keep.refl h0 []).trans K1 all0
  show D (T1.setTop (mkF m 3 #[.val (.int p1), .unset, .unset, .unset, .unset] [(.ref b1)]))
  refine A (XS.astoreN X1.here hx rfl (hb hby d1_3) rfl rfl (l' := #[.val (.int p1), .val (.ref b1), .unset, .unset, .unset]) rfl) ?_
  show D (T1.setTop (mkF m 4 #[.val (.int p1), .val (.ref b1), .unset, .unset, .unset] []))
  refine A (XS.aloadN X1.here hx rfl (hb hby d1_4) rfl rfl) ?_
  show D (T1.setTop (mkF m 5 #[.val (.int p1), .val (.ref b1), .unset, .unset, .unset] [(.ref b1)]))
  refine own_lenR A X1 hx hZ rfl V1_q (g := (mkF m 5 #[.val (.int p1), .val (.ref b1), .unset, .unset, .unset] [(.ref b1)])) rfl rfl (hb hby d1_5) ?_
  show D (T1.setTop (mkF m 6 #[.val (.int p1), .val (.ref b1), .unset, .unset, .unset] [(.int (3 : Int32))]))
  refine A (XS.istoreN X1.here hx rfl (hb hby d1_6) rfl (l' := #[.val (.int p1), .val (.ref b1), .val (.int (3 : Int32)), .unset, .unset]) rfl) ?_
  show D (T1.setTop (mkF m 7 #[.val (.int p1), .val (.ref b1), .val (.int (3 : Int32)), .unset, .unset] []))
  refine A (XS.iconst X1.here hx rfl (hb hby d1_7)) ?_
  show D (T1.setTop (mkF m 8 #[.val (.int p1), .val (.ref b1), .val (.int (3 : Int32)), .unset, .unset] [(.int (0 : Int32))]))
  refine A (XS.istoreN X1.here hx rfl (hb hby d1_8) rfl (l' := #[.val (.int p1), .val (.ref b1), .val (.int (3 : Int32)), .val (.int (0 : Int32)), .unset]) rfl) ?_
  show D (T1.setTop (mkF m 9 #[.val (.int p1), .val (.ref b1), .val (.int (3 : Int32)), .val (.int (0 : Int32)), .unset] []))
  refine A (XS.iloadN X1.here hx rfl (hb hby d1_9) rfl) ?_
  show D (T1.setTop (mkF m 10 #[.val (.int p1), .val (.ref b1), .val (.int (3 : Int32)), .val (.int (0 : Int32)), .unset] [(.int (0 : Int32))]))
  refine A (XS.iloadN X1.here hx rfl (hb hby d1_10) rfl) ?_
  show D (T1.setTop (mkF m 11 #[.val (.int p1), .val (.ref b1), .val (.int (3 : Int32)), .val (.int (0 : Int32)), .unset] [(.int (3 : Int32)), (.int (0 : Int32))]))
  refine A (XS.icmpNo X1.here hx rfl (hb hby d1_11) rfl (tlt (by decide : (0 : Int32) < (3 : Int32))).2.1) ?_
  show D (T1.setTop (mkF m 14 #[.val (.int p1), .val (.ref b1), .val (.int (3 : Int32)), .val (.int (0 : Int32)), .unset] []))
  refine A (XS.aloadN X1.here hx rfl (hb hby d1_14) rfl rfl) ?_
  show D (T1.setTop (mkF m 15 #[.val (.int p1), .val (.ref b1), .val (.int (3 : Int32)), .val (.int (0 : Int32)), .unset] [(.ref b1)]))
  refine A (XS.iloadN X1.here hx rfl (hb hby d1_15) rfl) ?_
  show D (T1.setTop (mkF m 16 #[.val (.int p1), .val (.ref b1), .val (.int (3 : Int32)), .val (.int (0 : Int32)), .unset] [(.int (0 : Int32)), (.ref b1)]))
  refine own_ldR A X1 hx hZ rfl V1_q rfl (k := 0) (by decide) (by decide) (g := (mkF m 16 #[.val (.int p1), .val (.ref b1), .val (.int (3 : Int32)), .val (.int (0 : Int32)), .unset] [(.int (0 : Int32)), (.ref b1)])) rfl rfl (hb hby d1_16) ?_
  show D (T1.setTop (mkF m 17 #[.val (.int p1), .val (.ref b1), .val (.int (3 : Int32)), .val (.int (0 : Int32)), .unset] [(.ref o0)]))
  refine A (XS.astore X1.here hx rfl (hb hby d1_17) rfl rfl (l' := #[.val (.int p1), .val (.ref b1), .val (.int (3 : Int32)), .val (.int (0 : Int32)), .val (.ref o0)]) rfl) ?_
  show D (T1.setTop (mkF m 19 #[.val (.int p1), .val (.ref b1), .val (.int (3 : Int32)), .val (.int (0 : Int32)), .val (.ref o0)] []))
  refine A (XS.aload X1.here hx rfl (hb hby d1_19) rfl rfl) ?_
  show D (T1.setTop (mkF m 21 #[.val (.int p1), .val (.ref b1), .val (.int (3 : Int32)), .val (.int (0 : Int32)), .val (.ref o0)] [(.ref o0)]))
  obtain ⟨T2, X2, e2, st2⟩ := getF X1 hx hZ hown (host := "") (Or.inl (hw _ (List.mem_of_getElem? (i := 22) rfl))) Via.refl rfl F0_1 (g := (mkF m 21 #[.val (.int p1), .val (.ref b1), .val (.int (3 : Int32)), .val (.int (0 : Int32)), .val (.ref o0)] [(.ref o0)])) rfl rfl (hb hby d1_21)
  refine A (st2 _) ?_
  show D (T2.setTop (mkF m 24 #[.val (.int p1), .val (.ref b1), .val (.int (3 : Int32)), .val (.int (0 : Int32)), .val (.ref o0)] [(.int (0 : Int32))]))
  refine A (XS.iloadN X2.here hx rfl (hb hby d1_24) rfl) ?_
  show D (T2.setTop (mkF m 25 #[.val (.int p1), .val (.ref b1), .val (.int (3 : Int32)), .val (.int (0 : Int32)), .val (.ref o0)] [(.int p1), (.int (0 : Int32))]))
  refine A (XS.icmpNo X2.here hx rfl (hb hby d1_25) rfl (teq hc0).2) ?_
  show D (T2.setTop (mkF m 28 #[.val (.int p1), .val (.ref b1), .val (.int (3 : Int32)), .val (.int (0 : Int32)), .val (.ref o0)] []))
  refine A (XS.aload X2.here hx rfl (hb hby d1_28) rfl rfl) ?_
  show D (T2.setTop (mkF m 30 #[.val (.int p1), .val (.ref b1), .val (.int (3 : Int32)), .val (.int (0 : Int32)), .val (.ref o0)] [(.ref o0)]))
  refine F _ (Jvm.JW.ret X2 hlk (v := some (.ref o0)) (fun h => by rw [hrt] at h; cases h) (fun fs hr => retOut X2 hx hrt rfl (Or.inr (Or.inr (Or.inr (Or.inr ⟨rfl, rfl, rfl⟩)))) (hb hby d1_30) hr) e2 ?_ (by decide) (by decide))
  exact ⟨rfl, N1, KK_1⟩
theorem d1_31 : decode prog_19_method_4_code 31 = .ok (.iinc 3 1, 3) := by decide +kernel
theorem d1_34 : decode prog_19_method_4_code 34 = .ok (.goto (-25), 3) := by decide +kernel
set_option maxRecDepth 65536 in
set_option maxHeartbeats 40000000 in
theorem rm1_1 (l : Launch) (Z : State) (a0 : Array Value) (hw : ∀ d ∈ tables_1, d.before a0 Z = true) (ws : List Jvm.Cond) (p1 : Int32) (h0 : Heap) (n0 : Nat) (v0 o0 o1 o2 : Addr) (cl : Cell) (Ar : Arr Z h0 v0 cl (.object "com/example/wireproof/wireproof/codec/discv5/PacketFlag")) (Ex : Exa Z h0 v0 "[Lcom/example/wireproof/wireproof/codec/discv5/PacketFlag;") (Fc : FitC Z cl) (hsz : cl.slots.size = 3) (H : ∀ i, i < 3 → cl.slots[i]? = some (own_vs o0 o1 o2 i)) (S_v : Sta Z h0 "com/example/wireproof/wireproof/codec/discv5/PacketFlag" "$VALUES" "[Lcom/example/wireproof/wireproof/codec/discv5/PacketFlag;" (.ref v0)) (Z0 : n0 ≤ h0.size) (F0 : Fld Z h0 o0 "com/example/wireproof/wireproof/codec/discv5/PacketFlag" "code" "I" (.int (0 : Int32))) (F1 : Fld Z h0 o1 "com/example/wireproof/wireproof/codec/discv5/PacketFlag" "code" "I" (.int (1 : Int32))) (F2 : Fld Z h0 o2 "com/example/wireproof/wireproof/codec/discv5/PacketFlag" "code" "I" (.int (2 : Int32))) (hc0 : ¬ (0 : Int32) = p1) (hc1 : (1 : Int32) = p1) :
    JMet l Z (⟨"com/example/wireproof/wireproof/codec/discv5/PacketFlag", "withCode", "(I)Lcom/example/wireproof/wireproof/codec/discv5/PacketFlag;"⟩ : MethodName) prog_19_method_4_code 5 (some (.object "com/example/wireproof/wireproof/codec/discv5/PacketFlag")) ws ({ frames := 2, cells := 1, slots := 3, locals := 25 } : Room) #[(.int p1)] h0 (fun v h L => v = some (.ref o1) ∧ Fr n0 L ∧ Keep h0 h []) := by
  refine Jvm.JW.body #[.val (.int p1), .unset, .unset, .unset, .unset] pn1 (ef1 p1) ?_
  intro p e s m below meth c T0 D A F X0 hx hZ hby hml hown hnm hrt hlk e0
  refine Adv.callS A X0 hx hZ hown (hw _ (List.mem_of_getElem? (i := 4) rfl)) (hw _ (List.mem_of_getElem? (i := 5) rfl)) (hw _ (List.mem_of_getElem? (i := 2) rfl)) (hw _ (List.mem_of_getElem? (i := 6) rfl)) e0 (rm2 l Z a0 hw [] h0 n0 v0 o0 o1 o2 cl Ar Ex Fc hsz H S_v) 0 (g := (mkF m 0 #[.val (.int p1), .unset, .unset, .unset, .unset] [])) rfl (by rw [hml]; rfl) [] [] rfl (lenOf pd1_0 rfl) rfl (by show 2 * 0 + _ ≤ _; exact Nat.le_of_eq rfl) (hb hby d1_0) (by decide) (by decide) (by decide) (by decide) (by decide) ?_
  rintro T1 L1 _ X1 ⟨b1, rfl, N1_q, K1, V1_q, szq_b1⟩
  have N1 := Fr.app (Fr.nil n0) N1_q
  have F0_1 := F0.keep K1 nin0
  have F1_1 := F1.keep K1 nin0
  have F2_1 := F2.keep K1 nin0
  have Z_1 : n0 ≤ T1.heap.size := Nat.le_trans Z0 K1.1
  have KK_1 : Keep h0 T1.heap [] := (Keep.refl h0 []).trans K1 all0
  show D (T1.setTop (mkF m 3 #[.val (.int p1), .unset, .unset, .unset, .unset] [(.ref b1)]))
  refine A (XS.astoreN X1.here hx rfl (hb hby d1_3) rfl rfl (l' := #[.val (.int p1), .val (.ref b1), .unset, .unset, .unset]) rfl) ?_
  show D (T1.setTop (mkF m 4 #[.val (.int p1), .val (.ref b1), .unset, .unset, .unset] []))
  refine A (XS.aloadN X1.here hx rfl (hb hby d1_4) rfl rfl) ?_
  show D (T1.setTop (mkF m 5 #[.val (.int p1), .val (.ref b1), .unset, .unset, .unset] [(.ref b1)]))
  refine own_lenR A X1 hx hZ rfl V1_q (g := (mkF m 5 #[.val (.int p1), .val (.ref b1), .unset, .unset, .unset] [(.ref b1)])) rfl rfl (hb hby d1_5) ?_
  show D (T1.setTop (mkF m 6 #[.val (.int p1), .val (.ref b1), .unset, .unset, .unset] [(.int (3 : Int32))]))
  refine A (XS.istoreN X1.here hx rfl (hb hby d1_6) rfl (l' := #[.val (.int p1), .val (.ref b1), .val (.int (3 : Int32)), .unset, .unset]) rfl) ?_
  show D (T1.setTop (mkF m 7 #[.val (.int p1), .val (.ref b1), .val (.int (3 : Int32)), .unset, .unset] []))
  refine A (XS.iconst X1.here hx rfl (hb hby d1_7)) ?_
  show D (T1.setTop (mkF m 8 #[.val (.int p1), .val (.ref b1), .val (.int (3 : Int32)), .unset, .unset] [(.int (0 : Int32))]))
  refine A (XS.istoreN X1.here hx rfl (hb hby d1_8) rfl (l' := #[.val (.int p1), .val (.ref b1), .val (.int (3 : Int32)), .val (.int (0 : Int32)), .unset]) rfl) ?_
  show D (T1.setTop (mkF m 9 #[.val (.int p1), .val (.ref b1), .val (.int (3 : Int32)), .val (.int (0 : Int32)), .unset] []))
  refine A (XS.iloadN X1.here hx rfl (hb hby d1_9) rfl) ?_
  show D (T1.setTop (mkF m 10 #[.val (.int p1), .val (.ref b1), .val (.int (3 : Int32)), .val (.int (0 : Int32)), .unset] [(.int (0 : Int32))]))
  refine A (XS.iloadN X1.here hx rfl (hb hby d1_10) rfl) ?_
  show D (T1.setTop (mkF m 11 #[.val (.int p1), .val (.ref b1), .val (.int (3 : Int32)), .val (.int (0 : Int32)), .unset] [(.int (3 : Int32)), (.int (0 : Int32))]))
  refine A (XS.icmpNo X1.here hx rfl (hb hby d1_11) rfl (tlt (by decide : (0 : Int32) < (3 : Int32))).2.1) ?_
  show D (T1.setTop (mkF m 14 #[.val (.int p1), .val (.ref b1), .val (.int (3 : Int32)), .val (.int (0 : Int32)), .unset] []))
  refine A (XS.aloadN X1.here hx rfl (hb hby d1_14) rfl rfl) ?_
  show D (T1.setTop (mkF m 15 #[.val (.int p1), .val (.ref b1), .val (.int (3 : Int32)), .val (.int (0 : Int32)), .unset] [(.ref b1)]))
  refine A (XS.iloadN X1.here hx rfl (hb hby d1_15) rfl) ?_
  show D (T1.setTop (mkF m 16 #[.val (.int p1), .val (.ref b1), .val (.int (3 : Int32)), .val (.int (0 : Int32)), .unset] [(.int (0 : Int32)), (.ref b1)]))
  refine own_ldR A X1 hx hZ rfl V1_q rfl (k := 0) (by decide) (by decide) (g := (mkF m 16 #[.val (.int p1), .val (.ref b1), .val (.int (3 : Int32)), .val (.int (0 : Int32)), .unset] [(.int (0 : Int32)), (.ref b1)])) rfl rfl (hb hby d1_16) ?_
  show D (T1.setTop (mkF m 17 #[.val (.int p1), .val (.ref b1), .val (.int (3 : Int32)), .val (.int (0 : Int32)), .unset] [(.ref o0)]))
  refine A (XS.astore X1.here hx rfl (hb hby d1_17) rfl rfl (l' := #[.val (.int p1), .val (.ref b1), .val (.int (3 : Int32)), .val (.int (0 : Int32)), .val (.ref o0)]) rfl) ?_
  show D (T1.setTop (mkF m 19 #[.val (.int p1), .val (.ref b1), .val (.int (3 : Int32)), .val (.int (0 : Int32)), .val (.ref o0)] []))
  refine A (XS.aload X1.here hx rfl (hb hby d1_19) rfl rfl) ?_
  show D (T1.setTop (mkF m 21 #[.val (.int p1), .val (.ref b1), .val (.int (3 : Int32)), .val (.int (0 : Int32)), .val (.ref o0)] [(.ref o0)]))
  obtain ⟨T2, X2, e2, st2⟩ := getF X1 hx hZ hown (host := "") (Or.inl (hw _ (List.mem_of_getElem? (i := 22) rfl))) Via.refl rfl F0_1 (g := (mkF m 21 #[.val (.int p1), .val (.ref b1), .val (.int (3 : Int32)), .val (.int (0 : Int32)), .val (.ref o0)] [(.ref o0)])) rfl rfl (hb hby d1_21)
  refine A (st2 _) ?_
  show D (T2.setTop (mkF m 24 #[.val (.int p1), .val (.ref b1), .val (.int (3 : Int32)), .val (.int (0 : Int32)), .val (.ref o0)] [(.int (0 : Int32))]))
  refine A (XS.iloadN X2.here hx rfl (hb hby d1_24) rfl) ?_
  show D (T2.setTop (mkF m 25 #[.val (.int p1), .val (.ref b1), .val (.int (3 : Int32)), .val (.int (0 : Int32)), .val (.ref o0)] [(.int p1), (.int (0 : Int32))]))
  refine A (XS.icmpYes X2.here hx rfl (pc0 := 25) (pc' := 31) rfl (hb hby d1_25) rfl (feq hc0).2 (by decide) (by decide)) ?_
  show D (T2.setTop (mkF m 31 #[.val (.int p1), .val (.ref b1), .val (.int (3 : Int32)), .val (.int (0 : Int32)), .val (.ref o0)] []))
  refine A (XS.iinc X2.here hx rfl (hb hby d1_31) rfl (l' := #[.val (.int p1), .val (.ref b1), .val (.int (3 : Int32)), .val (.int ((0 : Int32) + (1 : Int32))), .val (.ref o0)]) rfl) ?_
  show D (T2.setTop (mkF m 34 #[.val (.int p1), .val (.ref b1), .val (.int (3 : Int32)), .val (.int ((0 : Int32) + (1 : Int32))), .val (.ref o0)] []))
  suffices Kq3 : ∀ q3 : Int32, q3 = (1 : Int32) → D (T2.setTop (mkF m 34 #[.val (.int p1), .val (.ref b1), .val (.int (3 : Int32)), .val (.int q3), .val (.ref o0)] [])) from Kq3 _ (by decide)
  rintro _ rfl
  show D (T2.setTop (mkF m 34 #[.val (.int p1), .val (.ref b1), .val (.int (3 : Int32)), .val (.int (1 : Int32)), .val (.ref o0)] []))
  refine A (XS.goto X2.here hx rfl (pc0 := 34) (pc' := 9) rfl (hb hby d1_34) (by decide) (by decide)) ?_
  show D (T2.setTop (mkF m 9 #[.val (.int p1), .val (.ref b1), .val (.int (3 : Int32)), .val (.int (1 : Int32)), .val (.ref o0)] []))
  refine A (XS.iloadN X2.here hx rfl (hb hby d1_9) rfl) ?_
  show D (T2.setTop (mkF m 10 #[.val (.int p1), .val (.ref b1), .val (.int (3 : Int32)), .val (.int (1 : Int32)), .val (.ref o0)] [(.int (1 : Int32))]))
  refine A (XS.iloadN X2.here hx rfl (hb hby d1_10) rfl) ?_
  show D (T2.setTop (mkF m 11 #[.val (.int p1), .val (.ref b1), .val (.int (3 : Int32)), .val (.int (1 : Int32)), .val (.ref o0)] [(.int (3 : Int32)), (.int (1 : Int32))]))
  refine A (XS.icmpNo X2.here hx rfl (hb hby d1_11) rfl (tlt (by decide : (1 : Int32) < (3 : Int32))).2.1) ?_
  show D (T2.setTop (mkF m 14 #[.val (.int p1), .val (.ref b1), .val (.int (3 : Int32)), .val (.int (1 : Int32)), .val (.ref o0)] []))
  refine A (XS.aloadN X2.here hx rfl (hb hby d1_14) rfl rfl) ?_
  show D (T2.setTop (mkF m 15 #[.val (.int p1), .val (.ref b1), .val (.int (3 : Int32)), .val (.int (1 : Int32)), .val (.ref o0)] [(.ref b1)]))
  refine A (XS.iloadN X2.here hx rfl (hb hby d1_15) rfl) ?_
  show D (T2.setTop (mkF m 16 #[.val (.int p1), .val (.ref b1), .val (.int (3 : Int32)), .val (.int (1 : Int32)), .val (.ref o0)] [(.int (1 : Int32)), (.ref b1)]))
  refine own_ldR A X2 hx hZ e2 V1_q rfl (k := 1) (by decide) (by decide) (g := (mkF m 16 #[.val (.int p1), .val (.ref b1), .val (.int (3 : Int32)), .val (.int (1 : Int32)), .val (.ref o0)] [(.int (1 : Int32)), (.ref b1)])) rfl rfl (hb hby d1_16) ?_
  show D (T2.setTop (mkF m 17 #[.val (.int p1), .val (.ref b1), .val (.int (3 : Int32)), .val (.int (1 : Int32)), .val (.ref o0)] [(.ref o1)]))
  refine A (XS.astore X2.here hx rfl (hb hby d1_17) rfl rfl (l' := #[.val (.int p1), .val (.ref b1), .val (.int (3 : Int32)), .val (.int (1 : Int32)), .val (.ref o1)]) rfl) ?_
  show D (T2.setTop (mkF m 19 #[.val (.int p1), .val (.ref b1), .val (.int (3 : Int32)), .val (.int (1 : Int32)), .val (.ref o1)] []))
  refine A (XS.aload X2.here hx rfl (hb hby d1_19) rfl rfl) ?_
  show D (T2.setTop (mkF m 21 #[.val (.int p1), .val (.ref b1), .val (.int (3 : Int32)), .val (.int (1 : Int32)), .val (.ref o1)] [(.ref o1)]))
  obtain ⟨T4, X4, e4, st4⟩ := getF X2 hx hZ hown (host := "") (Or.inl (hw _ (List.mem_of_getElem? (i := 22) rfl))) Via.refl e2 F1_1 (g := (mkF m 21 #[.val (.int p1), .val (.ref b1), .val (.int (3 : Int32)), .val (.int (1 : Int32)), .val (.ref o1)] [(.ref o1)])) rfl rfl (hb hby d1_21)
  refine A (st4 _) ?_
  show D (T4.setTop (mkF m 24 #[.val (.int p1), .val (.ref b1), .val (.int (3 : Int32)), .val (.int (1 : Int32)), .val (.ref o1)] [(.int (1 : Int32))]))
  refine A (XS.iloadN X4.here hx rfl (hb hby d1_24) rfl) ?_
  show D (T4.setTop (mkF m 25 #[.val (.int p1), .val (.ref b1), .val (.int (3 : Int32)), .val (.int (1 : Int32)), .val (.ref o1)] [(.int p1), (.int (1 : Int32))]))
  refine A (XS.icmpNo X4.here hx rfl (hb hby d1_25) rfl (teq hc1).2) ?_
  show D (T4.setTop (mkF m 28 #[.val (.int p1), .val (.ref b1), .val (.int (3 : Int32)), .val (.int (1 : Int32)), .val (.ref o1)] []))
  refine A (XS.aload X4.here hx rfl (hb hby d1_28) rfl rfl) ?_
  show D (T4.setTop (mkF m 30 #[.val (.int p1), .val (.ref b1), .val (.int (3 : Int32)), .val (.int (1 : Int32)), .val (.ref o1)] [(.ref o1)]))
  refine F _ (Jvm.JW.ret X4 hlk (v := some (.ref o1)) (fun h => by rw [hrt] at h; cases h) (fun fs hr => retOut X4 hx hrt rfl (Or.inr (Or.inr (Or.inr (Or.inr ⟨rfl, rfl, rfl⟩)))) (hb hby d1_30) hr) e4 ?_ (by decide) (by decide))
  exact ⟨rfl, N1, KK_1⟩
set_option maxRecDepth 65536 in
set_option maxHeartbeats 40000000 in
theorem rm1_2 (l : Launch) (Z : State) (a0 : Array Value) (hw : ∀ d ∈ tables_1, d.before a0 Z = true) (ws : List Jvm.Cond) (p1 : Int32) (h0 : Heap) (n0 : Nat) (v0 o0 o1 o2 : Addr) (cl : Cell) (Ar : Arr Z h0 v0 cl (.object "com/example/wireproof/wireproof/codec/discv5/PacketFlag")) (Ex : Exa Z h0 v0 "[Lcom/example/wireproof/wireproof/codec/discv5/PacketFlag;") (Fc : FitC Z cl) (hsz : cl.slots.size = 3) (H : ∀ i, i < 3 → cl.slots[i]? = some (own_vs o0 o1 o2 i)) (S_v : Sta Z h0 "com/example/wireproof/wireproof/codec/discv5/PacketFlag" "$VALUES" "[Lcom/example/wireproof/wireproof/codec/discv5/PacketFlag;" (.ref v0)) (Z0 : n0 ≤ h0.size) (F0 : Fld Z h0 o0 "com/example/wireproof/wireproof/codec/discv5/PacketFlag" "code" "I" (.int (0 : Int32))) (F1 : Fld Z h0 o1 "com/example/wireproof/wireproof/codec/discv5/PacketFlag" "code" "I" (.int (1 : Int32))) (F2 : Fld Z h0 o2 "com/example/wireproof/wireproof/codec/discv5/PacketFlag" "code" "I" (.int (2 : Int32))) (hc0 : ¬ (0 : Int32) = p1) (hc1 : ¬ (1 : Int32) = p1) (hc2 : (2 : Int32) = p1) :
    JMet l Z (⟨"com/example/wireproof/wireproof/codec/discv5/PacketFlag", "withCode", "(I)Lcom/example/wireproof/wireproof/codec/discv5/PacketFlag;"⟩ : MethodName) prog_19_method_4_code 5 (some (.object "com/example/wireproof/wireproof/codec/discv5/PacketFlag")) ws ({ frames := 2, cells := 1, slots := 3, locals := 25 } : Room) #[(.int p1)] h0 (fun v h L => v = some (.ref o2) ∧ Fr n0 L ∧ Keep h0 h []) := by
  refine Jvm.JW.body #[.val (.int p1), .unset, .unset, .unset, .unset] pn1 (ef1 p1) ?_
  intro p e s m below meth c T0 D A F X0 hx hZ hby hml hown hnm hrt hlk e0
  refine Adv.callS A X0 hx hZ hown (hw _ (List.mem_of_getElem? (i := 4) rfl)) (hw _ (List.mem_of_getElem? (i := 5) rfl)) (hw _ (List.mem_of_getElem? (i := 2) rfl)) (hw _ (List.mem_of_getElem? (i := 6) rfl)) e0 (rm2 l Z a0 hw [] h0 n0 v0 o0 o1 o2 cl Ar Ex Fc hsz H S_v) 0 (g := (mkF m 0 #[.val (.int p1), .unset, .unset, .unset, .unset] [])) rfl (by rw [hml]; rfl) [] [] rfl (lenOf pd1_0 rfl) rfl (by show 2 * 0 + _ ≤ _; exact Nat.le_of_eq rfl) (hb hby d1_0) (by decide) (by decide) (by decide) (by decide) (by decide) ?_
  rintro T1 L1 _ X1 ⟨b1, rfl, N1_q, K1, V1_q, szq_b1⟩
  have N1 := Fr.app (Fr.nil n0) N1_q
  have F0_1 := F0.keep K1 nin0
  have F1_1 := F1.keep K1 nin0
  have F2_1 := F2.keep K1 nin0
  have Z_1 : n0 ≤ T1.heap.size := Nat.le_trans Z0 K1.1
  have KK_1 : Keep h0 T1.heap [] := (Keep.refl h0 []).trans K1 all0
  show D (T1.setTop (mkF m 3 #[.val (.int p1), .unset, .unset, .unset, .unset] [(.ref b1)]))
  refine A (XS.astoreN X1.here hx rfl (hb hby d1_3) rfl rfl (l' := #[.val (.int p1), .val (.ref b1), .unset, .unset, .unset]) rfl) ?_
  show D (T1.setTop (mkF m 4 #[.val (.int p1), .val (.ref b1), .unset, .unset, .unset] []))
  refine A (XS.aloadN X1.here hx rfl (hb hby d1_4) rfl rfl) ?_
  show D (T1.setTop (mkF m 5 #[.val (.int p1), .val (.ref b1), .unset, .unset, .unset] [(.ref b1)]))
  refine own_lenR A X1 hx hZ rfl V1_q (g := (mkF m 5 #[.val (.int p1), .val (.ref b1), .unset, .unset, .unset] [(.ref b1)])) rfl rfl (hb hby d1_5) ?_
  show D (T1.setTop (mkF m 6 #[.val (.int p1), .val (.ref b1), .unset, .unset, .unset] [(.int (3 : Int32))]))
  refine A (XS.istoreN X1.here hx rfl (hb hby d1_6) rfl (l' := #[.val (.int p1), .val (.ref b1), .val (.int (3 : Int32)), .unset, .unset]) rfl) ?_
  show D (T1.setTop (mkF m 7 #[.val (.int p1), .val (.ref b1), .val (.int (3 : Int32)), .unset, .unset] []))
  refine A (XS.iconst X1.here hx rfl (hb hby d1_7)) ?_
  show D (T1.setTop (mkF m 8 #[.val (.int p1), .val (.ref b1), .val (.int (3 : Int32)), .unset, .unset] [(.int (0 : Int32))]))
  refine A (XS.istoreN X1.here hx rfl (hb hby d1_8) rfl (l' := #[.val (.int p1), .val (.ref b1), .val (.int (3 : Int32)), .val (.int (0 : Int32)), .unset]) rfl) ?_
  show D (T1.setTop (mkF m 9 #[.val (.int p1), .val (.ref b1), .val (.int (3 : Int32)), .val (.int (0 : Int32)), .unset] []))
  refine A (XS.iloadN X1.here hx rfl (hb hby d1_9) rfl) ?_
  show D (T1.setTop (mkF m 10 #[.val (.int p1), .val (.ref b1), .val (.int (3 : Int32)), .val (.int (0 : Int32)), .unset] [(.int (0 : Int32))]))
  refine A (XS.iloadN X1.here hx rfl (hb hby d1_10) rfl) ?_
  show D (T1.setTop (mkF m 11 #[.val (.int p1), .val (.ref b1), .val (.int (3 : Int32)), .val (.int (0 : Int32)), .unset] [(.int (3 : Int32)), (.int (0 : Int32))]))
  refine A (XS.icmpNo X1.here hx rfl (hb hby d1_11) rfl (tlt (by decide : (0 : Int32) < (3 : Int32))).2.1) ?_
  show D (T1.setTop (mkF m 14 #[.val (.int p1), .val (.ref b1), .val (.int (3 : Int32)), .val (.int (0 : Int32)), .unset] []))
  refine A (XS.aloadN X1.here hx rfl (hb hby d1_14) rfl rfl) ?_
  show D (T1.setTop (mkF m 15 #[.val (.int p1), .val (.ref b1), .val (.int (3 : Int32)), .val (.int (0 : Int32)), .unset] [(.ref b1)]))
  refine A (XS.iloadN X1.here hx rfl (hb hby d1_15) rfl) ?_
  show D (T1.setTop (mkF m 16 #[.val (.int p1), .val (.ref b1), .val (.int (3 : Int32)), .val (.int (0 : Int32)), .unset] [(.int (0 : Int32)), (.ref b1)]))
  refine own_ldR A X1 hx hZ rfl V1_q rfl (k := 0) (by decide) (by decide) (g := (mkF m 16 #[.val (.int p1), .val (.ref b1), .val (.int (3 : Int32)), .val (.int (0 : Int32)), .unset] [(.int (0 : Int32)), (.ref b1)])) rfl rfl (hb hby d1_16) ?_
  show D (T1.setTop (mkF m 17 #[.val (.int p1), .val (.ref b1), .val (.int (3 : Int32)), .val (.int (0 : Int32)), .unset] [(.ref o0)]))
  refine A (XS.astore X1.here hx rfl (hb hby d1_17) rfl rfl (l' := #[.val (.int p1), .val (.ref b1), .val (.int (3 : Int32)), .val (.int (0 : Int32)), .val (.ref o0)]) rfl) ?_
  show D (T1.setTop (mkF m 19 #[.val (.int p1), .val (.ref b1), .val (.int (3 : Int32)), .val (.int (0 : Int32)), .val (.ref o0)] []))
  refine A (XS.aload X1.here hx rfl (hb hby d1_19) rfl rfl) ?_
  show D (T1.setTop (mkF m 21 #[.val (.int p1), .val (.ref b1), .val (.int (3 : Int32)), .val (.int (0 : Int32)), .val (.ref o0)] [(.ref o0)]))
  obtain ⟨T2, X2, e2, st2⟩ := getF X1 hx hZ hown (host := "") (Or.inl (hw _ (List.mem_of_getElem? (i := 22) rfl))) Via.refl rfl F0_1 (g := (mkF m 21 #[.val (.int p1), .val (.ref b1), .val (.int (3 : Int32)), .val (.int (0 : Int32)), .val (.ref o0)] [(.ref o0)])) rfl rfl (hb hby d1_21)
  refine A (st2 _) ?_
  show D (T2.setTop (mkF m 24 #[.val (.int p1), .val (.ref b1), .val (.int (3 : Int32)), .val (.int (0 : Int32)), .val (.ref o0)] [(.int (0 : Int32))]))
  refine A (XS.iloadN X2.here hx rfl (hb hby d1_24) rfl) ?_
  show D (T2.setTop (mkF m 25 #[.val (.int p1), .val (.ref b1), .val (.int (3 : Int32)), .val (.int (0 : Int32)), .val (.ref o0)] [(.int p1), (.int (0 : Int32))]))
  refine A (XS.icmpYes X2.here hx rfl (pc0 := 25) (pc' := 31) rfl (hb hby d1_25) rfl (feq hc0).2 (by decide) (by decide)) ?_
  show D (T2.setTop (mkF m 31 #[.val (.int p1), .val (.ref b1), .val (.int (3 : Int32)), .val (.int (0 : Int32)), .val (.ref o0)] []))
  refine A (XS.iinc X2.here hx rfl (hb hby d1_31) rfl (l' := #[.val (.int p1), .val (.ref b1), .val (.int (3 : Int32)), .val (.int ((0 : Int32) + (1 : Int32))), .val (.ref o0)]) rfl) ?_
  show D (T2.setTop (mkF m 34 #[.val (.int p1), .val (.ref b1), .val (.int (3 : Int32)), .val (.int ((0 : Int32) + (1 : Int32))), .val (.ref o0)] []))
  suffices Kq3 : ∀ q3 : Int32, q3 = (1 : Int32) → D (T2.setTop (mkF m 34 #[.val (.int p1), .val (.ref b1), .val (.int (3 : Int32)), .val (.int q3), .val (.ref o0)] [])) from Kq3 _ (by decide)
  rintro _ rfl
  show D (T2.setTop (mkF m 34 #[.val (.int p1), .val (.ref b1), .val (.int (3 : Int32)), .val (.int (1 : Int32)), .val (.ref o0)] []))
  refine A (XS.goto X2.here hx rfl (pc0 := 34) (pc' := 9) rfl (hb hby d1_34) (by decide) (by decide)) ?_
  show D (T2.setTop (mkF m 9 #[.val (.int p1), .val (.ref b1), .val (.int (3 : Int32)), .val (.int (1 : Int32)), .val (.ref o0)] []))
  refine A (XS.iloadN X2.here hx rfl (hb hby d1_9) rfl) ?_
  show D (T2.setTop (mkF m 10 #[.val (.int p1), .val (.ref b1), .val (.int (3 : Int32)), .val (.int (1 : Int32)), .val (.ref o0)] [(.int (1 : Int32))]))
  refine A (XS.iloadN X2.here hx rfl (hb hby d1_10) rfl) ?_
  show D (T2.setTop (mkF m 11 #[.val (.int p1), .val (.ref b1), .val (.int (3 : Int32)), .val (.int (1 : Int32)), .val (.ref o0)] [(.int (3 : Int32)), (.int (1 : Int32))]))
  refine A (XS.icmpNo X2.here hx rfl (hb hby d1_11) rfl (tlt (by decide : (1 : Int32) < (3 : Int32))).2.1) ?_
  show D (T2.setTop (mkF m 14 #[.val (.int p1), .val (.ref b1), .val (.int (3 : Int32)), .val (.int (1 : Int32)), .val (.ref o0)] []))
  refine A (XS.aloadN X2.here hx rfl (hb hby d1_14) rfl rfl) ?_
  show D (T2.setTop (mkF m 15 #[.val (.int p1), .val (.ref b1), .val (.int (3 : Int32)), .val (.int (1 : Int32)), .val (.ref o0)] [(.ref b1)]))
  refine A (XS.iloadN X2.here hx rfl (hb hby d1_15) rfl) ?_
  show D (T2.setTop (mkF m 16 #[.val (.int p1), .val (.ref b1), .val (.int (3 : Int32)), .val (.int (1 : Int32)), .val (.ref o0)] [(.int (1 : Int32)), (.ref b1)]))
  refine own_ldR A X2 hx hZ e2 V1_q rfl (k := 1) (by decide) (by decide) (g := (mkF m 16 #[.val (.int p1), .val (.ref b1), .val (.int (3 : Int32)), .val (.int (1 : Int32)), .val (.ref o0)] [(.int (1 : Int32)), (.ref b1)])) rfl rfl (hb hby d1_16) ?_
  show D (T2.setTop (mkF m 17 #[.val (.int p1), .val (.ref b1), .val (.int (3 : Int32)), .val (.int (1 : Int32)), .val (.ref o0)] [(.ref o1)]))
  refine A (XS.astore X2.here hx rfl (hb hby d1_17) rfl rfl (l' := #[.val (.int p1), .val (.ref b1), .val (.int (3 : Int32)), .val (.int (1 : Int32)), .val (.ref o1)]) rfl) ?_
  show D (T2.setTop (mkF m 19 #[.val (.int p1), .val (.ref b1), .val (.int (3 : Int32)), .val (.int (1 : Int32)), .val (.ref o1)] []))
  refine A (XS.aload X2.here hx rfl (hb hby d1_19) rfl rfl) ?_
  show D (T2.setTop (mkF m 21 #[.val (.int p1), .val (.ref b1), .val (.int (3 : Int32)), .val (.int (1 : Int32)), .val (.ref o1)] [(.ref o1)]))
  obtain ⟨T4, X4, e4, st4⟩ := getF X2 hx hZ hown (host := "") (Or.inl (hw _ (List.mem_of_getElem? (i := 22) rfl))) Via.refl e2 F1_1 (g := (mkF m 21 #[.val (.int p1), .val (.ref b1), .val (.int (3 : Int32)), .val (.int (1 : Int32)), .val (.ref o1)] [(.ref o1)])) rfl rfl (hb hby d1_21)
  refine A (st4 _) ?_
  show D (T4.setTop (mkF m 24 #[.val (.int p1), .val (.ref b1), .val (.int (3 : Int32)), .val (.int (1 : Int32)), .val (.ref o1)] [(.int (1 : Int32))]))
  refine A (XS.iloadN X4.here hx rfl (hb hby d1_24) rfl) ?_
  show D (T4.setTop (mkF m 25 #[.val (.int p1), .val (.ref b1), .val (.int (3 : Int32)), .val (.int (1 : Int32)), .val (.ref o1)] [(.int p1), (.int (1 : Int32))]))
  refine A (XS.icmpYes X4.here hx rfl (pc0 := 25) (pc' := 31) rfl (hb hby d1_25) rfl (feq hc1).2 (by decide) (by decide)) ?_
  show D (T4.setTop (mkF m 31 #[.val (.int p1), .val (.ref b1), .val (.int (3 : Int32)), .val (.int (1 : Int32)), .val (.ref o1)] []))
  refine A (XS.iinc X4.here hx rfl (hb hby d1_31) rfl (l' := #[.val (.int p1), .val (.ref b1), .val (.int (3 : Int32)), .val (.int ((1 : Int32) + (1 : Int32))), .val (.ref o1)]) rfl) ?_
  show D (T4.setTop (mkF m 34 #[.val (.int p1), .val (.ref b1), .val (.int (3 : Int32)), .val (.int ((1 : Int32) + (1 : Int32))), .val (.ref o1)] []))
  suffices Kq5 : ∀ q5 : Int32, q5 = (2 : Int32) → D (T4.setTop (mkF m 34 #[.val (.int p1), .val (.ref b1), .val (.int (3 : Int32)), .val (.int q5), .val (.ref o1)] [])) from Kq5 _ (by decide)
  rintro _ rfl
  show D (T4.setTop (mkF m 34 #[.val (.int p1), .val (.ref b1), .val (.int (3 : Int32)), .val (.int (2 : Int32)), .val (.ref o1)] []))
  refine A (XS.goto X4.here hx rfl (pc0 := 34) (pc' := 9) rfl (hb hby d1_34) (by decide) (by decide)) ?_
  show D (T4.setTop (mkF m 9 #[.val (.int p1), .val (.ref b1), .val (.int (3 : Int32)), .val (.int (2 : Int32)), .val (.ref o1)] []))
  refine A (XS.iloadN X4.here hx rfl (hb hby d1_9) rfl) ?_
  show D (T4.setTop (mkF m 10 #[.val (.int p1), .val (.ref b1), .val (.int (3 : Int32)), .val (.int (2 : Int32)), .val (.ref o1)] [(.int (2 : Int32))]))
  refine A (XS.iloadN X4.here hx rfl (hb hby d1_10) rfl) ?_
  show D (T4.setTop (mkF m 11 #[.val (.int p1), .val (.ref b1), .val (.int (3 : Int32)), .val (.int (2 : Int32)), .val (.ref o1)] [(.int (3 : Int32)), (.int (2 : Int32))]))
  refine A (XS.icmpNo X4.here hx rfl (hb hby d1_11) rfl (tlt (by decide : (2 : Int32) < (3 : Int32))).2.1) ?_
  show D (T4.setTop (mkF m 14 #[.val (.int p1), .val (.ref b1), .val (.int (3 : Int32)), .val (.int (2 : Int32)), .val (.ref o1)] []))
  refine A (XS.aloadN X4.here hx rfl (hb hby d1_14) rfl rfl) ?_
  show D (T4.setTop (mkF m 15 #[.val (.int p1), .val (.ref b1), .val (.int (3 : Int32)), .val (.int (2 : Int32)), .val (.ref o1)] [(.ref b1)]))
  refine A (XS.iloadN X4.here hx rfl (hb hby d1_15) rfl) ?_
  show D (T4.setTop (mkF m 16 #[.val (.int p1), .val (.ref b1), .val (.int (3 : Int32)), .val (.int (2 : Int32)), .val (.ref o1)] [(.int (2 : Int32)), (.ref b1)]))
  refine own_ldR A X4 hx hZ e4 V1_q rfl (k := 2) (by decide) (by decide) (g := (mkF m 16 #[.val (.int p1), .val (.ref b1), .val (.int (3 : Int32)), .val (.int (2 : Int32)), .val (.ref o1)] [(.int (2 : Int32)), (.ref b1)])) rfl rfl (hb hby d1_16) ?_
  show D (T4.setTop (mkF m 17 #[.val (.int p1), .val (.ref b1), .val (.int (3 : Int32)), .val (.int (2 : Int32)), .val (.ref o1)] [(.ref o2)]))
  refine A (XS.astore X4.here hx rfl (hb hby d1_17) rfl rfl (l' := #[.val (.int p1), .val (.ref b1), .val (.int (3 : Int32)), .val (.int (2 : Int32)), .val (.ref o2)]) rfl) ?_
  show D (T4.setTop (mkF m 19 #[.val (.int p1), .val (.ref b1), .val (.int (3 : Int32)), .val (.int (2 : Int32)), .val (.ref o2)] []))
  refine A (XS.aload X4.here hx rfl (hb hby d1_19) rfl rfl) ?_
  show D (T4.setTop (mkF m 21 #[.val (.int p1), .val (.ref b1), .val (.int (3 : Int32)), .val (.int (2 : Int32)), .val (.ref o2)] [(.ref o2)]))
  obtain ⟨T6, X6, e6, st6⟩ := getF X4 hx hZ hown (host := "") (Or.inl (hw _ (List.mem_of_getElem? (i := 22) rfl))) Via.refl e4 F2_1 (g := (mkF m 21 #[.val (.int p1), .val (.ref b1), .val (.int (3 : Int32)), .val (.int (2 : Int32)), .val (.ref o2)] [(.ref o2)])) rfl rfl (hb hby d1_21)
  refine A (st6 _) ?_
  show D (T6.setTop (mkF m 24 #[.val (.int p1), .val (.ref b1), .val (.int (3 : Int32)), .val (.int (2 : Int32)), .val (.ref o2)] [(.int (2 : Int32))]))
  refine A (XS.iloadN X6.here hx rfl (hb hby d1_24) rfl) ?_
  show D (T6.setTop (mkF m 25 #[.val (.int p1), .val (.ref b1), .val (.int (3 : Int32)), .val (.int (2 : Int32)), .val (.ref o2)] [(.int p1), (.int (2 : Int32))]))
  refine A (XS.icmpNo X6.here hx rfl (hb hby d1_25) rfl (teq hc2).2) ?_
  show D (T6.setTop (mkF m 28 #[.val (.int p1), .val (.ref b1), .val (.int (3 : Int32)), .val (.int (2 : Int32)), .val (.ref o2)] []))
  refine A (XS.aload X6.here hx rfl (hb hby d1_28) rfl rfl) ?_
  show D (T6.setTop (mkF m 30 #[.val (.int p1), .val (.ref b1), .val (.int (3 : Int32)), .val (.int (2 : Int32)), .val (.ref o2)] [(.ref o2)]))
  refine F _ (Jvm.JW.ret X6 hlk (v := some (.ref o2)) (fun h => by rw [hrt] at h; cases h) (fun fs hr => retOut X6 hx hrt rfl (Or.inr (Or.inr (Or.inr (Or.inr ⟨rfl, rfl, rfl⟩)))) (hb hby d1_30) hr) e6 ?_ (by decide) (by decide))
  exact ⟨rfl, N1, KK_1⟩
theorem d1_37 : decode prog_19_method_4_code 37 = .ok (.aconst_null, 1) := by decide +kernel
theorem d1_38 : decode prog_19_method_4_code 38 = .ok (.areturn, 1) := by decide +kernel
set_option maxRecDepth 65536 in
set_option maxHeartbeats 40000000 in
theorem rm1_3 (l : Launch) (Z : State) (a0 : Array Value) (hw : ∀ d ∈ tables_1, d.before a0 Z = true) (ws : List Jvm.Cond) (p1 : Int32) (h0 : Heap) (n0 : Nat) (v0 o0 o1 o2 : Addr) (cl : Cell) (Ar : Arr Z h0 v0 cl (.object "com/example/wireproof/wireproof/codec/discv5/PacketFlag")) (Ex : Exa Z h0 v0 "[Lcom/example/wireproof/wireproof/codec/discv5/PacketFlag;") (Fc : FitC Z cl) (hsz : cl.slots.size = 3) (H : ∀ i, i < 3 → cl.slots[i]? = some (own_vs o0 o1 o2 i)) (S_v : Sta Z h0 "com/example/wireproof/wireproof/codec/discv5/PacketFlag" "$VALUES" "[Lcom/example/wireproof/wireproof/codec/discv5/PacketFlag;" (.ref v0)) (Z0 : n0 ≤ h0.size) (F0 : Fld Z h0 o0 "com/example/wireproof/wireproof/codec/discv5/PacketFlag" "code" "I" (.int (0 : Int32))) (F1 : Fld Z h0 o1 "com/example/wireproof/wireproof/codec/discv5/PacketFlag" "code" "I" (.int (1 : Int32))) (F2 : Fld Z h0 o2 "com/example/wireproof/wireproof/codec/discv5/PacketFlag" "code" "I" (.int (2 : Int32))) (hc0 : ¬ (0 : Int32) = p1) (hc1 : ¬ (1 : Int32) = p1) (hc2 : ¬ (2 : Int32) = p1) :
    JMet l Z (⟨"com/example/wireproof/wireproof/codec/discv5/PacketFlag", "withCode", "(I)Lcom/example/wireproof/wireproof/codec/discv5/PacketFlag;"⟩ : MethodName) prog_19_method_4_code 5 (some (.object "com/example/wireproof/wireproof/codec/discv5/PacketFlag")) ws ({ frames := 2, cells := 1, slots := 3, locals := 25 } : Room) #[(.int p1)] h0 (fun v h L => v = some (.null) ∧ Fr n0 L ∧ Keep h0 h []) := by
  refine Jvm.JW.body #[.val (.int p1), .unset, .unset, .unset, .unset] pn1 (ef1 p1) ?_
  intro p e s m below meth c T0 D A F X0 hx hZ hby hml hown hnm hrt hlk e0
  refine Adv.callS A X0 hx hZ hown (hw _ (List.mem_of_getElem? (i := 4) rfl)) (hw _ (List.mem_of_getElem? (i := 5) rfl)) (hw _ (List.mem_of_getElem? (i := 2) rfl)) (hw _ (List.mem_of_getElem? (i := 6) rfl)) e0 (rm2 l Z a0 hw [] h0 n0 v0 o0 o1 o2 cl Ar Ex Fc hsz H S_v) 0 (g := (mkF m 0 #[.val (.int p1), .unset, .unset, .unset, .unset] [])) rfl (by rw [hml]; rfl) [] [] rfl (lenOf pd1_0 rfl) rfl (by show 2 * 0 + _ ≤ _; exact Nat.le_of_eq rfl) (hb hby d1_0) (by decide) (by decide) (by decide) (by decide) (by decide) ?_
  rintro T1 L1 _ X1 ⟨b1, rfl, N1_q, K1, V1_q, szq_b1⟩
  have N1 := Fr.app (Fr.nil n0) N1_q
  have F0_1 := F0.keep K1 nin0
  have F1_1 := F1.keep K1 nin0
  have F2_1 := F2.keep K1 nin0
  have Z_1 : n0 ≤ T1.heap.size := Nat.le_trans Z0 K1.1
  have KK_1 : Keep h0 T1.heap [] := (Keep.refl h0 []).trans K1 all0
  show D (T1.setTop (mkF m 3 #[.val (.int p1), .unset, .unset, .unset, .unset] [(.ref b1)]))
  refine A (XS.astoreN X1.here hx rfl (hb hby d1_3) rfl rfl (l' := #[.val (.int p1), .val (.ref b1), .unset, .unset, .unset]) rfl) ?_
  show D (T1.setTop (mkF m 4 #[.val (.int p1), .val (.ref b1), .unset, .unset, .unset] []))
  refine A (XS.aloadN X1.here hx rfl (hb hby d1_4) rfl rfl) ?_
  show D (T1.setTop (mkF m 5 #[.val (.int p1), .val (.ref b1), .unset, .unset, .unset] [(.ref b1)]))
  refine own_lenR A X1 hx hZ rfl V1_q (g := (mkF m 5 #[.val (.int p1), .val (.ref b1), .unset, .unset, .unset] [(.ref b1)])) rfl rfl (hb hby d1_5) ?_
  show D (T1.setTop (mkF m 6 #[.val (.int p1), .val (.ref b1), .unset, .unset, .unset] [(.int (3 : Int32))]))
  refine A (XS.istoreN X1.here hx rfl (hb hby d1_6) rfl (l' := #[.val (.int p1), .val (.ref b1), .val (.int (3 : Int32)), .unset, .unset]) rfl) ?_
  show D (T1.setTop (mkF m 7 #[.val (.int p1), .val (.ref b1), .val (.int (3 : Int32)), .unset, .unset] []))
  refine A (XS.iconst X1.here hx rfl (hb hby d1_7)) ?_
  show D (T1.setTop (mkF m 8 #[.val (.int p1), .val (.ref b1), .val (.int (3 : Int32)), .unset, .unset] [(.int (0 : Int32))]))
  refine A (XS.istoreN X1.here hx rfl (hb hby d1_8) rfl (l' := #[.val (.int p1), .val (.ref b1), .val (.int (3 : Int32)), .val (.int (0 : Int32)), .unset]) rfl) ?_
  show D (T1.setTop (mkF m 9 #[.val (.int p1), .val (.ref b1), .val (.int (3 : Int32)), .val (.int (0 : Int32)), .unset] []))
  refine A (XS.iloadN X1.here hx rfl (hb hby d1_9) rfl) ?_
  show D (T1.setTop (mkF m 10 #[.val (.int p1), .val (.ref b1), .val (.int (3 : Int32)), .val (.int (0 : Int32)), .unset] [(.int (0 : Int32))]))
  refine A (XS.iloadN X1.here hx rfl (hb hby d1_10) rfl) ?_
  show D (T1.setTop (mkF m 11 #[.val (.int p1), .val (.ref b1), .val (.int (3 : Int32)), .val (.int (0 : Int32)), .unset] [(.int (3 : Int32)), (.int (0 : Int32))]))
  refine A (XS.icmpNo X1.here hx rfl (hb hby d1_11) rfl (tlt (by decide : (0 : Int32) < (3 : Int32))).2.1) ?_
  show D (T1.setTop (mkF m 14 #[.val (.int p1), .val (.ref b1), .val (.int (3 : Int32)), .val (.int (0 : Int32)), .unset] []))
  refine A (XS.aloadN X1.here hx rfl (hb hby d1_14) rfl rfl) ?_
  show D (T1.setTop (mkF m 15 #[.val (.int p1), .val (.ref b1), .val (.int (3 : Int32)), .val (.int (0 : Int32)), .unset] [(.ref b1)]))
  refine A (XS.iloadN X1.here hx rfl (hb hby d1_15) rfl) ?_
  show D (T1.setTop (mkF m 16 #[.val (.int p1), .val (.ref b1), .val (.int (3 : Int32)), .val (.int (0 : Int32)), .unset] [(.int (0 : Int32)), (.ref b1)]))
  refine own_ldR A X1 hx hZ rfl V1_q rfl (k := 0) (by decide) (by decide) (g := (mkF m 16 #[.val (.int p1), .val (.ref b1), .val (.int (3 : Int32)), .val (.int (0 : Int32)), .unset] [(.int (0 : Int32)), (.ref b1)])) rfl rfl (hb hby d1_16) ?_
  show D (T1.setTop (mkF m 17 #[.val (.int p1), .val (.ref b1), .val (.int (3 : Int32)), .val (.int (0 : Int32)), .unset] [(.ref o0)]))
  refine A (XS.astore X1.here hx rfl (hb hby d1_17) rfl rfl (l' := #[.val (.int p1), .val (.ref b1), .val (.int (3 : Int32)), .val (.int (0 : Int32)), .val (.ref o0)]) rfl) ?_
  show D (T1.setTop (mkF m 19 #[.val (.int p1), .val (.ref b1), .val (.int (3 : Int32)), .val (.int (0 : Int32)), .val (.ref o0)] []))
  refine A (XS.aload X1.here hx rfl (hb hby d1_19) rfl rfl) ?_
  show D (T1.setTop (mkF m 21 #[.val (.int p1), .val (.ref b1), .val (.int (3 : Int32)), .val (.int (0 : Int32)), .val (.ref o0)] [(.ref o0)]))
  obtain ⟨T2, X2, e2, st2⟩ := getF X1 hx hZ hown (host := "") (Or.inl (hw _ (List.mem_of_getElem? (i := 22) rfl))) Via.refl rfl F0_1 (g := (mkF m 21 #[.val (.int p1), .val (.ref b1), .val (.int (3 : Int32)), .val (.int (0 : Int32)), .val (.ref o0)] [(.ref o0)])) rfl rfl (hb hby d1_21)
  refine A (st2 _) ?_
  show D (T2.setTop (mkF m 24 #[.val (.int p1), .val (.ref b1), .val (.int (3 : Int32)), .val (.int (0 : Int32)), .val (.ref o0)] [(.int (0 : Int32))]))
  refine A (XS.iloadN X2.here hx rfl (hb hby d1_24) rfl) ?_
  show D (T2.setTop (mkF m 25 #[.val (.int p1), .val (.ref b1), .val (.int (3 : Int32)), .val (.int (0 : Int32)), .val (.ref o0)] [(.int p1), (.int (0 : Int32))]))
  refine A (XS.icmpYes X2.here hx rfl (pc0 := 25) (pc' := 31) rfl (hb hby d1_25) rfl (feq hc0).2 (by decide) (by decide)) ?_
  show D (T2.setTop (mkF m 31 #[.val (.int p1), .val (.ref b1), .val (.int (3 : Int32)), .val (.int (0 : Int32)), .val (.ref o0)] []))
  refine A (XS.iinc X2.here hx rfl (hb hby d1_31) rfl (l' := #[.val (.int p1), .val (.ref b1), .val (.int (3 : Int32)), .val (.int ((0 : Int32) + (1 : Int32))), .val (.ref o0)]) rfl) ?_
  show D (T2.setTop (mkF m 34 #[.val (.int p1), .val (.ref b1), .val (.int (3 : Int32)), .val (.int ((0 : Int32) + (1 : Int32))), .val (.ref o0)] []))
  suffices Kq3 : ∀ q3 : Int32, q3 = (1 : Int32) → D (T2.setTop (mkF m 34 #[.val (.int p1), .val (.ref b1), .val (.int (3 : Int32)), .val (.int q3), .val (.ref o0)] [])) from Kq3 _ (by decide)
  rintro _ rfl
  show D (T2.setTop (mkF m 34 #[.val (.int p1), .val (.ref b1), .val (.int (3 : Int32)), .val (.int (1 : Int32)), .val (.ref o0)] []))
  refine A (XS.goto X2.here hx rfl (pc0 := 34) (pc' := 9) rfl (hb hby d1_34) (by decide) (by decide)) ?_
  show D (T2.setTop (mkF m 9 #[.val (.int p1), .val (.ref b1), .val (.int (3 : Int32)), .val (.int (1 : Int32)), .val (.ref o0)] []))
  refine A (XS.iloadN X2.here hx rfl (hb hby d1_9) rfl) ?_
  show D (T2.setTop (mkF m 10 #[.val (.int p1), .val (.ref b1), .val (.int (3 : Int32)), .val (.int (1 : Int32)), .val (.ref o0)] [(.int (1 : Int32))]))
  refine A (XS.iloadN X2.here hx rfl (hb hby d1_10) rfl) ?_
  show D (T2.setTop (mkF m 11 #[.val (.int p1), .val (.ref b1), .val (.int (3 : Int32)), .val (.int (1 : Int32)), .val (.ref o0)] [(.int (3 : Int32)), (.int (1 : Int32))]))
  refine A (XS.icmpNo X2.here hx rfl (hb hby d1_11) rfl (tlt (by decide : (1 : Int32) < (3 : Int32))).2.1) ?_
  show D (T2.setTop (mkF m 14 #[.val (.int p1), .val (.ref b1), .val (.int (3 : Int32)), .val (.int (1 : Int32)), .val (.ref o0)] []))
  refine A (XS.aloadN X2.here hx rfl (hb hby d1_14) rfl rfl) ?_
  show D (T2.setTop (mkF m 15 #[.val (.int p1), .val (.ref b1), .val (.int (3 : Int32)), .val (.int (1 : Int32)), .val (.ref o0)] [(.ref b1)]))
  refine A (XS.iloadN X2.here hx rfl (hb hby d1_15) rfl) ?_
  show D (T2.setTop (mkF m 16 #[.val (.int p1), .val (.ref b1), .val (.int (3 : Int32)), .val (.int (1 : Int32)), .val (.ref o0)] [(.int (1 : Int32)), (.ref b1)]))
  refine own_ldR A X2 hx hZ e2 V1_q rfl (k := 1) (by decide) (by decide) (g := (mkF m 16 #[.val (.int p1), .val (.ref b1), .val (.int (3 : Int32)), .val (.int (1 : Int32)), .val (.ref o0)] [(.int (1 : Int32)), (.ref b1)])) rfl rfl (hb hby d1_16) ?_
  show D (T2.setTop (mkF m 17 #[.val (.int p1), .val (.ref b1), .val (.int (3 : Int32)), .val (.int (1 : Int32)), .val (.ref o0)] [(.ref o1)]))
  refine A (XS.astore X2.here hx rfl (hb hby d1_17) rfl rfl (l' := #[.val (.int p1), .val (.ref b1), .val (.int (3 : Int32)), .val (.int (1 : Int32)), .val (.ref o1)]) rfl) ?_
  show D (T2.setTop (mkF m 19 #[.val (.int p1), .val (.ref b1), .val (.int (3 : Int32)), .val (.int (1 : Int32)), .val (.ref o1)] []))
  refine A (XS.aload X2.here hx rfl (hb hby d1_19) rfl rfl) ?_
  show D (T2.setTop (mkF m 21 #[.val (.int p1), .val (.ref b1), .val (.int (3 : Int32)), .val (.int (1 : Int32)), .val (.ref o1)] [(.ref o1)]))
  obtain ⟨T4, X4, e4, st4⟩ := getF X2 hx hZ hown (host := "") (Or.inl (hw _ (List.mem_of_getElem? (i := 22) rfl))) Via.refl e2 F1_1 (g := (mkF m 21 #[.val (.int p1), .val (.ref b1), .val (.int (3 : Int32)), .val (.int (1 : Int32)), .val (.ref o1)] [(.ref o1)])) rfl rfl (hb hby d1_21)
  refine A (st4 _) ?_
  show D (T4.setTop (mkF m 24 #[.val (.int p1), .val (.ref b1), .val (.int (3 : Int32)), .val (.int (1 : Int32)), .val (.ref o1)] [(.int (1 : Int32))]))
  refine A (XS.iloadN X4.here hx rfl (hb hby d1_24) rfl) ?_
  show D (T4.setTop (mkF m 25 #[.val (.int p1), .val (.ref b1), .val (.int (3 : Int32)), .val (.int (1 : Int32)), .val (.ref o1)] [(.int p1), (.int (1 : Int32))]))
  refine A (XS.icmpYes X4.here hx rfl (pc0 := 25) (pc' := 31) rfl (hb hby d1_25) rfl (feq hc1).2 (by decide) (by decide)) ?_
  show D (T4.setTop (mkF m 31 #[.val (.int p1), .val (.ref b1), .val (.int (3 : Int32)), .val (.int (1 : Int32)), .val (.ref o1)] []))
  refine A (XS.iinc X4.here hx rfl (hb hby d1_31) rfl (l' := #[.val (.int p1), .val (.ref b1), .val (.int (3 : Int32)), .val (.int ((1 : Int32) + (1 : Int32))), .val (.ref o1)]) rfl) ?_
  show D (T4.setTop (mkF m 34 #[.val (.int p1), .val (.ref b1), .val (.int (3 : Int32)), .val (.int ((1 : Int32) + (1 : Int32))), .val (.ref o1)] []))
  suffices Kq5 : ∀ q5 : Int32, q5 = (2 : Int32) → D (T4.setTop (mkF m 34 #[.val (.int p1), .val (.ref b1), .val (.int (3 : Int32)), .val (.int q5), .val (.ref o1)] [])) from Kq5 _ (by decide)
  rintro _ rfl
  show D (T4.setTop (mkF m 34 #[.val (.int p1), .val (.ref b1), .val (.int (3 : Int32)), .val (.int (2 : Int32)), .val (.ref o1)] []))
  refine A (XS.goto X4.here hx rfl (pc0 := 34) (pc' := 9) rfl (hb hby d1_34) (by decide) (by decide)) ?_
  show D (T4.setTop (mkF m 9 #[.val (.int p1), .val (.ref b1), .val (.int (3 : Int32)), .val (.int (2 : Int32)), .val (.ref o1)] []))
  refine A (XS.iloadN X4.here hx rfl (hb hby d1_9) rfl) ?_
  show D (T4.setTop (mkF m 10 #[.val (.int p1), .val (.ref b1), .val (.int (3 : Int32)), .val (.int (2 : Int32)), .val (.ref o1)] [(.int (2 : Int32))]))
  refine A (XS.iloadN X4.here hx rfl (hb hby d1_10) rfl) ?_
  show D (T4.setTop (mkF m 11 #[.val (.int p1), .val (.ref b1), .val (.int (3 : Int32)), .val (.int (2 : Int32)), .val (.ref o1)] [(.int (3 : Int32)), (.int (2 : Int32))]))
  refine A (XS.icmpNo X4.here hx rfl (hb hby d1_11) rfl (tlt (by decide : (2 : Int32) < (3 : Int32))).2.1) ?_
  show D (T4.setTop (mkF m 14 #[.val (.int p1), .val (.ref b1), .val (.int (3 : Int32)), .val (.int (2 : Int32)), .val (.ref o1)] []))
  refine A (XS.aloadN X4.here hx rfl (hb hby d1_14) rfl rfl) ?_
  show D (T4.setTop (mkF m 15 #[.val (.int p1), .val (.ref b1), .val (.int (3 : Int32)), .val (.int (2 : Int32)), .val (.ref o1)] [(.ref b1)]))
  refine A (XS.iloadN X4.here hx rfl (hb hby d1_15) rfl) ?_
  show D (T4.setTop (mkF m 16 #[.val (.int p1), .val (.ref b1), .val (.int (3 : Int32)), .val (.int (2 : Int32)), .val (.ref o1)] [(.int (2 : Int32)), (.ref b1)]))
  refine own_ldR A X4 hx hZ e4 V1_q rfl (k := 2) (by decide) (by decide) (g := (mkF m 16 #[.val (.int p1), .val (.ref b1), .val (.int (3 : Int32)), .val (.int (2 : Int32)), .val (.ref o1)] [(.int (2 : Int32)), (.ref b1)])) rfl rfl (hb hby d1_16) ?_
  show D (T4.setTop (mkF m 17 #[.val (.int p1), .val (.ref b1), .val (.int (3 : Int32)), .val (.int (2 : Int32)), .val (.ref o1)] [(.ref o2)]))
  refine A (XS.astore X4.here hx rfl (hb hby d1_17) rfl rfl (l' := #[.val (.int p1), .val (.ref b1), .val (.int (3 : Int32)), .val (.int (2 : Int32)), .val (.ref o2)]) rfl) ?_
  show D (T4.setTop (mkF m 19 #[.val (.int p1), .val (.ref b1), .val (.int (3 : Int32)), .val (.int (2 : Int32)), .val (.ref o2)] []))
  refine A (XS.aload X4.here hx rfl (hb hby d1_19) rfl rfl) ?_
  show D (T4.setTop (mkF m 21 #[.val (.int p1), .val (.ref b1), .val (.int (3 : Int32)), .val (.int (2 : Int32)), .val (.ref o2)] [(.ref o2)]))
  obtain ⟨T6, X6, e6, st6⟩ := getF X4 hx hZ hown (host := "") (Or.inl (hw _ (List.mem_of_getElem? (i := 22) rfl))) Via.refl e4 F2_1 (g := (mkF m 21 #[.val (.int p1), .val (.ref b1), .val (.int (3 : Int32)), .val (.int (2 : Int32)), .val (.ref o2)] [(.ref o2)])) rfl rfl (hb hby d1_21)
  refine A (st6 _) ?_
  show D (T6.setTop (mkF m 24 #[.val (.int p1), .val (.ref b1), .val (.int (3 : Int32)), .val (.int (2 : Int32)), .val (.ref o2)] [(.int (2 : Int32))]))
  refine A (XS.iloadN X6.here hx rfl (hb hby d1_24) rfl) ?_
  show D (T6.setTop (mkF m 25 #[.val (.int p1), .val (.ref b1), .val (.int (3 : Int32)), .val (.int (2 : Int32)), .val (.ref o2)] [(.int p1), (.int (2 : Int32))]))
  refine A (XS.icmpYes X6.here hx rfl (pc0 := 25) (pc' := 31) rfl (hb hby d1_25) rfl (feq hc2).2 (by decide) (by decide)) ?_
  show D (T6.setTop (mkF m 31 #[.val (.int p1), .val (.ref b1), .val (.int (3 : Int32)), .val (.int (2 : Int32)), .val (.ref o2)] []))
  refine A (XS.iinc X6.here hx rfl (hb hby d1_31) rfl (l' := #[.val (.int p1), .val (.ref b1), .val (.int (3 : Int32)), .val (.int ((2 : Int32) + (1 : Int32))), .val (.ref o2)]) rfl) ?_
  show D (T6.setTop (mkF m 34 #[.val (.int p1), .val (.ref b1), .val (.int (3 : Int32)), .val (.int ((2 : Int32) + (1 : Int32))), .val (.ref o2)] []))
  suffices Kq7 : ∀ q7 : Int32, q7 = (3 : Int32) → D (T6.setTop (mkF m 34 #[.val (.int p1), .val (.ref b1), .val (.int (3 : Int32)), .val (.int q7), .val (.ref o2)] [])) from Kq7 _ (by decide)
  rintro _ rfl
  show D (T6.setTop (mkF m 34 #[.val (.int p1), .val (.ref b1), .val (.int (3 : Int32)), .val (.int (3 : Int32)), .val (.ref o2)] []))
  refine A (XS.goto X6.here hx rfl (pc0 := 34) (pc' := 9) rfl (hb hby d1_34) (by decide) (by decide)) ?_
  show D (T6.setTop (mkF m 9 #[.val (.int p1), .val (.ref b1), .val (.int (3 : Int32)), .val (.int (3 : Int32)), .val (.ref o2)] []))
  refine A (XS.iloadN X6.here hx rfl (hb hby d1_9) rfl) ?_
  show D (T6.setTop (mkF m 10 #[.val (.int p1), .val (.ref b1), .val (.int (3 : Int32)), .val (.int (3 : Int32)), .val (.ref o2)] [(.int (3 : Int32))]))
  refine A (XS.iloadN X6.here hx rfl (hb hby d1_10) rfl) ?_
  show D (T6.setTop (mkF m 11 #[.val (.int p1), .val (.ref b1), .val (.int (3 : Int32)), .val (.int (3 : Int32)), .val (.ref o2)] [(.int (3 : Int32)), (.int (3 : Int32))]))
  refine A (XS.icmpYes X6.here hx rfl (pc0 := 11) (pc' := 37) rfl (hb hby d1_11) rfl (flt (by decide : ¬ ((3 : Int32) < (3 : Int32)))).2.1 (by decide) (by decide)) ?_
  show D (T6.setTop (mkF m 37 #[.val (.int p1), .val (.ref b1), .val (.int (3 : Int32)), .val (.int (3 : Int32)), .val (.ref o2)] []))
  refine A (XS.aconstNull X6.here hx rfl (hb hby d1_37)) ?_
  show D (T6.setTop (mkF m 38 #[.val (.int p1), .val (.ref b1), .val (.int (3 : Int32)), .val (.int (3 : Int32)), .val (.ref o2)] [.null]))
  refine F _ (Jvm.JW.ret X6 hlk (v := some .null) (fun h => by rw [hrt] at h; cases h) (fun fs hr => retOut X6 hx hrt rfl (Or.inr (Or.inr (Or.inr (Or.inr ⟨rfl, rfl, rfl⟩)))) (hb hby d1_38) hr) e6 ?_ (by decide) (by decide))
  exact ⟨rfl, N1, KK_1⟩
theorem d3_0 : decode method_2_code 0 = .ok (.iload_n 0, 1) := by decide +kernel
theorem d3_1 : decode method_2_code 1 = .ok (.ifCond .ne 7, 3) := by decide +kernel
theorem d3_4 : decode method_2_code 4 = .ok (.getstatic 7, 3) := by decide +kernel
theorem d3_7 : decode method_2_code 7 = .ok (.areturn, 1) := by decide +kernel
theorem pn3 : plainFor (⟨"com/example/wireproof/wireproof/codec/discv5/PacketFlagWithCodePinLaw", "expected", "(I)Lcom/example/wireproof/wireproof/codec/discv5/PacketFlag;"⟩ : MethodName) = true := by decide +kernel
theorem ef3 (p1 : Int32) (m : MethodId) : entryFrame m #[(.int p1)] 1 = mkF m 0 #[.val (.int p1)] [] := by first | (simp [entryFrame, mkF, argsToLocals, Value.category]; done) | rfl
set_option maxRecDepth 65536 in
set_option maxHeartbeats 40000000 in
theorem rm3_0 (l : Launch) (Z : State) (a0 : Array Value) (hw : ∀ d ∈ tables_1, d.before a0 Z = true) (ws : List Jvm.Cond) (p1 : Int32) (h0 : Heap) (n0 : Nat) (o0 o1 o2 : Addr) (S0 : Sta Z h0 "com/example/wireproof/wireproof/codec/discv5/PacketFlag" "ORDINARY" "Lcom/example/wireproof/wireproof/codec/discv5/PacketFlag;" (.ref o0)) (S1 : Sta Z h0 "com/example/wireproof/wireproof/codec/discv5/PacketFlag" "WHOAREYOU" "Lcom/example/wireproof/wireproof/codec/discv5/PacketFlag;" (.ref o1)) (S2 : Sta Z h0 "com/example/wireproof/wireproof/codec/discv5/PacketFlag" "HANDSHAKE" "Lcom/example/wireproof/wireproof/codec/discv5/PacketFlag;" (.ref o2)) (hc0 : p1 = (0 : Int32)) :
    JMet l Z (⟨"com/example/wireproof/wireproof/codec/discv5/PacketFlagWithCodePinLaw", "expected", "(I)Lcom/example/wireproof/wireproof/codec/discv5/PacketFlag;"⟩ : MethodName) method_2_code 1 (some (.object "com/example/wireproof/wireproof/codec/discv5/PacketFlag")) ws ({ frames := 0, cells := 0, slots := 0, locals := 0 } : Room) #[(.int p1)] h0 (QP (.ref o0) h0 n0) := by
  refine Jvm.JW.body #[.val (.int p1)] pn3 (ef3 p1) ?_
  intro p e s m below meth c T0 D A F X0 hx hZ hby hml hown hnm hrt hlk e0
  refine A (XS.iloadN X0.here hx rfl (hb hby d3_0) rfl) ?_
  show D (T0.setTop (mkF m 1 #[.val (.int p1)] [(.int p1)]))
  refine A (XS.ifNo X0.here hx rfl (hb hby d3_1) rfl ((if0 _ _).trans (teq hc0).2)) ?_
  show D (T0.setTop (mkF m 4 #[.val (.int p1)] []))
  obtain ⟨T1, X1, e1, st1⟩ := getS X0 hx hZ hown (host := "") (hw _ (List.mem_of_getElem? (i := 30) rfl)) Via.refl e0 S0 (g := (mkF m 4 #[.val (.int p1)] [])) rfl (hb hby d3_4)
  refine A (st1 _) ?_
  show D (T1.setTop (mkF m 7 #[.val (.int p1)] [(.ref o0)]))
  refine F _ (Jvm.JW.ret X1 hlk (v := some (.ref o0)) (fun h => by rw [hrt] at h; cases h) (fun fs hr => retOut X1 hx hrt rfl (Or.inr (Or.inr (Or.inr (Or.inr ⟨rfl, rfl, rfl⟩)))) (hb hby d3_7) hr) rfl ?_ (by decide) (by decide))
  exact ⟨rfl, (Fr.nil n0), e1⟩
theorem d3_8 : decode method_2_code 8 = .ok (.iload_n 0, 1) := by decide +kernel
theorem d3_9 : decode method_2_code 9 = .ok (.iconst 1, 1) := by decide +kernel
theorem d3_10 : decode method_2_code 10 = .ok (.if_icmp .ne 7, 3) := by decide +kernel
theorem d3_13 : decode method_2_code 13 = .ok (.getstatic 13, 3) := by decide +kernel
theorem d3_16 : decode method_2_code 16 = .ok (.areturn, 1) := by decide +kernel
set_option maxRecDepth 65536 in
set_option maxHeartbeats 40000000 in
theorem rm3_1 (l : Launch) (Z : State) (a0 : Array Value) (hw : ∀ d ∈ tables_1, d.before a0 Z = true) (ws : List Jvm.Cond) (p1 : Int32) (h0 : Heap) (n0 : Nat) (o0 o1 o2 : Addr) (S0 : Sta Z h0 "com/example/wireproof/wireproof/codec/discv5/PacketFlag" "ORDINARY" "Lcom/example/wireproof/wireproof/codec/discv5/PacketFlag;" (.ref o0)) (S1 : Sta Z h0 "com/example/wireproof/wireproof/codec/discv5/PacketFlag" "WHOAREYOU" "Lcom/example/wireproof/wireproof/codec/discv5/PacketFlag;" (.ref o1)) (S2 : Sta Z h0 "com/example/wireproof/wireproof/codec/discv5/PacketFlag" "HANDSHAKE" "Lcom/example/wireproof/wireproof/codec/discv5/PacketFlag;" (.ref o2)) (hc0 : ¬ p1 = (0 : Int32)) (hc1 : p1 = (1 : Int32)) :
    JMet l Z (⟨"com/example/wireproof/wireproof/codec/discv5/PacketFlagWithCodePinLaw", "expected", "(I)Lcom/example/wireproof/wireproof/codec/discv5/PacketFlag;"⟩ : MethodName) method_2_code 1 (some (.object "com/example/wireproof/wireproof/codec/discv5/PacketFlag")) ws ({ frames := 0, cells := 0, slots := 0, locals := 0 } : Room) #[(.int p1)] h0 (QP (.ref o1) h0 n0) := by
  refine Jvm.JW.body #[.val (.int p1)] pn3 (ef3 p1) ?_
  intro p e s m below meth c T0 D A F X0 hx hZ hby hml hown hnm hrt hlk e0
  refine A (XS.iloadN X0.here hx rfl (hb hby d3_0) rfl) ?_
  show D (T0.setTop (mkF m 1 #[.val (.int p1)] [(.int p1)]))
  refine A (XS.ifYes X0.here hx rfl (pc0 := 1) (pc' := 8) rfl (hb hby d3_1) rfl ((if0 _ _).trans (feq hc0).2) (by decide) (by decide)) ?_
  show D (T0.setTop (mkF m 8 #[.val (.int p1)] []))
  refine A (XS.iloadN X0.here hx rfl (hb hby d3_8) rfl) ?_
  show D (T0.setTop (mkF m 9 #[.val (.int p1)] [(.int p1)]))
  refine A (XS.iconst X0.here hx rfl (hb hby d3_9)) ?_
  show D (T0.setTop (mkF m 10 #[.val (.int p1)] [(.int (1 : Int32)), (.int p1)]))
  refine A (XS.icmpNo X0.here hx rfl (hb hby d3_10) rfl (teq hc1).2) ?_
  show D (T0.setTop (mkF m 13 #[.val (.int p1)] []))
  obtain ⟨T1, X1, e1, st1⟩ := getS X0 hx hZ hown (host := "") (hw _ (List.mem_of_getElem? (i := 28) rfl)) Via.refl e0 S1 (g := (mkF m 13 #[.val (.int p1)] [])) rfl (hb hby d3_13)
  refine A (st1 _) ?_
  show D (T1.setTop (mkF m 16 #[.val (.int p1)] [(.ref o1)]))
  refine F _ (Jvm.JW.ret X1 hlk (v := some (.ref o1)) (fun h => by rw [hrt] at h; cases h) (fun fs hr => retOut X1 hx hrt rfl (Or.inr (Or.inr (Or.inr (Or.inr ⟨rfl, rfl, rfl⟩)))) (hb hby d3_16) hr) rfl ?_ (by decide) (by decide))
  exact ⟨rfl, (Fr.nil n0), e1⟩
theorem d3_17 : decode method_2_code 17 = .ok (.iload_n 0, 1) := by decide +kernel
theorem d3_18 : decode method_2_code 18 = .ok (.iconst 2, 1) := by decide +kernel
theorem d3_19 : decode method_2_code 19 = .ok (.if_icmp .ne 7, 3) := by decide +kernel
theorem d3_22 : decode method_2_code 22 = .ok (.getstatic 16, 3) := by decide +kernel
theorem d3_25 : decode method_2_code 25 = .ok (.areturn, 1) := by decide +kernel
set_option maxRecDepth 65536 in
set_option maxHeartbeats 40000000 in
theorem rm3_2 (l : Launch) (Z : State) (a0 : Array Value) (hw : ∀ d ∈ tables_1, d.before a0 Z = true) (ws : List Jvm.Cond) (p1 : Int32) (h0 : Heap) (n0 : Nat) (o0 o1 o2 : Addr) (S0 : Sta Z h0 "com/example/wireproof/wireproof/codec/discv5/PacketFlag" "ORDINARY" "Lcom/example/wireproof/wireproof/codec/discv5/PacketFlag;" (.ref o0)) (S1 : Sta Z h0 "com/example/wireproof/wireproof/codec/discv5/PacketFlag" "WHOAREYOU" "Lcom/example/wireproof/wireproof/codec/discv5/PacketFlag;" (.ref o1)) (S2 : Sta Z h0 "com/example/wireproof/wireproof/codec/discv5/PacketFlag" "HANDSHAKE" "Lcom/example/wireproof/wireproof/codec/discv5/PacketFlag;" (.ref o2)) (hc0 : ¬ p1 = (0 : Int32)) (hc1 : ¬ p1 = (1 : Int32)) (hc2 : p1 = (2 : Int32)) :
    JMet l Z (⟨"com/example/wireproof/wireproof/codec/discv5/PacketFlagWithCodePinLaw", "expected", "(I)Lcom/example/wireproof/wireproof/codec/discv5/PacketFlag;"⟩ : MethodName) method_2_code 1 (some (.object "com/example/wireproof/wireproof/codec/discv5/PacketFlag")) ws ({ frames := 0, cells := 0, slots := 0, locals := 0 } : Room) #[(.int p1)] h0 (QP (.ref o2) h0 n0) := by
  refine Jvm.JW.body #[.val (.int p1)] pn3 (ef3 p1) ?_
  intro p e s m below meth c T0 D A F X0 hx hZ hby hml hown hnm hrt hlk e0
  refine A (XS.iloadN X0.here hx rfl (hb hby d3_0) rfl) ?_
  show D (T0.setTop (mkF m 1 #[.val (.int p1)] [(.int p1)]))
  refine A (XS.ifYes X0.here hx rfl (pc0 := 1) (pc' := 8) rfl (hb hby d3_1) rfl ((if0 _ _).trans (feq hc0).2) (by decide) (by decide)) ?_
  show D (T0.setTop (mkF m 8 #[.val (.int p1)] []))
  refine A (XS.iloadN X0.here hx rfl (hb hby d3_8) rfl) ?_
  show D (T0.setTop (mkF m 9 #[.val (.int p1)] [(.int p1)]))
  refine A (XS.iconst X0.here hx rfl (hb hby d3_9)) ?_
  show D (T0.setTop (mkF m 10 #[.val (.int p1)] [(.int (1 : Int32)), (.int p1)]))
  refine A (XS.icmpYes X0.here hx rfl (pc0 := 10) (pc' := 17) rfl (hb hby d3_10) rfl (feq hc1).2 (by decide) (by decide)) ?_
  show D (T0.setTop (mkF m 17 #[.val (.int p1)] []))
  refine A (XS.iloadN X0.here hx rfl (hb hby d3_17) rfl) ?_
  show D (T0.setTop (mkF m 18 #[.val (.int p1)] [(.int p1)]))
  refine A (XS.iconst X0.here hx rfl (hb hby d3_18)) ?_
  show D (T0.setTop (mkF m 19 #[.val (.int p1)] [(.int (2 : Int32)), (.int p1)]))
  refine A (XS.icmpNo X0.here hx rfl (hb hby d3_19) rfl (teq hc2).2) ?_
  show D (T0.setTop (mkF m 22 #[.val (.int p1)] []))
  obtain ⟨T1, X1, e1, st1⟩ := getS X0 hx hZ hown (host := "") (hw _ (List.mem_of_getElem? (i := 29) rfl)) Via.refl e0 S2 (g := (mkF m 22 #[.val (.int p1)] [])) rfl (hb hby d3_22)
  refine A (st1 _) ?_
  show D (T1.setTop (mkF m 25 #[.val (.int p1)] [(.ref o2)]))
  refine F _ (Jvm.JW.ret X1 hlk (v := some (.ref o2)) (fun h => by rw [hrt] at h; cases h) (fun fs hr => retOut X1 hx hrt rfl (Or.inr (Or.inr (Or.inr (Or.inr ⟨rfl, rfl, rfl⟩)))) (hb hby d3_25) hr) rfl ?_ (by decide) (by decide))
  exact ⟨rfl, (Fr.nil n0), e1⟩
theorem d3_26 : decode method_2_code 26 = .ok (.aconst_null, 1) := by decide +kernel
theorem d3_27 : decode method_2_code 27 = .ok (.areturn, 1) := by decide +kernel
set_option maxRecDepth 65536 in
set_option maxHeartbeats 40000000 in
theorem rm3_3 (l : Launch) (Z : State) (a0 : Array Value) (hw : ∀ d ∈ tables_1, d.before a0 Z = true) (ws : List Jvm.Cond) (p1 : Int32) (h0 : Heap) (n0 : Nat) (o0 o1 o2 : Addr) (S0 : Sta Z h0 "com/example/wireproof/wireproof/codec/discv5/PacketFlag" "ORDINARY" "Lcom/example/wireproof/wireproof/codec/discv5/PacketFlag;" (.ref o0)) (S1 : Sta Z h0 "com/example/wireproof/wireproof/codec/discv5/PacketFlag" "WHOAREYOU" "Lcom/example/wireproof/wireproof/codec/discv5/PacketFlag;" (.ref o1)) (S2 : Sta Z h0 "com/example/wireproof/wireproof/codec/discv5/PacketFlag" "HANDSHAKE" "Lcom/example/wireproof/wireproof/codec/discv5/PacketFlag;" (.ref o2)) (hc0 : ¬ p1 = (0 : Int32)) (hc1 : ¬ p1 = (1 : Int32)) (hc2 : ¬ p1 = (2 : Int32)) :
    JMet l Z (⟨"com/example/wireproof/wireproof/codec/discv5/PacketFlagWithCodePinLaw", "expected", "(I)Lcom/example/wireproof/wireproof/codec/discv5/PacketFlag;"⟩ : MethodName) method_2_code 1 (some (.object "com/example/wireproof/wireproof/codec/discv5/PacketFlag")) ws ({ frames := 0, cells := 0, slots := 0, locals := 0 } : Room) #[(.int p1)] h0 (QP (.null) h0 n0) := by
  refine Jvm.JW.body #[.val (.int p1)] pn3 (ef3 p1) ?_
  intro p e s m below meth c T0 D A F X0 hx hZ hby hml hown hnm hrt hlk e0
  refine A (XS.iloadN X0.here hx rfl (hb hby d3_0) rfl) ?_
  show D (T0.setTop (mkF m 1 #[.val (.int p1)] [(.int p1)]))
  refine A (XS.ifYes X0.here hx rfl (pc0 := 1) (pc' := 8) rfl (hb hby d3_1) rfl ((if0 _ _).trans (feq hc0).2) (by decide) (by decide)) ?_
  show D (T0.setTop (mkF m 8 #[.val (.int p1)] []))
  refine A (XS.iloadN X0.here hx rfl (hb hby d3_8) rfl) ?_
  show D (T0.setTop (mkF m 9 #[.val (.int p1)] [(.int p1)]))
  refine A (XS.iconst X0.here hx rfl (hb hby d3_9)) ?_
  show D (T0.setTop (mkF m 10 #[.val (.int p1)] [(.int (1 : Int32)), (.int p1)]))
  refine A (XS.icmpYes X0.here hx rfl (pc0 := 10) (pc' := 17) rfl (hb hby d3_10) rfl (feq hc1).2 (by decide) (by decide)) ?_
  show D (T0.setTop (mkF m 17 #[.val (.int p1)] []))
  refine A (XS.iloadN X0.here hx rfl (hb hby d3_17) rfl) ?_
  show D (T0.setTop (mkF m 18 #[.val (.int p1)] [(.int p1)]))
  refine A (XS.iconst X0.here hx rfl (hb hby d3_18)) ?_
  show D (T0.setTop (mkF m 19 #[.val (.int p1)] [(.int (2 : Int32)), (.int p1)]))
  refine A (XS.icmpYes X0.here hx rfl (pc0 := 19) (pc' := 26) rfl (hb hby d3_19) rfl (feq hc2).2 (by decide) (by decide)) ?_
  show D (T0.setTop (mkF m 26 #[.val (.int p1)] []))
  refine A (XS.aconstNull X0.here hx rfl (hb hby d3_26)) ?_
  show D (T0.setTop (mkF m 27 #[.val (.int p1)] [.null]))
  refine F _ (Jvm.JW.ret X0 hlk (v := some .null) (fun h => by rw [hrt] at h; cases h) (fun fs hr => retOut X0 hx hrt rfl (Or.inr (Or.inr (Or.inr (Or.inr ⟨rfl, rfl, rfl⟩)))) (hb hby d3_27) hr) rfl ?_ (by decide) (by decide))
  exact ⟨rfl, (Fr.nil n0), e0⟩
theorem pn0 : plainFor x = true := by decide +kernel
theorem pd0_0 : parseMethodDescriptor "(I)Lcom/example/wireproof/wireproof/codec/discv5/PacketFlag;" = some ⟨[.int], some (.object "com/example/wireproof/wireproof/codec/discv5/PacketFlag")⟩ := by decide +kernel
theorem ef0 (p1 : Int32) (p2 : Int32) (m : MethodId) : entryFrame m #[(.int p1), (.int p2)] maxLocals = mkF m 0 #[.val (.int p1), .val (.int p2), .unset, .unset, .unset] [] := by first | (simp [entryFrame, mkF, argsToLocals, Value.category, maxLocals]; done) | rfl
set_option maxRecDepth 65536 in
set_option maxHeartbeats 40000000 in
theorem rm0 (l : Launch) (Z : State) (a0 : Array Value) (hw : ∀ d ∈ tables_1, d.before a0 Z = true) (ws : List Jvm.Cond) (p1 : Int32) (p2 : Int32) (h0 : Heap) (n0 : Nat) (v0 o0 o1 o2 : Addr) (cl : Cell) (Ar : Arr Z h0 v0 cl (.object "com/example/wireproof/wireproof/codec/discv5/PacketFlag")) (Ex : Exa Z h0 v0 "[Lcom/example/wireproof/wireproof/codec/discv5/PacketFlag;") (Fc : FitC Z cl) (hsz : cl.slots.size = 3) (H : ∀ i, i < 3 → cl.slots[i]? = some (own_vs o0 o1 o2 i)) (S_v : Sta Z h0 "com/example/wireproof/wireproof/codec/discv5/PacketFlag" "$VALUES" "[Lcom/example/wireproof/wireproof/codec/discv5/PacketFlag;" (.ref v0)) (Z0 : n0 ≤ h0.size) (F0 : Fld Z h0 o0 "com/example/wireproof/wireproof/codec/discv5/PacketFlag" "code" "I" (.int (0 : Int32))) (S0 : Sta Z h0 "com/example/wireproof/wireproof/codec/discv5/PacketFlag" "ORDINARY" "Lcom/example/wireproof/wireproof/codec/discv5/PacketFlag;" (.ref o0)) (F1 : Fld Z h0 o1 "com/example/wireproof/wireproof/codec/discv5/PacketFlag" "code" "I" (.int (1 : Int32))) (S1 : Sta Z h0 "com/example/wireproof/wireproof/codec/discv5/PacketFlag" "WHOAREYOU" "Lcom/example/wireproof/wireproof/codec/discv5/PacketFlag;" (.ref o1)) (F2 : Fld Z h0 o2 "com/example/wireproof/wireproof/codec/discv5/PacketFlag" "code" "I" (.int (2 : Int32))) (S2 : Sta Z h0 "com/example/wireproof/wireproof/codec/discv5/PacketFlag" "HANDSHAKE" "Lcom/example/wireproof/wireproof/codec/discv5/PacketFlag;" (.ref o2)) :
    JMet l Z x code maxLocals ret ws room_1 #[(.int p1), (.int p2)] h0 (QL n0) := by
  refine Jvm.JW.body #[.val (.int p1), .val (.int p2), .unset, .unset, .unset] pn0 (ef0 p1 p2) ?_
  intro p e s m below meth c T0 D A F X0 hx hZ hby hml hown hnm hrt hlk e0
  refine A (XS.iloadN X0.here hx rfl (hb hby at_0) rfl) ?_
  show D (T0.setTop (mkF m 1 #[.val (.int p1), .val (.int p2), .unset, .unset, .unset] [(.int p1)]))
  refine A (XS.iconst X0.here hx rfl (hb hby at_1)) ?_
  show D (T0.setTop (mkF m 2 #[.val (.int p1), .val (.int p2), .unset, .unset, .unset] [(.int (1 : Int32)), (.int p1)]))
  refine A (XS.iand X0.here hx rfl (hb hby at_2) rfl) ?_
  show D (T0.setTop (mkF m 3 #[.val (.int p1), .val (.int p2), .unset, .unset, .unset] [(.int (p1 &&& (1 : Int32)))]))
  suffices Km11_1 : ∀ (v11s0 : Int32), v11s0 = (if (p1 &&& (1 : Int32)) = (0 : Int32) then (0 : Int32) else (1 : Int32)) → D (T0.setTop (mkF m 11 #[.val (.int p1), .val (.int p2), .unset, .unset, .unset] [(.int v11s0)])) by
    by_cases c3_0 : (p1 &&& (1 : Int32)) = (0 : Int32)
    · refine A (XS.ifYes X0.here hx rfl (pc0 := 3) (pc' := 10) rfl (hb hby at_3) rfl ((if0 _ _).trans (teq c3_0).1) (by decide) (by decide)) ?_
      show D (T0.setTop (mkF m 10 #[.val (.int p1), .val (.int p2), .unset, .unset, .unset] []))
      refine A (XS.iconst X0.here hx rfl (hb hby at_10)) ?_
      show D (T0.setTop (mkF m 11 #[.val (.int p1), .val (.int p2), .unset, .unset, .unset] [(.int (0 : Int32))]))
      exact Km11_1 _ ((if_pos c3_0)).symm
    · refine A (XS.ifNo X0.here hx rfl (hb hby at_3) rfl ((if0 _ _).trans (feq c3_0).1)) ?_
      show D (T0.setTop (mkF m 6 #[.val (.int p1), .val (.int p2), .unset, .unset, .unset] []))
      refine A (XS.iconst X0.here hx rfl (hb hby at_6)) ?_
      show D (T0.setTop (mkF m 7 #[.val (.int p1), .val (.int p2), .unset, .unset, .unset] [(.int (1 : Int32))]))
      refine A (XS.goto X0.here hx rfl (pc0 := 7) (pc' := 11) rfl (hb hby at_7) (by decide) (by decide)) ?_
      show D (T0.setTop (mkF m 11 #[.val (.int p1), .val (.int p2), .unset, .unset, .unset] [(.int (1 : Int32))]))
      exact Km11_1 _ ((if_neg c3_0)).symm
  intro v11s0 hv11s0
  show D (T0.setTop (mkF m 11 #[.val (.int p1), .val (.int p2), .unset, .unset, .unset] [(.int v11s0)]))
  refine A (XS.istoreN X0.here hx rfl (hb hby at_11) rfl (l' := #[.val (.int p1), .val (.int p2), .val (.int v11s0), .unset, .unset]) rfl) ?_
  show D (T0.setTop (mkF m 12 #[.val (.int p1), .val (.int p2), .val (.int v11s0), .unset, .unset] []))
  refine A (XS.iloadN X0.here hx rfl (hb hby at_12) rfl) ?_
  show D (T0.setTop (mkF m 13 #[.val (.int p1), .val (.int p2), .val (.int v11s0), .unset, .unset] [(.int v11s0)]))
  suffices Km26_2 : ∀ (v26s0 : Int32), v26s0 = (if v11s0 = (0 : Int32) then ((p2 &&& (7 : Int32)) - (2 : Int32)) else p2) → D (T0.setTop (mkF m 26 #[.val (.int p1), .val (.int p2), .val (.int v11s0), .unset, .unset] [(.int v26s0)])) by
    by_cases c13_0 : v11s0 = (0 : Int32)
    · refine A (XS.ifYes X0.here hx rfl (pc0 := 13) (pc' := 20) rfl (hb hby at_13) rfl ((if0 _ _).trans (teq c13_0).1) (by decide) (by decide)) ?_
      show D (T0.setTop (mkF m 20 #[.val (.int p1), .val (.int p2), .val (.int v11s0), .unset, .unset] []))
      refine A (XS.iloadN X0.here hx rfl (hb hby at_20) rfl) ?_
      show D (T0.setTop (mkF m 21 #[.val (.int p1), .val (.int p2), .val (.int v11s0), .unset, .unset] [(.int p2)]))
      refine A (XS.bipush X0.here hx rfl (hb hby at_21)) ?_
      show D (T0.setTop (mkF m 23 #[.val (.int p1), .val (.int p2), .val (.int v11s0), .unset, .unset] [(.int (7 : Int32)), (.int p2)]))
      refine A (XS.iand X0.here hx rfl (hb hby at_23) rfl) ?_
      show D (T0.setTop (mkF m 24 #[.val (.int p1), .val (.int p2), .val (.int v11s0), .unset, .unset] [(.int (p2 &&& (7 : Int32)))]))
      refine A (XS.iconst X0.here hx rfl (hb hby at_24)) ?_
      show D (T0.setTop (mkF m 25 #[.val (.int p1), .val (.int p2), .val (.int v11s0), .unset, .unset] [(.int (2 : Int32)), (.int (p2 &&& (7 : Int32)))]))
      refine A (XS.isub X0.here hx rfl (hb hby at_25) rfl) ?_
      show D (T0.setTop (mkF m 26 #[.val (.int p1), .val (.int p2), .val (.int v11s0), .unset, .unset] [(.int ((p2 &&& (7 : Int32)) - (2 : Int32)))]))
      exact Km26_2 _ ((if_pos c13_0)).symm
    · refine A (XS.ifNo X0.here hx rfl (hb hby at_13) rfl ((if0 _ _).trans (feq c13_0).1)) ?_
      show D (T0.setTop (mkF m 16 #[.val (.int p1), .val (.int p2), .val (.int v11s0), .unset, .unset] []))
      refine A (XS.iloadN X0.here hx rfl (hb hby at_16) rfl) ?_
      show D (T0.setTop (mkF m 17 #[.val (.int p1), .val (.int p2), .val (.int v11s0), .unset, .unset] [(.int p2)]))
      refine A (XS.goto X0.here hx rfl (pc0 := 17) (pc' := 26) rfl (hb hby at_17) (by decide) (by decide)) ?_
      show D (T0.setTop (mkF m 26 #[.val (.int p1), .val (.int p2), .val (.int v11s0), .unset, .unset] [(.int p2)]))
      exact Km26_2 _ ((if_neg c13_0)).symm
  intro v26s0 hv26s0
  show D (T0.setTop (mkF m 26 #[.val (.int p1), .val (.int p2), .val (.int v11s0), .unset, .unset] [(.int v26s0)]))
  refine A (XS.istoreN X0.here hx rfl (hb hby at_26) rfl (l' := #[.val (.int p1), .val (.int p2), .val (.int v11s0), .val (.int v26s0), .unset]) rfl) ?_
  show D (T0.setTop (mkF m 27 #[.val (.int p1), .val (.int p2), .val (.int v11s0), .val (.int v26s0), .unset] []))
  refine A (XS.iloadN X0.here hx rfl (hb hby at_27) rfl) ?_
  show D (T0.setTop (mkF m 28 #[.val (.int p1), .val (.int p2), .val (.int v11s0), .val (.int v26s0), .unset] [(.int v26s0)]))
  by_cases hq0 : v26s0 = (0 : Int32)
  · refine Adv.callS A X0 hx hZ hown (hw _ (List.mem_of_getElem? (i := 0) rfl)) (hw _ (List.mem_of_getElem? (i := 1) rfl)) (hw _ (List.mem_of_getElem? (i := 2) rfl)) (hw _ (List.mem_of_getElem? (i := 3) rfl)) e0 (rm1_0 l Z a0 hw [] v26s0 h0 n0 v0 o0 o1 o2 cl Ar Ex Fc hsz H S_v Z0 F0 F1 F2 hq0.symm) 0 (g := (mkF m 28 #[.val (.int p1), .val (.int p2), .val (.int v11s0), .val (.int v26s0), .unset] [(.int v26s0)])) rfl (by rw [hml]; rfl) [(.int v26s0)] [] rfl (lenOf pd0_0 rfl) rfl (by show 2 * 0 + _ ≤ _; exact Nat.le_of_eq rfl) (hb hby at_28) (by decide) (by decide) (by decide) (by decide) (by decide) ?_
    rintro T3 L3 _ X3 ⟨rfl, N3_q, K3⟩
    have N3 := Fr.app (Fr.nil n0) N3_q
    have S0_3 := own_keep S0 K3
    have S1_3 := own_keep S1 K3
    have S2_3 := own_keep S2 K3
    have Z_3 : n0 ≤ T3.heap.size := Nat.le_trans Z0 K3.1
    show D (T3.setTop (mkF m 31 #[.val (.int p1), .val (.int p2), .val (.int v11s0), .val (.int v26s0), .unset] [(.ref o0)]))
    refine A (XS.astore X3.here hx rfl (hb hby at_31) rfl rfl (l' := #[.val (.int p1), .val (.int p2), .val (.int v11s0), .val (.int v26s0), .val (.ref o0)]) rfl) ?_
    show D (T3.setTop (mkF m 33 #[.val (.int p1), .val (.int p2), .val (.int v11s0), .val (.int v26s0), .val (.ref o0)] []))
    refine A (XS.aload X3.here hx rfl (hb hby at_33) rfl rfl) ?_
    show D (T3.setTop (mkF m 35 #[.val (.int p1), .val (.int p2), .val (.int v11s0), .val (.int v26s0), .val (.ref o0)] [(.ref o0)]))
    refine A (XS.iloadN X3.here hx rfl (hb hby at_35) rfl) ?_
    show D (T3.setTop (mkF m 36 #[.val (.int p1), .val (.int p2), .val (.int v11s0), .val (.int v26s0), .val (.ref o0)] [(.int v26s0), (.ref o0)]))
    refine Adv.callS A X3 hx hZ hown (hw _ (List.mem_of_getElem? (i := 24) rfl)) (hw _ (List.mem_of_getElem? (i := 25) rfl)) (hw _ (List.mem_of_getElem? (i := 26) rfl)) (hw _ (List.mem_of_getElem? (i := 27) rfl)) rfl (rm3_0 l Z a0 hw [] v26s0 T3.heap n0 o0 o1 o2 S0_3 S1_3 S2_3 hq0) 1 (g := (mkF m 36 #[.val (.int p1), .val (.int p2), .val (.int v11s0), .val (.int v26s0), .val (.ref o0)] [(.int v26s0), (.ref o0)])) rfl (by rw [hml]; rfl) [(.int v26s0)] [(.ref o0)] rfl (lenOf pd0_0 rfl) rfl (by show 2 * 0 + _ ≤ _; exact Nat.le_of_eq rfl) (hb hby at_36) (by decide) (by decide) (by decide) (by decide) (by decide) ?_
    rintro T4 L4 _ X4 ⟨rfl, N4_q, e4⟩
    have N4 := Fr.app N3 N4_q
    show D (T4.setTop (mkF m 39 #[.val (.int p1), .val (.int p2), .val (.int v11s0), .val (.int v26s0), .val (.ref o0)] [(.ref o0), (.ref o0)]))
    refine A (Jvm.RoadKit.acmp (g := (mkF m 39 #[.val (.int p1), .val (.int p2), .val (.int v11s0), .val (.int v26s0), .val (.ref o0)] [(.ref o0), (.ref o0)])) X4 hx rfl rfl rfl (pc0 := 39) (pc' := 42) (same := true) rfl (hb hby at_39) rfl (decide_eq_true rfl) (by decide) (by decide)) ?_
    show D (T4.setTop (mkF m 42 #[.val (.int p1), .val (.int p2), .val (.int v11s0), .val (.int v26s0), .val (.ref o0)] []))
    refine A (XS.iconst X4.here hx rfl (hb hby at_42)) ?_
    show D (T4.setTop (mkF m 43 #[.val (.int p1), .val (.int p2), .val (.int v11s0), .val (.int v26s0), .val (.ref o0)] [(.int (1 : Int32))]))
    refine A (XS.goto X4.here hx rfl (pc0 := 43) (pc' := 47) rfl (hb hby at_43) (by decide) (by decide)) ?_
    show D (T4.setTop (mkF m 47 #[.val (.int p1), .val (.int p2), .val (.int v11s0), .val (.int v26s0), .val (.ref o0)] [(.int (1 : Int32))]))
    exact F _ (Jvm.JW.ret X4 hlk (v := some (.int (1 : Int32))) (fun h => by rw [hrt] at h; cases h) (fun fs hr => retOut X4 hx hrt rfl (Or.inl ⟨rfl, Or.inr (Or.inl rfl), _, rfl⟩) (hb hby at_47) hr) rfl ⟨rfl, N4⟩ (by decide) (by decide))
  by_cases hq1 : v26s0 = (1 : Int32)
  · refine Adv.callS A X0 hx hZ hown (hw _ (List.mem_of_getElem? (i := 0) rfl)) (hw _ (List.mem_of_getElem? (i := 1) rfl)) (hw _ (List.mem_of_getElem? (i := 2) rfl)) (hw _ (List.mem_of_getElem? (i := 3) rfl)) e0 (rm1_1 l Z a0 hw [] v26s0 h0 n0 v0 o0 o1 o2 cl Ar Ex Fc hsz H S_v Z0 F0 F1 F2 (fun q => hq0 q.symm) hq1.symm) 0 (g := (mkF m 28 #[.val (.int p1), .val (.int p2), .val (.int v11s0), .val (.int v26s0), .unset] [(.int v26s0)])) rfl (by rw [hml]; rfl) [(.int v26s0)] [] rfl (lenOf pd0_0 rfl) rfl (by show 2 * 0 + _ ≤ _; exact Nat.le_of_eq rfl) (hb hby at_28) (by decide) (by decide) (by decide) (by decide) (by decide) ?_
    rintro T5 L5 _ X5 ⟨rfl, N5_q, K5⟩
    have N5 := Fr.app (Fr.nil n0) N5_q
    have S0_5 := own_keep S0 K5
    have S1_5 := own_keep S1 K5
    have S2_5 := own_keep S2 K5
    have Z_5 : n0 ≤ T5.heap.size := Nat.le_trans Z0 K5.1
    show D (T5.setTop (mkF m 31 #[.val (.int p1), .val (.int p2), .val (.int v11s0), .val (.int v26s0), .unset] [(.ref o1)]))
    refine A (XS.astore X5.here hx rfl (hb hby at_31) rfl rfl (l' := #[.val (.int p1), .val (.int p2), .val (.int v11s0), .val (.int v26s0), .val (.ref o1)]) rfl) ?_
    show D (T5.setTop (mkF m 33 #[.val (.int p1), .val (.int p2), .val (.int v11s0), .val (.int v26s0), .val (.ref o1)] []))
    refine A (XS.aload X5.here hx rfl (hb hby at_33) rfl rfl) ?_
    show D (T5.setTop (mkF m 35 #[.val (.int p1), .val (.int p2), .val (.int v11s0), .val (.int v26s0), .val (.ref o1)] [(.ref o1)]))
    refine A (XS.iloadN X5.here hx rfl (hb hby at_35) rfl) ?_
    show D (T5.setTop (mkF m 36 #[.val (.int p1), .val (.int p2), .val (.int v11s0), .val (.int v26s0), .val (.ref o1)] [(.int v26s0), (.ref o1)]))
    refine Adv.callS A X5 hx hZ hown (hw _ (List.mem_of_getElem? (i := 24) rfl)) (hw _ (List.mem_of_getElem? (i := 25) rfl)) (hw _ (List.mem_of_getElem? (i := 26) rfl)) (hw _ (List.mem_of_getElem? (i := 27) rfl)) rfl (rm3_1 l Z a0 hw [] v26s0 T5.heap n0 o0 o1 o2 S0_5 S1_5 S2_5 hq0 hq1) 1 (g := (mkF m 36 #[.val (.int p1), .val (.int p2), .val (.int v11s0), .val (.int v26s0), .val (.ref o1)] [(.int v26s0), (.ref o1)])) rfl (by rw [hml]; rfl) [(.int v26s0)] [(.ref o1)] rfl (lenOf pd0_0 rfl) rfl (by show 2 * 0 + _ ≤ _; exact Nat.le_of_eq rfl) (hb hby at_36) (by decide) (by decide) (by decide) (by decide) (by decide) ?_
    rintro T6 L6 _ X6 ⟨rfl, N6_q, e6⟩
    have N6 := Fr.app N5 N6_q
    show D (T6.setTop (mkF m 39 #[.val (.int p1), .val (.int p2), .val (.int v11s0), .val (.int v26s0), .val (.ref o1)] [(.ref o1), (.ref o1)]))
    refine A (Jvm.RoadKit.acmp (g := (mkF m 39 #[.val (.int p1), .val (.int p2), .val (.int v11s0), .val (.int v26s0), .val (.ref o1)] [(.ref o1), (.ref o1)])) X6 hx rfl rfl rfl (pc0 := 39) (pc' := 42) (same := true) rfl (hb hby at_39) rfl (decide_eq_true rfl) (by decide) (by decide)) ?_
    show D (T6.setTop (mkF m 42 #[.val (.int p1), .val (.int p2), .val (.int v11s0), .val (.int v26s0), .val (.ref o1)] []))
    refine A (XS.iconst X6.here hx rfl (hb hby at_42)) ?_
    show D (T6.setTop (mkF m 43 #[.val (.int p1), .val (.int p2), .val (.int v11s0), .val (.int v26s0), .val (.ref o1)] [(.int (1 : Int32))]))
    refine A (XS.goto X6.here hx rfl (pc0 := 43) (pc' := 47) rfl (hb hby at_43) (by decide) (by decide)) ?_
    show D (T6.setTop (mkF m 47 #[.val (.int p1), .val (.int p2), .val (.int v11s0), .val (.int v26s0), .val (.ref o1)] [(.int (1 : Int32))]))
    exact F _ (Jvm.JW.ret X6 hlk (v := some (.int (1 : Int32))) (fun h => by rw [hrt] at h; cases h) (fun fs hr => retOut X6 hx hrt rfl (Or.inl ⟨rfl, Or.inr (Or.inl rfl), _, rfl⟩) (hb hby at_47) hr) rfl ⟨rfl, N6⟩ (by decide) (by decide))
  by_cases hq2 : v26s0 = (2 : Int32)
  · refine Adv.callS A X0 hx hZ hown (hw _ (List.mem_of_getElem? (i := 0) rfl)) (hw _ (List.mem_of_getElem? (i := 1) rfl)) (hw _ (List.mem_of_getElem? (i := 2) rfl)) (hw _ (List.mem_of_getElem? (i := 3) rfl)) e0 (rm1_2 l Z a0 hw [] v26s0 h0 n0 v0 o0 o1 o2 cl Ar Ex Fc hsz H S_v Z0 F0 F1 F2 (fun q => hq0 q.symm) (fun q => hq1 q.symm) hq2.symm) 0 (g := (mkF m 28 #[.val (.int p1), .val (.int p2), .val (.int v11s0), .val (.int v26s0), .unset] [(.int v26s0)])) rfl (by rw [hml]; rfl) [(.int v26s0)] [] rfl (lenOf pd0_0 rfl) rfl (by show 2 * 0 + _ ≤ _; exact Nat.le_of_eq rfl) (hb hby at_28) (by decide) (by decide) (by decide) (by decide) (by decide) ?_
    rintro T7 L7 _ X7 ⟨rfl, N7_q, K7⟩
    have N7 := Fr.app (Fr.nil n0) N7_q
    have S0_7 := own_keep S0 K7
    have S1_7 := own_keep S1 K7
    have S2_7 := own_keep S2 K7
    have Z_7 : n0 ≤ T7.heap.size := Nat.le_trans Z0 K7.1
    show D (T7.setTop (mkF m 31 #[.val (.int p1), .val (.int p2), .val (.int v11s0), .val (.int v26s0), .unset] [(.ref o2)]))
    refine A (XS.astore X7.here hx rfl (hb hby at_31) rfl rfl (l' := #[.val (.int p1), .val (.int p2), .val (.int v11s0), .val (.int v26s0), .val (.ref o2)]) rfl) ?_
    show D (T7.setTop (mkF m 33 #[.val (.int p1), .val (.int p2), .val (.int v11s0), .val (.int v26s0), .val (.ref o2)] []))
    refine A (XS.aload X7.here hx rfl (hb hby at_33) rfl rfl) ?_
    show D (T7.setTop (mkF m 35 #[.val (.int p1), .val (.int p2), .val (.int v11s0), .val (.int v26s0), .val (.ref o2)] [(.ref o2)]))
    refine A (XS.iloadN X7.here hx rfl (hb hby at_35) rfl) ?_
    show D (T7.setTop (mkF m 36 #[.val (.int p1), .val (.int p2), .val (.int v11s0), .val (.int v26s0), .val (.ref o2)] [(.int v26s0), (.ref o2)]))
    refine Adv.callS A X7 hx hZ hown (hw _ (List.mem_of_getElem? (i := 24) rfl)) (hw _ (List.mem_of_getElem? (i := 25) rfl)) (hw _ (List.mem_of_getElem? (i := 26) rfl)) (hw _ (List.mem_of_getElem? (i := 27) rfl)) rfl (rm3_2 l Z a0 hw [] v26s0 T7.heap n0 o0 o1 o2 S0_7 S1_7 S2_7 hq0 hq1 hq2) 1 (g := (mkF m 36 #[.val (.int p1), .val (.int p2), .val (.int v11s0), .val (.int v26s0), .val (.ref o2)] [(.int v26s0), (.ref o2)])) rfl (by rw [hml]; rfl) [(.int v26s0)] [(.ref o2)] rfl (lenOf pd0_0 rfl) rfl (by show 2 * 0 + _ ≤ _; exact Nat.le_of_eq rfl) (hb hby at_36) (by decide) (by decide) (by decide) (by decide) (by decide) ?_
    rintro T8 L8 _ X8 ⟨rfl, N8_q, e8⟩
    have N8 := Fr.app N7 N8_q
    show D (T8.setTop (mkF m 39 #[.val (.int p1), .val (.int p2), .val (.int v11s0), .val (.int v26s0), .val (.ref o2)] [(.ref o2), (.ref o2)]))
    refine A (Jvm.RoadKit.acmp (g := (mkF m 39 #[.val (.int p1), .val (.int p2), .val (.int v11s0), .val (.int v26s0), .val (.ref o2)] [(.ref o2), (.ref o2)])) X8 hx rfl rfl rfl (pc0 := 39) (pc' := 42) (same := true) rfl (hb hby at_39) rfl (decide_eq_true rfl) (by decide) (by decide)) ?_
    show D (T8.setTop (mkF m 42 #[.val (.int p1), .val (.int p2), .val (.int v11s0), .val (.int v26s0), .val (.ref o2)] []))
    refine A (XS.iconst X8.here hx rfl (hb hby at_42)) ?_
    show D (T8.setTop (mkF m 43 #[.val (.int p1), .val (.int p2), .val (.int v11s0), .val (.int v26s0), .val (.ref o2)] [(.int (1 : Int32))]))
    refine A (XS.goto X8.here hx rfl (pc0 := 43) (pc' := 47) rfl (hb hby at_43) (by decide) (by decide)) ?_
    show D (T8.setTop (mkF m 47 #[.val (.int p1), .val (.int p2), .val (.int v11s0), .val (.int v26s0), .val (.ref o2)] [(.int (1 : Int32))]))
    exact F _ (Jvm.JW.ret X8 hlk (v := some (.int (1 : Int32))) (fun h => by rw [hrt] at h; cases h) (fun fs hr => retOut X8 hx hrt rfl (Or.inl ⟨rfl, Or.inr (Or.inl rfl), _, rfl⟩) (hb hby at_47) hr) rfl ⟨rfl, N8⟩ (by decide) (by decide))
  refine Adv.callS A X0 hx hZ hown (hw _ (List.mem_of_getElem? (i := 0) rfl)) (hw _ (List.mem_of_getElem? (i := 1) rfl)) (hw _ (List.mem_of_getElem? (i := 2) rfl)) (hw _ (List.mem_of_getElem? (i := 3) rfl)) e0 (rm1_3 l Z a0 hw [] v26s0 h0 n0 v0 o0 o1 o2 cl Ar Ex Fc hsz H S_v Z0 F0 F1 F2 (fun q => hq0 q.symm) (fun q => hq1 q.symm) (fun q => hq2 q.symm)) 0 (g := (mkF m 28 #[.val (.int p1), .val (.int p2), .val (.int v11s0), .val (.int v26s0), .unset] [(.int v26s0)])) rfl (by rw [hml]; rfl) [(.int v26s0)] [] rfl (lenOf pd0_0 rfl) rfl (by show 2 * 0 + _ ≤ _; exact Nat.le_of_eq rfl) (hb hby at_28) (by decide) (by decide) (by decide) (by decide) (by decide) ?_
  rintro T9 L9 _ X9 ⟨rfl, N9_q, K9⟩
  have N9 := Fr.app (Fr.nil n0) N9_q
  have S0_9 := own_keep S0 K9
  have S1_9 := own_keep S1 K9
  have S2_9 := own_keep S2 K9
  have Z_9 : n0 ≤ T9.heap.size := Nat.le_trans Z0 K9.1
  show D (T9.setTop (mkF m 31 #[.val (.int p1), .val (.int p2), .val (.int v11s0), .val (.int v26s0), .unset] [.null]))
  refine A (XS.astore X9.here hx rfl (hb hby at_31) rfl rfl (l' := #[.val (.int p1), .val (.int p2), .val (.int v11s0), .val (.int v26s0), .val .null]) rfl) ?_
  show D (T9.setTop (mkF m 33 #[.val (.int p1), .val (.int p2), .val (.int v11s0), .val (.int v26s0), .val .null] []))
  refine A (XS.aload X9.here hx rfl (hb hby at_33) rfl rfl) ?_
  show D (T9.setTop (mkF m 35 #[.val (.int p1), .val (.int p2), .val (.int v11s0), .val (.int v26s0), .val .null] [.null]))
  refine A (XS.iloadN X9.here hx rfl (hb hby at_35) rfl) ?_
  show D (T9.setTop (mkF m 36 #[.val (.int p1), .val (.int p2), .val (.int v11s0), .val (.int v26s0), .val .null] [(.int v26s0), .null]))
  refine Adv.callS A X9 hx hZ hown (hw _ (List.mem_of_getElem? (i := 24) rfl)) (hw _ (List.mem_of_getElem? (i := 25) rfl)) (hw _ (List.mem_of_getElem? (i := 26) rfl)) (hw _ (List.mem_of_getElem? (i := 27) rfl)) rfl (rm3_3 l Z a0 hw [] v26s0 T9.heap n0 o0 o1 o2 S0_9 S1_9 S2_9 hq0 hq1 hq2) 1 (g := (mkF m 36 #[.val (.int p1), .val (.int p2), .val (.int v11s0), .val (.int v26s0), .val .null] [(.int v26s0), .null])) rfl (by rw [hml]; rfl) [(.int v26s0)] [.null] rfl (lenOf pd0_0 rfl) rfl (by show 2 * 0 + _ ≤ _; exact Nat.le_of_eq rfl) (hb hby at_36) (by decide) (by decide) (by decide) (by decide) (by decide) ?_
  rintro T10 L10 _ X10 ⟨rfl, N10_q, e10⟩
  have N10 := Fr.app N9 N10_q
  show D (T10.setTop (mkF m 39 #[.val (.int p1), .val (.int p2), .val (.int v11s0), .val (.int v26s0), .val .null] [.null, .null]))
  refine A (Jvm.RoadKit.acmp (g := (mkF m 39 #[.val (.int p1), .val (.int p2), .val (.int v11s0), .val (.int v26s0), .val .null] [.null, .null])) X10 hx rfl rfl rfl (pc0 := 39) (pc' := 42) (same := true) rfl (hb hby at_39) rfl (decide_eq_true rfl) (by decide) (by decide)) ?_
  show D (T10.setTop (mkF m 42 #[.val (.int p1), .val (.int p2), .val (.int v11s0), .val (.int v26s0), .val .null] []))
  refine A (XS.iconst X10.here hx rfl (hb hby at_42)) ?_
  show D (T10.setTop (mkF m 43 #[.val (.int p1), .val (.int p2), .val (.int v11s0), .val (.int v26s0), .val .null] [(.int (1 : Int32))]))
  refine A (XS.goto X10.here hx rfl (pc0 := 43) (pc' := 47) rfl (hb hby at_43) (by decide) (by decide)) ?_
  show D (T10.setTop (mkF m 47 #[.val (.int p1), .val (.int p2), .val (.int v11s0), .val (.int v26s0), .val .null] [(.int (1 : Int32))]))
  exact F _ (Jvm.JW.ret X10 hlk (v := some (.int (1 : Int32))) (fun h => by rw [hrt] at h; cases h) (fun fs hr => retOut X10 hx hrt rfl (Or.inl ⟨rfl, Or.inr (Or.inl rfl), _, rfl⟩) (hb hby at_47) hr) rfl ⟨rfl, N10⟩ (by decide) (by decide))
theorem own_eqr {a b : Term} {args : Array Value} {first s : State} {oo : Option Outcome} {idx : List Nat} {x : Addr} (h : (Cond.eq a b).value args first oo s idx = some true) (hb : b.eval args first oo idx s = some (.ref x)) : a.eval args first oo idx s = some (.ref x) := by
  obtain ⟨u, w, e1, e2, k1, k2⟩ := cmp_v (Or.inl h)
  cases hb.symm.trans e2
  cases u <;> simp [Cond.value, e1, hb] at h
  rw [e1, h]
theorem own_eqi {a b : Term} {args : Array Value} {first s : State} {oo : Option Outcome} {idx : List Nat} {x : Int32} (h : (Cond.eq a b).value args first oo s idx = some true) (hb : b.eval args first oo idx s = some (.int x)) : a.eval args first oo idx s = some (.int x) := by
  obtain ⟨u, w, e1, e2, k1, k2⟩ := cmp_v (Or.inl h)
  cases hb.symm.trans e2
  cases u <;> simp [Cond.value, e1, hb] at h
  rw [e1, h]
theorem own_len {t : Term} {args : Array Value} {s : State} {a : Addr} {cl : Cell} (h : (Cond.eq (Term.length t) (Term.int (3 : Int32))).value args s none s [] = some true) (ht : t.eval args s none [] s = some (.ref a)) (ha : s.arrayAt? a = some cl) : cl.slots.size = 3 := by
  have e := own_eqi h rfl
  by_cases hl : cl.slots.size < 2 ^ 31
  · rw [len_f ht ha hl] at e
    have q : (Int32.ofNat cl.slots.size) = 3 := by injection e with e; injection e
    have q2 := ofNat32 (n := cl.slots.size) (by omega)
    rw [q, show (3 : Int32).toInt = 3 from rfl] at q2
    omega
  · simp [Term.eval, ht, ha, hl] at e
set_option maxRecDepth 65536 in
set_option maxHeartbeats 40000000 in
theorem comes_1 {Post : Tables → Env → Array Value → State → Outcome → State → Prop} (hpost : ∀ tb e args s v u, (limb_1_1.after args s (.returned v) u = true ∧ limb_1_2.after args s (.returned v) u = true ∧ True) → FrameEnd s (.returned v) u (Jvm.fieldLocs frame_1_writes args s ++ Jvm.arrayLocs frame_1_arrays args s ++ Jvm.staticLocs frame_1_statics s) 16 128 → Post tb e args s (.returned v) u) :
    ArmFor flags0 classFile x code maxLocals ret World_1 tables_1 room_1 Calls_1 rest_1 Pre_1 Post := by
  intro l hfl _ _ p e ha hc hk s m args below hf hA hF happ hP
  obtain ⟨hcalls, hrest, hpre⟩ := hP
  obtain ⟨-, -, -, hnamed, -, -, -, hat⟩ := (Spec.applies_iff hf).mp happ
  obtain ⟨hg, hn⟩ := and_e (Cond.before_iff.mp (show (Jvm.Cond.and given_1 narrow_1).before args s = true from hpre))
  obtain ⟨g0, g1⟩ := and_e hg
  obtain ⟨t1, g2⟩ := and_e g1
  obtain ⟨w0, w1, rfl⟩ : ∃ w0 w1 : Value, args = #[w0, w1] := by
    have hs : args.size = 2 := by simpa [Cond.value, given_1] using g0
    obtain ⟨L⟩ := args
    match L, hs with
    | [w0, w1], _ => exact ⟨w0, w1, rfl⟩
  have hw := fun d (hd : d ∈ tables_1) => atoms_spec (ws := Jvm.Cond.code x code maxLocals ret :: tables_1) hat d (List.mem_cons_of_mem _ hd)
  obtain ⟨i0, q0⟩ := is_v t1
  obtain rfl : w0 = (.int i0) := Option.some.inj q0
  obtain ⟨i1, q1⟩ := is_v g2
  obtain rfl : w1 = (.int i1) := Option.some.inj q1
  have hfit : Fit s := fun {y c} hc i hi => by
    obtain ⟨ha, rfl⟩ := Array.getElem?_eq_some_iff.mp hc
    have q := List.all_eq_true.mp ((Array.all_eq_true_iff_forall_mem.mp hF) _ (Array.getElem_mem ha)) i (List.mem_range.mpr hi)
    simpa [Array.getElem?_eq_getElem hi] using q
  obtain ⟨c1, r1⟩ := and_e hn
  obtain ⟨c2, r2⟩ := and_e r1
  obtain ⟨c3, r3⟩ := and_e r2
  obtain ⟨c4, r4⟩ := and_e r3
  obtain ⟨c5, r5⟩ := and_e r4
  obtain ⟨c6, r6⟩ := and_e r5
  obtain ⟨c7, r7⟩ := and_e r6
  obtain ⟨c8, r8⟩ := and_e r7
  obtain ⟨c9, r9⟩ := and_e r8
  obtain ⟨c10, r10⟩ := and_e r9
  obtain ⟨c11, r11⟩ := and_e r10
  obtain ⟨v0, ev0⟩ := arr_v c1
  obtain ⟨cl, Ar⟩ := Arr.start ev0 c1
  have Ex := Exa.start ev0 c2
  have hat0 : s.arrayAt? v0 = some cl := Arr.fin (State.Warmed39.refl s).alike Ar
  have hsz : cl.slots.size = 3 := own_len c3 ev0 hat0
  obtain ⟨o0, eo0⟩ := exa_v c4
  have el0 := (elem_in (own_eqr c5 eo0) ev0 rfl Ar.1).2
  obtain ⟨o1, eo1⟩ := exa_v c6
  have el1 := (elem_in (own_eqr c7 eo1) ev0 rfl Ar.1).2
  obtain ⟨o2, eo2⟩ := exa_v c8
  have el2 := (elem_in (own_eqr c9 eo2) ev0 rfl Ar.1).2
  have F0 : Fld s s.heap o0 "com/example/wireproof/wireproof/codec/discv5/PacketFlag" "code" "I" (.int (0 : Int32)) := Fld.start (by have q := own_eqi c10 rfl; rw [fld_at eo0] at q; exact q)
  have F1 : Fld s s.heap o1 "com/example/wireproof/wireproof/codec/discv5/PacketFlag" "code" "I" (.int (1 : Int32)) := Fld.start (by have q := own_eqi c11 rfl; rw [fld_at eo1] at q; exact q)
  have F2 : Fld s s.heap o2 "com/example/wireproof/wireproof/codec/discv5/PacketFlag" "code" "I" (.int (2 : Int32)) := Fld.start (by have q := own_eqi r11 rfl; rw [fld_at eo2] at q; exact q)
  have H : ∀ i, i < 3 → cl.slots[i]? = some (own_vs o0 o1 o2 i) := fun i hi => by
    rcases (by omega : i = 0 ∨ i = 1 ∨ i = 2) with rfl | rfl | rfl
    · exact el0
    · exact el1
    · exact el2
  obtain ⟨n, o, h1, h2, h3, _, L, rfl, ⟨rfl, N⟩, hq⟩ := rm0 l s _ hw tables_1 i0 i1 s.heap s.heap.size v0 o0 o1 o2 cl Ar Ex (FitC.start hfit Ar) hsz H (Sta.start ev0 (Or.inl (hw _ (List.mem_of_getElem? (i := 19) rfl)))) (Nat.le_refl _) F0 (Sta.start eo0 (Or.inr ⟨(hw _ (List.mem_of_getElem? (i := 2) rfl)), (hw _ (List.mem_of_getElem? (i := 16) rfl))⟩)) F1 (Sta.start eo1 (Or.inr ⟨(hw _ (List.mem_of_getElem? (i := 2) rfl)), (hw _ (List.mem_of_getElem? (i := 17) rfl))⟩)) F2 (Sta.start eo2 (Or.inr ⟨(hw _ (List.mem_of_getElem? (i := 2) rfl)), (hw _ (List.mem_of_getElem? (i := 18) rfl))⟩)) p e ha hc hk s m _ below hf ((Spec.applies_iff_loose hf).mp happ).1 ⟨rfl, State.Warmed39.refl s, rfl⟩ trivial
  refine ⟨n, _, h1, h2, h3, hpost _ _ _ _ _ _ ⟨Cond.after_iff.mpr rfl, Cond.after_iff.mpr (eq_i res_at (Term.int_eval (1)) rfl), trivial⟩ ⟨hq.1, hq.2.1, (hq.2.2.sift fun y hy => Or.inr (N y hy)).mono (by decide) (by decide)⟩⟩
theorem main_1_1 : Claimed_1_1 := comes_1 fun _ _ _ _ _ _ h hF => ⟨h.1, hF⟩
theorem main_1_2 : Claimed_1_2 := comes_1 fun _ _ _ _ _ _ h hF => ⟨h.2.1, hF⟩
end Jvm.Pilot.@@N@@
namespace Jvm.Pilot.@@N@@
open Jvm Jvm.ClassFile Sem Op Lib Jvm.Free Jvm.Stand Jvm.Pilot.@@N@@.Jvm.D
/-! MADE BY PROGRAM (witnessworld.py) out of the Statement's table words and the real class files: 13 classes; the members and pool entries that the words name. The judged class is class 1, her method 2. -/
namespace start1
open Jvm.ClassFile
def u (s : String) : CpInfo := .utf8 (stringToUtf16 s)
/-- a pool by its gaps: so many unusable entries, then the entry; so many at the end -/
def gap : Nat → List CpInfo → List CpInfo
  | 0, r => r
  | n + 1, r => .unusable :: gap n r
def poolList (es : List (Nat × CpInfo)) (last : Nat) : List CpInfo := es.foldr (fun e r => gap e.1 (e.2 :: r)) (gap last [])
def pool (es : List (Nat × CpInfo)) (last : Nat) : Array CpInfo := ⟨poolList es last⟩
def fileOf (pool : Array CpInfo) (this : Nat) (attrs : Array Attribute := #[]) (ms : Array MethodInfo := #[]) (fl : Nat := 33) (sup : Nat := 0) (ifs : Array Nat := #[]) (fds : Array FieldInfo := #[]) : ClassFile where
  minorVersion := 0
  majorVersion := 65
  constantPool := pool
  accessFlags := fl
  thisClass := this
  superClass := sup
  interfaces := ifs
  fields := fds
  methods := ms
  attributes := attrs
def plain (name : String) (sup : Option ClassId) : Class where
  name := name
  kind := .ordinary
  loader := none
  accessFlags := 33
  super := sup
  interfaces := #[]
  cf := none
  fields := #[]
  methods := #[]
  instanceTypes := #[]
  staticTypes := #[]
  resolved := #[]
  callSites := []
  init := .initialized
  statics := none
  mirror := none

def pool0 : Array CpInfo := pool [(5, u "<init>"), (0, u "()V"), (1, .class_ 10), (1, u "java/lang/Object"), (85, u "clone"), (0, u "()Ljava/lang/Object;")] 26

def k0m0 : Method := { name := "<init>", desc := "()V", sig := { parameters := [], returnType := none }, accessFlags := 1, code := none }
def k0m1 : Method := { name := "clone", desc := "()Ljava/lang/Object;", sig := { parameters := [], returnType := some (.object "java/lang/Object") }, accessFlags := 260, code := none }
/-- java/lang/Object -/
def k0 : Class := { plain "java/lang/Object" none with
  accessFlags := 33
  interfaces := #[]
  cf := some (fileOf pool0 8 #[] #[{ accessFlags := 1, nameIndex := 5, descriptorIndex := 6, attributes := #[] }, { accessFlags := 260, nameIndex := 96, descriptorIndex := 97, attributes := #[] }] 33 0 #[] #[])
  fields := #[]
  methods := #[k0m0, k0m1]
  instanceTypes := #[]
  staticTypes := #[]
  resolved := Array.replicate 124 none
  statics := none }

def pool1 : Array CpInfo := pool [(2, .class_ 4), (1, u "java/lang/Object"), (0, u "<init>"), (0, u "()V"), (0, .fieldref 8 9), (0, .class_ 10), (0, .nameAndType 11 12), (0, u "com/example/wireproof/wireproof/codec/discv5/PacketFlag"), (0, u "ORDINARY"), (0, u "Lcom/example/wireproof/wireproof/codec/discv5/PacketFlag;"), (0, .fieldref 8 14), (0, .nameAndType 15 12), (0, u "WHOAREYOU"), (0, .fieldref 8 17), (0, .nameAndType 18 12), (0, u "HANDSHAKE"), (0, .methodref 8 20), (0, .nameAndType 21 22), (0, u "withCode"), (0, u "(I)Lcom/example/wireproof/wireproof/codec/discv5/PacketFlag;"), (0, .methodref 24 25), (0, .class_ 26), (0, .nameAndType 27 22), (0, u "com/example/wireproof/wireproof/codec/discv5/PacketFlagWithCodePinLaw"), (0, u "expected"), (3, u "law"), (0, u "(II)Z")] 2

def k1m0 : Method := { name := "<init>", desc := "()V", sig := { parameters := [], returnType := none }, accessFlags := 2, code := none }
def k1c1 : Code := { maxStack := 2, maxLocals := 1, code := method_2_code, exceptionTable := #[], attributes := #[] }
def k1m1 : Method := { name := "expected", desc := "(I)Lcom/example/wireproof/wireproof/codec/discv5/PacketFlag;", sig := { parameters := [.int], returnType := some (.object "com/example/wireproof/wireproof/codec/discv5/PacketFlag") }, accessFlags := 10, code := some k1c1 }
def k1c2 : Code := { maxStack := 2, maxLocals := 5, code := code, exceptionTable := #[], attributes := #[] }
def k1m2 : Method := { name := "law", desc := "(II)Z", sig := { parameters := [.int, .int], returnType := some .boolean }, accessFlags := 9, code := some k1c2 }
/-- com/example/wireproof/wireproof/codec/discv5/PacketFlagWithCodePinLaw -/
def k1 : Class := { plain "com/example/wireproof/wireproof/codec/discv5/PacketFlagWithCodePinLaw" (some 0) with
  accessFlags := 49
  interfaces := #[]
  cf := some (fileOf pool1 24 #[] #[{ accessFlags := 2, nameIndex := 5, descriptorIndex := 6, attributes := #[] }, { accessFlags := 10, nameIndex := 27, descriptorIndex := 22, attributes := #[] }, { accessFlags := 9, nameIndex := 31, descriptorIndex := 32, attributes := #[] }] 49 2 #[] #[])
  fields := #[]
  methods := #[k1m0, k1m1, k1m2]
  instanceTypes := #[]
  staticTypes := #[]
  resolved := Array.replicate 35 none
  statics := none }

def pool2 : Array CpInfo := pool [(1, .class_ 2), (0, u "java/lang/constant/Constable"), (0, .class_ 4), (0, u "java/lang/Object")] 6

/-- java/lang/constant/Constable -/
def k2 : Class := { plain "java/lang/constant/Constable" (some 0) with
  accessFlags := 1537
  interfaces := #[]
  cf := some (fileOf pool2 1 #[] #[] 1537 3 #[] #[])
  fields := #[]
  methods := #[]
  instanceTypes := #[]
  staticTypes := #[]
  resolved := Array.replicate 11 none
  statics := none }

def pool3 : Array CpInfo := pool [(1, .class_ 2), (0, u "java/lang/Comparable"), (0, .class_ 4), (0, u "java/lang/Object")] 7

/-- java/lang/Comparable -/
def k3 : Class := { plain "java/lang/Comparable" (some 0) with
  accessFlags := 1537
  interfaces := #[]
  cf := some (fileOf pool3 1 #[] #[] 1537 3 #[] #[])
  fields := #[]
  methods := #[]
  instanceTypes := #[]
  staticTypes := #[]
  resolved := Array.replicate 12 none
  statics := none }

def pool4 : Array CpInfo := pool [(1, .class_ 2), (0, u "java/io/Serializable"), (0, .class_ 4), (0, u "java/lang/Object")] 2

/-- java/io/Serializable -/
def k4 : Class := { plain "java/io/Serializable" (some 0) with
  accessFlags := 1537
  interfaces := #[]
  cf := some (fileOf pool4 1 #[] #[] 1537 3 #[] #[])
  fields := #[]
  methods := #[]
  instanceTypes := #[]
  staticTypes := #[]
  resolved := Array.replicate 7 none
  statics := none }

def pool5 : Array CpInfo := pool [(2, .class_ 4), (1, u "java/lang/Enum"), (0, u "name"), (0, u "Ljava/lang/String;"), (2, u "ordinal"), (0, u "I"), (1, .class_ 14), (1, u "java/lang/Object"), (4, u "hash"), (86, .class_ 108), (1, u "java/lang/Enum$EnumDesc"), (2, .class_ 112), (0, u "java/lang/constant/Constable"), (0, .class_ 114), (0, u "java/lang/Comparable"), (0, .class_ 116), (0, u "java/io/Serializable")] 87

/-- java/lang/Enum -/
def k5 : Class := { plain "java/lang/Enum" (some 0) with
  accessFlags := 1057
  interfaces := #[2, 3, 4]
  cf := some (fileOf pool5 2 #[.nestMembers #[106]] #[] 1057 12 #[111, 113, 115] #[{ accessFlags := 18, nameIndex := 5, descriptorIndex := 6, attributes := #[] }, { accessFlags := 18, nameIndex := 9, descriptorIndex := 10, attributes := #[] }, { accessFlags := 2, nameIndex := 19, descriptorIndex := 10, attributes := #[] }])
  fields := #[{ name := "name", type := (.object "java/lang/String"), accessFlags := 18, slot := 0, constantValue := 0 }, { name := "ordinal", type := .int, accessFlags := 18, slot := 1, constantValue := 0 }, { name := "hash", type := .int, accessFlags := 2, slot := 2, constantValue := 0 }]
  methods := #[]
  instanceTypes := #[(.object "java/lang/String"), .int, .int]
  staticTypes := #[]
  resolved := Array.replicate 204 none
  statics := none }

def pool6 : Array CpInfo := pool [(1, .class_ 2), (0, u "com/example/wireproof/wireproof/codec/discv5/PacketFlag"), (2, u "ORDINARY"), (0, u "Lcom/example/wireproof/wireproof/codec/discv5/PacketFlag;"), (2, u "WHOAREYOU"), (2, u "HANDSHAKE"), (0, .fieldref 1 14), (0, .nameAndType 15 16), (0, u "$VALUES"), (0, u "[Lcom/example/wireproof/wireproof/codec/discv5/PacketFlag;"), (0, .methodref 18 19), (0, .class_ 16), (0, .nameAndType 20 21), (0, u "clone"), (0, u "()Ljava/lang/Object;"), (1, .class_ 25), (1, u "java/lang/Enum"), (6, .fieldref 1 33), (0, .nameAndType 34 35), (0, u "code"), (0, u "I"), (2, u "carriesMessage"), (0, u "Z"), (0, .methodref 1 41), (0, .nameAndType 42 43), (0, u "values"), (0, u "()[Lcom/example/wireproof/wireproof/codec/discv5/PacketFlag;"), (15, u "withCode"), (0, u "(I)Lcom/example/wireproof/wireproof/codec/discv5/PacketFlag;")] 8

def k6c0 : Code := { maxStack := 1, maxLocals := 0, code := prog_19_method_1_code, exceptionTable := #[], attributes := #[] }
def k6m0 : Method := { name := "values", desc := "()[Lcom/example/wireproof/wireproof/codec/discv5/PacketFlag;", sig := { parameters := [], returnType := some (.array (.object "com/example/wireproof/wireproof/codec/discv5/PacketFlag")) }, accessFlags := 9, code := some k6c0 }
def k6c1 : Code := { maxStack := 2, maxLocals := 5, code := prog_19_method_4_code, exceptionTable := #[], attributes := #[] }
def k6m1 : Method := { name := "withCode", desc := "(I)Lcom/example/wireproof/wireproof/codec/discv5/PacketFlag;", sig := { parameters := [.int], returnType := some (.object "com/example/wireproof/wireproof/codec/discv5/PacketFlag") }, accessFlags := 9, code := some k6c1 }
/-- com/example/wireproof/wireproof/codec/discv5/PacketFlag -/
def k6 : Class := { plain "com/example/wireproof/wireproof/codec/discv5/PacketFlag" (some 5) with
  accessFlags := 16433
  interfaces := #[]
  cf := some (fileOf pool6 1 #[] #[{ accessFlags := 9, nameIndex := 42, descriptorIndex := 43, attributes := #[] }, { accessFlags := 9, nameIndex := 59, descriptorIndex := 60, attributes := #[] }] 16433 23 #[] #[{ accessFlags := 16409, nameIndex := 5, descriptorIndex := 6, attributes := #[] }, { accessFlags := 16409, nameIndex := 9, descriptorIndex := 6, attributes := #[] }, { accessFlags := 16409, nameIndex := 12, descriptorIndex := 6, attributes := #[] }, { accessFlags := 18, nameIndex := 34, descriptorIndex := 35, attributes := #[] }, { accessFlags := 18, nameIndex := 38, descriptorIndex := 39, attributes := #[] }, { accessFlags := 4122, nameIndex := 15, descriptorIndex := 16, attributes := #[] }])
  fields := #[{ name := "ORDINARY", type := (.object "com/example/wireproof/wireproof/codec/discv5/PacketFlag"), accessFlags := 16409, slot := 0, constantValue := 0 }, { name := "WHOAREYOU", type := (.object "com/example/wireproof/wireproof/codec/discv5/PacketFlag"), accessFlags := 16409, slot := 1, constantValue := 0 }, { name := "HANDSHAKE", type := (.object "com/example/wireproof/wireproof/codec/discv5/PacketFlag"), accessFlags := 16409, slot := 2, constantValue := 0 }, { name := "code", type := .int, accessFlags := 18, slot := 3, constantValue := 0 }, { name := "carriesMessage", type := .boolean, accessFlags := 18, slot := 4, constantValue := 0 }, { name := "$VALUES", type := (.array (.object "com/example/wireproof/wireproof/codec/discv5/PacketFlag")), accessFlags := 4122, slot := 3, constantValue := 0 }]
  methods := #[k6m0, k6m1]
  instanceTypes := #[(.object "java/lang/String"), .int, .int, .int, .boolean]
  staticTypes := #[(.object "com/example/wireproof/wireproof/codec/discv5/PacketFlag"), (.object "com/example/wireproof/wireproof/codec/discv5/PacketFlag"), (.object "com/example/wireproof/wireproof/codec/discv5/PacketFlag"), (.array (.object "com/example/wireproof/wireproof/codec/discv5/PacketFlag"))]
  resolved := Array.replicate 69 none
  statics := some 0 }

def pool7 : Array CpInfo := pool [(1, .class_ 2), (0, u "java/lang/Cloneable"), (0, .class_ 4), (0, u "java/lang/Object")] 2

/-- java/lang/Cloneable -/
def k7 : Class := { plain "java/lang/Cloneable" (some 0) with
  accessFlags := 1537
  interfaces := #[]
  cf := some (fileOf pool7 1 #[] #[] 1537 3 #[] #[])
  fields := #[]
  methods := #[]
  instanceTypes := #[]
  staticTypes := #[]
  resolved := Array.replicate 7 none
  statics := none }

/-- the primitive byte -/
def k8 : Class := { plain "byte" none with kind := .primitive 'B', accessFlags := 0x411 }
/-- [B -/
def k9 : Class := { plain "[B" (some 0) with kind := .array 8 .byte, interfaces := #[7, 4], accessFlags := 1041 }

/-- the primitive int -/
def k10 : Class := { plain "int" none with kind := .primitive 'I', accessFlags := 0x411 }
/-- [I -/
def k11 : Class := { plain "[I" (some 0) with kind := .array 10 .int, interfaces := #[7, 4], accessFlags := 1041 }

/-- [Lcom/example/wireproof/wireproof/codec/discv5/PacketFlag; -/
def k12 : Class := { plain "[Lcom/example/wireproof/wireproof/codec/discv5/PacketFlag;" (some 0) with kind := .array 6 (.object "com/example/wireproof/wireproof/codec/discv5/PacketFlag"), interfaces := #[7, 4], accessFlags := 1041 }

def heap : Heap := #[{ cls := 6, slots := #[.ref 2, .ref 3, .ref 4, .ref 1], vm := .statics 6 },
  { cls := 12, slots := #[.ref 2, .ref 3, .ref 4], vm := .none },
  { cls := 6, slots := #[.null, .int 0, .int 0, .int 0, .int 0], vm := .none },
  { cls := 6, slots := #[.null, .int 1, .int 0, .int 1, .int 0], vm := .none },
  { cls := 6, slots := #[.null, .int 2, .int 0, .int 2, .int 0], vm := .none }]
def classes : Array Class := #[k0, k1, k2, k3, k4, k5, k6, k7, k8, k9, k10, k11, k12]
def interned : List (Array UInt16 × Addr) := []
def slotsUsed : Nat := 22
def theMethod : MethodId := ⟨1, 2⟩
def args0 : Array Value := #[.int 3, .int 4]
def aboutOver (below : List Frame) : State where
  vm := { classes := classes, interned := interned.toArray }
  heap := heap
  slotsUsed := slotsUsed
  threads := #[{ frames := .invoking theMethod args0 :: below }]
def below0 : List Frame := [.native { method := ⟨0, 0⟩, args := #[] }]
def about1 : State := aboutOver below0
def p0 : Program := .bare "" "" ""
def e0 : Env := launch0.env 0 0 0
theorem w_frames : about1.frames = Frame.invoking theMethod args0 :: below0 := rfl
set_option maxRecDepth 65536 in
theorem w_args : argsFit about1.vm theMethod args0 = true := by decide +kernel
set_option maxRecDepth 65536 in
theorem w_heap : heapFits about1 = true := by decide +kernel
set_option maxRecDepth 65536 in
theorem w_runnable : about1.curStatus? = some .runnable := by decide +kernel
set_option maxRecDepth 65536 in
theorem w_alone : about1.alone = true := by decide +kernel
set_option maxRecDepth 65536 in
theorem w_named : about1.methodNamed? x = some theMethod := by decide +kernel
set_option maxRecDepth 65536 in
theorem w_hears : about1.hears theMethod below0 = true := by decide +kernel
set_option maxRecDepth 65536 in
theorem w_ripe : about1.ripe theMethod args0 below0 = true := by decide +kernel
theorem w_running : about1.status = .running := rfl
set_option maxRecDepth 65536 in
theorem w_room : about1.hasRoom e0.platform room_1 = true :=
  launch0.hasRoom_least _ room_1 (by decide +kernel) (by decide +kernel) (by decide +kernel) (by decide +kernel) (by decide +kernel) (by decide +kernel)
theorem allAtoms_all (ts : List Jvm.Cond) (a : Array Jvm.Value) (st : Jvm.State) : (allAtoms ts).before a st = ts.all (fun c => c.before a st) := by
  induction ts with
  | nil => rfl
  | cons c t ih =>
    show (Jvm.Cond.and c (allAtoms t)).before a st = _
    rw [Jvm.Cond.before_and, ih, List.all_cons]
def words1 : List Jvm.Cond := Jvm.Cond.code x code maxLocals ret :: tables_1
/-- a 'code' word, met by the world's own term for the bytes: nothing is compared byte by byte -/
theorem code_word {y : MethodName} {bytes : ByteArray} {mx : Nat} {rt : Option FieldType} {a : Array Value} {s : State} {m : MethodId} {meth : Method} {c : Code} (h1 : s.methodNamed? y = some m) (h2 : s.vm.method? m = some meth) (h3 : meth.code = some c) (h4 : c.code = bytes)
    (h5 : (c.maxLocals == mx && c.exceptionTable.isEmpty && decide (c.maxStack ≤ mostOperands) && decide (meth.sig.returnType = rt) && !meth.locks && decide (parseMethodDescriptor y.desc = some meth.sig)) = true) : (Jvm.Cond.code y bytes mx rt).before a s = true := by
  simp only [Bool.and_eq_true, beq_iff_eq, Bool.not_eq_true', decide_eq_true_eq] at h5
  obtain ⟨⟨⟨⟨⟨g1, g2⟩, g3⟩, g4⟩, g5⟩, g6⟩ := h5
  simp [Cond.before, Cond.holds, Cond.value, h1, h2, h3, h4, g1, g2, g3, g4, g5, g6]
def isCode : Jvm.Cond → Bool
  | .code _ _ _ _ => true
  | _ => false
theorem all_split {L : List Jvm.Cond} {P : Jvm.Cond → Bool} (h1 : L.all (fun c => isCode c || P c) = true) (h2 : ∀ c ∈ L.filter isCode, P c = true) : L.all P = true := by
  refine List.all_eq_true.mpr fun c hc => ?_
  have h := List.all_eq_true.mp h1 c hc
  rcases Bool.eq_false_or_eq_true (isCode c) with hi | hi
  · exact h2 c (List.mem_filter.mpr ⟨hc, hi⟩)
  · simpa [hi] using h
set_option maxRecDepth 65536 in
theorem w_c0 : (Jvm.Cond.code x code maxLocals ret).before args0 about1 = true := code_word (m := ⟨1, 2⟩) (meth := k1m2) (c := k1c2) (by decide +kernel) rfl rfl rfl (by decide +kernel)
set_option maxRecDepth 65536 in
theorem w_c1 : (Jvm.Cond.code ({ cls := "com/example/wireproof/wireproof/codec/discv5/PacketFlag", name := "withCode", desc := "(I)Lcom/example/wireproof/wireproof/codec/discv5/PacketFlag;" } : Jvm.MethodName) prog_19_method_4_code (5 : Nat) (Option.some (Jvm.ClassFile.FieldType.object "com/example/wireproof/wireproof/codec/discv5/PacketFlag"))).before args0 about1 = true := code_word (m := ⟨6, 1⟩) (meth := k6m1) (c := k6c1) (by decide +kernel) rfl rfl rfl (by decide +kernel)
set_option maxRecDepth 65536 in
theorem w_c2 : (Jvm.Cond.code ({ cls := "com/example/wireproof/wireproof/codec/discv5/PacketFlag", name := "values", desc := "()[Lcom/example/wireproof/wireproof/codec/discv5/PacketFlag;" } : Jvm.MethodName) prog_19_method_1_code (0 : Nat) (Option.some (Jvm.ClassFile.FieldType.array (Jvm.ClassFile.FieldType.object "com/example/wireproof/wireproof/codec/discv5/PacketFlag")))).before args0 about1 = true := code_word (m := ⟨6, 0⟩) (meth := k6m0) (c := k6c0) (by decide +kernel) rfl rfl rfl (by decide +kernel)
set_option maxRecDepth 65536 in
theorem w_c3 : (Jvm.Cond.code ({ cls := "com/example/wireproof/wireproof/codec/discv5/PacketFlagWithCodePinLaw", name := "expected", desc := "(I)Lcom/example/wireproof/wireproof/codec/discv5/PacketFlag;" } : Jvm.MethodName) method_2_code (1 : Nat) (Option.some (Jvm.ClassFile.FieldType.object "com/example/wireproof/wireproof/codec/discv5/PacketFlag"))).before args0 about1 = true := code_word (m := ⟨1, 1⟩) (meth := k1m1) (c := k1c1) (by decide +kernel) rfl rfl rfl (by decide +kernel)
def codes1 : List Jvm.Cond := [Jvm.Cond.code x code maxLocals ret, Jvm.Cond.code ({ cls := "com/example/wireproof/wireproof/codec/discv5/PacketFlag", name := "withCode", desc := "(I)Lcom/example/wireproof/wireproof/codec/discv5/PacketFlag;" } : Jvm.MethodName) prog_19_method_4_code (5 : Nat) (Option.some (Jvm.ClassFile.FieldType.object "com/example/wireproof/wireproof/codec/discv5/PacketFlag")), Jvm.Cond.code ({ cls := "com/example/wireproof/wireproof/codec/discv5/PacketFlag", name := "values", desc := "()[Lcom/example/wireproof/wireproof/codec/discv5/PacketFlag;" } : Jvm.MethodName) prog_19_method_1_code (0 : Nat) (Option.some (Jvm.ClassFile.FieldType.array (Jvm.ClassFile.FieldType.object "com/example/wireproof/wireproof/codec/discv5/PacketFlag"))), Jvm.Cond.code ({ cls := "com/example/wireproof/wireproof/codec/discv5/PacketFlagWithCodePinLaw", name := "expected", desc := "(I)Lcom/example/wireproof/wireproof/codec/discv5/PacketFlag;" } : Jvm.MethodName) method_2_code (1 : Nat) (Option.some (Jvm.ClassFile.FieldType.object "com/example/wireproof/wireproof/codec/discv5/PacketFlag"))]
set_option maxRecDepth 65536 in
theorem codes_eq : words1.filter isCode = codes1 := rfl
theorem w_codes : ∀ c ∈ words1.filter isCode, c.before args0 about1 = true := by
  rw [codes_eq]
  intro c hc
  simp only [codes1, List.mem_cons, List.not_mem_nil, or_false] at hc
  rcases hc with rfl | rfl | rfl | rfl
  · exact w_c0
  · exact w_c1
  · exact w_c2
  · exact w_c3
set_option maxRecDepth 65536 in
theorem w_t1 : (words1.take 24).all (fun c => isCode c || c.before args0 about1) = true := by decide +kernel
set_option maxRecDepth 65536 in
theorem w_t2 : (words1.drop 24).all (fun c => isCode c || c.before args0 about1) = true := by decide +kernel
theorem w_tables : (allAtoms (Jvm.Cond.code x code maxLocals ret :: tables_1)).before args0 about1 = true := by
  rw [allAtoms_all]
  show words1.all (fun c => c.before args0 about1) = true
  refine all_split ?_ w_codes
  rw [← List.take_append_drop 24 words1, List.all_append, w_t1, w_t2]
  rfl
set_option maxRecDepth 65536 in
theorem w_case : (Jvm.Cond.and given_1 narrow_1).before args0 about1 = true := by decide +kernel
theorem w_applies : (headSpec (Jvm.Cond.code x code maxLocals ret :: tables_1) room_1).applies x e0.platform about1 = true :=
  (Spec.applies_iff w_frames).mpr ⟨w_running, w_runnable, w_alone, w_named, w_hears, w_ripe, w_room, w_tables⟩
theorem atStart : AtStart classFile x code maxLocals ret World_1 tables_1 room_1 Calls_1 rest_1 Pre_1 launch0 p0 e0 about1 theMethod args0 below0 :=
  ⟨lists_1, trivial, launch0.admits_env _ _ _, launch0.least_env, fairChoices_fair.cas, fairChoices_fair.clock, w_frames, w_args, w_heap, w_applies, trivial, trivial, w_case⟩
end start1
theorem witness_1 : WitnessClaimed_1 := ⟨start1.p0, start1.e0, start1.about1, start1.theMethod, start1.args0, start1.below0, start1.atStart⟩
end Jvm.Pilot.@@N@@
