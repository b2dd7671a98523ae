import JvmDerived
import JvmDerived.Pilot.@@N@@Statement
import JvmDerived.Pilot.@@N@@Code
set_option linter.unusedVariables false
set_option linter.unusedSimpArgs false
namespace Jvm.JW
open Sem ClassFile Op Lib Jvm.Stand Jvm.Free Jvm.LawKit Jvm.RoadKit
/-! The walk in continuation form: D holds of a machine state if the run from it ends as the contract says. -/
def Dn (p : Program) (e : Env) (below : List Frame) (s : State) (Q : Option Value → Heap → List Loc → Prop) (k n : Nat) (S : State) : Prop :=
  ∃ s₂ o, Steps p.tables e below S s₂ ∧ s₂.status = .running ∧ Ended s₂ below o ∧ ∃ v L, o = .returned v ∧ Q v s₂.heap L ∧ FrameEnd s o s₂ L k n
def Adv (p : Program) (e : Env) (below : List Frame) (D : State → Prop) : Prop :=
  ∀ {S S' : State}, (∀ {t : State}, Steps p.tables e below S' t → Steps p.tables e below S t) → D S' → D S
theorem Adv.dn {p : Program} {e : Env} {below : List Frame} {s : State} {Q : Option Value → Heap → List Loc → Prop} {k n : Nat} : Adv p e below (Dn p e below s Q k n) := by
  intro S S' h d
  obtain ⟨s2, o, h1, h2⟩ := d
  exact ⟨s2, o, h h1, h2⟩
theorem Adv.tr {p : Program} {e : Env} {below : List Frame} {D : State → Prop} (A : Adv p e below D) {S S' : State} (h : Steps p.tables e below S S') (d : D S') : D S := A (fun k => h.trans k) d
abbrev JMet (l : Launch) (Z : State) (y : MethodName) (bytes : ByteArray) (maxL : Nat) (ret : Option FieldType) (ws : List Cond) (rm : Room) (as' : Array Value) (h0 : Heap) (Q : Option Value → Heap → List Loc → Prop) : Prop :=
  MetFree l y (head1 (Cond.code y bytes maxL ret :: ws) rm) (fun a U => a = as' ∧ Z.Warmed39 U.vm ∧ U.heap = h0) (fun _ _ _ _ _ => True) (fun _ U o U' => ∃ v L, o = .returned v ∧ Q v U'.heap L ∧ FrameEnd U o U' L rm.cells rm.slots)
/-- a body that returns r and leaves the heap as it was -/
def QP (r : Value) (h0 : Heap) (n0 : Nat) (v : Option Value) (h : Heap) (L : List Loc) : Prop := v = some r ∧ Fr n0 L ∧ h = h0
/-- the law: it returns 1; nothing that stood at the start is written -/
def QL (n0 : Nat) (v : Option Value) (h : Heap) (L : List Loc) : Prop := v = some (.int 1) ∧ Fr n0 L
section Kit
variable {p : Program} {l : Launch} {e : Env} {R : Room} {s : State} {m : MethodId} {args : Array Value} {below : List Frame} {meth : Method} {c : Code} {T : State} {locs : List Loc} {cells slots : Nat} {Z : State} {a0 : Array Value} {h : Heap} {D : State → Prop}
theorem ret (X : Stand p l e R s m args below meth c T locs cells slots) (hlk : meth.locks = false) {Q : Option Value → Heap → List Loc → Prop} {k n : Nat} {S : State} {v : Option Value} (hv : meth.sig.returnType = none → v = none)
    (hst : ∀ fs, (∀ (f : JFrame) (acts : List Action), f.method = m → f.locked = none → f.entered = [] → (doReturn e (T.setTop f) acts v).1 = T.setFrames fs) → Steps p.tables e below S (T.setFrames fs))
    {hh : Heap} (eT : T.heap = hh) (hq : Q v hh locs) (hk : cells ≤ k) (hn : slots ≤ n) : Dn p e below s Q k n S := by
  subst eT
  obtain ⟨fs, hr, hrun, hended, hW, hsame⟩ := X.leave (v := v) hv hlk
  exact ⟨_, _, hst fs hr, hrun, hended, _, _, rfl, hq, ⟨_, rfl⟩, hW, hsame.mono hk hn⟩
theorem body {y : MethodName} {bytes : ByteArray} {maxL : Nat} {rt : Option FieldType} {ws : List Cond} {rm : Room} {as' : Array Value} {h0 : Heap} {Q : Option Value → Heap → List Loc → Prop} (Ls : Array Slot) (hpl : plainFor y = true) (hef : ∀ m, entryFrame m as' maxL = mkF m 0 Ls [])
    (bd : ∀ (p : Program) (e : Env) (s : State) (m : MethodId) (below : List Frame) (meth : Method) (c : Code) (T0 : State) (D : State → Prop), Adv p e below D → (∀ S, Dn p e below s Q rm.cells rm.slots S → D S) → Stand p l e rm s m as' below meth c T0 [] 0 0 → p.tables.exec = Jvm.exec → Z.Warmed39 s.vm → c.code = bytes → c.maxLocals = maxL → s.vm.findClass y.cls = some m.cls → meth.name = y.name → meth.sig.returnType = rt → meth.locks = false → T0.heap = h0 → D (T0.setTop (mkF m 0 Ls []))) :
    JMet l Z y bytes maxL rt ws rm as' h0 Q := by
  refine MetFree.of_bodySF hpl hisR ?_
  intro p e s m args below meth c s₁ Bd hml hP hK
  obtain ⟨rfl, hZ, hh⟩ := hP
  have q := bd p e s m below meth c s₁ (Dn p e below s Q rm.cells rm.slots) Adv.dn (fun _ d => d) (Stand.of_body Bd) Bd.exec hZ Bd.bytes hml (findClass_of_methodNamed Bd.named) (name_of_methodNamed Bd.named Bd.method).1 Bd.returns Bd.notSynchronized (by rw [← hh, Bd.state]; rfl)
  rw [← hef m] at q
  exact q
theorem Adv.callS (A : Adv p e below D) (X : Stand p l e R s m args below meth c T locs cells slots) (hx : p.tables.exec = Jvm.exec) (hZ : Z.Warmed39 s.vm) {own : String} {index : Nat} {y : MethodName} {bytes : ByteArray} {maxL : Nat} {rt : Option FieldType} {rm : Room} {as' : Array Value} {Q : Option Value → Heap → List Loc → Prop}
    (hown : s.vm.findClass own = some m.cls) (w1 : (Cond.methodLink own index y).before a0 Z = true) (w2 : (Cond.static y).before a0 Z = true) (w3 : (Cond.initialized y.cls).before a0 Z = true) (w4 : (Cond.code y bytes maxL rt).before a0 Z = true) (eT : T.heap = h)
    (hM : JMet l Z y bytes maxL rt [] rm as' h Q) (W : Nat) {g : JFrame} (hg : g.method = m) (hsz : g.locals.size = c.maxLocals) (argsL rest : List Value) (has : as' = argsL.toArray)
    (hlen : ∀ sig, parseMethodDescriptor y.desc = some sig → argsL.length = sig.parameters.length) (hstack : g.stack = argsL.reverse ++ rest) (hW : 2 * g.monitorRoom + (rest.map fun v => v.category).sum ≤ W)
    (hd : decode c.code g.pc = .ok (.invokestatic index, 3)) (hy : y.cls ≠ "java/lang/invoke/MethodHandle" ∧ y.cls ≠ "java/lang/invoke/VarHandle") (hf : rm.frames + 1 ≤ R.frames) (hl : W + (maxL + 11) + rm.locals ≤ R.locals) (hc : cells + rm.cells ≤ R.cells) (hs : slots + rm.slots ≤ R.slots)
    (k : ∀ (T' : State) (L' : List Loc) (v : Option Value), Stand p l e R s m args below meth c T' (locs ++ L') (cells + rm.cells) (slots + rm.slots) → Q v T'.heap L' → D (T'.setTop { g with pc := g.pc + 3, stack := v.toList ++ rest })) : D (T.setTop g) := by
  subst has
  obtain ⟨v, _, ⟨T', L, k', n'⟩, -, X', ⟨Lc, hQ, l', y', z'⟩, st⟩ := Jvm.LawKit.callS X hx (y := y) hown (mvT hZ w1) (mvT hZ w2) (mvT hZ w3) (mvT hZ w4) hy (backOf (W := W) hM hZ w4 w3 hf hl) (g := g) hg hsz (argsL := argsL) (rest := rest) hlen hstack hW hd (fun _ _ => ⟨rfl, eT, hc, hs⟩)
  dsimp only [Pt.U, Pt.locs, Pt.cells, Pt.slots] at X' l' y' z' st hQ
  subst l' y' z'
  exact A (fun q => st _ q) (k T' Lc v X' hQ)
theorem Adv.callI (A : Adv p e below D) (X : Stand p l e R s m args below meth c T locs cells slots) (hx : p.tables.exec = Jvm.exec) (hZ : Z.Warmed39 s.vm) {own : String} {index : Nat} {y : MethodName} {bytes : ByteArray} {maxL : Nat} {rm : Room} {as' : Array Value} {Q : Option Value → Heap → List Loc → Prop}
    (hown : s.vm.findClass own = some m.cls) (hi : y.name = "<init>") (w1 : (Cond.methodLink own index y).before a0 Z = true) (w2 : (Cond.instanceMethod y).before a0 Z = true) (w3 : (Cond.initialized y.cls).before a0 Z = true) (w4 : (Cond.code y bytes maxL none).before a0 Z = true) (eT : T.heap = h)
    (hM : JMet l Z y bytes maxL none [] rm as' h Q) (W : Nat) {g : JFrame} (hg : g.method = m) (hsz : g.locals.size = c.maxLocals) (a : Addr) (argsL rest : List Value) (has : as' = (.ref a :: argsL).toArray)
    (hlen : ∀ sig, parseMethodDescriptor y.desc = some sig → argsL.length = sig.parameters.length) (hstack : g.stack = argsL.reverse ++ .ref a :: rest) (hW : 2 * g.monitorRoom + (rest.map fun v => v.category).sum ≤ W)
    (hd : decode c.code g.pc = .ok (.invokespecial index, 3)) (hy : y.cls ≠ "java/lang/invoke/MethodHandle" ∧ y.cls ≠ "java/lang/invoke/VarHandle") (hf : rm.frames + 1 ≤ R.frames) (hl : W + (maxL + 11) + rm.locals ≤ R.locals) (hc : cells + rm.cells ≤ R.cells) (hs : slots + rm.slots ≤ R.slots)
    (k : ∀ (T' : State) (L' : List Loc) (v : Option Value), Stand p l e R s m args below meth c T' (locs ++ L') (cells + rm.cells) (slots + rm.slots) → Q v T'.heap L' → D (T'.setTop { g with pc := g.pc + 3, stack := v.toList ++ rest })) : D (T.setTop g) := by
  subst has
  obtain ⟨v, _, ⟨T', L, k', n'⟩, -, X', ⟨Lc, hQ, l', y', z'⟩, st⟩ := X.specialBack hx (y := y) hi hown (mvT hZ w1) (mvT hZ w2) (mvT hZ w4) hy (backOf (W := W) hM hZ w4 w3 hf hl) (g := g) hg hsz (Steps.refl _) (a := a) (argsL := argsL) (rest := rest) hlen hstack hW hd (fun _ _ => ⟨rfl, eT, hc, hs⟩)
  dsimp only [Pt.U, Pt.locs, Pt.cells, Pt.slots] at X' l' y' z' st hQ
  subst l' y' z'
  exact A.tr st (k T' Lc v X' hQ)
theorem Adv.callV (A : Adv p e below D) (X : Stand p l e R s m args below meth c T locs cells slots) (hx : p.tables.exec = Jvm.exec) (hZ : Z.Warmed39 s.vm) {own C : String} {index : Nat} {y z : MethodName} {bytes : ByteArray} {maxL : Nat} {rt : Option FieldType} {rm : Room} {as' : Array Value} {Q : Option Value → Heap → List Loc → Prop} {a : Addr}
    (hown : s.vm.findClass own = some m.cls) (w1 : (Cond.methodLink own index y).before a0 Z = true) (w2 : (Cond.declares y).before a0 Z = true) (nf : NotFace s y) (w5 : (Cond.selects C y z).before a0 Z = true) (w6 : (Cond.instanceMethod z).before a0 Z = true) (w3 : (Cond.initialized z.cls).before a0 Z = true) (w4 : (Cond.code z bytes maxL rt).before a0 Z = true) (eT : T.heap = h) (E : Exa Z h a C)
    (hM : JMet l Z z bytes maxL rt [] rm as' h Q) (W : Nat) {g : JFrame} (hg : g.method = m) (hsz : g.locals.size = c.maxLocals) (argsL rest : List Value) (has : as' = (.ref a :: argsL).toArray)
    (hlen : ∀ sig, parseMethodDescriptor y.desc = some sig → argsL.length = sig.parameters.length) (hstack : g.stack = argsL.reverse ++ .ref a :: rest) (hW : 2 * g.monitorRoom + (rest.map fun v => v.category).sum ≤ W)
    (hd : decode c.code g.pc = .ok (.invokevirtual index, 3)) (hy : y.cls ≠ "java/lang/invoke/MethodHandle" ∧ y.cls ≠ "java/lang/invoke/VarHandle") (hf : rm.frames + 1 ≤ R.frames) (hl : W + (maxL + 11) + rm.locals ≤ R.locals) (hc : cells + rm.cells ≤ R.cells) (hs : slots + rm.slots ≤ R.slots)
    (k : ∀ (T' : State) (L' : List Loc) (v : Option Value), Stand p l e R s m args below meth c T' (locs ++ L') (cells + rm.cells) (slots + rm.slots) → Q v T'.heap L' → D (T'.setTop { g with pc := g.pc + 3, stack := v.toList ++ rest })) : D (T.setTop g) := by
  subst has
  obtain ⟨cq, kq, qa, qb, qc⟩ := isOf hZ eT E
  obtain ⟨v, _, ⟨T', L, k', n'⟩, -, X', ⟨Lc, hQ, l', y', z'⟩, st⟩ := X.virtualBack hx (y := y) (z := z) hown (mvT hZ w1) (mvT hZ w2) nf (mvT hZ w5) (mvT hZ w6) hy (backOf (W := W) hM hZ w4 w3 hf hl) qa qc (g := g) hg hsz (Steps.refl _) (argsL := argsL) (rest := rest) hlen hstack hW hd (fun _ _ => ⟨rfl, eT, hc, hs⟩)
  dsimp only [Pt.U, Pt.locs, Pt.cells, Pt.slots] at X' l' y' z' st hQ
  subst l' y' z'
  exact A.tr st (k T' Lc v X' hQ)
theorem Adv.callU (A : Adv p e below D) (X : Stand p l e R s m args below meth c T locs cells slots) (hx : p.tables.exec = Jvm.exec) (hZ : Z.Warmed39 s.vm) {own C owner : String} {index : Nat} {y z : MethodName} {bytes : ByteArray} {maxL : Nat} {rt : Option FieldType} {rm : Room} {as' : Array Value} {Q : Option Value → Heap → List Loc → Prop} {a : Addr}
    (hown : s.vm.findClass own = some m.cls) (w1 : (Cond.methodLink own index y).before a0 Z = true) (w7 : (Cond.sameMethod y.cls owner y.name y.desc).before a0 Z = true) (w2 : (Cond.declares ⟨owner, y.name, y.desc⟩).before a0 Z = true) (w5 : (Cond.selects C y z).before a0 Z = true) (w6 : (Cond.instanceMethod z).before a0 Z = true) (w3 : (Cond.initialized z.cls).before a0 Z = true) (w4 : (Cond.code z bytes maxL rt).before a0 Z = true) (eT : T.heap = h) (E : Exa Z h a C)
    (hM : JMet l Z z bytes maxL rt [] rm as' h Q) (W : Nat) {g : JFrame} (hg : g.method = m) (hsz : g.locals.size = c.maxLocals) (argsL rest : List Value) (has : as' = (.ref a :: argsL).toArray)
    (hlen : ∀ sig, parseMethodDescriptor y.desc = some sig → argsL.length = sig.parameters.length) (hstack : g.stack = argsL.reverse ++ .ref a :: rest) (hW : 2 * g.monitorRoom + (rest.map fun v => v.category).sum ≤ W)
    (hd : decode c.code g.pc = .ok (.invokevirtual index, 3)) (hy : owner ≠ "java/lang/invoke/MethodHandle" ∧ owner ≠ "java/lang/invoke/VarHandle") (hf : rm.frames + 1 ≤ R.frames) (hl : W + (maxL + 11) + rm.locals ≤ R.locals) (hc : cells + rm.cells ≤ R.cells) (hs : slots + rm.slots ≤ R.slots)
    (k : ∀ (T' : State) (L' : List Loc) (v : Option Value), Stand p l e R s m args below meth c T' (locs ++ L') (cells + rm.cells) (slots + rm.slots) → Q v T'.heap L' → D (T'.setTop { g with pc := g.pc + 3, stack := v.toList ++ rest })) : D (T.setTop g) := by
  subst has
  obtain ⟨cq, kq, qa, qb, qc⟩ := isOf hZ eT E
  obtain ⟨v, _, ⟨T', L, k', n'⟩, -, X', ⟨Lc, hQ, l', y', z'⟩, st⟩ := X.virtualBackUp hx (x := y) (y := z) (owner := owner) hown (mvT hZ w1) (mvT hZ w7) (mvT hZ w2) hy (mvT hZ w5) (mvT hZ w6) (backOf (W := W) hM hZ w4 w3 hf hl) qa qc (g := g) hg hsz (Steps.refl _) (argsL := argsL) (rest := rest) hlen hstack hW hd (fun _ _ => ⟨rfl, eT, hc, hs⟩)
  dsimp only [Pt.U, Pt.locs, Pt.cells, Pt.slots] at X' l' y' z' st hQ
  subst l' y' z'
  exact A.tr st (k T' Lc v X' hQ)
theorem Adv.callP (A : Adv p e below D) (X : Stand p l e R s m args below meth c T locs cells slots) (hx : p.tables.exec = Jvm.exec) (hZ : Z.Warmed39 s.vm) {own C : String} {index kn : Nat} {y : MethodName} {bytes : ByteArray} {maxL : Nat} {rt : Option FieldType} {rm : Room} {as' : Array Value} {Q : Option Value → Heap → List Loc → Prop} {a : Addr}
    (hown : s.vm.findClass own = some m.cls) (w1 : (Cond.methodLink own index y).before a0 Z = true) (w2 : (Cond.instanceMethod y).before a0 Z = true) (wi : (Cond.instantiable y.cls kn).before a0 Z = true) (w5 : (Cond.privateMethod y).before a0 Z = true) (w3 : (Cond.initialized y.cls).before a0 Z = true) (w4 : (Cond.code y bytes maxL rt).before a0 Z = true) (eT : T.heap = h) (E : Exa Z h a C)
    (hM : JMet l Z y bytes maxL rt [] rm as' h Q) (W : Nat) {g : JFrame} (hg : g.method = m) (hsz : g.locals.size = c.maxLocals) (argsL rest : List Value) (has : as' = (.ref a :: argsL).toArray)
    (hlen : ∀ sig, parseMethodDescriptor y.desc = some sig → argsL.length = sig.parameters.length) (hstack : g.stack = argsL.reverse ++ .ref a :: rest) (hW : 2 * g.monitorRoom + (rest.map fun v => v.category).sum ≤ W)
    (hd : decode c.code g.pc = .ok (.invokevirtual index, 3)) (hy : y.cls ≠ "java/lang/invoke/MethodHandle" ∧ y.cls ≠ "java/lang/invoke/VarHandle") (hf : rm.frames + 1 ≤ R.frames) (hl : W + (maxL + 11) + rm.locals ≤ R.locals) (hc : cells + rm.cells ≤ R.cells) (hs : slots + rm.slots ≤ R.slots)
    (k : ∀ (T' : State) (L' : List Loc) (v : Option Value), Stand p l e R s m args below meth c T' (locs ++ L') (cells + rm.cells) (slots + rm.slots) → Q v T'.heap L' → D (T'.setTop { g with pc := g.pc + 3, stack := v.toList ++ rest })) : D (T.setTop g) := by
  subst has
  obtain ⟨ce, hce, hob⟩ := E.cell
  have hpriv : s.PrivateAt y := Cond.privateMethod_at (mvP hZ w5 (args := #[]))
  have hins : (Cond.instanceMethod y).before args s = true := mvT hZ w2
  have hwi : (Cond.instantiable y.cls kn).before args s = true := mvT hZ wi
  obtain ⟨ck, kk, c1, c2, -, c4, -⟩ := Cond.instantiable_spec hwi
  have hsel := selects_self_of_private c1 c2 (Bool.or_eq_false_iff.mp c4).1 hpriv hins hy
  obtain ⟨v, _, ⟨T', L, k', n'⟩, -, X', ⟨Lc, hQ, l', y', z'⟩, st⟩ := X.privateBack hx (y := y) hown (mvT hZ w1) hins hsel hpriv (mvT hZ w4) hy (backOf (W := W) hM hZ w4 w3 hf hl) (g := g) hg hsz (Steps.refl _) (a := a) (cell := ce) (by rw [eT]; exact hce) hob (argsL := argsL) (rest := rest) hlen hstack hW hd (fun _ _ => ⟨rfl, eT, hc, hs⟩)
  dsimp only [Pt.U, Pt.locs, Pt.cells, Pt.slots] at X' l' y' z' st hQ
  subst l' y' z'
  exact A.tr st (k T' Lc v X' hQ)
end Kit
/-! ### arrays by a function of the place -/
section Arrays
variable {p : Program} {l : Launch} {e : Env} {R : Room} {s : State} {m : MethodId} {args : Array Value} {below : List Frame} {meth : Method} {c : Code} {T : State} {locs : List Loc} {cells slots : Nat} {Z : State} {a0 : Array Value} {h h' : Heap} {D : State → Prop} {a b : Addr} {ty : FieldType} {n : Nat} {f : Nat → Int32} {fJ : Nat → Int64} {sl : Nat} {v : Value} {ws : List Addr}
def ArI (Z : State) (h : Heap) (a : Addr) (ty : FieldType) (n : Nat) (f : Nat → Int32) : Prop :=
  n < 2147483648 ∧ ∃ c : Cell, Arr Z h a c ty ∧ c.slots.size = n ∧ ∀ i, i < n → c.slots[i]? = some (.int (f i))
def ArJ (Z : State) (h : Heap) (a : Addr) (n : Nat) (f : Nat → Int64) : Prop :=
  n < 2147483648 ∧ ∃ c : Cell, Arr Z h a c .long ∧ c.slots.size = n ∧ ∀ i, i < n → c.slots[i]? = some (.long (f i))
theorem ArI.lt (F : ArI Z h a ty n f) : a < h.size := by obtain ⟨-, c, A, -⟩ := F; exact A.lt
theorem ArI.ext (F : ArI Z h a ty n f) (E : Ext h h') : ArI Z h' a ty n f := by obtain ⟨q, c, A, r⟩ := F; exact ⟨q, c, A.ext E, r⟩
theorem ArI.other (F : ArI Z h b ty n f) (W : Wr h h' a sl v) (q : b ≠ a) : ArI Z h' b ty n f := by obtain ⟨z, c, A, r⟩ := F; exact ⟨z, c, A.other W q, r⟩
theorem ArI.keep (F : ArI Z h a ty n f) (K : Keep h h' ws) (q : a ∉ ws) : ArI Z h' a ty n f := by obtain ⟨z, c, A, r⟩ := F; exact ⟨z, c, ⟨K.2.1 a c A.1 q, A.2⟩, r⟩
theorem ArI.eqf {g : Nat → Int32} (F : ArI Z h a ty n f) (q : ∀ i, i < n → f i = g i) : ArI Z h a ty n g := by
  obtain ⟨z, c, A, r, H⟩ := F; exact ⟨z, c, A, r, fun i hi => by rw [← q i hi]; exact H i hi⟩
theorem ArJ.lt (F : ArJ Z h a n fJ) : a < h.size := by obtain ⟨-, c, A, -⟩ := F; exact A.lt
theorem ArJ.ext (F : ArJ Z h a n fJ) (E : Ext h h') : ArJ Z h' a n fJ := by obtain ⟨q, c, A, r⟩ := F; exact ⟨q, c, A.ext E, r⟩
theorem ArJ.other (F : ArJ Z h b n fJ) (W : Wr h h' a sl v) (q : b ≠ a) : ArJ Z h' b n fJ := by obtain ⟨z, c, A, r⟩ := F; exact ⟨z, c, A.other W q, r⟩
theorem ArJ.keep (F : ArJ Z h a n fJ) (K : Keep h h' ws) (q : a ∉ ws) : ArJ Z h' a n fJ := by obtain ⟨z, c, A, r⟩ := F; exact ⟨z, c, ⟨K.2.1 a c A.1 q, A.2⟩, r⟩
theorem ArJ.eqf {g : Nat → Int64} (F : ArJ Z h a n fJ) (q : ∀ i, i < n → fJ i = g i) : ArJ Z h a n g := by
  obtain ⟨z, c, A, r, H⟩ := F; exact ⟨z, c, A, r, fun i hi => by rw [← q i hi]; exact H i hi⟩
theorem ne_ari {C : String} {k : Nat} (F : Exa Z h a C) (wi : (Cond.instantiable C k).before a0 Z = true) (G : ArI Z h b ty n f) : a ≠ b := by obtain ⟨-, c, A, -⟩ := G; exact ne_arr F wi A
theorem ne_arj {C : String} {k : Nat} (F : Exa Z h a C) (wi : (Cond.instantiable C k).before a0 Z = true) (G : ArJ Z h b n fJ) : a ≠ b := by obtain ⟨-, c, A, -⟩ := G; exact ne_arr F wi A
theorem ne_arr2 {c1 c2 : Cell} {t1 t2 : FieldType} (F : Arr Z h a c1 t1) (G : Arr Z h b c2 t2) (hn : t1 ≠ t2) : a ≠ b := fun q => by
  subst q
  cases F.1.symm.trans G.1
  obtain ⟨-, k1, j1, comp1, j2⟩ := F.2.1
  obtain ⟨-, k2, i1, comp2, i2⟩ := G.2.1
  cases j1.symm.trans i1
  rw [j2] at i2
  injection i2 with _ q2
  exact hn q2
theorem ne_aij {n' : Nat} (F : ArI Z h a ty n f) (G : ArJ Z h b n' fJ) (hn : ty ≠ .long) : a ≠ b := by obtain ⟨-, c, A, -⟩ := F; obtain ⟨-, c', A', -⟩ := G; exact ne_arr2 A A' hn
theorem to_nat {j : Int32} {k : Nat} (hk : j.toInt = k) : j.toNatClampNeg = k := by simp only [Int32.toNatClampNeg, hk, Int.toNat_natCast]
theorem inb {cl : Cell} {j : Int32} {k : Nat} (hk : j.toInt = k) (hkn : k < n) (hs : cl.slots.size = n) : ¬ (j < 0 ∨ cl.slots.size ≤ j.toNatClampNeg) := by
  rw [to_nat hk, hs, Int32.lt_iff_toInt_lt, hk, show (0 : Int32).toInt = 0 from rfl]; omega
theorem ixadd {x d : Int32} {k j : Nat} (hx : x.toInt = k) (hd : d.toInt = j) (h : k + j < 2147483648) : (x + d).toInt = ((k + j : Nat) : Int) := by
  have h2 := c_iadd x d
  have h3 := rng32 (x + d)
  omega
theorem ArI.mk {k : ClassId} {z : Int32} (A : Arr Z h a (newA k ty z) ty) (hn : z.toInt = n) (hd : defaultValue ty = .int 0) : ArI Z h a ty n (fun _ => 0) := by
  have hz := to_nat hn
  refine ⟨?_, _, A, by rw [sz_new, hz], fun i hi => ?_⟩
  · have := Int32.toInt_lt z; omega
  · simp [newA, hz, hi, hd]
theorem ArJ.mk {k : ClassId} {z : Int32} (A : Arr Z h a (newA k .long z) .long) (hn : z.toInt = n) : ArJ Z h a n (fun _ => 0) := by
  have hz := to_nat hn
  refine ⟨?_, _, A, by rw [sz_new, hz], fun i hi => ?_⟩
  · have := Int32.toInt_lt z; omega
  · simp [newA, hz, hi, defaultValue]
theorem set_at {cl : Cell} {i k : Nat} (hk : k < cl.slots.size) : (cl.setSlot k v).slots[i]? = if i = k then some v else cl.slots[i]? := by
  simp only [Cell.setSlot, Array.getElem?_setIfInBounds]
  by_cases q : i = k
  · subst q; simp [hk]
  · simp [q, Ne.symm q]
theorem ArI.set {x : Int32} {k : Nat} (F : ArI Z h a ty n f) (W : Wr h h' a k (.int x)) (hk : k < n) : ArI Z h' a ty n (fun i => if i = k then x else f i) := by
  obtain ⟨z, c, A, r, H⟩ := F
  refine ⟨z, _, A.same W, by rw [sz_set, r], fun i hi => ?_⟩
  rw [set_at (by omega)]
  by_cases q : i = k
  · simp [q]
  · simp [q, H i hi]
theorem ArJ.set {x : Int64} {k : Nat} (F : ArJ Z h a n fJ) (W : Wr h h' a k (.long x)) (hk : k < n) : ArJ Z h' a n (fun i => if i = k then x else fJ i) := by
  obtain ⟨z, c, A, r, H⟩ := F
  refine ⟨z, _, A.same W, by rw [sz_set, r], fun i hi => ?_⟩
  rw [set_at (by omega)]
  by_cases q : i = k
  · simp [q]
  · simp [q, H i hi]
theorem Adv.ldI (A : Adv p e below D) (X : Stand p l e R s m args below meth c T locs cells slots) (hx : p.tables.exec = Jvm.exec) (hZ : Z.Warmed39 s.vm) (eT : T.heap = h) (F : ArI Z h a .int n f) {j : Int32} {k : Nat} (hk : j.toInt = k) (hkn : k < n) {g : JFrame} (hg : g.method = m) {rest : List Value} (hs : g.stack = .int j :: .ref a :: rest) (hd : decode c.code g.pc = .ok (.iaload, 1))
    (kk : D (T.setTop { g with pc := g.pc + 1, stack := .int (f k) :: rest })) : D (T.setTop g) := by
  obtain ⟨-, cl, Ar, r, H⟩ := F
  exact A (X.iaload hx (j := j) (v := .int (f k)) (by rw [eT]; exact Ar.1) (State.isArrayOf_alike hZ.alike Ar.2.1) Ar.2.2 (inb hk hkn r) (by rw [to_nat hk]; exact H k hkn) (g := g) hg hs hd _) kk
theorem Adv.ldB (A : Adv p e below D) (X : Stand p l e R s m args below meth c T locs cells slots) (hx : p.tables.exec = Jvm.exec) (hZ : Z.Warmed39 s.vm) (eT : T.heap = h) (F : ArI Z h a .byte n f) {j : Int32} {k : Nat} (hk : j.toInt = k) (hkn : k < n) {g : JFrame} (hg : g.method = m) {rest : List Value} (hs : g.stack = .int j :: .ref a :: rest) (hd : decode c.code g.pc = .ok (.baload, 1))
    (kk : D (T.setTop { g with pc := g.pc + 1, stack := .int (f k) :: rest })) : D (T.setTop g) := by
  obtain ⟨-, cl, Ar, r, H⟩ := F
  exact A (X.baloadBytes hx (j := j) (v := .int (f k)) (by rw [eT]; exact Ar.1) (State.isArrayOf_alike hZ.alike Ar.2.1) Ar.2.2 (inb hk hkn r) (by rw [to_nat hk]; exact H k hkn) (g := g) hg hs hd _) kk
theorem Adv.ldJ (A : Adv p e below D) (X : Stand p l e R s m args below meth c T locs cells slots) (hx : p.tables.exec = Jvm.exec) (hZ : Z.Warmed39 s.vm) (eT : T.heap = h) (F : ArJ Z h a n fJ) {j : Int32} {k : Nat} (hk : j.toInt = k) (hkn : k < n) {g : JFrame} (hg : g.method = m) {rest : List Value} (hs : g.stack = .int j :: .ref a :: rest) (hd : decode c.code g.pc = .ok (.laload, 1))
    (kk : D (T.setTop { g with pc := g.pc + 1, stack := .long (fJ k) :: rest })) : D (T.setTop g) := by
  obtain ⟨-, cl, Ar, r, H⟩ := F
  exact A (X.laload hx (j := j) (v := .long (fJ k)) (by rw [eT]; exact Ar.1) (State.isArrayOf_alike hZ.alike Ar.2.1) Ar.2.2 (inb hk hkn r) (by rw [to_nat hk]; exact H k hkn) (g := g) hg hs hd _) kk
theorem len32 {cl : Cell} (z : n < 2147483648) (r : cl.slots.size = n) : cl.slots.size.toInt32 = Int32.ofNat n   := by rw [r]
theorem Adv.lenI (A : Adv p e below D) (X : Stand p l e R s m args below meth c T locs cells slots) (hx : p.tables.exec = Jvm.exec) (hZ : Z.Warmed39 s.vm) (eT : T.heap = h) (F : ArI Z h a ty n f) {g : JFrame} (hg : g.method = m) {rest : List Value} (hs : g.stack = .ref a :: rest) (hd : decode c.code g.pc = .ok (.arraylength, 1))
    (kk : D (T.setTop { g with pc := g.pc + 1, stack := .int (Int32.ofNat n) :: rest })) : D (T.setTop g) := by
  obtain ⟨z, cl, Ar, r, H⟩ := F
  rw [← len32 z r] at kk
  exact A (X.arraylength hx (by rw [eT]; exact Ar.1) (State.isArrayOf_alike hZ.alike Ar.2.1) (g := g) hg hs hd _) kk
theorem Adv.lenJ (A : Adv p e below D) (X : Stand p l e R s m args below meth c T locs cells slots) (hx : p.tables.exec = Jvm.exec) (hZ : Z.Warmed39 s.vm) (eT : T.heap = h) (F : ArJ Z h a n fJ) {g : JFrame} (hg : g.method = m) {rest : List Value} (hs : g.stack = .ref a :: rest) (hd : decode c.code g.pc = .ok (.arraylength, 1))
    (kk : D (T.setTop { g with pc := g.pc + 1, stack := .int (Int32.ofNat n) :: rest })) : D (T.setTop g) := by
  obtain ⟨z, cl, Ar, r, H⟩ := F
  rw [← len32 z r] at kk
  exact A (X.arraylength hx (by rw [eT]; exact Ar.1) (State.isArrayOf_alike hZ.alike Ar.2.1) (g := g) hg hs hd _) kk
theorem Adv.stI (A : Adv p e below D) (X : Stand p l e R s m args below meth c T locs cells slots) (hx : p.tables.exec = Jvm.exec) (hZ : Z.Warmed39 s.vm) (eT : T.heap = h) (F : ArI Z h a .int n f) {j x : Int32} {k : Nat} (hk : j.toInt = k) (hkn : k < n) {g : JFrame} (hg : g.method = m) {rest : List Value} (hs : g.stack = .int x :: .int j :: .ref a :: rest) (hd : decode c.code g.pc = .ok (.iastore, 1))
    (kk : ∀ T' h', Stand p l e R s m args below meth c T' (locs ++ [⟨a, k⟩]) cells slots → T'.heap = h' → Wr h h' a k (.int x) → ArI Z h' a .int n (fun i => if i = k then x else f i) → D (T'.setTop { g with pc := g.pc + 1, stack := rest })) : D (T.setTop g) := by
  obtain ⟨cl, Ar, r, H⟩ := F.2
  obtain ⟨T', h', X', e', W, st⟩ := Jvm.RoadKit.stI X hx hZ eT Ar (j := j) (x := x) (inb hk hkn r) hg hs hd
  rw [to_nat hk] at X' W
  exact A (fun q => st _ q) (kk T' h' X' e' W (F.set W hkn))
theorem Adv.stB (A : Adv p e below D) (X : Stand p l e R s m args below meth c T locs cells slots) (hx : p.tables.exec = Jvm.exec) (hZ : Z.Warmed39 s.vm) (eT : T.heap = h) (F : ArI Z h a .byte n f) {j x : Int32} {k : Nat} (hk : j.toInt = k) (hkn : k < n) {g : JFrame} (hg : g.method = m) {rest : List Value} (hs : g.stack = .int x :: .int j :: .ref a :: rest) (hd : decode c.code g.pc = .ok (.bastore, 1))
    (kk : ∀ T' h', Stand p l e R s m args below meth c T' (locs ++ [⟨a, k⟩]) cells slots → T'.heap = h' → Wr h h' a k (.int x.toInt8.toInt32) → ArI Z h' a .byte n (fun i => if i = k then x.toInt8.toInt32 else f i) → D (T'.setTop { g with pc := g.pc + 1, stack := rest })) : D (T.setTop g) := by
  obtain ⟨cl, Ar, r, H⟩ := F.2
  obtain ⟨T', h', X', e', W, st⟩ := Jvm.RoadKit.stB X hx hZ eT Ar (j := j) (x := x) (inb hk hkn r) hg hs hd
  rw [to_nat hk] at X' W
  exact A (fun q => st _ q) (kk T' h' X' e' W (F.set W hkn))
theorem Adv.stJ (A : Adv p e below D) (X : Stand p l e R s m args below meth c T locs cells slots) (hx : p.tables.exec = Jvm.exec) (hZ : Z.Warmed39 s.vm) (eT : T.heap = h) (F : ArJ Z h a n fJ) {j : Int32} {x : Int64} {k : Nat} (hk : j.toInt = k) (hkn : k < n) {g : JFrame} (hg : g.method = m) {rest : List Value} (hs : g.stack = .long x :: .int j :: .ref a :: rest) (hd : decode c.code g.pc = .ok (.lastore, 1))
    (kk : ∀ T' h', Stand p l e R s m args below meth c T' (locs ++ [⟨a, k⟩]) cells slots → T'.heap = h' → Wr h h' a k (.long x) → ArJ Z h' a n (fun i => if i = k then x else fJ i) → D (T'.setTop { g with pc := g.pc + 1, stack := rest })) : D (T.setTop g) := by
  obtain ⟨cl, Ar, r, H⟩ := F.2
  obtain ⟨T', h', X', e', W, st⟩ := Jvm.RoadKit.stJ X hx hZ eT Ar (j := j) (x := x) (inb hk hkn r) hg hs hd
  rw [to_nat hk] at X' W
  exact A (fun q => st _ q) (kk T' h' X' e' W (F.set W hkn))
theorem Adv.newI (A : Adv p e below D) (X : Stand p l e R s m args below meth c T locs cells slots) (hx : p.tables.exec = Jvm.exec) (hZ : Z.Warmed39 s.vm) {aty : ArrayType} (w : (Cond.arrayClass (newarray.typeOf aty)).before a0 Z = true) (eT : T.heap = h) {z : Int32} (hz : z.toInt = n) (cap : Nat) (hcap : n ≤ cap) (hb : cap * 8 ≤ 536870912) (hdv : defaultValue (newarray.typeOf aty) = .int 0) {ad : String} (had : "[" ++ (newarray.typeOf aty).toString = ad) (hc : cells + 1 ≤ R.cells) (hl : slots + cap ≤ R.slots) {g : JFrame} (hg : g.method = m) {rest : List Value} (hs : g.stack = .int z :: rest) (hd : decode c.code g.pc = .ok (.newarray aty, 2))
    (kk : ∀ T' h' a, a = h.size → Stand p l e R s m args below meth c T' locs (cells + 1) (slots + cap) → T'.heap = h' → Ext h h' → ArI Z h' a (newarray.typeOf aty) n (fun _ => 0) → Exa Z h' a ad → D (T'.setTop { g with pc := g.pc + 2, stack := .ref a :: rest })) : D (T.setTop g) := by
  have q0 : ¬ z < 0 := by rw [Int32.lt_iff_toInt_lt, hz, show (0 : Int32).toInt = 0 from rfl]; omega
  obtain ⟨T', h', k, X', e', E, Ar, Ex, st⟩ := newPE X hx hZ w eT hg hd hs q0 (cap := cap) (by rw [to_nat hz]; exact hcap) hb hc hl had
  exact A (fun q => st _ q) (kk T' h' _ rfl X' e' E (ArI.mk Ar hz hdv) Ex)
theorem Adv.newJ (A : Adv p e below D) (X : Stand p l e R s m args below meth c T locs cells slots) (hx : p.tables.exec = Jvm.exec) (hZ : Z.Warmed39 s.vm) (w : (Cond.arrayClass .long).before a0 Z = true) (eT : T.heap = h) {z : Int32} (hz : z.toInt = n) (cap : Nat) (hcap : n ≤ cap) (hb : cap * 8 ≤ 536870912) (hc : cells + 1 ≤ R.cells) (hl : slots + cap ≤ R.slots) {g : JFrame} (hg : g.method = m) {rest : List Value} (hs : g.stack = .int z :: rest) (hd : decode c.code g.pc = .ok (.newarray .long, 2))
    (kk : ∀ T' h' a, a = h.size → Stand p l e R s m args below meth c T' locs (cells + 1) (slots + cap) → T'.heap = h' → Ext h h' → ArJ Z h' a n (fun _ => 0) → D (T'.setTop { g with pc := g.pc + 2, stack := .ref a :: rest })) : D (T.setTop g) := by
  have q0 : ¬ z < 0 := by rw [Int32.lt_iff_toInt_lt, hz, show (0 : Int32).toInt = 0 from rfl]; omega
  obtain ⟨T', h', k, X', e', E, Ar, st⟩   := newP (aty := .long) X hx hZ w eT hg hd hs q0 (cap := cap) (by rw [to_nat hz]; exact hcap) hb hc hl
  exact A (fun q => st _ q) (kk T' h' _ rfl X' e' E (ArJ.mk Ar hz))
theorem Adv.cloneI (A : Adv p e below D) (X : Stand p l e R s m args below meth c T locs cells slots) (hx : p.tables.exec = Jvm.exec) (hZ : Z.Warmed39 s.vm) {own ad : String} {index : Nat} (hown : s.vm.findClass own = some m.cls)
    (w1 : (Cond.methodLink own index ⟨ad, "clone", "()Ljava/lang/Object;"⟩).before a0 Z = true) (w2 : (Cond.sameMethod ad "java/lang/Object" "clone" "()Ljava/lang/Object;").before a0 Z = true) (w3 : (Cond.native ⟨"java/lang/Object", "clone", "()Ljava/lang/Object;"⟩).before a0 Z = true)
    (w4 : (Cond.instanceMethod ⟨"java/lang/Object", "clone", "()Ljava/lang/Object;"⟩).before a0 Z = true) (w5 : (Cond.selects ad ⟨ad, "clone", "()Ljava/lang/Object;"⟩ ⟨"java/lang/Object", "clone", "()Ljava/lang/Object;"⟩).before a0 Z = true) (w6 : (Cond.castable ad "java/lang/Cloneable").before a0 Z = true)
    (eT : T.heap = h) (F : ArI Z h a ty n f) (hfit : ∀ i, i < n → fits ty (.int (f i)) = true) (E : Exa Z h a ad) (W cap : Nat) (hcap : n ≤ cap) {g : JFrame} (hg : g.method = m) (hsz : g.locals.size = c.maxLocals) {rest : List Value} (hs : g.stack = .ref a :: rest) (hd : decode c.code g.pc = .ok (.invokevirtual index, 3))
    (hW : 2 * g.monitorRoom + (rest.map fun v => v.category).sum ≤ W) (hf : 1 ≤ R.frames) (hl : W + 14 ≤ R.locals) (hc : cells + 1 ≤ R.cells) (hsl : slots + cap ≤ R.slots)
    (kk : ∀ T' h' b, b = h.size → Stand p l e R s m args below meth c T' locs (cells + 1) (slots + cap) → T'.heap = h' → Ext h h' → ArI Z h' b ty n f → Exa Z h' b ad → D (T'.setTop { g with pc := g.pc + 3, stack := .ref b :: rest })) : D (T.setTop g) := by
  obtain ⟨z, cl, Ar, r, H⟩ := F
  have FC : FitC Z cl := fitC_of Ar fun i hi v hv => by rw [H i (by omega)] at hv; cases hv; exact hfit i (by omega)
  obtain ⟨T', h', X', e', Ex, Ar', E', st⟩ := cloneA X hx hZ hown w1 w2 w3 w4 w5 w6 eT Ar E FC hg hsz hs hd hf hW hl (by rw [r]; exact hcap) hc hsl
  exact A (fun q => st _ q) (kk T' h' _ rfl X' e' Ex ⟨z, _, Ar', r, H⟩ E')
end Arrays
end Jvm.JW
namespace Jvm.Pilot.@@N@@
open Jvm Jvm.ClassFile Sem Op Lib Jvm.Free Jvm.Stand Jvm.LawKit Jvm.RoadKit Bundle Jvm.JW Jvm.Pilot.@@N@@.Jvm.D
theorem d1_0 : decode prog_55_method_6_code 0 = .ok (.iload_n 0, 1) := by decide +kernel
theorem d1_1 : decode prog_55_method_6_code 1 = .ok (.bipush 65, 2) := by decide +kernel
theorem d1_3 : decode prog_55_method_6_code 3 = .ok (.if_icmp .lt 9, 3) := by decide +kernel
theorem d1_6 : decode prog_55_method_6_code 6 = .ok (.iload_n 0, 1) := by decide +kernel
theorem d1_7 : decode prog_55_method_6_code 7 = .ok (.bipush 90, 2) := by decide +kernel
theorem d1_9 : decode prog_55_method_6_code 9 = .ok (.if_icmp .le 176, 3) := by decide +kernel
theorem d1_12 : decode prog_55_method_6_code 12 = .ok (.iload_n 0, 1) := by decide +kernel
theorem d1_13 : decode prog_55_method_6_code 13 = .ok (.bipush 97, 2) := by decide +kernel
theorem d1_15 : decode prog_55_method_6_code 15 = .ok (.if_icmp .lt 9, 3) := by decide +kernel
theorem d1_18 : decode prog_55_method_6_code 18 = .ok (.iload_n 0, 1) := by decide +kernel
theorem d1_19 : decode prog_55_method_6_code 19 = .ok (.bipush 122, 2) := by decide +kernel
theorem d1_21 : decode prog_55_method_6_code 21 = .ok (.if_icmp .le 164, 3) := by decide +kernel
theorem d1_24 : decode prog_55_method_6_code 24 = .ok (.iload_n 0, 1) := by decide +kernel
theorem d1_25 : decode prog_55_method_6_code 25 = .ok (.sipush 192, 3) := by decide +kernel
theorem d1_28 : decode prog_55_method_6_code 28 = .ok (.if_icmp .lt 10, 3) := by decide +kernel
theorem d1_31 : decode prog_55_method_6_code 31 = .ok (.iload_n 0, 1) := by decide +kernel
theorem d1_32 : decode prog_55_method_6_code 32 = .ok (.sipush 214, 3) := by decide +kernel
theorem d1_35 : decode prog_55_method_6_code 35 = .ok (.if_icmp .le 150, 3) := by decide +kernel
theorem d1_38 : decode prog_55_method_6_code 38 = .ok (.iload_n 0, 1) := by decide +kernel
theorem d1_39 : decode prog_55_method_6_code 39 = .ok (.sipush 216, 3) := by decide +kernel
theorem d1_42 : decode prog_55_method_6_code 42 = .ok (.if_icmp .lt 10, 3) := by decide +kernel
theorem d1_45 : decode prog_55_method_6_code 45 = .ok (.iload_n 0, 1) := by decide +kernel
theorem d1_46 : decode prog_55_method_6_code 46 = .ok (.sipush 246, 3) := by decide +kernel
theorem d1_49 : decode prog_55_method_6_code 49 = .ok (.if_icmp .le 136, 3) := by decide +kernel
theorem d1_52 : decode prog_55_method_6_code 52 = .ok (.iload_n 0, 1) := by decide +kernel
theorem d1_53 : decode prog_55_method_6_code 53 = .ok (.sipush 248, 3) := by decide +kernel
theorem d1_56 : decode prog_55_method_6_code 56 = .ok (.if_icmp .lt 10, 3) := by decide +kernel
theorem d1_59 : decode prog_55_method_6_code 59 = .ok (.iload_n 0, 1) := by decide +kernel
theorem d1_60 : decode prog_55_method_6_code 60 = .ok (.sipush 767, 3) := by decide +kernel
theorem d1_63 : decode prog_55_method_6_code 63 = .ok (.if_icmp .le 122, 3) := by decide +kernel
theorem d1_66 : decode prog_55_method_6_code 66 = .ok (.iload_n 0, 1) := by decide +kernel
theorem d1_67 : decode prog_55_method_6_code 67 = .ok (.sipush 880, 3) := by decide +kernel
theorem d1_70 : decode prog_55_method_6_code 70 = .ok (.if_icmp .lt 10, 3) := by decide +kernel
theorem d1_73 : decode prog_55_method_6_code 73 = .ok (.iload_n 0, 1) := by decide +kernel
theorem d1_74 : decode prog_55_method_6_code 74 = .ok (.sipush 893, 3) := by decide +kernel
theorem d1_77 : decode prog_55_method_6_code 77 = .ok (.if_icmp .le 108, 3) := by decide +kernel
theorem d1_80 : decode prog_55_method_6_code 80 = .ok (.iload_n 0, 1) := by decide +kernel
theorem d1_81 : decode prog_55_method_6_code 81 = .ok (.sipush 895, 3) := by decide +kernel
theorem d1_84 : decode prog_55_method_6_code 84 = .ok (.if_icmp .lt 10, 3) := by decide +kernel
theorem d1_87 : decode prog_55_method_6_code 87 = .ok (.iload_n 0, 1) := by decide +kernel
theorem d1_88 : decode prog_55_method_6_code 88 = .ok (.sipush 8191, 3) := by decide +kernel
theorem d1_91 : decode prog_55_method_6_code 91 = .ok (.if_icmp .le 94, 3) := by decide +kernel
theorem d1_94 : decode prog_55_method_6_code 94 = .ok (.iload_n 0, 1) := by decide +kernel
theorem d1_95 : decode prog_55_method_6_code 95 = .ok (.sipush 8204, 3) := by decide +kernel
theorem d1_98 : decode prog_55_method_6_code 98 = .ok (.if_icmp .lt 10, 3) := by decide +kernel
theorem d1_101 : decode prog_55_method_6_code 101 = .ok (.iload_n 0, 1) := by decide +kernel
theorem d1_102 : decode prog_55_method_6_code 102 = .ok (.sipush 8205, 3) := by decide +kernel
theorem d1_105 : decode prog_55_method_6_code 105 = .ok (.if_icmp .le 80, 3) := by decide +kernel
theorem d1_108 : decode prog_55_method_6_code 108 = .ok (.iload_n 0, 1) := by decide +kernel
theorem d1_109 : decode prog_55_method_6_code 109 = .ok (.sipush 8304, 3) := by decide +kernel
theorem d1_112 : decode prog_55_method_6_code 112 = .ok (.if_icmp .lt 10, 3) := by decide +kernel
theorem d1_115 : decode prog_55_method_6_code 115 = .ok (.iload_n 0, 1) := by decide +kernel
theorem d1_116 : decode prog_55_method_6_code 116 = .ok (.sipush 8591, 3) := by decide +kernel
theorem d1_119 : decode prog_55_method_6_code 119 = .ok (.if_icmp .le 66, 3) := by decide +kernel
theorem d1_122 : decode prog_55_method_6_code 122 = .ok (.iload_n 0, 1) := by decide +kernel
theorem d1_123 : decode prog_55_method_6_code 123 = .ok (.sipush 11264, 3) := by decide +kernel
theorem d1_126 : decode prog_55_method_6_code 126 = .ok (.if_icmp .lt 10, 3) := by decide +kernel
theorem d1_129 : decode prog_55_method_6_code 129 = .ok (.iload_n 0, 1) := by decide +kernel
theorem d1_130 : decode prog_55_method_6_code 130 = .ok (.sipush 12271, 3) := by decide +kernel
theorem d1_133 : decode prog_55_method_6_code 133 = .ok (.if_icmp .le 52, 3) := by decide +kernel
theorem d1_136 : decode prog_55_method_6_code 136 = .ok (.iload_n 0, 1) := by decide +kernel
theorem d1_137 : decode prog_55_method_6_code 137 = .ok (.sipush 12289, 3) := by decide +kernel
theorem d1_140 : decode prog_55_method_6_code 140 = .ok (.if_icmp .lt 9, 3) := by decide +kernel
theorem d1_143 : decode prog_55_method_6_code 143 = .ok (.iload_n 0, 1) := by decide +kernel
theorem d1_144 : decode prog_55_method_6_code 144 = .ok (.ldc 108, 2) := by decide +kernel
theorem d1_146 : decode prog_55_method_6_code 146 = .ok (.if_icmp .le 39, 3) := by decide +kernel
theorem d1_149 : decode prog_55_method_6_code 149 = .ok (.iload_n 0, 1) := by decide +kernel
theorem d1_150 : decode prog_55_method_6_code 150 = .ok (.ldc 109, 2) := by decide +kernel
theorem d1_152 : decode prog_55_method_6_code 152 = .ok (.if_icmp .lt 9, 3) := by decide +kernel
theorem d1_155 : decode prog_55_method_6_code 155 = .ok (.iload_n 0, 1) := by decide +kernel
theorem d1_156 : decode prog_55_method_6_code 156 = .ok (.ldc 110, 2) := by decide +kernel
theorem d1_158 : decode prog_55_method_6_code 158 = .ok (.if_icmp .le 27, 3) := by decide +kernel
theorem d1_161 : decode prog_55_method_6_code 161 = .ok (.iload_n 0, 1) := by decide +kernel
theorem d1_162 : decode prog_55_method_6_code 162 = .ok (.ldc 111, 2) := by decide +kernel
theorem d1_164 : decode prog_55_method_6_code 164 = .ok (.if_icmp .lt 9, 3) := by decide +kernel
theorem d1_167 : decode prog_55_method_6_code 167 = .ok (.iload_n 0, 1) := by decide +kernel
theorem d1_168 : decode prog_55_method_6_code 168 = .ok (.ldc 112, 2) := by decide +kernel
theorem d1_170 : decode prog_55_method_6_code 170 = .ok (.if_icmp .le 15, 3) := by decide +kernel
theorem d1_173 : decode prog_55_method_6_code 173 = .ok (.iload_n 0, 1) := by decide +kernel
theorem d1_174 : decode prog_55_method_6_code 174 = .ok (.ldc 113, 2) := by decide +kernel
theorem d1_176 : decode prog_55_method_6_code 176 = .ok (.if_icmp .lt 13, 3) := by decide +kernel
theorem d1_179 : decode prog_55_method_6_code 179 = .ok (.iload_n 0, 1) := by decide +kernel
theorem d1_180 : decode prog_55_method_6_code 180 = .ok (.ldc 114, 2) := by decide +kernel
theorem d1_182 : decode prog_55_method_6_code 182 = .ok (.if_icmp .gt 7, 3) := by decide +kernel
theorem d1_185 : decode prog_55_method_6_code 185 = .ok (.iconst 1, 1) := by decide +kernel
theorem d1_186 : decode prog_55_method_6_code 186 = .ok (.goto 4, 3) := by decide +kernel
theorem d1_189 : decode prog_55_method_6_code 189 = .ok (.iconst 0, 1) := by decide +kernel
theorem d1_190 : decode prog_55_method_6_code 190 = .ok (.ireturn, 1) := by decide +kernel
theorem pn1 : plainFor (⟨"com/example/wayfare/wayfare/parse/NTriples", "isNameStart", "(I)Z"⟩ : MethodName) = true := by decide +kernel
theorem ef1 (p1 : Int32) (m : MethodId) : entryFrame m #[(.int p1)] 1 = mkF m 0 #[.val (.int p1)] [] := by first | (simp [entryFrame, mkF, argsToLocals, Value.category]; done) | rfl
def g1_189 (p1 : Int32) : Int32 := (0 : Int32)
def g1_185 (p1 : Int32) : Int32 := (1 : Int32)
def g1_173 (p1 : Int32) : Int32 := if p1 < (65536 : Int32) then (g1_189 p1) else if (983039 : Int32) < p1 then (g1_189 p1) else (g1_185 p1)
def g1_161 (p1 : Int32) : Int32 := if p1 < (65008 : Int32) then (g1_173 p1) else if (65533 : Int32) < p1 then (g1_173 p1) else (g1_185 p1)
def g1_149 (p1 : Int32) : Int32 := if p1 < (63744 : Int32) then (g1_161 p1) else if (64975 : Int32) < p1 then (g1_161 p1) else (g1_185 p1)
def g1_136 (p1 : Int32) : Int32 := if p1 < (12289 : Int32) then (g1_149 p1) else if (55295 : Int32) < p1 then (g1_149 p1) else (g1_185 p1)
def g1_122 (p1 : Int32) : Int32 := if p1 < (11264 : Int32) then (g1_136 p1) else if (12271 : Int32) < p1 then (g1_136 p1) else (g1_185 p1)
def g1_108 (p1 : Int32) : Int32 := if p1 < (8304 : Int32) then (g1_122 p1) else if (8591 : Int32) < p1 then (g1_122 p1) else (g1_185 p1)
def g1_94 (p1 : Int32) : Int32 := if p1 < (8204 : Int32) then (g1_108 p1) else if (8205 : Int32) < p1 then (g1_108 p1) else (g1_185 p1)
def g1_80 (p1 : Int32) : Int32 := if p1 < (895 : Int32) then (g1_94 p1) else if (8191 : Int32) < p1 then (g1_94 p1) else (g1_185 p1)
def g1_66 (p1 : Int32) : Int32 := if p1 < (880 : Int32) then (g1_80 p1) else if (893 : Int32) < p1 then (g1_80 p1) else (g1_185 p1)
def g1_52 (p1 : Int32) : Int32 := if p1 < (248 : Int32) then (g1_66 p1) else if (767 : Int32) < p1 then (g1_66 p1) else (g1_185 p1)
def g1_38 (p1 : Int32) : Int32 := if p1 < (216 : Int32) then (g1_52 p1) else if (246 : Int32) < p1 then (g1_52 p1) else (g1_185 p1)
def g1_24 (p1 : Int32) : Int32 := if p1 < (192 : Int32) then (g1_38 p1) else if (214 : Int32) < p1 then (g1_38 p1) else (g1_185 p1)
def g1_12 (p1 : Int32) : Int32 := if p1 < (97 : Int32) then (g1_24 p1) else if (122 : Int32) < p1 then (g1_24 p1) else (g1_185 p1)
def g1_0 (p1 : Int32) : Int32 := if p1 < (65 : Int32) then (g1_12 p1) else if (90 : Int32) < p1 then (g1_12 p1) else (g1_185 p1)
def f1 (p1 : Int32) : Int32 := g1_0 p1
set_option maxRecDepth 65536 in
set_option maxHeartbeats 40000000 in
theorem rm1 (l : Launch) (Z : State) (a0 : Array Value) (hw : ∀ d ∈ tables_1, d.before a0 Z = true) (ws : List Jvm.Cond) (p1 : Int32) (h0 : Heap) (n0 : Nat) :
    JMet l Z (⟨"com/example/wayfare/wayfare/parse/NTriples", "isNameStart", "(I)Z"⟩ : MethodName) prog_55_method_6_code 1 (some .boolean) ws ({ frames := 0, cells := 0, slots := 0, locals := 0 } : Room) #[(.int p1)] h0 (QP (.int (f1 p1)) h0 n0) := by
  refine Jvm.JW.body #[.val (.int p1)] pn1 (ef1 p1) ?_
  intro p e s m below meth c T0 D A F X0 hx hZ hby hml hown hnm hrt hlk e0
  have B189 : f1 p1 = g1_189 p1 → D (T0.setTop (mkF m 189 #[.val (.int p1)] [])) := by
    intro hq
    refine A (XS.iconst X0.here hx rfl (hb hby d1_189)) ?_
    show D (T0.setTop (mkF m 190 #[.val (.int p1)] [(.int (0 : Int32))]))
    refine F _ (Jvm.JW.ret X0 hlk (v := some (.int (0 : Int32))) (fun h => by rw [hrt] at h; cases h) (fun fs hr => retOut X0 hx hrt rfl (Or.inl ⟨rfl, Or.inr (Or.inl rfl), _, rfl⟩) (hb hby d1_190) hr) rfl ?_ (by decide) (by decide))
    exact ⟨congrArg (fun z => some (Value.int z)) hq.symm, (Fr.nil n0), e0⟩
  have B185 : f1 p1 = g1_185 p1 → D (T0.setTop (mkF m 185 #[.val (.int p1)] [])) := by
    intro hq
    refine A (XS.iconst X0.here hx rfl (hb hby d1_185)) ?_
    show D (T0.setTop (mkF m 186 #[.val (.int p1)] [(.int (1 : Int32))]))
    refine A (XS.goto X0.here hx rfl (pc0 := 186) (pc' := 190) rfl (hb hby d1_186) (by decide) (by decide)) ?_
    show D (T0.setTop (mkF m 190 #[.val (.int p1)] [(.int (1 : Int32))]))
    refine F _ (Jvm.JW.ret X0 hlk (v := some (.int (1 : Int32))) (fun h => by rw [hrt] at h; cases h) (fun fs hr => retOut X0 hx hrt rfl (Or.inl ⟨rfl, Or.inr (Or.inl rfl), _, rfl⟩) (hb hby d1_190) hr) rfl ?_ (by decide) (by decide))
    exact ⟨congrArg (fun z => some (Value.int z)) hq.symm, (Fr.nil n0), e0⟩
  have B173 : f1 p1 = g1_173 p1 → D (T0.setTop (mkF m 173 #[.val (.int p1)] [])) := by
    intro hq
    refine A (XS.iloadN X0.here hx rfl (hb hby d1_173) rfl) ?_
    show D (T0.setTop (mkF m 174 #[.val (.int p1)] [(.int p1)]))
    refine A (X0.ldcInt hx hown (mvT hZ (hw _ (List.mem_of_getElem? (i := 39) rfl))) (g := (mkF m 174 #[.val (.int p1)] [(.int p1)])) rfl (hb hby d1_174) _) ?_
    show D (T0.setTop (mkF m 176 #[.val (.int p1)] [(.int (65536 : Int32)), (.int p1)]))
    by_cases c176_1 : p1 < (65536 : Int32)
    · refine A (XS.icmpYes X0.here hx rfl (pc0 := 176) (pc' := 189) rfl (hb hby d1_176) rfl (tlt c176_1).1 (by decide) (by decide)) ?_
      show D (T0.setTop (mkF m 189 #[.val (.int p1)] []))
      exact B189 (hq.trans (if_pos c176_1))
    · refine A (XS.icmpNo X0.here hx rfl (hb hby d1_176) rfl (flt c176_1).1) ?_
      show D (T0.setTop (mkF m 179 #[.val (.int p1)] []))
      refine A (XS.iloadN X0.here hx rfl (hb hby d1_179) rfl) ?_
      show D (T0.setTop (mkF m 180 #[.val (.int p1)] [(.int p1)]))
      refine A (X0.ldcInt hx hown (mvT hZ (hw _ (List.mem_of_getElem? (i := 43) rfl))) (g := (mkF m 180 #[.val (.int p1)] [(.int p1)])) rfl (hb hby d1_180) _) ?_
      show D (T0.setTop (mkF m 182 #[.val (.int p1)] [(.int (983039 : Int32)), (.int p1)]))
      by_cases c182_2 : (983039 : Int32) < p1
      · refine A (XS.icmpYes X0.here hx rfl (pc0 := 182) (pc' := 189) rfl (hb hby d1_182) rfl (tlt c182_2).2.2.1 (by decide) (by decide)) ?_
        show D (T0.setTop (mkF m 189 #[.val (.int p1)] []))
        exact B189 (hq.trans ((if_neg c176_1).trans (if_pos c182_2)))
      · refine A (XS.icmpNo X0.here hx rfl (hb hby d1_182) rfl (flt c182_2).2.2.1) ?_
        show D (T0.setTop (mkF m 185 #[.val (.int p1)] []))
        exact B185 (hq.trans ((if_neg c176_1).trans (if_neg c182_2)))
  have B161 : f1 p1 = g1_161 p1 → D (T0.setTop (mkF m 161 #[.val (.int p1)] [])) := by
    intro hq
    refine A (XS.iloadN X0.here hx rfl (hb hby d1_161) rfl) ?_
    show D (T0.setTop (mkF m 162 #[.val (.int p1)] [(.int p1)]))
    refine A (X0.ldcInt hx hown (mvT hZ (hw _ (List.mem_of_getElem? (i := 38) rfl))) (g := (mkF m 162 #[.val (.int p1)] [(.int p1)])) rfl (hb hby d1_162) _) ?_
    show D (T0.setTop (mkF m 164 #[.val (.int p1)] [(.int (65008 : Int32)), (.int p1)]))
    by_cases c164_3 : p1 < (65008 : Int32)
    · refine A (XS.icmpYes X0.here hx rfl (pc0 := 164) (pc' := 173) rfl (hb hby d1_164) rfl (tlt c164_3).1 (by decide) (by decide)) ?_
      show D (T0.setTop (mkF m 173 #[.val (.int p1)] []))
      exact B173 (hq.trans (if_pos c164_3))
    · refine A (XS.icmpNo X0.here hx rfl (hb hby d1_164) rfl (flt c164_3).1) ?_
      show D (T0.setTop (mkF m 167 #[.val (.int p1)] []))
      refine A (XS.iloadN X0.here hx rfl (hb hby d1_167) rfl) ?_
      show D (T0.setTop (mkF m 168 #[.val (.int p1)] [(.int p1)]))
      refine A (X0.ldcInt hx hown (mvT hZ (hw _ (List.mem_of_getElem? (i := 42) rfl))) (g := (mkF m 168 #[.val (.int p1)] [(.int p1)])) rfl (hb hby d1_168) _) ?_
      show D (T0.setTop (mkF m 170 #[.val (.int p1)] [(.int (65533 : Int32)), (.int p1)]))
      by_cases c170_4 : (65533 : Int32) < p1
      · refine A (XS.icmpNo X0.here hx rfl (hb hby d1_170) rfl (tlt c170_4).2.2.2) ?_
        show D (T0.setTop (mkF m 173 #[.val (.int p1)] []))
        exact B173 (hq.trans ((if_neg c164_3).trans (if_pos c170_4)))
      · refine A (XS.icmpYes X0.here hx rfl (pc0 := 170) (pc' := 185) rfl (hb hby d1_170) rfl (flt c170_4).2.2.2 (by decide) (by decide)) ?_
        show D (T0.setTop (mkF m 185 #[.val (.int p1)] []))
        exact B185 (hq.trans ((if_neg c164_3).trans (if_neg c170_4)))
  have B149 : f1 p1 = g1_149 p1 → D (T0.setTop (mkF m 149 #[.val (.int p1)] [])) := by
    intro hq
    refine A (XS.iloadN X0.here hx rfl (hb hby d1_149) rfl) ?_
    show D (T0.setTop (mkF m 150 #[.val (.int p1)] [(.int p1)]))
    refine A (X0.ldcInt hx hown (mvT hZ (hw _ (List.mem_of_getElem? (i := 37) rfl))) (g := (mkF m 150 #[.val (.int p1)] [(.int p1)])) rfl (hb hby d1_150) _) ?_
    show D (T0.setTop (mkF m 152 #[.val (.int p1)] [(.int (63744 : Int32)), (.int p1)]))
    by_cases c152_5 : p1 < (63744 : Int32)
    · refine A (XS.icmpYes X0.here hx rfl (pc0 := 152) (pc' := 161) rfl (hb hby d1_152) rfl (tlt c152_5).1 (by decide) (by decide)) ?_
      show D (T0.setTop (mkF m 161 #[.val (.int p1)] []))
      exact B161 (hq.trans (if_pos c152_5))
    · refine A (XS.icmpNo X0.here hx rfl (hb hby d1_152) rfl (flt c152_5).1) ?_
      show D (T0.setTop (mkF m 155 #[.val (.int p1)] []))
      refine A (XS.iloadN X0.here hx rfl (hb hby d1_155) rfl) ?_
      show D (T0.setTop (mkF m 156 #[.val (.int p1)] [(.int p1)]))
      refine A (X0.ldcInt hx hown (mvT hZ (hw _ (List.mem_of_getElem? (i := 41) rfl))) (g := (mkF m 156 #[.val (.int p1)] [(.int p1)])) rfl (hb hby d1_156) _) ?_
      show D (T0.setTop (mkF m 158 #[.val (.int p1)] [(.int (64975 : Int32)), (.int p1)]))
      by_cases c158_6 : (64975 : Int32) < p1
      · refine A (XS.icmpNo X0.here hx rfl (hb hby d1_158) rfl (tlt c158_6).2.2.2) ?_
        show D (T0.setTop (mkF m 161 #[.val (.int p1)] []))
        exact B161 (hq.trans ((if_neg c152_5).trans (if_pos c158_6)))
      · refine A (XS.icmpYes X0.here hx rfl (pc0 := 158) (pc' := 185) rfl (hb hby d1_158) rfl (flt c158_6).2.2.2 (by decide) (by decide)) ?_
        show D (T0.setTop (mkF m 185 #[.val (.int p1)] []))
        exact B185 (hq.trans ((if_neg c152_5).trans (if_neg c158_6)))
  have B136 : f1 p1 = g1_136 p1 → D (T0.setTop (mkF m 136 #[.val (.int p1)] [])) := by
    intro hq
    refine A (XS.iloadN X0.here hx rfl (hb hby d1_136) rfl) ?_
    show D (T0.setTop (mkF m 137 #[.val (.int p1)] [(.int p1)]))
    refine A (XS.sipush X0.here hx rfl (hb hby d1_137)) ?_
    show D (T0.setTop (mkF m 140 #[.val (.int p1)] [(.int (12289 : Int32)), (.int p1)]))
    by_cases c140_7 : p1 < (12289 : Int32)
    · refine A (XS.icmpYes X0.here hx rfl (pc0 := 140) (pc' := 149) rfl (hb hby d1_140) rfl (tlt c140_7).1 (by decide) (by decide)) ?_
      show D (T0.setTop (mkF m 149 #[.val (.int p1)] []))
      exact B149 (hq.trans (if_pos c140_7))
    · refine A (XS.icmpNo X0.here hx rfl (hb hby d1_140) rfl (flt c140_7).1) ?_
      show D (T0.setTop (mkF m 143 #[.val (.int p1)] []))
      refine A (XS.iloadN X0.here hx rfl (hb hby d1_143) rfl) ?_
      show D (T0.setTop (mkF m 144 #[.val (.int p1)] [(.int p1)]))
      refine A (X0.ldcInt hx hown (mvT hZ (hw _ (List.mem_of_getElem? (i := 40) rfl))) (g := (mkF m 144 #[.val (.int p1)] [(.int p1)])) rfl (hb hby d1_144) _) ?_
      show D (T0.setTop (mkF m 146 #[.val (.int p1)] [(.int (55295 : Int32)), (.int p1)]))
      by_cases c146_8 : (55295 : Int32) < p1
      · refine A (XS.icmpNo X0.here hx rfl (hb hby d1_146) rfl (tlt c146_8).2.2.2) ?_
        show D (T0.setTop (mkF m 149 #[.val (.int p1)] []))
        exact B149 (hq.trans ((if_neg c140_7).trans (if_pos c146_8)))
      · refine A (XS.icmpYes X0.here hx rfl (pc0 := 146) (pc' := 185) rfl (hb hby d1_146) rfl (flt c146_8).2.2.2 (by decide) (by decide)) ?_
        show D (T0.setTop (mkF m 185 #[.val (.int p1)] []))
        exact B185 (hq.trans ((if_neg c140_7).trans (if_neg c146_8)))
  have B122 : f1 p1 = g1_122 p1 → D (T0.setTop (mkF m 122 #[.val (.int p1)] [])) := by
    intro hq
    refine A (XS.iloadN X0.here hx rfl (hb hby d1_122) rfl) ?_
    show D (T0.setTop (mkF m 123 #[.val (.int p1)] [(.int p1)]))
    refine A (XS.sipush X0.here hx rfl (hb hby d1_123)) ?_
    show D (T0.setTop (mkF m 126 #[.val (.int p1)] [(.int (11264 : Int32)), (.int p1)]))
    by_cases c126_9 : p1 < (11264 : Int32)
    · refine A (XS.icmpYes X0.here hx rfl (pc0 := 126) (pc' := 136) rfl (hb hby d1_126) rfl (tlt c126_9).1 (by decide) (by decide)) ?_
      show D (T0.setTop (mkF m 136 #[.val (.int p1)] []))
      exact B136 (hq.trans (if_pos c126_9))
    · refine A (XS.icmpNo X0.here hx rfl (hb hby d1_126) rfl (flt c126_9).1) ?_
      show D (T0.setTop (mkF m 129 #[.val (.int p1)] []))
      refine A (XS.iloadN X0.here hx rfl (hb hby d1_129) rfl) ?_
      show D (T0.setTop (mkF m 130 #[.val (.int p1)] [(.int p1)]))
      refine A (XS.sipush X0.here hx rfl (hb hby d1_130)) ?_
      show D (T0.setTop (mkF m 133 #[.val (.int p1)] [(.int (12271 : Int32)), (.int p1)]))
      by_cases c133_10 : (12271 : Int32) < p1
      · refine A (XS.icmpNo X0.here hx rfl (hb hby d1_133) rfl (tlt c133_10).2.2.2) ?_
        show D (T0.setTop (mkF m 136 #[.val (.int p1)] []))
        exact B136 (hq.trans ((if_neg c126_9).trans (if_pos c133_10)))
      · refine A (XS.icmpYes X0.here hx rfl (pc0 := 133) (pc' := 185) rfl (hb hby d1_133) rfl (flt c133_10).2.2.2 (by decide) (by decide)) ?_
        show D (T0.setTop (mkF m 185 #[.val (.int p1)] []))
        exact B185 (hq.trans ((if_neg c126_9).trans (if_neg c133_10)))
  have B108 : f1 p1 = g1_108 p1 → D (T0.setTop (mkF m 108 #[.val (.int p1)] [])) := by
    intro hq
    refine A (XS.iloadN X0.here hx rfl (hb hby d1_108) rfl) ?_
    show D (T0.setTop (mkF m 109 #[.val (.int p1)] [(.int p1)]))
    refine A (XS.sipush X0.here hx rfl (hb hby d1_109)) ?_
    show D (T0.setTop (mkF m 112 #[.val (.int p1)] [(.int (8304 : Int32)), (.int p1)]))
    by_cases c112_11 : p1 < (8304 : Int32)
    · refine A (XS.icmpYes X0.here hx rfl (pc0 := 112) (pc' := 122) rfl (hb hby d1_112) rfl (tlt c112_11).1 (by decide) (by decide)) ?_
      show D (T0.setTop (mkF m 122 #[.val (.int p1)] []))
      exact B122 (hq.trans (if_pos c112_11))
    · refine A (XS.icmpNo X0.here hx rfl (hb hby d1_112) rfl (flt c112_11).1) ?_
      show D (T0.setTop (mkF m 115 #[.val (.int p1)] []))
      refine A (XS.iloadN X0.here hx rfl (hb hby d1_115) rfl) ?_
      show D (T0.setTop (mkF m 116 #[.val (.int p1)] [(.int p1)]))
      refine A (XS.sipush X0.here hx rfl (hb hby d1_116)) ?_
      show D (T0.setTop (mkF m 119 #[.val (.int p1)] [(.int (8591 : Int32)), (.int p1)]))
      by_cases c119_12 : (8591 : Int32) < p1
      · refine A (XS.icmpNo X0.here hx rfl (hb hby d1_119) rfl (tlt c119_12).2.2.2) ?_
        show D (T0.setTop (mkF m 122 #[.val (.int p1)] []))
        exact B122 (hq.trans ((if_neg c112_11).trans (if_pos c119_12)))
      · refine A (XS.icmpYes X0.here hx rfl (pc0 := 119) (pc' := 185) rfl (hb hby d1_119) rfl (flt c119_12).2.2.2 (by decide) (by decide)) ?_
        show D (T0.setTop (mkF m 185 #[.val (.int p1)] []))
        exact B185 (hq.trans ((if_neg c112_11).trans (if_neg c119_12)))
  have B94 : f1 p1 = g1_94 p1 → D (T0.setTop (mkF m 94 #[.val (.int p1)] [])) := by
    intro hq
    refine A (XS.iloadN X0.here hx rfl (hb hby d1_94) rfl) ?_
    show D (T0.setTop (mkF m 95 #[.val (.int p1)] [(.int p1)]))
    refine A (XS.sipush X0.here hx rfl (hb hby d1_95)) ?_
    show D (T0.setTop (mkF m 98 #[.val (.int p1)] [(.int (8204 : Int32)), (.int p1)]))
    by_cases c98_13 : p1 < (8204 : Int32)
    · refine A (XS.icmpYes X0.here hx rfl (pc0 := 98) (pc' := 108) rfl (hb hby d1_98) rfl (tlt c98_13).1 (by decide) (by decide)) ?_
      show D (T0.setTop (mkF m 108 #[.val (.int p1)] []))
      exact B108 (hq.trans (if_pos c98_13))
    · refine A (XS.icmpNo X0.here hx rfl (hb hby d1_98) rfl (flt c98_13).1) ?_
      show D (T0.setTop (mkF m 101 #[.val (.int p1)] []))
      refine A (XS.iloadN X0.here hx rfl (hb hby d1_101) rfl) ?_
      show D (T0.setTop (mkF m 102 #[.val (.int p1)] [(.int p1)]))
      refine A (XS.sipush X0.here hx rfl (hb hby d1_102)) ?_
      show D (T0.setTop (mkF m 105 #[.val (.int p1)] [(.int (8205 : Int32)), (.int p1)]))
      by_cases c105_14 : (8205 : Int32) < p1
      · refine A (XS.icmpNo X0.here hx rfl (hb hby d1_105) rfl (tlt c105_14).2.2.2) ?_
        show D (T0.setTop (mkF m 108 #[.val (.int p1)] []))
        exact B108 (hq.trans ((if_neg c98_13).trans (if_pos c105_14)))
      · refine A (XS.icmpYes X0.here hx rfl (pc0 := 105) (pc' := 185) rfl (hb hby d1_105) rfl (flt c105_14).2.2.2 (by decide) (by decide)) ?_
        show D (T0.setTop (mkF m 185 #[.val (.int p1)] []))
        exact B185 (hq.trans ((if_neg c98_13).trans (if_neg c105_14)))
  have B80 : f1 p1 = g1_80 p1 → D (T0.setTop (mkF m 80 #[.val (.int p1)] [])) := by
    intro hq
    refine A (XS.iloadN X0.here hx rfl (hb hby d1_80) rfl) ?_
    show D (T0.setTop (mkF m 81 #[.val (.int p1)] [(.int p1)]))
    refine A (XS.sipush X0.here hx rfl (hb hby d1_81)) ?_
    show D (T0.setTop (mkF m 84 #[.val (.int p1)] [(.int (895 : Int32)), (.int p1)]))
    by_cases c84_15 : p1 < (895 : Int32)
    · refine A (XS.icmpYes X0.here hx rfl (pc0 := 84) (pc' := 94) rfl (hb hby d1_84) rfl (tlt c84_15).1 (by decide) (by decide)) ?_
      show D (T0.setTop (mkF m 94 #[.val (.int p1)] []))
      exact B94 (hq.trans (if_pos c84_15))
    · refine A (XS.icmpNo X0.here hx rfl (hb hby d1_84) rfl (flt c84_15).1) ?_
      show D (T0.setTop (mkF m 87 #[.val (.int p1)] []))
      refine A (XS.iloadN X0.here hx rfl (hb hby d1_87) rfl) ?_
      show D (T0.setTop (mkF m 88 #[.val (.int p1)] [(.int p1)]))
      refine A (XS.sipush X0.here hx rfl (hb hby d1_88)) ?_
      show D (T0.setTop (mkF m 91 #[.val (.int p1)] [(.int (8191 : Int32)), (.int p1)]))
      by_cases c91_16 : (8191 : Int32) < p1
      · refine A (XS.icmpNo X0.here hx rfl (hb hby d1_91) rfl (tlt c91_16).2.2.2) ?_
        show D (T0.setTop (mkF m 94 #[.val (.int p1)] []))
        exact B94 (hq.trans ((if_neg c84_15).trans (if_pos c91_16)))
      · refine A (XS.icmpYes X0.here hx rfl (pc0 := 91) (pc' := 185) rfl (hb hby d1_91) rfl (flt c91_16).2.2.2 (by decide) (by decide)) ?_
        show D (T0.setTop (mkF m 185 #[.val (.int p1)] []))
        exact B185 (hq.trans ((if_neg c84_15).trans (if_neg c91_16)))
  have B66 : f1 p1 = g1_66 p1 → D (T0.setTop (mkF m 66 #[.val (.int p1)] [])) := by
    intro hq
    refine A (XS.iloadN X0.here hx rfl (hb hby d1_66) rfl) ?_
    show D (T0.setTop (mkF m 67 #[.val (.int p1)] [(.int p1)]))
    refine A (XS.sipush X0.here hx rfl (hb hby d1_67)) ?_
    show D (T0.setTop (mkF m 70 #[.val (.int p1)] [(.int (880 : Int32)), (.int p1)]))
    by_cases c70_17 : p1 < (880 : Int32)
    · refine A (XS.icmpYes X0.here hx rfl (pc0 := 70) (pc' := 80) rfl (hb hby d1_70) rfl (tlt c70_17).1 (by decide) (by decide)) ?_
      show D (T0.setTop (mkF m 80 #[.val (.int p1)] []))
      exact B80 (hq.trans (if_pos c70_17))
    · refine A (XS.icmpNo X0.here hx rfl (hb hby d1_70) rfl (flt c70_17).1) ?_
      show D (T0.setTop (mkF m 73 #[.val (.int p1)] []))
      refine A (XS.iloadN X0.here hx rfl (hb hby d1_73) rfl) ?_
      show D (T0.setTop (mkF m 74 #[.val (.int p1)] [(.int p1)]))
      refine A (XS.sipush X0.here hx rfl (hb hby d1_74)) ?_
      show D (T0.setTop (mkF m 77 #[.val (.int p1)] [(.int (893 : Int32)), (.int p1)]))
      by_cases c77_18 : (893 : Int32) < p1
      · refine A (XS.icmpNo X0.here hx rfl (hb hby d1_77) rfl (tlt c77_18).2.2.2) ?_
        show D (T0.setTop (mkF m 80 #[.val (.int p1)] []))
        exact B80 (hq.trans ((if_neg c70_17).trans (if_pos c77_18)))
      · refine A (XS.icmpYes X0.here hx rfl (pc0 := 77) (pc' := 185) rfl (hb hby d1_77) rfl (flt c77_18).2.2.2 (by decide) (by decide)) ?_
        show D (T0.setTop (mkF m 185 #[.val (.int p1)] []))
        exact B185 (hq.trans ((if_neg c70_17).trans (if_neg c77_18)))
  have B52 : f1 p1 = g1_52 p1 → D (T0.setTop (mkF m 52 #[.val (.int p1)] [])) := by
    intro hq
    refine A (XS.iloadN X0.here hx rfl (hb hby d1_52) rfl) ?_
    show D (T0.setTop (mkF m 53 #[.val (.int p1)] [(.int p1)]))
    refine A (XS.sipush X0.here hx rfl (hb hby d1_53)) ?_
    show D (T0.setTop (mkF m 56 #[.val (.int p1)] [(.int (248 : Int32)), (.int p1)]))
    by_cases c56_19 : p1 < (248 : Int32)
    · refine A (XS.icmpYes X0.here hx rfl (pc0 := 56) (pc' := 66) rfl (hb hby d1_56) rfl (tlt c56_19).1 (by decide) (by decide)) ?_
      show D (T0.setTop (mkF m 66 #[.val (.int p1)] []))
      exact B66 (hq.trans (if_pos c56_19))
    · refine A (XS.icmpNo X0.here hx rfl (hb hby d1_56) rfl (flt c56_19).1) ?_
      show D (T0.setTop (mkF m 59 #[.val (.int p1)] []))
      refine A (XS.iloadN X0.here hx rfl (hb hby d1_59) rfl) ?_
      show D (T0.setTop (mkF m 60 #[.val (.int p1)] [(.int p1)]))
      refine A (XS.sipush X0.here hx rfl (hb hby d1_60)) ?_
      show D (T0.setTop (mkF m 63 #[.val (.int p1)] [(.int (767 : Int32)), (.int p1)]))
      by_cases c63_20 : (767 : Int32) < p1
      · refine A (XS.icmpNo X0.here hx rfl (hb hby d1_63) rfl (tlt c63_20).2.2.2) ?_
        show D (T0.setTop (mkF m 66 #[.val (.int p1)] []))
        exact B66 (hq.trans ((if_neg c56_19).trans (if_pos c63_20)))
      · refine A (XS.icmpYes X0.here hx rfl (pc0 := 63) (pc' := 185) rfl (hb hby d1_63) rfl (flt c63_20).2.2.2 (by decide) (by decide)) ?_
        show D (T0.setTop (mkF m 185 #[.val (.int p1)] []))
        exact B185 (hq.trans ((if_neg c56_19).trans (if_neg c63_20)))
  have B38 : f1 p1 = g1_38 p1 → D (T0.setTop (mkF m 38 #[.val (.int p1)] [])) := by
    intro hq
    refine A (XS.iloadN X0.here hx rfl (hb hby d1_38) rfl) ?_
    show D (T0.setTop (mkF m 39 #[.val (.int p1)] [(.int p1)]))
    refine A (XS.sipush X0.here hx rfl (hb hby d1_39)) ?_
    show D (T0.setTop (mkF m 42 #[.val (.int p1)] [(.int (216 : Int32)), (.int p1)]))
    by_cases c42_21 : p1 < (216 : Int32)
    · refine A (XS.icmpYes X0.here hx rfl (pc0 := 42) (pc' := 52) rfl (hb hby d1_42) rfl (tlt c42_21).1 (by decide) (by decide)) ?_
      show D (T0.setTop (mkF m 52 #[.val (.int p1)] []))
      exact B52 (hq.trans (if_pos c42_21))
    · refine A (XS.icmpNo X0.here hx rfl (hb hby d1_42) rfl (flt c42_21).1) ?_
      show D (T0.setTop (mkF m 45 #[.val (.int p1)] []))
      refine A (XS.iloadN X0.here hx rfl (hb hby d1_45) rfl) ?_
      show D (T0.setTop (mkF m 46 #[.val (.int p1)] [(.int p1)]))
      refine A (XS.sipush X0.here hx rfl (hb hby d1_46)) ?_
      show D (T0.setTop (mkF m 49 #[.val (.int p1)] [(.int (246 : Int32)), (.int p1)]))
      by_cases c49_22 : (246 : Int32) < p1
      · refine A (XS.icmpNo X0.here hx rfl (hb hby d1_49) rfl (tlt c49_22).2.2.2) ?_
        show D (T0.setTop (mkF m 52 #[.val (.int p1)] []))
        exact B52 (hq.trans ((if_neg c42_21).trans (if_pos c49_22)))
      · refine A (XS.icmpYes X0.here hx rfl (pc0 := 49) (pc' := 185) rfl (hb hby d1_49) rfl (flt c49_22).2.2.2 (by decide) (by decide)) ?_
        show D (T0.setTop (mkF m 185 #[.val (.int p1)] []))
        exact B185 (hq.trans ((if_neg c42_21).trans (if_neg c49_22)))
  have B24 : f1 p1 = g1_24 p1 → D (T0.setTop (mkF m 24 #[.val (.int p1)] [])) := by
    intro hq
    refine A (XS.iloadN X0.here hx rfl (hb hby d1_24) rfl) ?_
    show D (T0.setTop (mkF m 25 #[.val (.int p1)] [(.int p1)]))
    refine A (XS.sipush X0.here hx rfl (hb hby d1_25)) ?_
    show D (T0.setTop (mkF m 28 #[.val (.int p1)] [(.int (192 : Int32)), (.int p1)]))
    by_cases c28_23 : p1 < (192 : Int32)
    · refine A (XS.icmpYes X0.here hx rfl (pc0 := 28) (pc' := 38) rfl (hb hby d1_28) rfl (tlt c28_23).1 (by decide) (by decide)) ?_
      show D (T0.setTop (mkF m 38 #[.val (.int p1)] []))
      exact B38 (hq.trans (if_pos c28_23))
    · refine A (XS.icmpNo X0.here hx rfl (hb hby d1_28) rfl (flt c28_23).1) ?_
      show D (T0.setTop (mkF m 31 #[.val (.int p1)] []))
      refine A (XS.iloadN X0.here hx rfl (hb hby d1_31) rfl) ?_
      show D (T0.setTop (mkF m 32 #[.val (.int p1)] [(.int p1)]))
      refine A (XS.sipush X0.here hx rfl (hb hby d1_32)) ?_
      show D (T0.setTop (mkF m 35 #[.val (.int p1)] [(.int (214 : Int32)), (.int p1)]))
      by_cases c35_24 : (214 : Int32) < p1
      · refine A (XS.icmpNo X0.here hx rfl (hb hby d1_35) rfl (tlt c35_24).2.2.2) ?_
        show D (T0.setTop (mkF m 38 #[.val (.int p1)] []))
        exact B38 (hq.trans ((if_neg c28_23).trans (if_pos c35_24)))
      · refine A (XS.icmpYes X0.here hx rfl (pc0 := 35) (pc' := 185) rfl (hb hby d1_35) rfl (flt c35_24).2.2.2 (by decide) (by decide)) ?_
        show D (T0.setTop (mkF m 185 #[.val (.int p1)] []))
        exact B185 (hq.trans ((if_neg c28_23).trans (if_neg c35_24)))
  have B12 : f1 p1 = g1_12 p1 → D (T0.setTop (mkF m 12 #[.val (.int p1)] [])) := by
    intro hq
    refine A (XS.iloadN X0.here hx rfl (hb hby d1_12) rfl) ?_
    show D (T0.setTop (mkF m 13 #[.val (.int p1)] [(.int p1)]))
    refine A (XS.bipush X0.here hx rfl (hb hby d1_13)) ?_
    show D (T0.setTop (mkF m 15 #[.val (.int p1)] [(.int (97 : Int32)), (.int p1)]))
    by_cases c15_25 : p1 < (97 : Int32)
    · refine A (XS.icmpYes X0.here hx rfl (pc0 := 15) (pc' := 24) rfl (hb hby d1_15) rfl (tlt c15_25).1 (by decide) (by decide)) ?_
      show D (T0.setTop (mkF m 24 #[.val (.int p1)] []))
      exact B24 (hq.trans (if_pos c15_25))
    · refine A (XS.icmpNo X0.here hx rfl (hb hby d1_15) rfl (flt c15_25).1) ?_
      show D (T0.setTop (mkF m 18 #[.val (.int p1)] []))
      refine A (XS.iloadN X0.here hx rfl (hb hby d1_18) rfl) ?_
      show D (T0.setTop (mkF m 19 #[.val (.int p1)] [(.int p1)]))
      refine A (XS.bipush X0.here hx rfl (hb hby d1_19)) ?_
      show D (T0.setTop (mkF m 21 #[.val (.int p1)] [(.int (122 : Int32)), (.int p1)]))
      by_cases c21_26 : (122 : Int32) < p1
      · refine A (XS.icmpNo X0.here hx rfl (hb hby d1_21) rfl (tlt c21_26).2.2.2) ?_
        show D (T0.setTop (mkF m 24 #[.val (.int p1)] []))
        exact B24 (hq.trans ((if_neg c15_25).trans (if_pos c21_26)))
      · refine A (XS.icmpYes X0.here hx rfl (pc0 := 21) (pc' := 185) rfl (hb hby d1_21) rfl (flt c21_26).2.2.2 (by decide) (by decide)) ?_
        show D (T0.setTop (mkF m 185 #[.val (.int p1)] []))
        exact B185 (hq.trans ((if_neg c15_25).trans (if_neg c21_26)))
  have B0 : f1 p1 = g1_0 p1 → D (T0.setTop (mkF m 0 #[.val (.int p1)] [])) := by
    intro hq
    refine A (XS.iloadN X0.here hx rfl (hb hby d1_0) rfl) ?_
    show D (T0.setTop (mkF m 1 #[.val (.int p1)] [(.int p1)]))
    refine A (XS.bipush X0.here hx rfl (hb hby d1_1)) ?_
    show D (T0.setTop (mkF m 3 #[.val (.int p1)] [(.int (65 : Int32)), (.int p1)]))
    by_cases c3_27 : p1 < (65 : Int32)
    · refine A (XS.icmpYes X0.here hx rfl (pc0 := 3) (pc' := 12) rfl (hb hby d1_3) rfl (tlt c3_27).1 (by decide) (by decide)) ?_
      show D (T0.setTop (mkF m 12 #[.val (.int p1)] []))
      exact B12 (hq.trans (if_pos c3_27))
    · refine A (XS.icmpNo X0.here hx rfl (hb hby d1_3) rfl (flt c3_27).1) ?_
      show D (T0.setTop (mkF m 6 #[.val (.int p1)] []))
      refine A (XS.iloadN X0.here hx rfl (hb hby d1_6) rfl) ?_
      show D (T0.setTop (mkF m 7 #[.val (.int p1)] [(.int p1)]))
      refine A (XS.bipush X0.here hx rfl (hb hby d1_7)) ?_
      show D (T0.setTop (mkF m 9 #[.val (.int p1)] [(.int (90 : Int32)), (.int p1)]))
      by_cases c9_28 : (90 : Int32) < p1
      · refine A (XS.icmpNo X0.here hx rfl (hb hby d1_9) rfl (tlt c9_28).2.2.2) ?_
        show D (T0.setTop (mkF m 12 #[.val (.int p1)] []))
        exact B12 (hq.trans ((if_neg c3_27).trans (if_pos c9_28)))
      · refine A (XS.icmpYes X0.here hx rfl (pc0 := 9) (pc' := 185) rfl (hb hby d1_9) rfl (flt c9_28).2.2.2 (by decide) (by decide)) ?_
        show D (T0.setTop (mkF m 185 #[.val (.int p1)] []))
        exact B185 (hq.trans ((if_neg c3_27).trans (if_neg c9_28)))
  exact B0 rfl
theorem s1_189 (p1 : Int32) : g1_189 p1 = if (False) then 1 else 0 := by
  have r1 := p1.le_toInt; have r2 := p1.toInt_lt
  unfold g1_189
  repeat' split
  all_goals first | rfl | (exfalso; omega)
theorem s1_185 (p1 : Int32) : g1_185 p1 = if ((-2147483648 ≤ p1.toInt ∧ p1.toInt ≤ 2147483647)) then 1 else 0 := by
  have r1 := p1.le_toInt; have r2 := p1.toInt_lt
  unfold g1_185
  repeat' split
  all_goals first | rfl | (exfalso; omega)
theorem s1_173 (p1 : Int32) : g1_173 p1 = if ((65536 ≤ p1.toInt ∧ p1.toInt ≤ 983039)) then 1 else 0 := by
  have r1 := p1.le_toInt; have r2 := p1.toInt_lt
  unfold g1_173
  simp only [s1_185, s1_189]
  simp only [Int32.lt_iff_toInt_lt, ← Int32.toInt_inj, show (65536 : Int32).toInt = 65536 from rfl, show (983039 : Int32).toInt = 983039 from rfl]
  repeat' split
  all_goals first | rfl | (exfalso; omega)
theorem s1_161 (p1 : Int32) : g1_161 p1 = if ((65008 ≤ p1.toInt ∧ p1.toInt ≤ 65533) ∨ (65536 ≤ p1.toInt ∧ p1.toInt ≤ 983039)) then 1 else 0 := by
  have r1 := p1.le_toInt; have r2 := p1.toInt_lt
  unfold g1_161
  simp only [s1_173, s1_185]
  simp only [Int32.lt_iff_toInt_lt, ← Int32.toInt_inj, show (65008 : Int32).toInt = 65008 from rfl, show (65533 : Int32).toInt = 65533 from rfl]
  repeat' split
  all_goals first | rfl | (exfalso; omega)
theorem s1_149 (p1 : Int32) : g1_149 p1 = if ((63744 ≤ p1.toInt ∧ p1.toInt ≤ 64975) ∨ (65008 ≤ p1.toInt ∧ p1.toInt ≤ 65533) ∨ (65536 ≤ p1.toInt ∧ p1.toInt ≤ 983039)) then 1 else 0 := by
  have r1 := p1.le_toInt; have r2 := p1.toInt_lt
  unfold g1_149
  simp only [s1_161, s1_185]
  simp only [Int32.lt_iff_toInt_lt, ← Int32.toInt_inj, show (63744 : Int32).toInt = 63744 from rfl, show (64975 : Int32).toInt = 64975 from rfl]
  repeat' split
  all_goals first | rfl | (exfalso; omega)
theorem s1_136 (p1 : Int32) : g1_136 p1 = if ((12289 ≤ p1.toInt ∧ p1.toInt ≤ 55295) ∨ (63744 ≤ p1.toInt ∧ p1.toInt ≤ 64975) ∨ (65008 ≤ p1.toInt ∧ p1.toInt ≤ 65533) ∨ (65536 ≤ p1.toInt ∧ p1.toInt ≤ 983039)) then 1 else 0 := by
  have r1 := p1.le_toInt; have r2 := p1.toInt_lt
  unfold g1_136
  simp only [s1_149, s1_185]
  simp only [Int32.lt_iff_toInt_lt, ← Int32.toInt_inj, show (12289 : Int32).toInt = 12289 from rfl, show (55295 : Int32).toInt = 55295 from rfl]
  repeat' split
  all_goals first | rfl | (exfalso; omega)
theorem s1_122 (p1 : Int32) : g1_122 p1 = if ((11264 ≤ p1.toInt ∧ p1.toInt ≤ 12271) ∨ (12289 ≤ p1.toInt ∧ p1.toInt ≤ 55295) ∨ (63744 ≤ p1.toInt ∧ p1.toInt ≤ 64975) ∨ (65008 ≤ p1.toInt ∧ p1.toInt ≤ 65533) ∨ (65536 ≤ p1.toInt ∧ p1.toInt ≤ 983039)) then 1 else 0 := by
  have r1 := p1.le_toInt; have r2 := p1.toInt_lt
  unfold g1_122
  simp only [s1_136, s1_185]
  simp only [Int32.lt_iff_toInt_lt, ← Int32.toInt_inj, show (11264 : Int32).toInt = 11264 from rfl, show (12271 : Int32).toInt = 12271 from rfl]
  repeat' split
  all_goals first | rfl | (exfalso; omega)
theorem s1_108 (p1 : Int32) : g1_108 p1 = if ((8304 ≤ p1.toInt ∧ p1.toInt ≤ 8591) ∨ (11264 ≤ p1.toInt ∧ p1.toInt ≤ 12271) ∨ (12289 ≤ p1.toInt ∧ p1.toInt ≤ 55295) ∨ (63744 ≤ p1.toInt ∧ p1.toInt ≤ 64975) ∨ (65008 ≤ p1.toInt ∧ p1.toInt ≤ 65533) ∨ (65536 ≤ p1.toInt ∧ p1.toInt ≤ 983039)) then 1 else 0 := by
  have r1 := p1.le_toInt; have r2 := p1.toInt_lt
  unfold g1_108
  simp only [s1_122, s1_185]
  simp only [Int32.lt_iff_toInt_lt, ← Int32.toInt_inj, show (8304 : Int32).toInt = 8304 from rfl, show (8591 : Int32).toInt = 8591 from rfl]
  repeat' split
  all_goals first | rfl | (exfalso; omega)
theorem s1_94 (p1 : Int32) : g1_94 p1 = if ((8204 ≤ p1.toInt ∧ p1.toInt ≤ 8205) ∨ (8304 ≤ p1.toInt ∧ p1.toInt ≤ 8591) ∨ (11264 ≤ p1.toInt ∧ p1.toInt ≤ 12271) ∨ (12289 ≤ p1.toInt ∧ p1.toInt ≤ 55295) ∨ (63744 ≤ p1.toInt ∧ p1.toInt ≤ 64975) ∨ (65008 ≤ p1.toInt ∧ p1.toInt ≤ 65533) ∨ (65536 ≤ p1.toInt ∧ p1.toInt ≤ 983039)) then 1 else 0 := by
  have r1 := p1.le_toInt; have r2 := p1.toInt_lt
  unfold g1_94
  simp only [s1_108, s1_185]
  simp only [Int32.lt_iff_toInt_lt, ← Int32.toInt_inj, show (8204 : Int32).toInt = 8204 from rfl, show (8205 : Int32).toInt = 8205 from rfl]
  repeat' split
  all_goals first | rfl | (exfalso; omega)
theorem s1_80 (p1 : Int32) : g1_80 p1 = if ((895 ≤ p1.toInt ∧ p1.toInt ≤ 8191) ∨ (8204 ≤ p1.toInt ∧ p1.toInt ≤ 8205) ∨ (8304 ≤ p1.toInt ∧ p1.toInt ≤ 8591) ∨ (11264 ≤ p1.toInt ∧ p1.toInt ≤ 12271) ∨ (12289 ≤ p1.toInt ∧ p1.toInt ≤ 55295) ∨ (63744 ≤ p1.toInt ∧ p1.toInt ≤ 64975) ∨ (65008 ≤ p1.toInt ∧ p1.toInt ≤ 65533) ∨ (65536 ≤ p1.toInt ∧ p1.toInt ≤ 983039)) then 1 else 0 := by
  have r1 := p1.le_toInt; have r2 := p1.toInt_lt
  unfold g1_80
  simp only [s1_94, s1_185]
  simp only [Int32.lt_iff_toInt_lt, ← Int32.toInt_inj, show (895 : Int32).toInt = 895 from rfl, show (8191 : Int32).toInt = 8191 from rfl]
  repeat' split
  all_goals first | rfl | (exfalso; omega)
theorem s1_66 (p1 : Int32) : g1_66 p1 = if ((880 ≤ p1.toInt ∧ p1.toInt ≤ 893) ∨ (895 ≤ p1.toInt ∧ p1.toInt ≤ 8191) ∨ (8204 ≤ p1.toInt ∧ p1.toInt ≤ 8205) ∨ (8304 ≤ p1.toInt ∧ p1.toInt ≤ 8591) ∨ (11264 ≤ p1.toInt ∧ p1.toInt ≤ 12271) ∨ (12289 ≤ p1.toInt ∧ p1.toInt ≤ 55295) ∨ (63744 ≤ p1.toInt ∧ p1.toInt ≤ 64975) ∨ (65008 ≤ p1.toInt ∧ p1.toInt ≤ 65533) ∨ (65536 ≤ p1.toInt ∧ p1.toInt ≤ 983039)) then 1 else 0 := by
  have r1 := p1.le_toInt; have r2 := p1.toInt_lt
  unfold g1_66
  simp only [s1_80, s1_185]
  simp only [Int32.lt_iff_toInt_lt, ← Int32.toInt_inj, show (880 : Int32).toInt = 880 from rfl, show (893 : Int32).toInt = 893 from rfl]
  repeat' split
  all_goals first | rfl | (exfalso; omega)
theorem s1_52 (p1 : Int32) : g1_52 p1 = if ((248 ≤ p1.toInt ∧ p1.toInt ≤ 767) ∨ (880 ≤ p1.toInt ∧ p1.toInt ≤ 893) ∨ (895 ≤ p1.toInt ∧ p1.toInt ≤ 8191) ∨ (8204 ≤ p1.toInt ∧ p1.toInt ≤ 8205) ∨ (8304 ≤ p1.toInt ∧ p1.toInt ≤ 8591) ∨ (11264 ≤ p1.toInt ∧ p1.toInt ≤ 12271) ∨ (12289 ≤ p1.toInt ∧ p1.toInt ≤ 55295) ∨ (63744 ≤ p1.toInt ∧ p1.toInt ≤ 64975) ∨ (65008 ≤ p1.toInt ∧ p1.toInt ≤ 65533) ∨ (65536 ≤ p1.toInt ∧ p1.toInt ≤ 983039)) then 1 else 0 := by
  have r1 := p1.le_toInt; have r2 := p1.toInt_lt
  unfold g1_52
  simp only [s1_66, s1_185]
  simp only [Int32.lt_iff_toInt_lt, ← Int32.toInt_inj, show (248 : Int32).toInt = 248 from rfl, show (767 : Int32).toInt = 767 from rfl]
  repeat' split
  all_goals first | rfl | (exfalso; omega)
theorem s1_38 (p1 : Int32) : g1_38 p1 = if ((216 ≤ p1.toInt ∧ p1.toInt ≤ 246) ∨ (248 ≤ p1.toInt ∧ p1.toInt ≤ 767) ∨ (880 ≤ p1.toInt ∧ p1.toInt ≤ 893) ∨ (895 ≤ p1.toInt ∧ p1.toInt ≤ 8191) ∨ (8204 ≤ p1.toInt ∧ p1.toInt ≤ 8205) ∨ (8304 ≤ p1.toInt ∧ p1.toInt ≤ 8591) ∨ (11264 ≤ p1.toInt ∧ p1.toInt ≤ 12271) ∨ (12289 ≤ p1.toInt ∧ p1.toInt ≤ 55295) ∨ (63744 ≤ p1.toInt ∧ p1.toInt ≤ 64975) ∨ (65008 ≤ p1.toInt ∧ p1.toInt ≤ 65533) ∨ (65536 ≤ p1.toInt ∧ p1.toInt ≤ 983039)) then 1 else 0 := by
  have r1 := p1.le_toInt; have r2 := p1.toInt_lt
  unfold g1_38
  simp only [s1_52, s1_185]
  simp only [Int32.lt_iff_toInt_lt, ← Int32.toInt_inj, show (216 : Int32).toInt = 216 from rfl, show (246 : Int32).toInt = 246 from rfl]
  repeat' split
  all_goals first | rfl | (exfalso; omega)
theorem s1_24 (p1 : Int32) : g1_24 p1 = if ((192 ≤ p1.toInt ∧ p1.toInt ≤ 214) ∨ (216 ≤ p1.toInt ∧ p1.toInt ≤ 246) ∨ (248 ≤ p1.toInt ∧ p1.toInt ≤ 767) ∨ (880 ≤ p1.toInt ∧ p1.toInt ≤ 893) ∨ (895 ≤ p1.toInt ∧ p1.toInt ≤ 8191) ∨ (8204 ≤ p1.toInt ∧ p1.toInt ≤ 8205) ∨ (8304 ≤ p1.toInt ∧ p1.toInt ≤ 8591) ∨ (11264 ≤ p1.toInt ∧ p1.toInt ≤ 12271) ∨ (12289 ≤ p1.toInt ∧ p1.toInt ≤ 55295) ∨ (63744 ≤ p1.toInt ∧ p1.toInt ≤ 64975) ∨ (65008 ≤ p1.toInt ∧ p1.toInt ≤ 65533) ∨ (65536 ≤ p1.toInt ∧ p1.toInt ≤ 983039)) then 1 else 0 := by
  have r1 := p1.le_toInt; have r2 := p1.toInt_lt
  unfold g1_24
  simp only [s1_38, s1_185]
  simp only [Int32.lt_iff_toInt_lt, ← Int32.toInt_inj, show (192 : Int32).toInt = 192 from rfl, show (214 : Int32).toInt = 214 from rfl]
  repeat' split
  all_goals first | rfl | (exfalso; omega)
theorem s1_12 (p1 : Int32) : g1_12 p1 = if ((97 ≤ p1.toInt ∧ p1.toInt ≤ 122) ∨ (192 ≤ p1.toInt ∧ p1.toInt ≤ 214) ∨ (216 ≤ p1.toInt ∧ p1.toInt ≤ 246) ∨ (248 ≤ p1.toInt ∧ p1.toInt ≤ 767) ∨ (880 ≤ p1.toInt ∧ p1.toInt ≤ 893) ∨ (895 ≤ p1.toInt ∧ p1.toInt ≤ 8191) ∨ (8204 ≤ p1.toInt ∧ p1.toInt ≤ 8205) ∨ (8304 ≤ p1.toInt ∧ p1.toInt ≤ 8591) ∨ (11264 ≤ p1.toInt ∧ p1.toInt ≤ 12271) ∨ (12289 ≤ p1.toInt ∧ p1.toInt ≤ 55295) ∨ (63744 ≤ p1.toInt ∧ p1.toInt ≤ 64975) ∨ (65008 ≤ p1.toInt ∧ p1.toInt ≤ 65533) ∨ (65536 ≤ p1.toInt ∧ p1.toInt ≤ 983039)) then 1 else 0 := by
  have r1 := p1.le_toInt; have r2 := p1.toInt_lt
  unfold g1_12
  simp only [s1_24, s1_185]
  simp only [Int32.lt_iff_toInt_lt, ← Int32.toInt_inj, show (97 : Int32).toInt = 97 from rfl, show (122 : Int32).toInt = 122 from rfl]
  repeat' split
  all_goals first | rfl | (exfalso; omega)
theorem s1_0 (p1 : Int32) : g1_0 p1 = if ((65 ≤ p1.toInt ∧ p1.toInt ≤ 90) ∨ (97 ≤ p1.toInt ∧ p1.toInt ≤ 122) ∨ (192 ≤ p1.toInt ∧ p1.toInt ≤ 214) ∨ (216 ≤ p1.toInt ∧ p1.toInt ≤ 246) ∨ (248 ≤ p1.toInt ∧ p1.toInt ≤ 767) ∨ (880 ≤ p1.toInt ∧ p1.toInt ≤ 893) ∨ (895 ≤ p1.toInt ∧ p1.toInt ≤ 8191) ∨ (8204 ≤ p1.toInt ∧ p1.toInt ≤ 8205) ∨ (8304 ≤ p1.toInt ∧ p1.toInt ≤ 8591) ∨ (11264 ≤ p1.toInt ∧ p1.toInt ≤ 12271) ∨ (12289 ≤ p1.toInt ∧ p1.toInt ≤ 55295) ∨ (63744 ≤ p1.toInt ∧ p1.toInt ≤ 64975) ∨ (65008 ≤ p1.toInt ∧ p1.toInt ≤ 65533) ∨ (65536 ≤ p1.toInt ∧ p1.toInt ≤ 983039)) then 1 else 0 := by
  have r1 := p1.le_toInt; have r2 := p1.toInt_lt
  unfold g1_0
  simp only [s1_12, s1_185]
  simp only [Int32.lt_iff_toInt_lt, ← Int32.toInt_inj, show (65 : Int32).toInt = 65 from rfl, show (90 : Int32).toInt = 90 from rfl]
  repeat' split
  all_goals first | rfl | (exfalso; omega)
def own_list : List Int64 := [-2147483648, 65, 91, 97, 123, 192, 215, 216, 247, 248, 768, 880, 894, 895, 8192, 8204, 8206, 8304, 8592, 11264, 12272, 12289, 55296, 63744, 64976, 65008, 65534, 65536, 983040, 2147483648]
def own_tab (i : Nat) : Int64 := own_list.getD i 0
theorem own_w : ∀ k, k < 29 → own_tab (k + 1) - own_tab k ≠ 0 := by decide +kernel
theorem own_ix (x : Int32) : 0 ≤ ((x &&& (2147483647 : Int32)) % (29 : Int32)).toInt ∧ ((x &&& (2147483647 : Int32)) % (29 : Int32)).toInt < 29 := by
  have h1 := c_mask x 2147483647 31 (by decide) (by decide)
  have h2 := (c_irem (x &&& 2147483647) 29 29 (by decide)).1 (by omega)
  omega
theorem own_case (k : Int32) (y o lo w : Int64) (c : Int32) (L H : Int) (i : Int) (hk : k.toInt = i) (h1 : lo.toInt = L) (h2 : w.toInt = H - L) (hL : -2147483648 ≤ L) (hH : H ≤ 2147483648) (hLH : L < H) (hy : 0 ≤ y.toInt) (ho : o = y - (y / w) * w) (hc : c = (lo + o).toInt32) :
    L ≤ c.toInt ∧ c.toInt < H := by
  have e1 := (c_lrem y w (H - L) h2).1 hy
  rw [← ho] at e1
  have e2 : 0 ≤ o.toInt ∧ o.toInt < H - L := by
    rw [e1]; exact ⟨Int.emod_nonneg _ (by omega), Int.emod_lt_of_pos _ (by omega)⟩
  have e3 := c_ladd lo o
  have e4 := rng64 (lo + o)
  have e5 := c_l2i (lo + o)
  have e6 := rng32 (lo + o).toInt32
  rw [hc]
  omega
theorem own_at_0 (c : Int32) (h : -2147483648 ≤ c.toInt ∧ c.toInt < 65) : f1 c = 0 := by
  show g1_0 c = _
  rw [s1_0]
  first | rw [if_pos (by omega)] | rw [if_neg (by omega)]
theorem own_at_1 (c : Int32) (h : 65 ≤ c.toInt ∧ c.toInt < 91) : f1 c = 1 := by
  show g1_0 c = _
  rw [s1_0]
  first | rw [if_pos (by omega)] | rw [if_neg (by omega)]
theorem own_at_2 (c : Int32) (h : 91 ≤ c.toInt ∧ c.toInt < 97) : f1 c = 0 := by
  show g1_0 c = _
  rw [s1_0]
  first | rw [if_pos (by omega)] | rw [if_neg (by omega)]
theorem own_at_3 (c : Int32) (h : 97 ≤ c.toInt ∧ c.toInt < 123) : f1 c = 1 := by
  show g1_0 c = _
  rw [s1_0]
  first | rw [if_pos (by omega)] | rw [if_neg (by omega)]
theorem own_at_4 (c : Int32) (h : 123 ≤ c.toInt ∧ c.toInt < 192) : f1 c = 0 := by
  show g1_0 c = _
  rw [s1_0]
  first | rw [if_pos (by omega)] | rw [if_neg (by omega)]
theorem own_at_5 (c : Int32) (h : 192 ≤ c.toInt ∧ c.toInt < 215) : f1 c = 1 := by
  show g1_0 c = _
  rw [s1_0]
  first | rw [if_pos (by omega)] | rw [if_neg (by omega)]
theorem own_at_6 (c : Int32) (h : 215 ≤ c.toInt ∧ c.toInt < 216) : f1 c = 0 := by
  show g1_0 c = _
  rw [s1_0]
  first | rw [if_pos (by omega)] | rw [if_neg (by omega)]
theorem own_at_7 (c : Int32) (h : 216 ≤ c.toInt ∧ c.toInt < 247) : f1 c = 1 := by
  show g1_0 c = _
  rw [s1_0]
  first | rw [if_pos (by omega)] | rw [if_neg (by omega)]
theorem own_at_8 (c : Int32) (h : 247 ≤ c.toInt ∧ c.toInt < 248) : f1 c = 0 := by
  show g1_0 c = _
  rw [s1_0]
  first | rw [if_pos (by omega)] | rw [if_neg (by omega)]
theorem own_at_9 (c : Int32) (h : 248 ≤ c.toInt ∧ c.toInt < 768) : f1 c = 1 := by
  show g1_0 c = _
  rw [s1_0]
  first | rw [if_pos (by omega)] | rw [if_neg (by omega)]
theorem own_at_10 (c : Int32) (h : 768 ≤ c.toInt ∧ c.toInt < 880) : f1 c = 0 := by
  show g1_0 c = _
  rw [s1_0]
  first | rw [if_pos (by omega)] | rw [if_neg (by omega)]
theorem own_at_11 (c : Int32) (h : 880 ≤ c.toInt ∧ c.toInt < 894) : f1 c = 1 := by
  show g1_0 c = _
  rw [s1_0]
  first | rw [if_pos (by omega)] | rw [if_neg (by omega)]
theorem own_at_12 (c : Int32) (h : 894 ≤ c.toInt ∧ c.toInt < 895) : f1 c = 0 := by
  show g1_0 c = _
  rw [s1_0]
  first | rw [if_pos (by omega)] | rw [if_neg (by omega)]
theorem own_at_13 (c : Int32) (h : 895 ≤ c.toInt ∧ c.toInt < 8192) : f1 c = 1 := by
  show g1_0 c = _
  rw [s1_0]
  first | rw [if_pos (by omega)] | rw [if_neg (by omega)]
theorem own_at_14 (c : Int32) (h : 8192 ≤ c.toInt ∧ c.toInt < 8204) : f1 c = 0 := by
  show g1_0 c = _
  rw [s1_0]
  first | rw [if_pos (by omega)] | rw [if_neg (by omega)]
theorem own_at_15 (c : Int32) (h : 8204 ≤ c.toInt ∧ c.toInt < 8206) : f1 c = 1 := by
  show g1_0 c = _
  rw [s1_0]
  first | rw [if_pos (by omega)] | rw [if_neg (by omega)]
theorem own_at_16 (c : Int32) (h : 8206 ≤ c.toInt ∧ c.toInt < 8304) : f1 c = 0 := by
  show g1_0 c = _
  rw [s1_0]
  first | rw [if_pos (by omega)] | rw [if_neg (by omega)]
theorem own_at_17 (c : Int32) (h : 8304 ≤ c.toInt ∧ c.toInt < 8592) : f1 c = 1 := by
  show g1_0 c = _
  rw [s1_0]
  first | rw [if_pos (by omega)] | rw [if_neg (by omega)]
theorem own_at_18 (c : Int32) (h : 8592 ≤ c.toInt ∧ c.toInt < 11264) : f1 c = 0 := by
  show g1_0 c = _
  rw [s1_0]
  first | rw [if_pos (by omega)] | rw [if_neg (by omega)]
theorem own_at_19 (c : Int32) (h : 11264 ≤ c.toInt ∧ c.toInt < 12272) : f1 c = 1 := by
  show g1_0 c = _
  rw [s1_0]
  first | rw [if_pos (by omega)] | rw [if_neg (by omega)]
theorem own_at_20 (c : Int32) (h : 12272 ≤ c.toInt ∧ c.toInt < 12289) : f1 c = 0 := by
  show g1_0 c = _
  rw [s1_0]
  first | rw [if_pos (by omega)] | rw [if_neg (by omega)]
theorem own_at_21 (c : Int32) (h : 12289 ≤ c.toInt ∧ c.toInt < 55296) : f1 c = 1 := by
  show g1_0 c = _
  rw [s1_0]
  first | rw [if_pos (by omega)] | rw [if_neg (by omega)]
theorem own_at_22 (c : Int32) (h : 55296 ≤ c.toInt ∧ c.toInt < 63744) : f1 c = 0 := by
  show g1_0 c = _
  rw [s1_0]
  first | rw [if_pos (by omega)] | rw [if_neg (by omega)]
theorem own_at_23 (c : Int32) (h : 63744 ≤ c.toInt ∧ c.toInt < 64976) : f1 c = 1 := by
  show g1_0 c = _
  rw [s1_0]
  first | rw [if_pos (by omega)] | rw [if_neg (by omega)]
theorem own_at_24 (c : Int32) (h : 64976 ≤ c.toInt ∧ c.toInt < 65008) : f1 c = 0 := by
  show g1_0 c = _
  rw [s1_0]
  first | rw [if_pos (by omega)] | rw [if_neg (by omega)]
theorem own_at_25 (c : Int32) (h : 65008 ≤ c.toInt ∧ c.toInt < 65534) : f1 c = 1 := by
  show g1_0 c = _
  rw [s1_0]
  first | rw [if_pos (by omega)] | rw [if_neg (by omega)]
theorem own_at_26 (c : Int32) (h : 65534 ≤ c.toInt ∧ c.toInt < 65536) : f1 c = 0 := by
  show g1_0 c = _
  rw [s1_0]
  first | rw [if_pos (by omega)] | rw [if_neg (by omega)]
theorem own_at_27 (c : Int32) (h : 65536 ≤ c.toInt ∧ c.toInt < 983040) : f1 c = 1 := by
  show g1_0 c = _
  rw [s1_0]
  first | rw [if_pos (by omega)] | rw [if_neg (by omega)]
theorem own_at_28 (c : Int32) (h : 983040 ≤ c.toInt ∧ c.toInt < 2147483648) : f1 c = 0 := by
  show g1_0 c = _
  rw [s1_0]
  first | rw [if_pos (by omega)] | rw [if_neg (by omega)]
set_option maxRecDepth 65536 in
set_option maxHeartbeats 40000000 in
theorem own_law (k : Int32) (y o lo w : Int64) (c : Int32) (h0 : 0 ≤ k.toInt) (h1 : k.toInt < 29) (hlo : lo = own_tab k.toInt.toNat) (hw : w = own_tab (k.toInt.toNat + 1) - lo) (hy : 0 ≤ y.toInt) (ho : o = y - (y / w) * w) (hc : c = (lo + o).toInt32) :
    f1 c = (if (k &&& (1 : Int32)) = (1 : Int32) then (1 : Int32) else (0 : Int32)) := by
  have hm := c_mask k 1 1 (by decide) (by decide)
  obtain ⟨i, hi⟩ : ∃ i : Nat, i = k.toInt.toNat := ⟨_, rfl⟩
  have hki : k.toInt = i := by omega
  have hlt : i < 29 := by omega
  rw [← hi] at hlo hw
  have key : (if (k &&& (1 : Int32)) = (1 : Int32) then (1 : Int32) else (0 : Int32)) = if i % 2 = 1 then (1 : Int32) else 0 := by
    have h11 : (1 : Int32).toInt = 1 := rfl
    by_cases q : i % 2 = 1
    · rw [if_pos q, if_pos]; rw [← Int32.toInt_inj, hm, h11]; omega
    · rw [if_neg q, if_neg]; rw [← Int32.toInt_inj, hm, h11]; omega
  rw [key]
  clear hm hi h0 h1 key
  rcases (by omega : i = 0 ∨ i = 1 ∨ i = 2 ∨ i = 3 ∨ i = 4 ∨ i = 5 ∨ i = 6 ∨ i = 7 ∨ i = 8 ∨ i = 9 ∨ i = 10 ∨ i = 11 ∨ i = 12 ∨ i = 13 ∨ i = 14 ∨ i = 15 ∨ i = 16 ∨ i = 17 ∨ i = 18 ∨ i = 19 ∨ i = 20 ∨ i = 21 ∨ i = 22 ∨ i = 23 ∨ i = 24 ∨ i = 25 ∨ i = 26 ∨ i = 27 ∨ i = 28) with rfl | rfl | rfl | rfl | rfl | rfl | rfl | rfl | rfl | rfl | rfl | rfl | rfl | rfl | rfl | rfl | rfl | rfl | rfl | rfl | rfl | rfl | rfl | rfl | rfl | rfl | rfl | rfl | rfl
  · rw [own_at_0 c (own_case k y o lo w c (-2147483648) (65) 0 hki (by rw [hlo]; decide +kernel) (by rw [hw, hlo]; decide +kernel) (by decide) (by decide) (by decide) hy ho hc)]; rfl
  · rw [own_at_1 c (own_case k y o lo w c (65) (91) 1 hki (by rw [hlo]; decide +kernel) (by rw [hw, hlo]; decide +kernel) (by decide) (by decide) (by decide) hy ho hc)]; rfl
  · rw [own_at_2 c (own_case k y o lo w c (91) (97) 2 hki (by rw [hlo]; decide +kernel) (by rw [hw, hlo]; decide +kernel) (by decide) (by decide) (by decide) hy ho hc)]; rfl
  · rw [own_at_3 c (own_case k y o lo w c (97) (123) 3 hki (by rw [hlo]; decide +kernel) (by rw [hw, hlo]; decide +kernel) (by decide) (by decide) (by decide) hy ho hc)]; rfl
  · rw [own_at_4 c (own_case k y o lo w c (123) (192) 4 hki (by rw [hlo]; decide +kernel) (by rw [hw, hlo]; decide +kernel) (by decide) (by decide) (by decide) hy ho hc)]; rfl
  · rw [own_at_5 c (own_case k y o lo w c (192) (215) 5 hki (by rw [hlo]; decide +kernel) (by rw [hw, hlo]; decide +kernel) (by decide) (by decide) (by decide) hy ho hc)]; rfl
  · rw [own_at_6 c (own_case k y o lo w c (215) (216) 6 hki (by rw [hlo]; decide +kernel) (by rw [hw, hlo]; decide +kernel) (by decide) (by decide) (by decide) hy ho hc)]; rfl
  · rw [own_at_7 c (own_case k y o lo w c (216) (247) 7 hki (by rw [hlo]; decide +kernel) (by rw [hw, hlo]; decide +kernel) (by decide) (by decide) (by decide) hy ho hc)]; rfl
  · rw [own_at_8 c (own_case k y o lo w c (247) (248) 8 hki (by rw [hlo]; decide +kernel) (by rw [hw, hlo]; decide +kernel) (by decide) (by decide) (by decide) hy ho hc)]; rfl
  · rw [own_at_9 c (own_case k y o lo w c (248) (768) 9 hki (by rw [hlo]; decide +kernel) (by rw [hw, hlo]; decide +kernel) (by decide) (by decide) (by decide) hy ho hc)]; rfl
  · rw [own_at_10 c (own_case k y o lo w c (768) (880) 10 hki (by rw [hlo]; decide +kernel) (by rw [hw, hlo]; decide +kernel) (by decide) (by decide) (by decide) hy ho hc)]; rfl
  · rw [own_at_11 c (own_case k y o lo w c (880) (894) 11 hki (by rw [hlo]; decide +kernel) (by rw [hw, hlo]; decide +kernel) (by decide) (by decide) (by decide) hy ho hc)]; rfl
  · rw [own_at_12 c (own_case k y o lo w c (894) (895) 12 hki (by rw [hlo]; decide +kernel) (by rw [hw, hlo]; decide +kernel) (by decide) (by decide) (by decide) hy ho hc)]; rfl
  · rw [own_at_13 c (own_case k y o lo w c (895) (8192) 13 hki (by rw [hlo]; decide +kernel) (by rw [hw, hlo]; decide +kernel) (by decide) (by decide) (by decide) hy ho hc)]; rfl
  · rw [own_at_14 c (own_case k y o lo w c (8192) (8204) 14 hki (by rw [hlo]; decide +kernel) (by rw [hw, hlo]; decide +kernel) (by decide) (by decide) (by decide) hy ho hc)]; rfl
  · rw [own_at_15 c (own_case k y o lo w c (8204) (8206) 15 hki (by rw [hlo]; decide +kernel) (by rw [hw, hlo]; decide +kernel) (by decide) (by decide) (by decide) hy ho hc)]; rfl
  · rw [own_at_16 c (own_case k y o lo w c (8206) (8304) 16 hki (by rw [hlo]; decide +kernel) (by rw [hw, hlo]; decide +kernel) (by decide) (by decide) (by decide) hy ho hc)]; rfl
  · rw [own_at_17 c (own_case k y o lo w c (8304) (8592) 17 hki (by rw [hlo]; decide +kernel) (by rw [hw, hlo]; decide +kernel) (by decide) (by decide) (by decide) hy ho hc)]; rfl
  · rw [own_at_18 c (own_case k y o lo w c (8592) (11264) 18 hki (by rw [hlo]; decide +kernel) (by rw [hw, hlo]; decide +kernel) (by decide) (by decide) (by decide) hy ho hc)]; rfl
  · rw [own_at_19 c (own_case k y o lo w c (11264) (12272) 19 hki (by rw [hlo]; decide +kernel) (by rw [hw, hlo]; decide +kernel) (by decide) (by decide) (by decide) hy ho hc)]; rfl
  · rw [own_at_20 c (own_case k y o lo w c (12272) (12289) 20 hki (by rw [hlo]; decide +kernel) (by rw [hw, hlo]; decide +kernel) (by decide) (by decide) (by decide) hy ho hc)]; rfl
  · rw [own_at_21 c (own_case k y o lo w c (12289) (55296) 21 hki (by rw [hlo]; decide +kernel) (by rw [hw, hlo]; decide +kernel) (by decide) (by decide) (by decide) hy ho hc)]; rfl
  · rw [own_at_22 c (own_case k y o lo w c (55296) (63744) 22 hki (by rw [hlo]; decide +kernel) (by rw [hw, hlo]; decide +kernel) (by decide) (by decide) (by decide) hy ho hc)]; rfl
  · rw [own_at_23 c (own_case k y o lo w c (63744) (64976) 23 hki (by rw [hlo]; decide +kernel) (by rw [hw, hlo]; decide +kernel) (by decide) (by decide) (by decide) hy ho hc)]; rfl
  · rw [own_at_24 c (own_case k y o lo w c (64976) (65008) 24 hki (by rw [hlo]; decide +kernel) (by rw [hw, hlo]; decide +kernel) (by decide) (by decide) (by decide) hy ho hc)]; rfl
  · rw [own_at_25 c (own_case k y o lo w c (65008) (65534) 25 hki (by rw [hlo]; decide +kernel) (by rw [hw, hlo]; decide +kernel) (by decide) (by decide) (by decide) hy ho hc)]; rfl
  · rw [own_at_26 c (own_case k y o lo w c (65534) (65536) 26 hki (by rw [hlo]; decide +kernel) (by rw [hw, hlo]; decide +kernel) (by decide) (by decide) (by decide) hy ho hc)]; rfl
  · rw [own_at_27 c (own_case k y o lo w c (65536) (983040) 27 hki (by rw [hlo]; decide +kernel) (by rw [hw, hlo]; decide +kernel) (by decide) (by decide) (by decide) hy ho hc)]; rfl
  · rw [own_at_28 c (own_case k y o lo w c (983040) (2147483648) 28 hki (by rw [hlo]; decide +kernel) (by rw [hw, hlo]; decide +kernel) (by decide) (by decide) (by decide) hy ho hc)]; rfl
def own_g0 : Nat → Int64 := fun _ => 0
def own_g1 : Nat → Int64 := fun ix => if ix = 0 then (-2147483648 : Int64) else own_g0 ix
def own_g2 : Nat → Int64 := fun ix => if ix = 1 then (65 : Int64) else own_g1 ix
def own_g3 : Nat → Int64 := fun ix => if ix = 2 then (91 : Int64) else own_g2 ix
def own_g4 : Nat → Int64 := fun ix => if ix = 3 then (97 : Int64) else own_g3 ix
def own_g5 : Nat → Int64 := fun ix => if ix = 4 then (123 : Int64) else own_g4 ix
def own_g6 : Nat → Int64 := fun ix => if ix = 5 then (192 : Int64) else own_g5 ix
def own_g7 : Nat → Int64 := fun ix => if ix = 6 then (215 : Int64) else own_g6 ix
def own_g8 : Nat → Int64 := fun ix => if ix = 7 then (216 : Int64) else own_g7 ix
def own_g9 : Nat → Int64 := fun ix => if ix = 8 then (247 : Int64) else own_g8 ix
def own_g10 : Nat → Int64 := fun ix => if ix = 9 then (248 : Int64) else own_g9 ix
def own_g11 : Nat → Int64 := fun ix => if ix = 10 then (768 : Int64) else own_g10 ix
def own_g12 : Nat → Int64 := fun ix => if ix = 11 then (880 : Int64) else own_g11 ix
def own_g13 : Nat → Int64 := fun ix => if ix = 12 then (894 : Int64) else own_g12 ix
def own_g14 : Nat → Int64 := fun ix => if ix = 13 then (895 : Int64) else own_g13 ix
def own_g15 : Nat → Int64 := fun ix => if ix = 14 then (8192 : Int64) else own_g14 ix
def own_g16 : Nat → Int64 := fun ix => if ix = 15 then (8204 : Int64) else own_g15 ix
def own_g17 : Nat → Int64 := fun ix => if ix = 16 then (8206 : Int64) else own_g16 ix
def own_g18 : Nat → Int64 := fun ix => if ix = 17 then (8304 : Int64) else own_g17 ix
def own_g19 : Nat → Int64 := fun ix => if ix = 18 then (8592 : Int64) else own_g18 ix
def own_g20 : Nat → Int64 := fun ix => if ix = 19 then (11264 : Int64) else own_g19 ix
def own_g21 : Nat → Int64 := fun ix => if ix = 20 then (12272 : Int64) else own_g20 ix
def own_g22 : Nat → Int64 := fun ix => if ix = 21 then (12289 : Int64) else own_g21 ix
def own_g23 : Nat → Int64 := fun ix => if ix = 22 then (55296 : Int64) else own_g22 ix
def own_g24 : Nat → Int64 := fun ix => if ix = 23 then (63744 : Int64) else own_g23 ix
def own_g25 : Nat → Int64 := fun ix => if ix = 24 then (64976 : Int64) else own_g24 ix
def own_g26 : Nat → Int64 := fun ix => if ix = 25 then (65008 : Int64) else own_g25 ix
def own_g27 : Nat → Int64 := fun ix => if ix = 26 then (65534 : Int64) else own_g26 ix
def own_g28 : Nat → Int64 := fun ix => if ix = 27 then (65536 : Int64) else own_g27 ix
def own_g29 : Nat → Int64 := fun ix => if ix = 28 then (983040 : Int64) else own_g28 ix
def own_g30 : Nat → Int64 := fun ix => if ix = 29 then (2147483648 : Int64) else own_g29 ix
theorem own_tabeq : ∀ i, i < 30 → own_g30 i = own_tab i := by decide +kernel
theorem own_ix1 {k x : Int32} (hk : k = (x &&& (2147483647 : Int32)) % (29 : Int32)) : (k + (1 : Int32)).toInt = ((k.toInt.toNat + 1 : Nat) : Int) := by
  have h := own_ix x
  rw [← hk] at h
  have h2 := c_iadd k 1
  have h3 := rng32 (k + 1)
  have h11 : (1 : Int32).toInt = 1 := rfl
  omega
theorem pn0 : plainFor x = true := by decide +kernel
theorem pd0_0 : parseMethodDescriptor "(I)Z" = some ⟨[.int], some .boolean⟩ := by decide +kernel
theorem ef0 (p1 : Int32) (p2 : Int64) (m : MethodId) : entryFrame m #[(.int p1), (.long p2)] maxLocals = mkF m 0 #[.val (.int p1), .val (.long p2), .second, .unset, .unset, .unset, .unset, .unset, .unset, .unset, .unset, .unset, .unset] [] := by first | (simp [entryFrame, mkF, argsToLocals, Value.category, maxLocals]; done) | rfl
set_option maxRecDepth 65536 in
set_option maxHeartbeats 40000000 in
theorem rm0 (l : Launch) (Z : State) (a0 : Array Value) (hw : ∀ d ∈ tables_1, d.before a0 Z = true) (ws : List Jvm.Cond) (p1 : Int32) (p2 : Int64) (h0 : Heap) (n0 : Nat) (Z0 : n0 ≤ h0.size) :
    JMet l Z x code maxLocals ret ws room_1 #[(.int p1), (.long p2)] h0 (QL n0) := by
  refine Jvm.JW.body #[.val (.int p1), .val (.long p2), .second, .unset, .unset, .unset, .unset, .unset, .unset, .unset, .unset, .unset, .unset] pn0 (ef0 p1 p2) ?_
  intro p e s m below meth c T0 D A F X0 hx hZ hby hml hown hnm hrt hlk e0
  refine A (XS.bipush X0.here hx rfl (hb hby at_0)) ?_
  show D (T0.setTop (mkF m 2 #[.val (.int p1), .val (.long p2), .second, .unset, .unset, .unset, .unset, .unset, .unset, .unset, .unset, .unset, .unset] [(.int (30 : Int32))]))
  refine Adv.newJ A X0 hx hZ (hw _ (List.mem_of_getElem? (i := 0) rfl)) e0 (n := 30) (by decide) 30 (by decide) (by decide) (by decide) (by decide) (g := (mkF m 2 #[.val (.int p1), .val (.long p2), .second, .unset, .unset, .unset, .unset, .unset, .unset, .unset, .unset, .unset, .unset] [(.int (30 : Int32))])) rfl rfl (hb hby at_2) ?_
  intro T1 h1 b1 q_b1 X1 e1 E1 V_b1
  have g_b1 : n0 ≤ b1 := Nat.le_trans Z0 (Nat.le_of_eq q_b1.symm)
  have Z_1 : n0 ≤ h1.size := Nat.le_trans Z0 E1.1
  show D (T1.setTop (mkF m 4 #[.val (.int p1), .val (.long p2), .second, .unset, .unset, .unset, .unset, .unset, .unset, .unset, .unset, .unset, .unset] [(.ref b1)]))
  refine A (XS.dup X1.here hx rfl (hb hby at_4) rfl rfl) ?_
  show D (T1.setTop (mkF m 5 #[.val (.int p1), .val (.long p2), .second, .unset, .unset, .unset, .unset, .unset, .unset, .unset, .unset, .unset, .unset] [(.ref b1), (.ref b1)]))
  refine A (XS.iconst X1.here hx rfl (hb hby at_5)) ?_
  show D (T1.setTop (mkF m 6 #[.val (.int p1), .val (.long p2), .second, .unset, .unset, .unset, .unset, .unset, .unset, .unset, .unset, .unset, .unset] [(.int (0 : Int32)), (.ref b1), (.ref b1)]))
  refine A (X1.ldc2Long hx hown (mvT hZ (hw _ (List.mem_of_getElem? (i := 1) rfl))) (g := (mkF m 6 #[.val (.int p1), .val (.long p2), .second, .unset, .unset, .unset, .unset, .unset, .unset, .unset, .unset, .unset, .unset] [(.int (0 : Int32)), (.ref b1), (.ref b1)])) rfl (hb hby at_6) _) ?_
  show D (T1.setTop (mkF m 9 #[.val (.int p1), .val (.long p2), .second, .unset, .unset, .unset, .unset, .unset, .unset, .unset, .unset, .unset, .unset] [(.long (-2147483648 : Int64)), (.int (0 : Int32)), (.ref b1), (.ref b1)]))
  refine Adv.stJ A X1 hx hZ e1 V_b1 (k := 0) (by decide) (by decide) (g := (mkF m 9 #[.val (.int p1), .val (.long p2), .second, .unset, .unset, .unset, .unset, .unset, .unset, .unset, .unset, .unset, .unset] [(.long (-2147483648 : Int64)), (.int (0 : Int32)), (.ref b1), (.ref b1)])) rfl rfl (hb hby at_9) ?_
  intro T2 h2 X2 e2 W2 Vb1_2
  have N2 := Fr.snoc X2 (Fr.nil n0) g_b1
  have Z_2 : n0 ≤ h2.size := Nat.le_trans Z_1 (Nat.le_of_eq W2.size.symm)
  show D (T2.setTop (mkF m 10 #[.val (.int p1), .val (.long p2), .second, .unset, .unset, .unset, .unset, .unset, .unset, .unset, .unset, .unset, .unset] [(.ref b1)]))
  have Vg1 : ArJ Z h2 b1 30 own_g1 := Vb1_2
  refine A (XS.dup X2.here hx rfl (hb hby at_10) rfl rfl) ?_
  show D (T2.setTop (mkF m 11 #[.val (.int p1), .val (.long p2), .second, .unset, .unset, .unset, .unset, .unset, .unset, .unset, .unset, .unset, .unset] [(.ref b1), (.ref b1)]))
  refine A (XS.iconst X2.here hx rfl (hb hby at_11)) ?_
  show D (T2.setTop (mkF m 12 #[.val (.int p1), .val (.long p2), .second, .unset, .unset, .unset, .unset, .unset, .unset, .unset, .unset, .unset, .unset] [(.int (1 : Int32)), (.ref b1), (.ref b1)]))
  refine A (X2.ldc2Long hx hown (mvT hZ (hw _ (List.mem_of_getElem? (i := 2) rfl))) (g := (mkF m 12 #[.val (.int p1), .val (.long p2), .second, .unset, .unset, .unset, .unset, .unset, .unset, .unset, .unset, .unset, .unset] [(.int (1 : Int32)), (.ref b1), (.ref b1)])) rfl (hb hby at_12) _) ?_
  show D (T2.setTop (mkF m 15 #[.val (.int p1), .val (.long p2), .second, .unset, .unset, .unset, .unset, .unset, .unset, .unset, .unset, .unset, .unset] [(.long (65 : Int64)), (.int (1 : Int32)), (.ref b1), (.ref b1)]))
  refine Adv.stJ A X2 hx hZ e2 Vg1 (k := 1) (by decide) (by decide) (g := (mkF m 15 #[.val (.int p1), .val (.long p2), .second, .unset, .unset, .unset, .unset, .unset, .unset, .unset, .unset, .unset, .unset] [(.long (65 : Int64)), (.int (1 : Int32)), (.ref b1), (.ref b1)])) rfl rfl (hb hby at_15) ?_
  intro T3 h3 X3 e3 W3 Vb1_3
  have N3 := Fr.snoc X3 N2 g_b1
  have Z_3 : n0 ≤ h3.size := Nat.le_trans Z_2 (Nat.le_of_eq W3.size.symm)
  show D (T3.setTop (mkF m 16 #[.val (.int p1), .val (.long p2), .second, .unset, .unset, .unset, .unset, .unset, .unset, .unset, .unset, .unset, .unset] [(.ref b1)]))
  have Vg2 : ArJ Z h3 b1 30 own_g2 := Vb1_3
  refine A (XS.dup X3.here hx rfl (hb hby at_16) rfl rfl) ?_
  show D (T3.setTop (mkF m 17 #[.val (.int p1), .val (.long p2), .second, .unset, .unset, .unset, .unset, .unset, .unset, .unset, .unset, .unset, .unset] [(.ref b1), (.ref b1)]))
  refine A (XS.iconst X3.here hx rfl (hb hby at_17)) ?_
  show D (T3.setTop (mkF m 18 #[.val (.int p1), .val (.long p2), .second, .unset, .unset, .unset, .unset, .unset, .unset, .unset, .unset, .unset, .unset] [(.int (2 : Int32)), (.ref b1), (.ref b1)]))
  refine A (X3.ldc2Long hx hown (mvT hZ (hw _ (List.mem_of_getElem? (i := 3) rfl))) (g := (mkF m 18 #[.val (.int p1), .val (.long p2), .second, .unset, .unset, .unset, .unset, .unset, .unset, .unset, .unset, .unset, .unset] [(.int (2 : Int32)), (.ref b1), (.ref b1)])) rfl (hb hby at_18) _) ?_
  show D (T3.setTop (mkF m 21 #[.val (.int p1), .val (.long p2), .second, .unset, .unset, .unset, .unset, .unset, .unset, .unset, .unset, .unset, .unset] [(.long (91 : Int64)), (.int (2 : Int32)), (.ref b1), (.ref b1)]))
  refine Adv.stJ A X3 hx hZ e3 Vg2 (k := 2) (by decide) (by decide) (g := (mkF m 21 #[.val (.int p1), .val (.long p2), .second, .unset, .unset, .unset, .unset, .unset, .unset, .unset, .unset, .unset, .unset] [(.long (91 : Int64)), (.int (2 : Int32)), (.ref b1), (.ref b1)])) rfl rfl (hb hby at_21) ?_
  intro T4 h4 X4 e4 W4 Vb1_4
  have N4 := Fr.snoc X4 N3 g_b1
  have Z_4 : n0 ≤ h4.size := Nat.le_trans Z_3 (Nat.le_of_eq W4.size.symm)
  show D (T4.setTop (mkF m 22 #[.val (.int p1), .val (.long p2), .second, .unset, .unset, .unset, .unset, .unset, .unset, .unset, .unset, .unset, .unset] [(.ref b1)]))
  have Vg3 : ArJ Z h4 b1 30 own_g3 := Vb1_4
  refine A (XS.dup X4.here hx rfl (hb hby at_22) rfl rfl) ?_
  show D (T4.setTop (mkF m 23 #[.val (.int p1), .val (.long p2), .second, .unset, .unset, .unset, .unset, .unset, .unset, .unset, .unset, .unset, .unset] [(.ref b1), (.ref b1)]))
  refine A (XS.iconst X4.here hx rfl (hb hby at_23)) ?_
  show D (T4.setTop (mkF m 24 #[.val (.int p1), .val (.long p2), .second, .unset, .unset, .unset, .unset, .unset, .unset, .unset, .unset, .unset, .unset] [(.int (3 : Int32)), (.ref b1), (.ref b1)]))
  refine A (X4.ldc2Long hx hown (mvT hZ (hw _ (List.mem_of_getElem? (i := 4) rfl))) (g := (mkF m 24 #[.val (.int p1), .val (.long p2), .second, .unset, .unset, .unset, .unset, .unset, .unset, .unset, .unset, .unset, .unset] [(.int (3 : Int32)), (.ref b1), (.ref b1)])) rfl (hb hby at_24) _) ?_
  show D (T4.setTop (mkF m 27 #[.val (.int p1), .val (.long p2), .second, .unset, .unset, .unset, .unset, .unset, .unset, .unset, .unset, .unset, .unset] [(.long (97 : Int64)), (.int (3 : Int32)), (.ref b1), (.ref b1)]))
  refine Adv.stJ A X4 hx hZ e4 Vg3 (k := 3) (by decide) (by decide) (g := (mkF m 27 #[.val (.int p1), .val (.long p2), .second, .unset, .unset, .unset, .unset, .unset, .unset, .unset, .unset, .unset, .unset] [(.long (97 : Int64)), (.int (3 : Int32)), (.ref b1), (.ref b1)])) rfl rfl (hb hby at_27) ?_
  intro T5 h5 X5 e5 W5 Vb1_5
  have N5 := Fr.snoc X5 N4 g_b1
  have Z_5 : n0 ≤ h5.size := Nat.le_trans Z_4 (Nat.le_of_eq W5.size.symm)
  show D (T5.setTop (mkF m 28 #[.val (.int p1), .val (.long p2), .second, .unset, .unset, .unset, .unset, .unset, .unset, .unset, .unset, .unset, .unset] [(.ref b1)]))
  have Vg4 : ArJ Z h5 b1 30 own_g4 := Vb1_5
  refine A (XS.dup X5.here hx rfl (hb hby at_28) rfl rfl) ?_
  show D (T5.setTop (mkF m 29 #[.val (.int p1), .val (.long p2), .second, .unset, .unset, .unset, .unset, .unset, .unset, .unset, .unset, .unset, .unset] [(.ref b1), (.ref b1)]))
  refine A (XS.iconst X5.here hx rfl (hb hby at_29)) ?_
  show D (T5.setTop (mkF m 30 #[.val (.int p1), .val (.long p2), .second, .unset, .unset, .unset, .unset, .unset, .unset, .unset, .unset, .unset, .unset] [(.int (4 : Int32)), (.ref b1), (.ref b1)]))
  refine A (X5.ldc2Long hx hown (mvT hZ (hw _ (List.mem_of_getElem? (i := 5) rfl))) (g := (mkF m 30 #[.val (.int p1), .val (.long p2), .second, .unset, .unset, .unset, .unset, .unset, .unset, .unset, .unset, .unset, .unset] [(.int (4 : Int32)), (.ref b1), (.ref b1)])) rfl (hb hby at_30) _) ?_
  show D (T5.setTop (mkF m 33 #[.val (.int p1), .val (.long p2), .second, .unset, .unset, .unset, .unset, .unset, .unset, .unset, .unset, .unset, .unset] [(.long (123 : Int64)), (.int (4 : Int32)), (.ref b1), (.ref b1)]))
  refine Adv.stJ A X5 hx hZ e5 Vg4 (k := 4) (by decide) (by decide) (g := (mkF m 33 #[.val (.int p1), .val (.long p2), .second, .unset, .unset, .unset, .unset, .unset, .unset, .unset, .unset, .unset, .unset] [(.long (123 : Int64)), (.int (4 : Int32)), (.ref b1), (.ref b1)])) rfl rfl (hb hby at_33) ?_
  intro T6 h6 X6 e6 W6 Vb1_6
  have N6 := Fr.snoc X6 N5 g_b1
  have Z_6 : n0 ≤ h6.size := Nat.le_trans Z_5 (Nat.le_of_eq W6.size.symm)
  show D (T6.setTop (mkF m 34 #[.val (.int p1), .val (.long p2), .second, .unset, .unset, .unset, .unset, .unset, .unset, .unset, .unset, .unset, .unset] [(.ref b1)]))
  have Vg5 : ArJ Z h6 b1 30 own_g5 := Vb1_6
  refine A (XS.dup X6.here hx rfl (hb hby at_34) rfl rfl) ?_
  show D (T6.setTop (mkF m 35 #[.val (.int p1), .val (.long p2), .second, .unset, .unset, .unset, .unset, .unset, .unset, .unset, .unset, .unset, .unset] [(.ref b1), (.ref b1)]))
  refine A (XS.iconst X6.here hx rfl (hb hby at_35)) ?_
  show D (T6.setTop (mkF m 36 #[.val (.int p1), .val (.long p2), .second, .unset, .unset, .unset, .unset, .unset, .unset, .unset, .unset, .unset, .unset] [(.int (5 : Int32)), (.ref b1), (.ref b1)]))
  refine A (X6.ldc2Long hx hown (mvT hZ (hw _ (List.mem_of_getElem? (i := 6) rfl))) (g := (mkF m 36 #[.val (.int p1), .val (.long p2), .second, .unset, .unset, .unset, .unset, .unset, .unset, .unset, .unset, .unset, .unset] [(.int (5 : Int32)), (.ref b1), (.ref b1)])) rfl (hb hby at_36) _) ?_
  show D (T6.setTop (mkF m 39 #[.val (.int p1), .val (.long p2), .second, .unset, .unset, .unset, .unset, .unset, .unset, .unset, .unset, .unset, .unset] [(.long (192 : Int64)), (.int (5 : Int32)), (.ref b1), (.ref b1)]))
  refine Adv.stJ A X6 hx hZ e6 Vg5 (k := 5) (by decide) (by decide) (g := (mkF m 39 #[.val (.int p1), .val (.long p2), .second, .unset, .unset, .unset, .unset, .unset, .unset, .unset, .unset, .unset, .unset] [(.long (192 : Int64)), (.int (5 : Int32)), (.ref b1), (.ref b1)])) rfl rfl (hb hby at_39) ?_
  intro T7 h7 X7 e7 W7 Vb1_7
  have N7 := Fr.snoc X7 N6 g_b1
  have Z_7 : n0 ≤ h7.size := Nat.le_trans Z_6 (Nat.le_of_eq W7.size.symm)
  show D (T7.setTop (mkF m 40 #[.val (.int p1), .val (.long p2), .second, .unset, .unset, .unset, .unset, .unset, .unset, .unset, .unset, .unset, .unset] [(.ref b1)]))
  have Vg6 : ArJ Z h7 b1 30 own_g6 := Vb1_7
  refine A (XS.dup X7.here hx rfl (hb hby at_40) rfl rfl) ?_
  show D (T7.setTop (mkF m 41 #[.val (.int p1), .val (.long p2), .second, .unset, .unset, .unset, .unset, .unset, .unset, .unset, .unset, .unset, .unset] [(.ref b1), (.ref b1)]))
  refine A (XS.bipush X7.here hx rfl (hb hby at_41)) ?_
  show D (T7.setTop (mkF m 43 #[.val (.int p1), .val (.long p2), .second, .unset, .unset, .unset, .unset, .unset, .unset, .unset, .unset, .unset, .unset] [(.int (6 : Int32)), (.ref b1), (.ref b1)]))
  refine A (X7.ldc2Long hx hown (mvT hZ (hw _ (List.mem_of_getElem? (i := 7) rfl))) (g := (mkF m 43 #[.val (.int p1), .val (.long p2), .second, .unset, .unset, .unset, .unset, .unset, .unset, .unset, .unset, .unset, .unset] [(.int (6 : Int32)), (.ref b1), (.ref b1)])) rfl (hb hby at_43) _) ?_
  show D (T7.setTop (mkF m 46 #[.val (.int p1), .val (.long p2), .second, .unset, .unset, .unset, .unset, .unset, .unset, .unset, .unset, .unset, .unset] [(.long (215 : Int64)), (.int (6 : Int32)), (.ref b1), (.ref b1)]))
  refine Adv.stJ A X7 hx hZ e7 Vg6 (k := 6) (by decide) (by decide) (g := (mkF m 46 #[.val (.int p1), .val (.long p2), .second, .unset, .unset, .unset, .unset, .unset, .unset, .unset, .unset, .unset, .unset] [(.long (215 : Int64)), (.int (6 : Int32)), (.ref b1), (.ref b1)])) rfl rfl (hb hby at_46) ?_
  intro T8 h8 X8 e8 W8 Vb1_8
  have N8 := Fr.snoc X8 N7 g_b1
  have Z_8 : n0 ≤ h8.size := Nat.le_trans Z_7 (Nat.le_of_eq W8.size.symm)
  show D (T8.setTop (mkF m 47 #[.val (.int p1), .val (.long p2), .second, .unset, .unset, .unset, .unset, .unset, .unset, .unset, .unset, .unset, .unset] [(.ref b1)]))
  have Vg7 : ArJ Z h8 b1 30 own_g7 := Vb1_8
  refine A (XS.dup X8.here hx rfl (hb hby at_47) rfl rfl) ?_
  show D (T8.setTop (mkF m 48 #[.val (.int p1), .val (.long p2), .second, .unset, .unset, .unset, .unset, .unset, .unset, .unset, .unset, .unset, .unset] [(.ref b1), (.ref b1)]))
  refine A (XS.bipush X8.here hx rfl (hb hby at_48)) ?_
  show D (T8.setTop (mkF m 50 #[.val (.int p1), .val (.long p2), .second, .unset, .unset, .unset, .unset, .unset, .unset, .unset, .unset, .unset, .unset] [(.int (7 : Int32)), (.ref b1), (.ref b1)]))
  refine A (X8.ldc2Long hx hown (mvT hZ (hw _ (List.mem_of_getElem? (i := 8) rfl))) (g := (mkF m 50 #[.val (.int p1), .val (.long p2), .second, .unset, .unset, .unset, .unset, .unset, .unset, .unset, .unset, .unset, .unset] [(.int (7 : Int32)), (.ref b1), (.ref b1)])) rfl (hb hby at_50) _) ?_
  show D (T8.setTop (mkF m 53 #[.val (.int p1), .val (.long p2), .second, .unset, .unset, .unset, .unset, .unset, .unset, .unset, .unset, .unset, .unset] [(.long (216 : Int64)), (.int (7 : Int32)), (.ref b1), (.ref b1)]))
  refine Adv.stJ A X8 hx hZ e8 Vg7 (k := 7) (by decide) (by decide) (g := (mkF m 53 #[.val (.int p1), .val (.long p2), .second, .unset, .unset, .unset, .unset, .unset, .unset, .unset, .unset, .unset, .unset] [(.long (216 : Int64)), (.int (7 : Int32)), (.ref b1), (.ref b1)])) rfl rfl (hb hby at_53) ?_
  intro T9 h9 X9 e9 W9 Vb1_9
  have N9 := Fr.snoc X9 N8 g_b1
  have Z_9 : n0 ≤ h9.size := Nat.le_trans Z_8 (Nat.le_of_eq W9.size.symm)
  show D (T9.setTop (mkF m 54 #[.val (.int p1), .val (.long p2), .second, .unset, .unset, .unset, .unset, .unset, .unset, .unset, .unset, .unset, .unset] [(.ref b1)]))
  have Vg8 : ArJ Z h9 b1 30 own_g8 := Vb1_9
  refine A (XS.dup X9.here hx rfl (hb hby at_54) rfl rfl) ?_
  show D (T9.setTop (mkF m 55 #[.val (.int p1), .val (.long p2), .second, .unset, .unset, .unset, .unset, .unset, .unset, .unset, .unset, .unset, .unset] [(.ref b1), (.ref b1)]))
  refine A (XS.bipush X9.here hx rfl (hb hby at_55)) ?_
  show D (T9.setTop (mkF m 57 #[.val (.int p1), .val (.long p2), .second, .unset, .unset, .unset, .unset, .unset, .unset, .unset, .unset, .unset, .unset] [(.int (8 : Int32)), (.ref b1), (.ref b1)]))
  refine A (X9.ldc2Long hx hown (mvT hZ (hw _ (List.mem_of_getElem? (i := 9) rfl))) (g := (mkF m 57 #[.val (.int p1), .val (.long p2), .second, .unset, .unset, .unset, .unset, .unset, .unset, .unset, .unset, .unset, .unset] [(.int (8 : Int32)), (.ref b1), (.ref b1)])) rfl (hb hby at_57) _) ?_
  show D (T9.setTop (mkF m 60 #[.val (.int p1), .val (.long p2), .second, .unset, .unset, .unset, .unset, .unset, .unset, .unset, .unset, .unset, .unset] [(.long (247 : Int64)), (.int (8 : Int32)), (.ref b1), (.ref b1)]))
  refine Adv.stJ A X9 hx hZ e9 Vg8 (k := 8) (by decide) (by decide) (g := (mkF m 60 #[.val (.int p1), .val (.long p2), .second, .unset, .unset, .unset, .unset, .unset, .unset, .unset, .unset, .unset, .unset] [(.long (247 : Int64)), (.int (8 : Int32)), (.ref b1), (.ref b1)])) rfl rfl (hb hby at_60) ?_
  intro T10 h10 X10 e10 W10 Vb1_10
  have N10 := Fr.snoc X10 N9 g_b1
  have Z_10 : n0 ≤ h10.size := Nat.le_trans Z_9 (Nat.le_of_eq W10.size.symm)
  show D (T10.setTop (mkF m 61 #[.val (.int p1), .val (.long p2), .second, .unset, .unset, .unset, .unset, .unset, .unset, .unset, .unset, .unset, .unset] [(.ref b1)]))
  have Vg9 : ArJ Z h10 b1 30 own_g9 := Vb1_10
  refine A (XS.dup X10.here hx rfl (hb hby at_61) rfl rfl) ?_
  show D (T10.setTop (mkF m 62 #[.val (.int p1), .val (.long p2), .second, .unset, .unset, .unset, .unset, .unset, .unset, .unset, .unset, .unset, .unset] [(.ref b1), (.ref b1)]))
  refine A (XS.bipush X10.here hx rfl (hb hby at_62)) ?_
  show D (T10.setTop (mkF m 64 #[.val (.int p1), .val (.long p2), .second, .unset, .unset, .unset, .unset, .unset, .unset, .unset, .unset, .unset, .unset] [(.int (9 : Int32)), (.ref b1), (.ref b1)]))
  refine A (X10.ldc2Long hx hown (mvT hZ (hw _ (List.mem_of_getElem? (i := 10) rfl))) (g := (mkF m 64 #[.val (.int p1), .val (.long p2), .second, .unset, .unset, .unset, .unset, .unset, .unset, .unset, .unset, .unset, .unset] [(.int (9 : Int32)), (.ref b1), (.ref b1)])) rfl (hb hby at_64) _) ?_
  show D (T10.setTop (mkF m 67 #[.val (.int p1), .val (.long p2), .second, .unset, .unset, .unset, .unset, .unset, .unset, .unset, .unset, .unset, .unset] [(.long (248 : Int64)), (.int (9 : Int32)), (.ref b1), (.ref b1)]))
  refine Adv.stJ A X10 hx hZ e10 Vg9 (k := 9) (by decide) (by decide) (g := (mkF m 67 #[.val (.int p1), .val (.long p2), .second, .unset, .unset, .unset, .unset, .unset, .unset, .unset, .unset, .unset, .unset] [(.long (248 : Int64)), (.int (9 : Int32)), (.ref b1), (.ref b1)])) rfl rfl (hb hby at_67) ?_
  intro T11 h11 X11 e11 W11 Vb1_11
  have N11 := Fr.snoc X11 N10 g_b1
  have Z_11 : n0 ≤ h11.size := Nat.le_trans Z_10 (Nat.le_of_eq W11.size.symm)
  show D (T11.setTop (mkF m 68 #[.val (.int p1), .val (.long p2), .second, .unset, .unset, .unset, .unset, .unset, .unset, .unset, .unset, .unset, .unset] [(.ref b1)]))
  have Vg10 : ArJ Z h11 b1 30 own_g10 := Vb1_11
  refine A (XS.dup X11.here hx rfl (hb hby at_68) rfl rfl) ?_
  show D (T11.setTop (mkF m 69 #[.val (.int p1), .val (.long p2), .second, .unset, .unset, .unset, .unset, .unset, .unset, .unset, .unset, .unset, .unset] [(.ref b1), (.ref b1)]))
  refine A (XS.bipush X11.here hx rfl (hb hby at_69)) ?_
  show D (T11.setTop (mkF m 71 #[.val (.int p1), .val (.long p2), .second, .unset, .unset, .unset, .unset, .unset, .unset, .unset, .unset, .unset, .unset] [(.int (10 : Int32)), (.ref b1), (.ref b1)]))
  refine A (X11.ldc2Long hx hown (mvT hZ (hw _ (List.mem_of_getElem? (i := 11) rfl))) (g := (mkF m 71 #[.val (.int p1), .val (.long p2), .second, .unset, .unset, .unset, .unset, .unset, .unset, .unset, .unset, .unset, .unset] [(.int (10 : Int32)), (.ref b1), (.ref b1)])) rfl (hb hby at_71) _) ?_
  show D (T11.setTop (mkF m 74 #[.val (.int p1), .val (.long p2), .second, .unset, .unset, .unset, .unset, .unset, .unset, .unset, .unset, .unset, .unset] [(.long (768 : Int64)), (.int (10 : Int32)), (.ref b1), (.ref b1)]))
  refine Adv.stJ A X11 hx hZ e11 Vg10 (k := 10) (by decide) (by decide) (g := (mkF m 74 #[.val (.int p1), .val (.long p2), .second, .unset, .unset, .unset, .unset, .unset, .unset, .unset, .unset, .unset, .unset] [(.long (768 : Int64)), (.int (10 : Int32)), (.ref b1), (.ref b1)])) rfl rfl (hb hby at_74) ?_
  intro T12 h12 X12 e12 W12 Vb1_12
  have N12 := Fr.snoc X12 N11 g_b1
  have Z_12 : n0 ≤ h12.size := Nat.le_trans Z_11 (Nat.le_of_eq W12.size.symm)
  show D (T12.setTop (mkF m 75 #[.val (.int p1), .val (.long p2), .second, .unset, .unset, .unset, .unset, .unset, .unset, .unset, .unset, .unset, .unset] [(.ref b1)]))
  have Vg11 : ArJ Z h12 b1 30 own_g11 := Vb1_12
  refine A (XS.dup X12.here hx rfl (hb hby at_75) rfl rfl) ?_
  show D (T12.setTop (mkF m 76 #[.val (.int p1), .val (.long p2), .second, .unset, .unset, .unset, .unset, .unset, .unset, .unset, .unset, .unset, .unset] [(.ref b1), (.ref b1)]))
  refine A (XS.bipush X12.here hx rfl (hb hby at_76)) ?_
  show D (T12.setTop (mkF m 78 #[.val (.int p1), .val (.long p2), .second, .unset, .unset, .unset, .unset, .unset, .unset, .unset, .unset, .unset, .unset] [(.int (11 : Int32)), (.ref b1), (.ref b1)]))
  refine A (X12.ldc2Long hx hown (mvT hZ (hw _ (List.mem_of_getElem? (i := 12) rfl))) (g := (mkF m 78 #[.val (.int p1), .val (.long p2), .second, .unset, .unset, .unset, .unset, .unset, .unset, .unset, .unset, .unset, .unset] [(.int (11 : Int32)), (.ref b1), (.ref b1)])) rfl (hb hby at_78) _) ?_
  show D (T12.setTop (mkF m 81 #[.val (.int p1), .val (.long p2), .second, .unset, .unset, .unset, .unset, .unset, .unset, .unset, .unset, .unset, .unset] [(.long (880 : Int64)), (.int (11 : Int32)), (.ref b1), (.ref b1)]))
  refine Adv.stJ A X12 hx hZ e12 Vg11 (k := 11) (by decide) (by decide) (g := (mkF m 81 #[.val (.int p1), .val (.long p2), .second, .unset, .unset, .unset, .unset, .unset, .unset, .unset, .unset, .unset, .unset] [(.long (880 : Int64)), (.int (11 : Int32)), (.ref b1), (.ref b1)])) rfl rfl (hb hby at_81) ?_
  intro T13 h13 X13 e13 W13 Vb1_13
  have N13 := Fr.snoc X13 N12 g_b1
  have Z_13 : n0 ≤ h13.size := Nat.le_trans Z_12 (Nat.le_of_eq W13.size.symm)
  show D (T13.setTop (mkF m 82 #[.val (.int p1), .val (.long p2), .second, .unset, .unset, .unset, .unset, .unset, .unset, .unset, .unset, .unset, .unset] [(.ref b1)]))
  have Vg12 : ArJ Z h13 b1 30 own_g12 := Vb1_13
  refine A (XS.dup X13.here hx rfl (hb hby at_82) rfl rfl) ?_
  show D (T13.setTop (mkF m 83 #[.val (.int p1), .val (.long p2), .second, .unset, .unset, .unset, .unset, .unset, .unset, .unset, .unset, .unset, .unset] [(.ref b1), (.ref b1)]))
  refine A (XS.bipush X13.here hx rfl (hb hby at_83)) ?_
  show D (T13.setTop (mkF m 85 #[.val (.int p1), .val (.long p2), .second, .unset, .unset, .unset, .unset, .unset, .unset, .unset, .unset, .unset, .unset] [(.int (12 : Int32)), (.ref b1), (.ref b1)]))
  refine A (X13.ldc2Long hx hown (mvT hZ (hw _ (List.mem_of_getElem? (i := 13) rfl))) (g := (mkF m 85 #[.val (.int p1), .val (.long p2), .second, .unset, .unset, .unset, .unset, .unset, .unset, .unset, .unset, .unset, .unset] [(.int (12 : Int32)), (.ref b1), (.ref b1)])) rfl (hb hby at_85) _) ?_
  show D (T13.setTop (mkF m 88 #[.val (.int p1), .val (.long p2), .second, .unset, .unset, .unset, .unset, .unset, .unset, .unset, .unset, .unset, .unset] [(.long (894 : Int64)), (.int (12 : Int32)), (.ref b1), (.ref b1)]))
  refine Adv.stJ A X13 hx hZ e13 Vg12 (k := 12) (by decide) (by decide) (g := (mkF m 88 #[.val (.int p1), .val (.long p2), .second, .unset, .unset, .unset, .unset, .unset, .unset, .unset, .unset, .unset, .unset] [(.long (894 : Int64)), (.int (12 : Int32)), (.ref b1), (.ref b1)])) rfl rfl (hb hby at_88) ?_
  intro T14 h14 X14 e14 W14 Vb1_14
  have N14 := Fr.snoc X14 N13 g_b1
  have Z_14 : n0 ≤ h14.size := Nat.le_trans Z_13 (Nat.le_of_eq W14.size.symm)
  show D (T14.setTop (mkF m 89 #[.val (.int p1), .val (.long p2), .second, .unset, .unset, .unset, .unset, .unset, .unset, .unset, .unset, .unset, .unset] [(.ref b1)]))
  have Vg13 : ArJ Z h14 b1 30 own_g13 := Vb1_14
  refine A (XS.dup X14.here hx rfl (hb hby at_89) rfl rfl) ?_
  show D (T14.setTop (mkF m 90 #[.val (.int p1), .val (.long p2), .second, .unset, .unset, .unset, .unset, .unset, .unset, .unset, .unset, .unset, .unset] [(.ref b1), (.ref b1)]))
  refine A (XS.bipush X14.here hx rfl (hb hby at_90)) ?_
  show D (T14.setTop (mkF m 92 #[.val (.int p1), .val (.long p2), .second, .unset, .unset, .unset, .unset, .unset, .unset, .unset, .unset, .unset, .unset] [(.int (13 : Int32)), (.ref b1), (.ref b1)]))
  refine A (X14.ldc2Long hx hown (mvT hZ (hw _ (List.mem_of_getElem? (i := 14) rfl))) (g := (mkF m 92 #[.val (.int p1), .val (.long p2), .second, .unset, .unset, .unset, .unset, .unset, .unset, .unset, .unset, .unset, .unset] [(.int (13 : Int32)), (.ref b1), (.ref b1)])) rfl (hb hby at_92) _) ?_
  show D (T14.setTop (mkF m 95 #[.val (.int p1), .val (.long p2), .second, .unset, .unset, .unset, .unset, .unset, .unset, .unset, .unset, .unset, .unset] [(.long (895 : Int64)), (.int (13 : Int32)), (.ref b1), (.ref b1)]))
  refine Adv.stJ A X14 hx hZ e14 Vg13 (k := 13) (by decide) (by decide) (g := (mkF m 95 #[.val (.int p1), .val (.long p2), .second, .unset, .unset, .unset, .unset, .unset, .unset, .unset, .unset, .unset, .unset] [(.long (895 : Int64)), (.int (13 : Int32)), (.ref b1), (.ref b1)])) rfl rfl (hb hby at_95) ?_
  intro T15 h15 X15 e15 W15 Vb1_15
  have N15 := Fr.snoc X15 N14 g_b1
  have Z_15 : n0 ≤ h15.size := Nat.le_trans Z_14 (Nat.le_of_eq W15.size.symm)
  show D (T15.setTop (mkF m 96 #[.val (.int p1), .val (.long p2), .second, .unset, .unset, .unset, .unset, .unset, .unset, .unset, .unset, .unset, .unset] [(.ref b1)]))
  have Vg14 : ArJ Z h15 b1 30 own_g14 := Vb1_15
  refine A (XS.dup X15.here hx rfl (hb hby at_96) rfl rfl) ?_
  show D (T15.setTop (mkF m 97 #[.val (.int p1), .val (.long p2), .second, .unset, .unset, .unset, .unset, .unset, .unset, .unset, .unset, .unset, .unset] [(.ref b1), (.ref b1)]))
  refine A (XS.bipush X15.here hx rfl (hb hby at_97)) ?_
  show D (T15.setTop (mkF m 99 #[.val (.int p1), .val (.long p2), .second, .unset, .unset, .unset, .unset, .unset, .unset, .unset, .unset, .unset, .unset] [(.int (14 : Int32)), (.ref b1), (.ref b1)]))
  refine A (X15.ldc2Long hx hown (mvT hZ (hw _ (List.mem_of_getElem? (i := 15) rfl))) (g := (mkF m 99 #[.val (.int p1), .val (.long p2), .second, .unset, .unset, .unset, .unset, .unset, .unset, .unset, .unset, .unset, .unset] [(.int (14 : Int32)), (.ref b1), (.ref b1)])) rfl (hb hby at_99) _) ?_
  show D (T15.setTop (mkF m 102 #[.val (.int p1), .val (.long p2), .second, .unset, .unset, .unset, .unset, .unset, .unset, .unset, .unset, .unset, .unset] [(.long (8192 : Int64)), (.int (14 : Int32)), (.ref b1), (.ref b1)]))
  refine Adv.stJ A X15 hx hZ e15 Vg14 (k := 14) (by decide) (by decide) (g := (mkF m 102 #[.val (.int p1), .val (.long p2), .second, .unset, .unset, .unset, .unset, .unset, .unset, .unset, .unset, .unset, .unset] [(.long (8192 : Int64)), (.int (14 : Int32)), (.ref b1), (.ref b1)])) rfl rfl (hb hby at_102) ?_
  intro T16 h16 X16 e16 W16 Vb1_16
  have N16 := Fr.snoc X16 N15 g_b1
  have Z_16 : n0 ≤ h16.size := Nat.le_trans Z_15 (Nat.le_of_eq W16.size.symm)
  show D (T16.setTop (mkF m 103 #[.val (.int p1), .val (.long p2), .second, .unset, .unset, .unset, .unset, .unset, .unset, .unset, .unset, .unset, .unset] [(.ref b1)]))
  have Vg15 : ArJ Z h16 b1 30 own_g15 := Vb1_16
  refine A (XS.dup X16.here hx rfl (hb hby at_103) rfl rfl) ?_
  show D (T16.setTop (mkF m 104 #[.val (.int p1), .val (.long p2), .second, .unset, .unset, .unset, .unset, .unset, .unset, .unset, .unset, .unset, .unset] [(.ref b1), (.ref b1)]))
  refine A (XS.bipush X16.here hx rfl (hb hby at_104)) ?_
  show D (T16.setTop (mkF m 106 #[.val (.int p1), .val (.long p2), .second, .unset, .unset, .unset, .unset, .unset, .unset, .unset, .unset, .unset, .unset] [(.int (15 : Int32)), (.ref b1), (.ref b1)]))
  refine A (X16.ldc2Long hx hown (mvT hZ (hw _ (List.mem_of_getElem? (i := 16) rfl))) (g := (mkF m 106 #[.val (.int p1), .val (.long p2), .second, .unset, .unset, .unset, .unset, .unset, .unset, .unset, .unset, .unset, .unset] [(.int (15 : Int32)), (.ref b1), (.ref b1)])) rfl (hb hby at_106) _) ?_
  show D (T16.setTop (mkF m 109 #[.val (.int p1), .val (.long p2), .second, .unset, .unset, .unset, .unset, .unset, .unset, .unset, .unset, .unset, .unset] [(.long (8204 : Int64)), (.int (15 : Int32)), (.ref b1), (.ref b1)]))
  refine Adv.stJ A X16 hx hZ e16 Vg15 (k := 15) (by decide) (by decide) (g := (mkF m 109 #[.val (.int p1), .val (.long p2), .second, .unset, .unset, .unset, .unset, .unset, .unset, .unset, .unset, .unset, .unset] [(.long (8204 : Int64)), (.int (15 : Int32)), (.ref b1), (.ref b1)])) rfl rfl (hb hby at_109) ?_
  intro T17 h17 X17 e17 W17 Vb1_17
  have N17 := Fr.snoc X17 N16 g_b1
  have Z_17 : n0 ≤ h17.size := Nat.le_trans Z_16 (Nat.le_of_eq W17.size.symm)
  show D (T17.setTop (mkF m 110 #[.val (.int p1), .val (.long p2), .second, .unset, .unset, .unset, .unset, .unset, .unset, .unset, .unset, .unset, .unset] [(.ref b1)]))
  have Vg16 : ArJ Z h17 b1 30 own_g16 := Vb1_17
  refine A (XS.dup X17.here hx rfl (hb hby at_110) rfl rfl) ?_
  show D (T17.setTop (mkF m 111 #[.val (.int p1), .val (.long p2), .second, .unset, .unset, .unset, .unset, .unset, .unset, .unset, .unset, .unset, .unset] [(.ref b1), (.ref b1)]))
  refine A (XS.bipush X17.here hx rfl (hb hby at_111)) ?_
  show D (T17.setTop (mkF m 113 #[.val (.int p1), .val (.long p2), .second, .unset, .unset, .unset, .unset, .unset, .unset, .unset, .unset, .unset, .unset] [(.int (16 : Int32)), (.ref b1), (.ref b1)]))
  refine A (X17.ldc2Long hx hown (mvT hZ (hw _ (List.mem_of_getElem? (i := 17) rfl))) (g := (mkF m 113 #[.val (.int p1), .val (.long p2), .second, .unset, .unset, .unset, .unset, .unset, .unset, .unset, .unset, .unset, .unset] [(.int (16 : Int32)), (.ref b1), (.ref b1)])) rfl (hb hby at_113) _) ?_
  show D (T17.setTop (mkF m 116 #[.val (.int p1), .val (.long p2), .second, .unset, .unset, .unset, .unset, .unset, .unset, .unset, .unset, .unset, .unset] [(.long (8206 : Int64)), (.int (16 : Int32)), (.ref b1), (.ref b1)]))
  refine Adv.stJ A X17 hx hZ e17 Vg16 (k := 16) (by decide) (by decide) (g := (mkF m 116 #[.val (.int p1), .val (.long p2), .second, .unset, .unset, .unset, .unset, .unset, .unset, .unset, .unset, .unset, .unset] [(.long (8206 : Int64)), (.int (16 : Int32)), (.ref b1), (.ref b1)])) rfl rfl (hb hby at_116) ?_
  intro T18 h18 X18 e18 W18 Vb1_18
  have N18 := Fr.snoc X18 N17 g_b1
  have Z_18 : n0 ≤ h18.size := Nat.le_trans Z_17 (Nat.le_of_eq W18.size.symm)
  show D (T18.setTop (mkF m 117 #[.val (.int p1), .val (.long p2), .second, .unset, .unset, .unset, .unset, .unset, .unset, .unset, .unset, .unset, .unset] [(.ref b1)]))
  have Vg17 : ArJ Z h18 b1 30 own_g17 := Vb1_18
  refine A (XS.dup X18.here hx rfl (hb hby at_117) rfl rfl) ?_
  show D (T18.setTop (mkF m 118 #[.val (.int p1), .val (.long p2), .second, .unset, .unset, .unset, .unset, .unset, .unset, .unset, .unset, .unset, .unset] [(.ref b1), (.ref b1)]))
  refine A (XS.bipush X18.here hx rfl (hb hby at_118)) ?_
  show D (T18.setTop (mkF m 120 #[.val (.int p1), .val (.long p2), .second, .unset, .unset, .unset, .unset, .unset, .unset, .unset, .unset, .unset, .unset] [(.int (17 : Int32)), (.ref b1), (.ref b1)]))
  refine A (X18.ldc2Long hx hown (mvT hZ (hw _ (List.mem_of_getElem? (i := 18) rfl))) (g := (mkF m 120 #[.val (.int p1), .val (.long p2), .second, .unset, .unset, .unset, .unset, .unset, .unset, .unset, .unset, .unset, .unset] [(.int (17 : Int32)), (.ref b1), (.ref b1)])) rfl (hb hby at_120) _) ?_
  show D (T18.setTop (mkF m 123 #[.val (.int p1), .val (.long p2), .second, .unset, .unset, .unset, .unset, .unset, .unset, .unset, .unset, .unset, .unset] [(.long (8304 : Int64)), (.int (17 : Int32)), (.ref b1), (.ref b1)]))
  refine Adv.stJ A X18 hx hZ e18 Vg17 (k := 17) (by decide) (by decide) (g := (mkF m 123 #[.val (.int p1), .val (.long p2), .second, .unset, .unset, .unset, .unset, .unset, .unset, .unset, .unset, .unset, .unset] [(.long (8304 : Int64)), (.int (17 : Int32)), (.ref b1), (.ref b1)])) rfl rfl (hb hby at_123) ?_
  intro T19 h19 X19 e19 W19 Vb1_19
  have N19 := Fr.snoc X19 N18 g_b1
  have Z_19 : n0 ≤ h19.size := Nat.le_trans Z_18 (Nat.le_of_eq W19.size.symm)
  show D (T19.setTop (mkF m 124 #[.val (.int p1), .val (.long p2), .second, .unset, .unset, .unset, .unset, .unset, .unset, .unset, .unset, .unset, .unset] [(.ref b1)]))
  have Vg18 : ArJ Z h19 b1 30 own_g18 := Vb1_19
  refine A (XS.dup X19.here hx rfl (hb hby at_124) rfl rfl) ?_
  show D (T19.setTop (mkF m 125 #[.val (.int p1), .val (.long p2), .second, .unset, .unset, .unset, .unset, .unset, .unset, .unset, .unset, .unset, .unset] [(.ref b1), (.ref b1)]))
  refine A (XS.bipush X19.here hx rfl (hb hby at_125)) ?_
  show D (T19.setTop (mkF m 127 #[.val (.int p1), .val (.long p2), .second, .unset, .unset, .unset, .unset, .unset, .unset, .unset, .unset, .unset, .unset] [(.int (18 : Int32)), (.ref b1), (.ref b1)]))
  refine A (X19.ldc2Long hx hown (mvT hZ (hw _ (List.mem_of_getElem? (i := 19) rfl))) (g := (mkF m 127 #[.val (.int p1), .val (.long p2), .second, .unset, .unset, .unset, .unset, .unset, .unset, .unset, .unset, .unset, .unset] [(.int (18 : Int32)), (.ref b1), (.ref b1)])) rfl (hb hby at_127) _) ?_
  show D (T19.setTop (mkF m 130 #[.val (.int p1), .val (.long p2), .second, .unset, .unset, .unset, .unset, .unset, .unset, .unset, .unset, .unset, .unset] [(.long (8592 : Int64)), (.int (18 : Int32)), (.ref b1), (.ref b1)]))
  refine Adv.stJ A X19 hx hZ e19 Vg18 (k := 18) (by decide) (by decide) (g := (mkF m 130 #[.val (.int p1), .val (.long p2), .second, .unset, .unset, .unset, .unset, .unset, .unset, .unset, .unset, .unset, .unset] [(.long (8592 : Int64)), (.int (18 : Int32)), (.ref b1), (.ref b1)])) rfl rfl (hb hby at_130) ?_
  intro T20 h20 X20 e20 W20 Vb1_20
  have N20 := Fr.snoc X20 N19 g_b1
  have Z_20 : n0 ≤ h20.size := Nat.le_trans Z_19 (Nat.le_of_eq W20.size.symm)
  show D (T20.setTop (mkF m 131 #[.val (.int p1), .val (.long p2), .second, .unset, .unset, .unset, .unset, .unset, .unset, .unset, .unset, .unset, .unset] [(.ref b1)]))
  have Vg19 : ArJ Z h20 b1 30 own_g19 := Vb1_20
  refine A (XS.dup X20.here hx rfl (hb hby at_131) rfl rfl) ?_
  show D (T20.setTop (mkF m 132 #[.val (.int p1), .val (.long p2), .second, .unset, .unset, .unset, .unset, .unset, .unset, .unset, .unset, .unset, .unset] [(.ref b1), (.ref b1)]))
  refine A (XS.bipush X20.here hx rfl (hb hby at_132)) ?_
  show D (T20.setTop (mkF m 134 #[.val (.int p1), .val (.long p2), .second, .unset, .unset, .unset, .unset, .unset, .unset, .unset, .unset, .unset, .unset] [(.int (19 : Int32)), (.ref b1), (.ref b1)]))
  refine A (X20.ldc2Long hx hown (mvT hZ (hw _ (List.mem_of_getElem? (i := 20) rfl))) (g := (mkF m 134 #[.val (.int p1), .val (.long p2), .second, .unset, .unset, .unset, .unset, .unset, .unset, .unset, .unset, .unset, .unset] [(.int (19 : Int32)), (.ref b1), (.ref b1)])) rfl (hb hby at_134) _) ?_
  show D (T20.setTop (mkF m 137 #[.val (.int p1), .val (.long p2), .second, .unset, .unset, .unset, .unset, .unset, .unset, .unset, .unset, .unset, .unset] [(.long (11264 : Int64)), (.int (19 : Int32)), (.ref b1), (.ref b1)]))
  refine Adv.stJ A X20 hx hZ e20 Vg19 (k := 19) (by decide) (by decide) (g := (mkF m 137 #[.val (.int p1), .val (.long p2), .second, .unset, .unset, .unset, .unset, .unset, .unset, .unset, .unset, .unset, .unset] [(.long (11264 : Int64)), (.int (19 : Int32)), (.ref b1), (.ref b1)])) rfl rfl (hb hby at_137) ?_
  intro T21 h21 X21 e21 W21 Vb1_21
  have N21 := Fr.snoc X21 N20 g_b1
  have Z_21 : n0 ≤ h21.size := Nat.le_trans Z_20 (Nat.le_of_eq W21.size.symm)
  show D (T21.setTop (mkF m 138 #[.val (.int p1), .val (.long p2), .second, .unset, .unset, .unset, .unset, .unset, .unset, .unset, .unset, .unset, .unset] [(.ref b1)]))
  have Vg20 : ArJ Z h21 b1 30 own_g20 := Vb1_21
  refine A (XS.dup X21.here hx rfl (hb hby at_138) rfl rfl) ?_
  show D (T21.setTop (mkF m 139 #[.val (.int p1), .val (.long p2), .second, .unset, .unset, .unset, .unset, .unset, .unset, .unset, .unset, .unset, .unset] [(.ref b1), (.ref b1)]))
  refine A (XS.bipush X21.here hx rfl (hb hby at_139)) ?_
  show D (T21.setTop (mkF m 141 #[.val (.int p1), .val (.long p2), .second, .unset, .unset, .unset, .unset, .unset, .unset, .unset, .unset, .unset, .unset] [(.int (20 : Int32)), (.ref b1), (.ref b1)]))
  refine A (X21.ldc2Long hx hown (mvT hZ (hw _ (List.mem_of_getElem? (i := 21) rfl))) (g := (mkF m 141 #[.val (.int p1), .val (.long p2), .second, .unset, .unset, .unset, .unset, .unset, .unset, .unset, .unset, .unset, .unset] [(.int (20 : Int32)), (.ref b1), (.ref b1)])) rfl (hb hby at_141) _) ?_
  show D (T21.setTop (mkF m 144 #[.val (.int p1), .val (.long p2), .second, .unset, .unset, .unset, .unset, .unset, .unset, .unset, .unset, .unset, .unset] [(.long (12272 : Int64)), (.int (20 : Int32)), (.ref b1), (.ref b1)]))
  refine Adv.stJ A X21 hx hZ e21 Vg20 (k := 20) (by decide) (by decide) (g := (mkF m 144 #[.val (.int p1), .val (.long p2), .second, .unset, .unset, .unset, .unset, .unset, .unset, .unset, .unset, .unset, .unset] [(.long (12272 : Int64)), (.int (20 : Int32)), (.ref b1), (.ref b1)])) rfl rfl (hb hby at_144) ?_
  intro T22 h22 X22 e22 W22 Vb1_22
  have N22 := Fr.snoc X22 N21 g_b1
  have Z_22 : n0 ≤ h22.size := Nat.le_trans Z_21 (Nat.le_of_eq W22.size.symm)
  show D (T22.setTop (mkF m 145 #[.val (.int p1), .val (.long p2), .second, .unset, .unset, .unset, .unset, .unset, .unset, .unset, .unset, .unset, .unset] [(.ref b1)]))
  have Vg21 : ArJ Z h22 b1 30 own_g21 := Vb1_22
  refine A (XS.dup X22.here hx rfl (hb hby at_145) rfl rfl) ?_
  show D (T22.setTop (mkF m 146 #[.val (.int p1), .val (.long p2), .second, .unset, .unset, .unset, .unset, .unset, .unset, .unset, .unset, .unset, .unset] [(.ref b1), (.ref b1)]))
  refine A (XS.bipush X22.here hx rfl (hb hby at_146)) ?_
  show D (T22.setTop (mkF m 148 #[.val (.int p1), .val (.long p2), .second, .unset, .unset, .unset, .unset, .unset, .unset, .unset, .unset, .unset, .unset] [(.int (21 : Int32)), (.ref b1), (.ref b1)]))
  refine A (X22.ldc2Long hx hown (mvT hZ (hw _ (List.mem_of_getElem? (i := 22) rfl))) (g := (mkF m 148 #[.val (.int p1), .val (.long p2), .second, .unset, .unset, .unset, .unset, .unset, .unset, .unset, .unset, .unset, .unset] [(.int (21 : Int32)), (.ref b1), (.ref b1)])) rfl (hb hby at_148) _) ?_
  show D (T22.setTop (mkF m 151 #[.val (.int p1), .val (.long p2), .second, .unset, .unset, .unset, .unset, .unset, .unset, .unset, .unset, .unset, .unset] [(.long (12289 : Int64)), (.int (21 : Int32)), (.ref b1), (.ref b1)]))
  refine Adv.stJ A X22 hx hZ e22 Vg21 (k := 21) (by decide) (by decide) (g := (mkF m 151 #[.val (.int p1), .val (.long p2), .second, .unset, .unset, .unset, .unset, .unset, .unset, .unset, .unset, .unset, .unset] [(.long (12289 : Int64)), (.int (21 : Int32)), (.ref b1), (.ref b1)])) rfl rfl (hb hby at_151) ?_
  intro T23 h23 X23 e23 W23 Vb1_23
  have N23 := Fr.snoc X23 N22 g_b1
  have Z_23 : n0 ≤ h23.size := Nat.le_trans Z_22 (Nat.le_of_eq W23.size.symm)
  show D (T23.setTop (mkF m 152 #[.val (.int p1), .val (.long p2), .second, .unset, .unset, .unset, .unset, .unset, .unset, .unset, .unset, .unset, .unset] [(.ref b1)]))
  have Vg22 : ArJ Z h23 b1 30 own_g22 := Vb1_23
  refine A (XS.dup X23.here hx rfl (hb hby at_152) rfl rfl) ?_
  show D (T23.setTop (mkF m 153 #[.val (.int p1), .val (.long p2), .second, .unset, .unset, .unset, .unset, .unset, .unset, .unset, .unset, .unset, .unset] [(.ref b1), (.ref b1)]))
  refine A (XS.bipush X23.here hx rfl (hb hby at_153)) ?_
  show D (T23.setTop (mkF m 155 #[.val (.int p1), .val (.long p2), .second, .unset, .unset, .unset, .unset, .unset, .unset, .unset, .unset, .unset, .unset] [(.int (22 : Int32)), (.ref b1), (.ref b1)]))
  refine A (X23.ldc2Long hx hown (mvT hZ (hw _ (List.mem_of_getElem? (i := 23) rfl))) (g := (mkF m 155 #[.val (.int p1), .val (.long p2), .second, .unset, .unset, .unset, .unset, .unset, .unset, .unset, .unset, .unset, .unset] [(.int (22 : Int32)), (.ref b1), (.ref b1)])) rfl (hb hby at_155) _) ?_
  show D (T23.setTop (mkF m 158 #[.val (.int p1), .val (.long p2), .second, .unset, .unset, .unset, .unset, .unset, .unset, .unset, .unset, .unset, .unset] [(.long (55296 : Int64)), (.int (22 : Int32)), (.ref b1), (.ref b1)]))
  refine Adv.stJ A X23 hx hZ e23 Vg22 (k := 22) (by decide) (by decide) (g := (mkF m 158 #[.val (.int p1), .val (.long p2), .second, .unset, .unset, .unset, .unset, .unset, .unset, .unset, .unset, .unset, .unset] [(.long (55296 : Int64)), (.int (22 : Int32)), (.ref b1), (.ref b1)])) rfl rfl (hb hby at_158) ?_
  intro T24 h24 X24 e24 W24 Vb1_24
  have N24 := Fr.snoc X24 N23 g_b1
  have Z_24 : n0 ≤ h24.size := Nat.le_trans Z_23 (Nat.le_of_eq W24.size.symm)
  show D (T24.setTop (mkF m 159 #[.val (.int p1), .val (.long p2), .second, .unset, .unset, .unset, .unset, .unset, .unset, .unset, .unset, .unset, .unset] [(.ref b1)]))
  have Vg23 : ArJ Z h24 b1 30 own_g23 := Vb1_24
  refine A (XS.dup X24.here hx rfl (hb hby at_159) rfl rfl) ?_
  show D (T24.setTop (mkF m 160 #[.val (.int p1), .val (.long p2), .second, .unset, .unset, .unset, .unset, .unset, .unset, .unset, .unset, .unset, .unset] [(.ref b1), (.ref b1)]))
  refine A (XS.bipush X24.here hx rfl (hb hby at_160)) ?_
  show D (T24.setTop (mkF m 162 #[.val (.int p1), .val (.long p2), .second, .unset, .unset, .unset, .unset, .unset, .unset, .unset, .unset, .unset, .unset] [(.int (23 : Int32)), (.ref b1), (.ref b1)]))
  refine A (X24.ldc2Long hx hown (mvT hZ (hw _ (List.mem_of_getElem? (i := 24) rfl))) (g := (mkF m 162 #[.val (.int p1), .val (.long p2), .second, .unset, .unset, .unset, .unset, .unset, .unset, .unset, .unset, .unset, .unset] [(.int (23 : Int32)), (.ref b1), (.ref b1)])) rfl (hb hby at_162) _) ?_
  show D (T24.setTop (mkF m 165 #[.val (.int p1), .val (.long p2), .second, .unset, .unset, .unset, .unset, .unset, .unset, .unset, .unset, .unset, .unset] [(.long (63744 : Int64)), (.int (23 : Int32)), (.ref b1), (.ref b1)]))
  refine Adv.stJ A X24 hx hZ e24 Vg23 (k := 23) (by decide) (by decide) (g := (mkF m 165 #[.val (.int p1), .val (.long p2), .second, .unset, .unset, .unset, .unset, .unset, .unset, .unset, .unset, .unset, .unset] [(.long (63744 : Int64)), (.int (23 : Int32)), (.ref b1), (.ref b1)])) rfl rfl (hb hby at_165) ?_
  intro T25 h25 X25 e25 W25 Vb1_25
  have N25 := Fr.snoc X25 N24 g_b1
  have Z_25 : n0 ≤ h25.size := Nat.le_trans Z_24 (Nat.le_of_eq W25.size.symm)
  show D (T25.setTop (mkF m 166 #[.val (.int p1), .val (.long p2), .second, .unset, .unset, .unset, .unset, .unset, .unset, .unset, .unset, .unset, .unset] [(.ref b1)]))
  have Vg24 : ArJ Z h25 b1 30 own_g24 := Vb1_25
  refine A (XS.dup X25.here hx rfl (hb hby at_166) rfl rfl) ?_
  show D (T25.setTop (mkF m 167 #[.val (.int p1), .val (.long p2), .second, .unset, .unset, .unset, .unset, .unset, .unset, .unset, .unset, .unset, .unset] [(.ref b1), (.ref b1)]))
  refine A (XS.bipush X25.here hx rfl (hb hby at_167)) ?_
  show D (T25.setTop (mkF m 169 #[.val (.int p1), .val (.long p2), .second, .unset, .unset, .unset, .unset, .unset, .unset, .unset, .unset, .unset, .unset] [(.int (24 : Int32)), (.ref b1), (.ref b1)]))
  refine A (X25.ldc2Long hx hown (mvT hZ (hw _ (List.mem_of_getElem? (i := 25) rfl))) (g := (mkF m 169 #[.val (.int p1), .val (.long p2), .second, .unset, .unset, .unset, .unset, .unset, .unset, .unset, .unset, .unset, .unset] [(.int (24 : Int32)), (.ref b1), (.ref b1)])) rfl (hb hby at_169) _) ?_
  show D (T25.setTop (mkF m 172 #[.val (.int p1), .val (.long p2), .second, .unset, .unset, .unset, .unset, .unset, .unset, .unset, .unset, .unset, .unset] [(.long (64976 : Int64)), (.int (24 : Int32)), (.ref b1), (.ref b1)]))
  refine Adv.stJ A X25 hx hZ e25 Vg24 (k := 24) (by decide) (by decide) (g := (mkF m 172 #[.val (.int p1), .val (.long p2), .second, .unset, .unset, .unset, .unset, .unset, .unset, .unset, .unset, .unset, .unset] [(.long (64976 : Int64)), (.int (24 : Int32)), (.ref b1), (.ref b1)])) rfl rfl (hb hby at_172) ?_
  intro T26 h26 X26 e26 W26 Vb1_26
  have N26 := Fr.snoc X26 N25 g_b1
  have Z_26 : n0 ≤ h26.size := Nat.le_trans Z_25 (Nat.le_of_eq W26.size.symm)
  show D (T26.setTop (mkF m 173 #[.val (.int p1), .val (.long p2), .second, .unset, .unset, .unset, .unset, .unset, .unset, .unset, .unset, .unset, .unset] [(.ref b1)]))
  have Vg25 : ArJ Z h26 b1 30 own_g25 := Vb1_26
  refine A (XS.dup X26.here hx rfl (hb hby at_173) rfl rfl) ?_
  show D (T26.setTop (mkF m 174 #[.val (.int p1), .val (.long p2), .second, .unset, .unset, .unset, .unset, .unset, .unset, .unset, .unset, .unset, .unset] [(.ref b1), (.ref b1)]))
  refine A (XS.bipush X26.here hx rfl (hb hby at_174)) ?_
  show D (T26.setTop (mkF m 176 #[.val (.int p1), .val (.long p2), .second, .unset, .unset, .unset, .unset, .unset, .unset, .unset, .unset, .unset, .unset] [(.int (25 : Int32)), (.ref b1), (.ref b1)]))
  refine A (X26.ldc2Long hx hown (mvT hZ (hw _ (List.mem_of_getElem? (i := 26) rfl))) (g := (mkF m 176 #[.val (.int p1), .val (.long p2), .second, .unset, .unset, .unset, .unset, .unset, .unset, .unset, .unset, .unset, .unset] [(.int (25 : Int32)), (.ref b1), (.ref b1)])) rfl (hb hby at_176) _) ?_
  show D (T26.setTop (mkF m 179 #[.val (.int p1), .val (.long p2), .second, .unset, .unset, .unset, .unset, .unset, .unset, .unset, .unset, .unset, .unset] [(.long (65008 : Int64)), (.int (25 : Int32)), (.ref b1), (.ref b1)]))
  refine Adv.stJ A X26 hx hZ e26 Vg25 (k := 25) (by decide) (by decide) (g := (mkF m 179 #[.val (.int p1), .val (.long p2), .second, .unset, .unset, .unset, .unset, .unset, .unset, .unset, .unset, .unset, .unset] [(.long (65008 : Int64)), (.int (25 : Int32)), (.ref b1), (.ref b1)])) rfl rfl (hb hby at_179) ?_
  intro T27 h27 X27 e27 W27 Vb1_27
  have N27 := Fr.snoc X27 N26 g_b1
  have Z_27 : n0 ≤ h27.size := Nat.le_trans Z_26 (Nat.le_of_eq W27.size.symm)
  show D (T27.setTop (mkF m 180 #[.val (.int p1), .val (.long p2), .second, .unset, .unset, .unset, .unset, .unset, .unset, .unset, .unset, .unset, .unset] [(.ref b1)]))
  have Vg26 : ArJ Z h27 b1 30 own_g26 := Vb1_27
  refine A (XS.dup X27.here hx rfl (hb hby at_180) rfl rfl) ?_
  show D (T27.setTop (mkF m 181 #[.val (.int p1), .val (.long p2), .second, .unset, .unset, .unset, .unset, .unset, .unset, .unset, .unset, .unset, .unset] [(.ref b1), (.ref b1)]))
  refine A (XS.bipush X27.here hx rfl (hb hby at_181)) ?_
  show D (T27.setTop (mkF m 183 #[.val (.int p1), .val (.long p2), .second, .unset, .unset, .unset, .unset, .unset, .unset, .unset, .unset, .unset, .unset] [(.int (26 : Int32)), (.ref b1), (.ref b1)]))
  refine A (X27.ldc2Long hx hown (mvT hZ (hw _ (List.mem_of_getElem? (i := 27) rfl))) (g := (mkF m 183 #[.val (.int p1), .val (.long p2), .second, .unset, .unset, .unset, .unset, .unset, .unset, .unset, .unset, .unset, .unset] [(.int (26 : Int32)), (.ref b1), (.ref b1)])) rfl (hb hby at_183) _) ?_
  show D (T27.setTop (mkF m 186 #[.val (.int p1), .val (.long p2), .second, .unset, .unset, .unset, .unset, .unset, .unset, .unset, .unset, .unset, .unset] [(.long (65534 : Int64)), (.int (26 : Int32)), (.ref b1), (.ref b1)]))
  refine Adv.stJ A X27 hx hZ e27 Vg26 (k := 26) (by decide) (by decide) (g := (mkF m 186 #[.val (.int p1), .val (.long p2), .second, .unset, .unset, .unset, .unset, .unset, .unset, .unset, .unset, .unset, .unset] [(.long (65534 : Int64)), (.int (26 : Int32)), (.ref b1), (.ref b1)])) rfl rfl (hb hby at_186) ?_
  intro T28 h28 X28 e28 W28 Vb1_28
  have N28 := Fr.snoc X28 N27 g_b1
  have Z_28 : n0 ≤ h28.size := Nat.le_trans Z_27 (Nat.le_of_eq W28.size.symm)
  show D (T28.setTop (mkF m 187 #[.val (.int p1), .val (.long p2), .second, .unset, .unset, .unset, .unset, .unset, .unset, .unset, .unset, .unset, .unset] [(.ref b1)]))
  have Vg27 : ArJ Z h28 b1 30 own_g27 := Vb1_28
  refine A (XS.dup X28.here hx rfl (hb hby at_187) rfl rfl) ?_
  show D (T28.setTop (mkF m 188 #[.val (.int p1), .val (.long p2), .second, .unset, .unset, .unset, .unset, .unset, .unset, .unset, .unset, .unset, .unset] [(.ref b1), (.ref b1)]))
  refine A (XS.bipush X28.here hx rfl (hb hby at_188)) ?_
  show D (T28.setTop (mkF m 190 #[.val (.int p1), .val (.long p2), .second, .unset, .unset, .unset, .unset, .unset, .unset, .unset, .unset, .unset, .unset] [(.int (27 : Int32)), (.ref b1), (.ref b1)]))
  refine A (X28.ldc2Long hx hown (mvT hZ (hw _ (List.mem_of_getElem? (i := 28) rfl))) (g := (mkF m 190 #[.val (.int p1), .val (.long p2), .second, .unset, .unset, .unset, .unset, .unset, .unset, .unset, .unset, .unset, .unset] [(.int (27 : Int32)), (.ref b1), (.ref b1)])) rfl (hb hby at_190) _) ?_
  show D (T28.setTop (mkF m 193 #[.val (.int p1), .val (.long p2), .second, .unset, .unset, .unset, .unset, .unset, .unset, .unset, .unset, .unset, .unset] [(.long (65536 : Int64)), (.int (27 : Int32)), (.ref b1), (.ref b1)]))
  refine Adv.stJ A X28 hx hZ e28 Vg27 (k := 27) (by decide) (by decide) (g := (mkF m 193 #[.val (.int p1), .val (.long p2), .second, .unset, .unset, .unset, .unset, .unset, .unset, .unset, .unset, .unset, .unset] [(.long (65536 : Int64)), (.int (27 : Int32)), (.ref b1), (.ref b1)])) rfl rfl (hb hby at_193) ?_
  intro T29 h29 X29 e29 W29 Vb1_29
  have N29 := Fr.snoc X29 N28 g_b1
  have Z_29 : n0 ≤ h29.size := Nat.le_trans Z_28 (Nat.le_of_eq W29.size.symm)
  show D (T29.setTop (mkF m 194 #[.val (.int p1), .val (.long p2), .second, .unset, .unset, .unset, .unset, .unset, .unset, .unset, .unset, .unset, .unset] [(.ref b1)]))
  have Vg28 : ArJ Z h29 b1 30 own_g28 := Vb1_29
  refine A (XS.dup X29.here hx rfl (hb hby at_194) rfl rfl) ?_
  show D (T29.setTop (mkF m 195 #[.val (.int p1), .val (.long p2), .second, .unset, .unset, .unset, .unset, .unset, .unset, .unset, .unset, .unset, .unset] [(.ref b1), (.ref b1)]))
  refine A (XS.bipush X29.here hx rfl (hb hby at_195)) ?_
  show D (T29.setTop (mkF m 197 #[.val (.int p1), .val (.long p2), .second, .unset, .unset, .unset, .unset, .unset, .unset, .unset, .unset, .unset, .unset] [(.int (28 : Int32)), (.ref b1), (.ref b1)]))
  refine A (X29.ldc2Long hx hown (mvT hZ (hw _ (List.mem_of_getElem? (i := 29) rfl))) (g := (mkF m 197 #[.val (.int p1), .val (.long p2), .second, .unset, .unset, .unset, .unset, .unset, .unset, .unset, .unset, .unset, .unset] [(.int (28 : Int32)), (.ref b1), (.ref b1)])) rfl (hb hby at_197) _) ?_
  show D (T29.setTop (mkF m 200 #[.val (.int p1), .val (.long p2), .second, .unset, .unset, .unset, .unset, .unset, .unset, .unset, .unset, .unset, .unset] [(.long (983040 : Int64)), (.int (28 : Int32)), (.ref b1), (.ref b1)]))
  refine Adv.stJ A X29 hx hZ e29 Vg28 (k := 28) (by decide) (by decide) (g := (mkF m 200 #[.val (.int p1), .val (.long p2), .second, .unset, .unset, .unset, .unset, .unset, .unset, .unset, .unset, .unset, .unset] [(.long (983040 : Int64)), (.int (28 : Int32)), (.ref b1), (.ref b1)])) rfl rfl (hb hby at_200) ?_
  intro T30 h30 X30 e30 W30 Vb1_30
  have N30 := Fr.snoc X30 N29 g_b1
  have Z_30 : n0 ≤ h30.size := Nat.le_trans Z_29 (Nat.le_of_eq W30.size.symm)
  show D (T30.setTop (mkF m 201 #[.val (.int p1), .val (.long p2), .second, .unset, .unset, .unset, .unset, .unset, .unset, .unset, .unset, .unset, .unset] [(.ref b1)]))
  have Vg29 : ArJ Z h30 b1 30 own_g29 := Vb1_30
  refine A (XS.dup X30.here hx rfl (hb hby at_201) rfl rfl) ?_
  show D (T30.setTop (mkF m 202 #[.val (.int p1), .val (.long p2), .second, .unset, .unset, .unset, .unset, .unset, .unset, .unset, .unset, .unset, .unset] [(.ref b1), (.ref b1)]))
  refine A (XS.bipush X30.here hx rfl (hb hby at_202)) ?_
  show D (T30.setTop (mkF m 204 #[.val (.int p1), .val (.long p2), .second, .unset, .unset, .unset, .unset, .unset, .unset, .unset, .unset, .unset, .unset] [(.int (29 : Int32)), (.ref b1), (.ref b1)]))
  refine A (X30.ldc2Long hx hown (mvT hZ (hw _ (List.mem_of_getElem? (i := 30) rfl))) (g := (mkF m 204 #[.val (.int p1), .val (.long p2), .second, .unset, .unset, .unset, .unset, .unset, .unset, .unset, .unset, .unset, .unset] [(.int (29 : Int32)), (.ref b1), (.ref b1)])) rfl (hb hby at_204) _) ?_
  show D (T30.setTop (mkF m 207 #[.val (.int p1), .val (.long p2), .second, .unset, .unset, .unset, .unset, .unset, .unset, .unset, .unset, .unset, .unset] [(.long (2147483648 : Int64)), (.int (29 : Int32)), (.ref b1), (.ref b1)]))
  refine Adv.stJ A X30 hx hZ e30 Vg29 (k := 29) (by decide) (by decide) (g := (mkF m 207 #[.val (.int p1), .val (.long p2), .second, .unset, .unset, .unset, .unset, .unset, .unset, .unset, .unset, .unset, .unset] [(.long (2147483648 : Int64)), (.int (29 : Int32)), (.ref b1), (.ref b1)])) rfl rfl (hb hby at_207) ?_
  intro T31 h31 X31 e31 W31 Vb1_31
  have N31 := Fr.snoc X31 N30 g_b1
  have Z_31 : n0 ≤ h31.size := Nat.le_trans Z_30 (Nat.le_of_eq W31.size.symm)
  show D (T31.setTop (mkF m 208 #[.val (.int p1), .val (.long p2), .second, .unset, .unset, .unset, .unset, .unset, .unset, .unset, .unset, .unset, .unset] [(.ref b1)]))
  have Vg30 : ArJ Z h31 b1 30 own_g30 := Vb1_31
  have Vt := Vg30.eqf (g := own_tab) own_tabeq
  refine A (XS.astoreN X31.here hx rfl (hb hby at_208) rfl rfl (l' := #[.val (.int p1), .val (.long p2), .second, .val (.ref b1), .unset, .unset, .unset, .unset, .unset, .unset, .unset, .unset, .unset]) rfl) ?_
  show D (T31.setTop (mkF m 209 #[.val (.int p1), .val (.long p2), .second, .val (.ref b1), .unset, .unset, .unset, .unset, .unset, .unset, .unset, .unset, .unset] []))
  refine A (XS.iloadN X31.here hx rfl (hb hby at_209) rfl) ?_
  show D (T31.setTop (mkF m 210 #[.val (.int p1), .val (.long p2), .second, .val (.ref b1), .unset, .unset, .unset, .unset, .unset, .unset, .unset, .unset, .unset] [(.int p1)]))
  refine A (X31.ldcInt hx hown (mvT hZ (hw _ (List.mem_of_getElem? (i := 31) rfl))) (g := (mkF m 210 #[.val (.int p1), .val (.long p2), .second, .val (.ref b1), .unset, .unset, .unset, .unset, .unset, .unset, .unset, .unset, .unset] [(.int p1)])) rfl (hb hby at_210) _) ?_
  show D (T31.setTop (mkF m 212 #[.val (.int p1), .val (.long p2), .second, .val (.ref b1), .unset, .unset, .unset, .unset, .unset, .unset, .unset, .unset, .unset] [(.int (2147483647 : Int32)), (.int p1)]))
  refine A (XS.iand X31.here hx rfl (hb hby at_212) rfl) ?_
  show D (T31.setTop (mkF m 213 #[.val (.int p1), .val (.long p2), .second, .val (.ref b1), .unset, .unset, .unset, .unset, .unset, .unset, .unset, .unset, .unset] [(.int (p1 &&& (2147483647 : Int32)))]))
  refine A (XS.bipush X31.here hx rfl (hb hby at_213)) ?_
  show D (T31.setTop (mkF m 215 #[.val (.int p1), .val (.long p2), .second, .val (.ref b1), .unset, .unset, .unset, .unset, .unset, .unset, .unset, .unset, .unset] [(.int (29 : Int32)), (.int (p1 &&& (2147483647 : Int32)))]))
  refine A (iremM X31 hx rfl (hb hby at_215) rfl (by decide)) ?_
  show D (T31.setTop (mkF m 216 #[.val (.int p1), .val (.long p2), .second, .val (.ref b1), .unset, .unset, .unset, .unset, .unset, .unset, .unset, .unset, .unset] [(.int ((p1 &&& (2147483647 : Int32)) % (29 : Int32)))]))
  refine A (XS.istore X31.here hx rfl (hb hby at_216) rfl (l' := #[.val (.int p1), .val (.long p2), .second, .val (.ref b1), .val (.int ((p1 &&& (2147483647 : Int32)) % (29 : Int32))), .unset, .unset, .unset, .unset, .unset, .unset, .unset, .unset]) rfl) ?_
  show D (T31.setTop (mkF m 218 #[.val (.int p1), .val (.long p2), .second, .val (.ref b1), .val (.int ((p1 &&& (2147483647 : Int32)) % (29 : Int32))), .unset, .unset, .unset, .unset, .unset, .unset, .unset, .unset] []))
  suffices Kx4_218 : ∀ x4_218 : Int32, x4_218 = ((p1 &&& (2147483647 : Int32)) % (29 : Int32)) → D (T31.setTop (mkF m 218 #[.val (.int p1), .val (.long p2), .second, .val (.ref b1), .val (.int x4_218), .unset, .unset, .unset, .unset, .unset, .unset, .unset, .unset] [])) from Kx4_218 _ rfl
  intro x4_218 hx4_218
  have hk4 := hx4_218
  refine A (XS.aloadN X31.here hx rfl (hb hby at_218) rfl rfl) ?_
  show D (T31.setTop (mkF m 219 #[.val (.int p1), .val (.long p2), .second, .val (.ref b1), .val (.int x4_218), .unset, .unset, .unset, .unset, .unset, .unset, .unset, .unset] [(.ref b1)]))
  refine A (XS.iload X31.here hx rfl (hb hby at_219) rfl) ?_
  show D (T31.setTop (mkF m 221 #[.val (.int p1), .val (.long p2), .second, .val (.ref b1), .val (.int x4_218), .unset, .unset, .unset, .unset, .unset, .unset, .unset, .unset] [(.int x4_218), (.ref b1)]))
  refine Adv.ldJ A X31 hx hZ e31 Vt (k := x4_218.toInt.toNat) (Int.toNat_of_nonneg (hk4 ▸ own_ix _).1).symm (by have := own_ix p1; rw [← hk4] at this; omega) (g := (mkF m 221 #[.val (.int p1), .val (.long p2), .second, .val (.ref b1), .val (.int x4_218), .unset, .unset, .unset, .unset, .unset, .unset, .unset, .unset] [(.int x4_218), (.ref b1)])) rfl rfl (hb hby at_221) ?_
  show D (T31.setTop (mkF m 222 #[.val (.int p1), .val (.long p2), .second, .val (.ref b1), .val (.int x4_218), .unset, .unset, .unset, .unset, .unset, .unset, .unset, .unset] [(.long (own_tab x4_218.toInt.toNat))]))
  refine A (XS.lstore X31.here hx rfl (hb hby at_222) rfl (l' := #[.val (.int p1), .val (.long p2), .second, .val (.ref b1), .val (.int x4_218), .val (.long (own_tab x4_218.toInt.toNat)), .second, .unset, .unset, .unset, .unset, .unset, .unset]) rfl) ?_
  show D (T31.setTop (mkF m 224 #[.val (.int p1), .val (.long p2), .second, .val (.ref b1), .val (.int x4_218), .val (.long (own_tab x4_218.toInt.toNat)), .second, .unset, .unset, .unset, .unset, .unset, .unset] []))
  suffices Kx5_224 : ∀ x5_224 : Int64, x5_224 = (own_tab x4_218.toInt.toNat) → D (T31.setTop (mkF m 224 #[.val (.int p1), .val (.long p2), .second, .val (.ref b1), .val (.int x4_218), .val (.long x5_224), .second, .unset, .unset, .unset, .unset, .unset, .unset] [])) from Kx5_224 _ rfl
  intro x5_224 hx5_224
  refine A (XS.aloadN X31.here hx rfl (hb hby at_224) rfl rfl) ?_
  show D (T31.setTop (mkF m 225 #[.val (.int p1), .val (.long p2), .second, .val (.ref b1), .val (.int x4_218), .val (.long x5_224), .second, .unset, .unset, .unset, .unset, .unset, .unset] [(.ref b1)]))
  refine A (XS.iload X31.here hx rfl (hb hby at_225) rfl) ?_
  show D (T31.setTop (mkF m 227 #[.val (.int p1), .val (.long p2), .second, .val (.ref b1), .val (.int x4_218), .val (.long x5_224), .second, .unset, .unset, .unset, .unset, .unset, .unset] [(.int x4_218), (.ref b1)]))
  refine A (XS.iconst X31.here hx rfl (hb hby at_227)) ?_
  show D (T31.setTop (mkF m 228 #[.val (.int p1), .val (.long p2), .second, .val (.ref b1), .val (.int x4_218), .val (.long x5_224), .second, .unset, .unset, .unset, .unset, .unset, .unset] [(.int (1 : Int32)), (.int x4_218), (.ref b1)]))
  refine A (XS.iadd X31.here hx rfl (hb hby at_228) rfl) ?_
  show D (T31.setTop (mkF m 229 #[.val (.int p1), .val (.long p2), .second, .val (.ref b1), .val (.int x4_218), .val (.long x5_224), .second, .unset, .unset, .unset, .unset, .unset, .unset] [(.int (x4_218 + (1 : Int32))), (.ref b1)]))
  refine Adv.ldJ A X31 hx hZ e31 Vt (k := (x4_218.toInt.toNat + 1)) (own_ix1 hk4) (by have := own_ix p1; rw [← hk4] at this; omega) (g := (mkF m 229 #[.val (.int p1), .val (.long p2), .second, .val (.ref b1), .val (.int x4_218), .val (.long x5_224), .second, .unset, .unset, .unset, .unset, .unset, .unset] [(.int (x4_218 + (1 : Int32))), (.ref b1)])) rfl rfl (hb hby at_229) ?_
  show D (T31.setTop (mkF m 230 #[.val (.int p1), .val (.long p2), .second, .val (.ref b1), .val (.int x4_218), .val (.long x5_224), .second, .unset, .unset, .unset, .unset, .unset, .unset] [(.long (own_tab (x4_218.toInt.toNat + 1)))]))
  suffices Ky32 : ∀ y32 : Int64, y32 = (own_tab (x4_218.toInt.toNat + 1)) → D (T31.setTop (mkF m 230 #[.val (.int p1), .val (.long p2), .second, .val (.ref b1), .val (.int x4_218), .val (.long x5_224), .second, .unset, .unset, .unset, .unset, .unset, .unset] [(.long y32)])) from Ky32 _ rfl
  intro y32 hy32
  refine A (XS.lload X31.here hx rfl (hb hby at_230) rfl) ?_
  show D (T31.setTop (mkF m 232 #[.val (.int p1), .val (.long p2), .second, .val (.ref b1), .val (.int x4_218), .val (.long x5_224), .second, .unset, .unset, .unset, .unset, .unset, .unset] [(.long x5_224), (.long y32)]))
  refine A (XS.lsub X31.here hx rfl (hb hby at_232) rfl) ?_
  show D (T31.setTop (mkF m 233 #[.val (.int p1), .val (.long p2), .second, .val (.ref b1), .val (.int x4_218), .val (.long x5_224), .second, .unset, .unset, .unset, .unset, .unset, .unset] [(.long (y32 - x5_224))]))
  refine A (XS.lstore X31.here hx rfl (hb hby at_233) rfl (l' := #[.val (.int p1), .val (.long p2), .second, .val (.ref b1), .val (.int x4_218), .val (.long x5_224), .second, .val (.long (y32 - x5_224)), .second, .unset, .unset, .unset, .unset]) rfl) ?_
  show D (T31.setTop (mkF m 235 #[.val (.int p1), .val (.long p2), .second, .val (.ref b1), .val (.int x4_218), .val (.long x5_224), .second, .val (.long (y32 - x5_224)), .second, .unset, .unset, .unset, .unset] []))
  refine A (XS.lloadN X31.here hx rfl (hb hby at_235) rfl) ?_
  show D (T31.setTop (mkF m 236 #[.val (.int p1), .val (.long p2), .second, .val (.ref b1), .val (.int x4_218), .val (.long x5_224), .second, .val (.long (y32 - x5_224)), .second, .unset, .unset, .unset, .unset] [(.long p2)]))
  refine A (X31.ldc2Long hx hown (mvT hZ (hw _ (List.mem_of_getElem? (i := 32) rfl))) (g := (mkF m 236 #[.val (.int p1), .val (.long p2), .second, .val (.ref b1), .val (.int x4_218), .val (.long x5_224), .second, .val (.long (y32 - x5_224)), .second, .unset, .unset, .unset, .unset] [(.long p2)])) rfl (hb hby at_236) _) ?_
  show D (T31.setTop (mkF m 239 #[.val (.int p1), .val (.long p2), .second, .val (.ref b1), .val (.int x4_218), .val (.long x5_224), .second, .val (.long (y32 - x5_224)), .second, .unset, .unset, .unset, .unset] [(.long (9223372036854775807 : Int64)), (.long p2)]))
  refine A (XS.land X31.here hx rfl (hb hby at_239) rfl) ?_
  show D (T31.setTop (mkF m 240 #[.val (.int p1), .val (.long p2), .second, .val (.ref b1), .val (.int x4_218), .val (.long x5_224), .second, .val (.long (y32 - x5_224)), .second, .unset, .unset, .unset, .unset] [(.long (p2 &&& (9223372036854775807 : Int64)))]))
  refine A (XS.lload X31.here hx rfl (hb hby at_240) rfl) ?_
  show D (T31.setTop (mkF m 242 #[.val (.int p1), .val (.long p2), .second, .val (.ref b1), .val (.int x4_218), .val (.long x5_224), .second, .val (.long (y32 - x5_224)), .second, .unset, .unset, .unset, .unset] [(.long (y32 - x5_224)), (.long (p2 &&& (9223372036854775807 : Int64)))]))
  refine A (XS.lrem X31.here hx rfl (hb hby at_242) rfl (by rw [hy32, hx5_224]; exact own_w _ (by have := own_ix p1; rw [← hk4] at this; omega))) ?_
  show D (T31.setTop (mkF m 243 #[.val (.int p1), .val (.long p2), .second, .val (.ref b1), .val (.int x4_218), .val (.long x5_224), .second, .val (.long (y32 - x5_224)), .second, .unset, .unset, .unset, .unset] [(.long ((p2 &&& (9223372036854775807 : Int64)) - ((p2 &&& (9223372036854775807 : Int64)) / (y32 - x5_224)) * (y32 - x5_224)))]))
  refine A (XS.lstore X31.here hx rfl (hb hby at_243) rfl (l' := #[.val (.int p1), .val (.long p2), .second, .val (.ref b1), .val (.int x4_218), .val (.long x5_224), .second, .val (.long (y32 - x5_224)), .second, .val (.long ((p2 &&& (9223372036854775807 : Int64)) - ((p2 &&& (9223372036854775807 : Int64)) / (y32 - x5_224)) * (y32 - x5_224))), .second, .unset, .unset]) rfl) ?_
  show D (T31.setTop (mkF m 245 #[.val (.int p1), .val (.long p2), .second, .val (.ref b1), .val (.int x4_218), .val (.long x5_224), .second, .val (.long (y32 - x5_224)), .second, .val (.long ((p2 &&& (9223372036854775807 : Int64)) - ((p2 &&& (9223372036854775807 : Int64)) / (y32 - x5_224)) * (y32 - x5_224))), .second, .unset, .unset] []))
  suffices Kx9_245 : ∀ x9_245 : Int64, x9_245 = ((p2 &&& (9223372036854775807 : Int64)) - ((p2 &&& (9223372036854775807 : Int64)) / (y32 - x5_224)) * (y32 - x5_224)) → D (T31.setTop (mkF m 245 #[.val (.int p1), .val (.long p2), .second, .val (.ref b1), .val (.int x4_218), .val (.long x5_224), .second, .val (.long (y32 - x5_224)), .second, .val (.long x9_245), .second, .unset, .unset] [])) from Kx9_245 _ rfl
  intro x9_245 hx9_245
  refine A (XS.lload X31.here hx rfl (hb hby at_245) rfl) ?_
  show D (T31.setTop (mkF m 247 #[.val (.int p1), .val (.long p2), .second, .val (.ref b1), .val (.int x4_218), .val (.long x5_224), .second, .val (.long (y32 - x5_224)), .second, .val (.long x9_245), .second, .unset, .unset] [(.long x5_224)]))
  refine A (XS.lload X31.here hx rfl (hb hby at_247) rfl) ?_
  show D (T31.setTop (mkF m 249 #[.val (.int p1), .val (.long p2), .second, .val (.ref b1), .val (.int x4_218), .val (.long x5_224), .second, .val (.long (y32 - x5_224)), .second, .val (.long x9_245), .second, .unset, .unset] [(.long x9_245), (.long x5_224)]))
  refine A (XS.ladd X31.here hx rfl (hb hby at_249) rfl) ?_
  show D (T31.setTop (mkF m 250 #[.val (.int p1), .val (.long p2), .second, .val (.ref b1), .val (.int x4_218), .val (.long x5_224), .second, .val (.long (y32 - x5_224)), .second, .val (.long x9_245), .second, .unset, .unset] [(.long (x5_224 + x9_245))]))
  refine A (XS.l2i X31.here hx rfl (hb hby at_250) rfl) ?_
  show D (T31.setTop (mkF m 251 #[.val (.int p1), .val (.long p2), .second, .val (.ref b1), .val (.int x4_218), .val (.long x5_224), .second, .val (.long (y32 - x5_224)), .second, .val (.long x9_245), .second, .unset, .unset] [(.int ((x5_224 + x9_245).toInt32))]))
  refine A (XS.istore X31.here hx rfl (hb hby at_251) rfl (l' := #[.val (.int p1), .val (.long p2), .second, .val (.ref b1), .val (.int x4_218), .val (.long x5_224), .second, .val (.long (y32 - x5_224)), .second, .val (.long x9_245), .second, .val (.int ((x5_224 + x9_245).toInt32)), .unset]) rfl) ?_
  show D (T31.setTop (mkF m 253 #[.val (.int p1), .val (.long p2), .second, .val (.ref b1), .val (.int x4_218), .val (.long x5_224), .second, .val (.long (y32 - x5_224)), .second, .val (.long x9_245), .second, .val (.int ((x5_224 + x9_245).toInt32)), .unset] []))
  suffices Kx11_253 : ∀ x11_253 : Int32, x11_253 = ((x5_224 + x9_245).toInt32) → D (T31.setTop (mkF m 253 #[.val (.int p1), .val (.long p2), .second, .val (.ref b1), .val (.int x4_218), .val (.long x5_224), .second, .val (.long (y32 - x5_224)), .second, .val (.long x9_245), .second, .val (.int x11_253), .unset] [])) from Kx11_253 _ rfl
  intro x11_253 hx11_253
  refine A (XS.iload X31.here hx rfl (hb hby at_253) rfl) ?_
  show D (T31.setTop (mkF m 255 #[.val (.int p1), .val (.long p2), .second, .val (.ref b1), .val (.int x4_218), .val (.long x5_224), .second, .val (.long (y32 - x5_224)), .second, .val (.long x9_245), .second, .val (.int x11_253), .unset] [(.int x4_218)]))
  refine A (XS.iconst X31.here hx rfl (hb hby at_255)) ?_
  show D (T31.setTop (mkF m 256 #[.val (.int p1), .val (.long p2), .second, .val (.ref b1), .val (.int x4_218), .val (.long x5_224), .second, .val (.long (y32 - x5_224)), .second, .val (.long x9_245), .second, .val (.int x11_253), .unset] [(.int (1 : Int32)), (.int x4_218)]))
  refine A (XS.iand X31.here hx rfl (hb hby at_256) rfl) ?_
  show D (T31.setTop (mkF m 257 #[.val (.int p1), .val (.long p2), .second, .val (.ref b1), .val (.int x4_218), .val (.long x5_224), .second, .val (.long (y32 - x5_224)), .second, .val (.long x9_245), .second, .val (.int x11_253), .unset] [(.int (x4_218 &&& (1 : Int32)))]))
  refine A (XS.iconst X31.here hx rfl (hb hby at_257)) ?_
  show D (T31.setTop (mkF m 258 #[.val (.int p1), .val (.long p2), .second, .val (.ref b1), .val (.int x4_218), .val (.long x5_224), .second, .val (.long (y32 - x5_224)), .second, .val (.long x9_245), .second, .val (.int x11_253), .unset] [(.int (1 : Int32)), (.int (x4_218 &&& (1 : Int32)))]))
  suffices Km266_33 : ∀ (v266s0 : Int32), v266s0 = (if (x4_218 &&& (1 : Int32)) = (1 : Int32) then (1 : Int32) else (0 : Int32)) → D (T31.setTop (mkF m 266 #[.val (.int p1), .val (.long p2), .second, .val (.ref b1), .val (.int x4_218), .val (.long x5_224), .second, .val (.long (y32 - x5_224)), .second, .val (.long x9_245), .second, .val (.int x11_253), .unset] [(.int v266s0)])) by
    by_cases c258_0 : (x4_218 &&& (1 : Int32)) = (1 : Int32)
    · refine A (XS.icmpNo X31.here hx rfl (hb hby at_258) rfl (teq c258_0).2) ?_
      show D (T31.setTop (mkF m 261 #[.val (.int p1), .val (.long p2), .second, .val (.ref b1), .val (.int x4_218), .val (.long x5_224), .second, .val (.long (y32 - x5_224)), .second, .val (.long x9_245), .second, .val (.int x11_253), .unset] []))
      refine A (XS.iconst X31.here hx rfl (hb hby at_261)) ?_
      show D (T31.setTop (mkF m 262 #[.val (.int p1), .val (.long p2), .second, .val (.ref b1), .val (.int x4_218), .val (.long x5_224), .second, .val (.long (y32 - x5_224)), .second, .val (.long x9_245), .second, .val (.int x11_253), .unset] [(.int (1 : Int32))]))
      refine A (XS.goto X31.here hx rfl (pc0 := 262) (pc' := 266) rfl (hb hby at_262) (by decide) (by decide)) ?_
      show D (T31.setTop (mkF m 266 #[.val (.int p1), .val (.long p2), .second, .val (.ref b1), .val (.int x4_218), .val (.long x5_224), .second, .val (.long (y32 - x5_224)), .second, .val (.long x9_245), .second, .val (.int x11_253), .unset] [(.int (1 : Int32))]))
      exact Km266_33 _ ((if_pos c258_0)).symm
    · refine A (XS.icmpYes X31.here hx rfl (pc0 := 258) (pc' := 265) rfl (hb hby at_258) rfl (feq c258_0).2 (by decide) (by decide)) ?_
      show D (T31.setTop (mkF m 265 #[.val (.int p1), .val (.long p2), .second, .val (.ref b1), .val (.int x4_218), .val (.long x5_224), .second, .val (.long (y32 - x5_224)), .second, .val (.long x9_245), .second, .val (.int x11_253), .unset] []))
      refine A (XS.iconst X31.here hx rfl (hb hby at_265)) ?_
      show D (T31.setTop (mkF m 266 #[.val (.int p1), .val (.long p2), .second, .val (.ref b1), .val (.int x4_218), .val (.long x5_224), .second, .val (.long (y32 - x5_224)), .second, .val (.long x9_245), .second, .val (.int x11_253), .unset] [(.int (0 : Int32))]))
      exact Km266_33 _ ((if_neg c258_0)).symm
  intro v266s0 hv266s0
  show D (T31.setTop (mkF m 266 #[.val (.int p1), .val (.long p2), .second, .val (.ref b1), .val (.int x4_218), .val (.long x5_224), .second, .val (.long (y32 - x5_224)), .second, .val (.long x9_245), .second, .val (.int x11_253), .unset] [(.int v266s0)]))
  refine A (XS.istore X31.here hx rfl (hb hby at_266) rfl (l' := #[.val (.int p1), .val (.long p2), .second, .val (.ref b1), .val (.int x4_218), .val (.long x5_224), .second, .val (.long (y32 - x5_224)), .second, .val (.long x9_245), .second, .val (.int x11_253), .val (.int v266s0)]) rfl) ?_
  show D (T31.setTop (mkF m 268 #[.val (.int p1), .val (.long p2), .second, .val (.ref b1), .val (.int x4_218), .val (.long x5_224), .second, .val (.long (y32 - x5_224)), .second, .val (.long x9_245), .second, .val (.int x11_253), .val (.int v266s0)] []))
  refine A (XS.iload X31.here hx rfl (hb hby at_268) rfl) ?_
  show D (T31.setTop (mkF m 270 #[.val (.int p1), .val (.long p2), .second, .val (.ref b1), .val (.int x4_218), .val (.long x5_224), .second, .val (.long (y32 - x5_224)), .second, .val (.long x9_245), .second, .val (.int x11_253), .val (.int v266s0)] [(.int x11_253)]))
  refine Adv.callS A X31 hx hZ hown (hw _ (List.mem_of_getElem? (i := 33) rfl)) (hw _ (List.mem_of_getElem? (i := 34) rfl)) (hw _ (List.mem_of_getElem? (i := 35) rfl)) (hw _ (List.mem_of_getElem? (i := 36) rfl)) e31 (rm1 l Z a0 hw [] x11_253 h31 n0) 0 (g := (mkF m 270 #[.val (.int p1), .val (.long p2), .second, .val (.ref b1), .val (.int x4_218), .val (.long x5_224), .second, .val (.long (y32 - x5_224)), .second, .val (.long x9_245), .second, .val (.int x11_253), .val (.int v266s0)] [(.int x11_253)])) rfl (by rw [hml]; rfl) [(.int x11_253)] [] rfl (lenOf pd0_0 rfl) rfl (by show 2 * 0 + _ ≤ _; exact Nat.le_of_eq rfl) (hb hby at_270) (by decide) (by decide) (by decide) (by decide) (by decide) ?_
  rintro T34 L34 _ X34 ⟨rfl, N34_q, e34⟩
  have N34 := Fr.app N31 N34_q
  show D (T34.setTop (mkF m 273 #[.val (.int p1), .val (.long p2), .second, .val (.ref b1), .val (.int x4_218), .val (.long x5_224), .second, .val (.long (y32 - x5_224)), .second, .val (.long x9_245), .second, .val (.int x11_253), .val (.int v266s0)] [(.int (f1 x11_253))]))
  refine A (XS.iload X34.here hx rfl (hb hby at_273) rfl) ?_
  show D (T34.setTop (mkF m 275 #[.val (.int p1), .val (.long p2), .second, .val (.ref b1), .val (.int x4_218), .val (.long x5_224), .second, .val (.long (y32 - x5_224)), .second, .val (.long x9_245), .second, .val (.int x11_253), .val (.int v266s0)] [(.int v266s0), (.int (f1 x11_253))]))
  suffices Km283_35 : ∀ (v283s0 : Int32), v283s0 = (if (f1 x11_253) = v266s0 then (1 : Int32) else (0 : Int32)) → D (T34.setTop (mkF m 283 #[.val (.int p1), .val (.long p2), .second, .val (.ref b1), .val (.int x4_218), .val (.long x5_224), .second, .val (.long (y32 - x5_224)), .second, .val (.long x9_245), .second, .val (.int x11_253), .val (.int v266s0)] [(.int v283s0)])) by
    by_cases c275_0 : (f1 x11_253) = v266s0
    · refine A (XS.icmpNo X34.here hx rfl (hb hby at_275) rfl (teq c275_0).2) ?_
      show D (T34.setTop (mkF m 278 #[.val (.int p1), .val (.long p2), .second, .val (.ref b1), .val (.int x4_218), .val (.long x5_224), .second, .val (.long (y32 - x5_224)), .second, .val (.long x9_245), .second, .val (.int x11_253), .val (.int v266s0)] []))
      refine A (XS.iconst X34.here hx rfl (hb hby at_278)) ?_
      show D (T34.setTop (mkF m 279 #[.val (.int p1), .val (.long p2), .second, .val (.ref b1), .val (.int x4_218), .val (.long x5_224), .second, .val (.long (y32 - x5_224)), .second, .val (.long x9_245), .second, .val (.int x11_253), .val (.int v266s0)] [(.int (1 : Int32))]))
      refine A (XS.goto X34.here hx rfl (pc0 := 279) (pc' := 283) rfl (hb hby at_279) (by decide) (by decide)) ?_
      show D (T34.setTop (mkF m 283 #[.val (.int p1), .val (.long p2), .second, .val (.ref b1), .val (.int x4_218), .val (.long x5_224), .second, .val (.long (y32 - x5_224)), .second, .val (.long x9_245), .second, .val (.int x11_253), .val (.int v266s0)] [(.int (1 : Int32))]))
      exact Km283_35 _ ((if_pos c275_0)).symm
    · refine A (XS.icmpYes X34.here hx rfl (pc0 := 275) (pc' := 282) rfl (hb hby at_275) rfl (feq c275_0).2 (by decide) (by decide)) ?_
      show D (T34.setTop (mkF m 282 #[.val (.int p1), .val (.long p2), .second, .val (.ref b1), .val (.int x4_218), .val (.long x5_224), .second, .val (.long (y32 - x5_224)), .second, .val (.long x9_245), .second, .val (.int x11_253), .val (.int v266s0)] []))
      refine A (XS.iconst X34.here hx rfl (hb hby at_282)) ?_
      show D (T34.setTop (mkF m 283 #[.val (.int p1), .val (.long p2), .second, .val (.ref b1), .val (.int x4_218), .val (.long x5_224), .second, .val (.long (y32 - x5_224)), .second, .val (.long x9_245), .second, .val (.int x11_253), .val (.int v266s0)] [(.int (0 : Int32))]))
      exact Km283_35 _ ((if_neg c275_0)).symm
  intro v283s0 hv283s0
  show D (T34.setTop (mkF m 283 #[.val (.int p1), .val (.long p2), .second, .val (.ref b1), .val (.int x4_218), .val (.long x5_224), .second, .val (.long (y32 - x5_224)), .second, .val (.long x9_245), .second, .val (.int x11_253), .val (.int v266s0)] [(.int v283s0)]))
  obtain rfl : v283s0 = (1 : Int32) := by
    have hb := own_ix p1
    rw [← hk4] at hb
    have hy := c_maskL p2 9223372036854775807 63 (by decide) (by decide)
    rw [hv283s0, if_pos]
    rw [hv266s0]
    exact own_law x4_218 _ x9_245 x5_224 (y32 - x5_224) x11_253 hb.1 hb.2 hx5_224 (by rw [hy32]) (by omega) hx9_245 hx11_253
  show D (T34.setTop (mkF m 283 #[.val (.int p1), .val (.long p2), .second, .val (.ref b1), .val (.int x4_218), .val (.long x5_224), .second, .val (.long (y32 - x5_224)), .second, .val (.long x9_245), .second, .val (.int x11_253), .val (.int v266s0)] [(.int (1 : Int32))]))
  exact F _ (Jvm.JW.ret X34 hlk (v := some (.int (1 : Int32))) (fun h => by rw [hrt] at h; cases h) (fun fs hr => retOut X34 hx hrt rfl (Or.inl ⟨rfl, Or.inr (Or.inl rfl), _, rfl⟩) (hb hby at_283) hr) rfl ⟨rfl, N34⟩ (by decide) (by decide))
set_option maxRecDepth 65536 in
set_option maxHeartbeats 40000000 in
theorem comes_1 {Post : Tables → Env → Array Value → State → Outcome → State → Prop} (hpost : ∀ tb e args s v u, (limb_1_1.after args s (.returned v) u = true ∧ limb_1_2.after args s (.returned v) u = true ∧ True) → FrameEnd s (.returned v) u (Jvm.fieldLocs frame_1_writes args s ++ Jvm.arrayLocs frame_1_arrays args s ++ Jvm.staticLocs frame_1_statics s) 16 128 → Post tb e args s (.returned v) u) :
    ArmFor flags0 classFile x code maxLocals ret World_1 tables_1 room_1 Calls_1 rest_1 Pre_1 Post := by
  intro l hfl _ _ p e ha hc hk s m args below hf hA hF happ hP
  obtain ⟨hcalls, hrest, hpre⟩ := hP
  obtain ⟨-, -, -, hnamed, -, -, -, hat⟩ := (Spec.applies_iff hf).mp happ
  obtain ⟨hg, hn⟩ := and_e (Cond.before_iff.mp (show (Jvm.Cond.and given_1 narrow_1).before args s = true from hpre))
  obtain ⟨g0, g1⟩ := and_e hg
  obtain ⟨t1, g2⟩ := and_e g1
  obtain ⟨w0, w1, rfl⟩ : ∃ w0 w1 : Value, args = #[w0, w1] := by
    have hs : args.size = 2 := by simpa [Cond.value, given_1] using g0
    obtain ⟨L⟩ := args
    match L, hs with
    | [w0, w1], _ => exact ⟨w0, w1, rfl⟩
  have hw := fun d (hd : d ∈ tables_1) => atoms_spec (ws := Jvm.Cond.code x code maxLocals ret :: tables_1) hat d (List.mem_cons_of_mem _ hd)
  obtain ⟨i0, q0⟩ := is_v t1
  obtain rfl : w0 = (.int i0) := Option.some.inj q0
  obtain ⟨i1, q1⟩ := isL_v g2
  obtain rfl : w1 = (.long i1) := Option.some.inj q1
  obtain ⟨n, o, h1, h2, h3, _, L, rfl, ⟨rfl, N⟩, hq⟩ := rm0 l s _ hw tables_1 i0 i1 s.heap s.heap.size (Nat.le_refl _) p e ha hc hk s m _ below hf ((Spec.applies_iff_loose hf).mp happ).1 ⟨rfl, State.Warmed39.refl s, rfl⟩ trivial
  refine ⟨n, _, h1, h2, h3, hpost _ _ _ _ _ _ ⟨Cond.after_iff.mpr rfl, Cond.after_iff.mpr (eq_i res_at (Term.int_eval (1)) rfl), trivial⟩ ⟨hq.1, hq.2.1, (hq.2.2.sift fun y hy => Or.inr (N y hy)).mono (by decide) (by decide)⟩⟩
theorem main_1_1 : Claimed_1_1 := comes_1 fun _ _ _ _ _ _ h hF => ⟨h.1, hF⟩
theorem main_1_2 : Claimed_1_2 := comes_1 fun _ _ _ _ _ _ h hF => ⟨h.2.1, hF⟩
end Jvm.Pilot.@@N@@
namespace Jvm.Pilot.@@N@@
open Jvm Jvm.ClassFile Sem Op Lib Jvm.Free Jvm.Stand Jvm.Pilot.@@N@@.Jvm.D
/-! MADE BY PROGRAM (witnessworld.py) out of the Statement's table words and the real class files: 11 classes; the members and pool entries that the words name. The judged class is class 1, her method 1. -/
namespace start1
open Jvm.ClassFile
def u (s : String) : CpInfo := .utf8 (stringToUtf16 s)
/-- a pool by its gaps: so many unusable entries, then the entry; so many at the end -/
def gap : Nat → List CpInfo → List CpInfo
  | 0, r => r
  | n + 1, r => .unusable :: gap n r
def poolList (es : List (Nat × CpInfo)) (last : Nat) : List CpInfo := es.foldr (fun e r => gap e.1 (e.2 :: r)) (gap last [])
def pool (es : List (Nat × CpInfo)) (last : Nat) : Array CpInfo := ⟨poolList es last⟩
def fileOf (pool : Array CpInfo) (this : Nat) (attrs : Array Attribute := #[]) (ms : Array MethodInfo := #[]) (fl : Nat := 33) (sup : Nat := 0) (ifs : Array Nat := #[]) (fds : Array FieldInfo := #[]) : ClassFile where
  minorVersion := 0
  majorVersion := 65
  constantPool := pool
  accessFlags := fl
  thisClass := this
  superClass := sup
  interfaces := ifs
  fields := fds
  methods := ms
  attributes := attrs
def plain (name : String) (sup : Option ClassId) : Class where
  name := name
  kind := .ordinary
  loader := none
  accessFlags := 33
  super := sup
  interfaces := #[]
  cf := none
  fields := #[]
  methods := #[]
  instanceTypes := #[]
  staticTypes := #[]
  resolved := #[]
  callSites := []
  init := .initialized
  statics := none
  mirror := none

def pool0 : Array CpInfo := pool [(5, u "<init>"), (0, u "()V"), (1, .class_ 10), (1, u "java/lang/Object")] 113

def k0m0 : Method := { name := "<init>", desc := "()V", sig := { parameters := [], returnType := none }, accessFlags := 1, code := none }
/-- java/lang/Object -/
def k0 : Class := { plain "java/lang/Object" none with
  accessFlags := 33
  interfaces := #[]
  cf := some (fileOf pool0 8 #[] #[{ accessFlags := 1, nameIndex := 5, descriptorIndex := 6, attributes := #[] }] 33 0 #[] #[])
  fields := #[]
  methods := #[k0m0]
  instanceTypes := #[]
  staticTypes := #[]
  resolved := Array.replicate 124 none
  statics := none }

def pool1 : Array CpInfo := pool [(2, .class_ 4), (1, u "java/lang/Object"), (0, u "<init>"), (0, u "()V"), (0, .long 18446744071562067968), (1, .long 65), (1, .long 91), (1, .long 97), (1, .long 123), (1, .long 192), (1, .long 215), (1, .long 216), (1, .long 247), (1, .long 248), (1, .long 768), (1, .long 880), (1, .long 894), (1, .long 895), (1, .long 8192), (1, .long 8204), (1, .long 8206), (1, .long 8304), (1, .long 8592), (1, .long 11264), (1, .long 12272), (1, .long 12289), (1, .long 55296), (1, .long 63744), (1, .long 64976), (1, .long 65008), (1, .long 65534), (1, .long 65536), (1, .long 983040), (1, .long 2147483648), (1, .integer 2147483647), (2, .long 9223372036854775807), (1, .methodref 73 74), (0, .class_ 75), (0, .nameAndType 76 77), (0, u "com/example/wayfare/wayfare/parse/NTriples"), (0, u "isNameStart"), (0, u "(I)Z"), (0, .class_ 79), (0, u "com/example/wayfare/wayfare/parse/NTriplesIsNameStartPinLaw"), (2, u "law"), (0, u "(IJ)Z")] 5

def k1m0 : Method := { name := "<init>", desc := "()V", sig := { parameters := [], returnType := none }, accessFlags := 1, code := none }
def k1c1 : Code := { maxStack := 5, maxLocals := 13, code := code, exceptionTable := #[], attributes := #[] }
def k1m1 : Method := { name := "law", desc := "(IJ)Z", sig := { parameters := [.int, .long], returnType := some .boolean }, accessFlags := 9, code := some k1c1 }
/-- com/example/wayfare/wayfare/parse/NTriplesIsNameStartPinLaw -/
def k1 : Class := { plain "com/example/wayfare/wayfare/parse/NTriplesIsNameStartPinLaw" (some 0) with
  accessFlags := 49
  interfaces := #[]
  cf := some (fileOf pool1 78 #[] #[{ accessFlags := 1, nameIndex := 5, descriptorIndex := 6, attributes := #[] }, { accessFlags := 9, nameIndex := 82, descriptorIndex := 83, attributes := #[] }] 49 2 #[] #[])
  fields := #[]
  methods := #[k1m0, k1m1]
  instanceTypes := #[]
  staticTypes := #[]
  resolved := Array.replicate 89 none
  statics := none }

def pool2 : Array CpInfo := pool [(2, .class_ 4), (1, u "java/lang/Object"), (3, .class_ 10), (1, u "com/example/wayfare/wayfare/parse/NTriples"), (0, u "text"), (0, u "Ljava/lang/String;"), (2, u "position"), (0, u "I"), (11, .class_ 30), (1, u "com/example/wayfare/wayfare/parse/NTriples$Kind"), (39, .class_ 71), (0, u "com/example/wayfare/wayfare/parse/NTriples$Term"), (36, .integer 55295), (0, .integer 63744), (0, .integer 64975), (0, .integer 65008), (0, .integer 65533), (0, .integer 65536), (0, .integer 983039), (2, u "isNameStart"), (0, u "(I)Z"), (206, u "RDF_TYPE"), (3, u "XSD_STRING"), (0, u "NOT_IN_IRI")] 47

def k2c0 : Code := { maxStack := 2, maxLocals := 1, code := prog_55_method_6_code, exceptionTable := #[], attributes := #[] }
def k2m0 : Method := { name := "isNameStart", desc := "(I)Z", sig := { parameters := [.int], returnType := some .boolean }, accessFlags := 8, code := some k2c0 }
/-- com/example/wayfare/wayfare/parse/NTriples -/
def k2 : Class := { plain "com/example/wayfare/wayfare/parse/NTriples" (some 0) with
  accessFlags := 49
  interfaces := #[]
  cf := some (fileOf pool2 8 #[.nestMembers #[70, 28]] #[{ accessFlags := 8, nameIndex := 117, descriptorIndex := 118, attributes := #[] }] 49 2 #[] #[{ accessFlags := 25, nameIndex := 325, descriptorIndex := 12, attributes := #[] }, { accessFlags := 26, nameIndex := 329, descriptorIndex := 12, attributes := #[] }, { accessFlags := 26, nameIndex := 330, descriptorIndex := 12, attributes := #[] }, { accessFlags := 18, nameIndex := 11, descriptorIndex := 12, attributes := #[] }, { accessFlags := 2, nameIndex := 15, descriptorIndex := 16, attributes := #[] }])
  fields := #[{ name := "RDF_TYPE", type := (.object "java/lang/String"), accessFlags := 25, slot := 0, constantValue := 0 }, { name := "XSD_STRING", type := (.object "java/lang/String"), accessFlags := 26, slot := 1, constantValue := 0 }, { name := "NOT_IN_IRI", type := (.object "java/lang/String"), accessFlags := 26, slot := 2, constantValue := 0 }, { name := "text", type := (.object "java/lang/String"), accessFlags := 18, slot := 0, constantValue := 0 }, { name := "position", type := .int, accessFlags := 2, slot := 1, constantValue := 0 }]
  methods := #[k2m0]
  instanceTypes := #[(.object "java/lang/String"), .int]
  staticTypes := #[(.object "java/lang/String"), (.object "java/lang/String"), (.object "java/lang/String")]
  resolved := Array.replicate 378 none
  statics := none }

def pool3 : Array CpInfo := pool [(1, u "java/lang/Cloneable"), (0, .class_ 1), (0, u "java/lang/Object"), (0, .class_ 3)] 3

/-- java/lang/Cloneable -/
def k3 : Class := { plain "java/lang/Cloneable" (some 0) with
  accessFlags := 1537
  interfaces := #[]
  cf := some (fileOf pool3 2 #[] #[] 1537 4 #[] #[])
  fields := #[]
  methods := #[]
  instanceTypes := #[]
  staticTypes := #[]
  resolved := Array.replicate 8 none
  statics := none }

def pool4 : Array CpInfo := pool [(1, u "java/io/Serializable"), (0, .class_ 1), (0, u "java/lang/Object"), (0, .class_ 3)] 3

/-- java/io/Serializable -/
def k4 : Class := { plain "java/io/Serializable" (some 0) with
  accessFlags := 1537
  interfaces := #[]
  cf := some (fileOf pool4 2 #[] #[] 1537 4 #[] #[])
  fields := #[]
  methods := #[]
  instanceTypes := #[]
  staticTypes := #[]
  resolved := Array.replicate 8 none
  statics := none }

/-- the primitive byte -/
def k5 : Class := { plain "byte" none with kind := .primitive 'B', accessFlags := 0x411 }
/-- [B -/
def k6 : Class := { plain "[B" (some 0) with kind := .array 5 .byte, interfaces := #[3, 4], accessFlags := 1041 }

/-- the primitive int -/
def k7 : Class := { plain "int" none with kind := .primitive 'I', accessFlags := 0x411 }
/-- [I -/
def k8 : Class := { plain "[I" (some 0) with kind := .array 7 .int, interfaces := #[3, 4], accessFlags := 1041 }

/-- the primitive long -/
def k9 : Class := { plain "long" none with kind := .primitive 'J', accessFlags := 0x411 }
/-- [J -/
def k10 : Class := { plain "[J" (some 0) with kind := .array 9 .long, interfaces := #[3, 4], accessFlags := 1041 }

def heap : Heap := #[]
def classes : Array Class := #[k0, k1, k2, k3, k4, k5, k6, k7, k8, k9, k10]
def interned : List (Array UInt16 × Addr) := []
def slotsUsed : Nat := 0
def theMethod : MethodId := ⟨1, 1⟩
def args0 : Array Value := #[.int 3, .long 4]
def aboutOver (below : List Frame) : State where
  vm := { classes := classes, interned := interned.toArray }
  heap := heap
  slotsUsed := slotsUsed
  threads := #[{ frames := .invoking theMethod args0 :: below }]
def below0 : List Frame := [.native { method := ⟨0, 0⟩, args := #[] }]
def about1 : State := aboutOver below0
def p0 : Program := .bare "" "" ""
def e0 : Env := launch0.env 0 0 0
theorem w_frames : about1.frames = Frame.invoking theMethod args0 :: below0 := rfl
set_option maxRecDepth 65536 in
theorem w_args : argsFit about1.vm theMethod args0 = true := by decide +kernel
set_option maxRecDepth 65536 in
theorem w_heap : heapFits about1 = true := by decide +kernel
set_option maxRecDepth 65536 in
theorem w_runnable : about1.curStatus? = some .runnable := by decide +kernel
set_option maxRecDepth 65536 in
theorem w_alone : about1.alone = true := by decide +kernel
set_option maxRecDepth 65536 in
theorem w_named : about1.methodNamed? x = some theMethod := by decide +kernel
set_option maxRecDepth 65536 in
theorem w_hears : about1.hears theMethod below0 = true := by decide +kernel
set_option maxRecDepth 65536 in
theorem w_ripe : about1.ripe theMethod args0 below0 = true := by decide +kernel
theorem w_running : about1.status = .running := rfl
set_option maxRecDepth 65536 in
theorem w_room : about1.hasRoom e0.platform room_1 = true :=
  launch0.hasRoom_least _ room_1 (by decide +kernel) (by decide +kernel) (by decide +kernel) (by decide +kernel) (by decide +kernel) (by decide +kernel)
theorem allAtoms_all (ts : List Jvm.Cond) (a : Array Jvm.Value) (st : Jvm.State) : (allAtoms ts).before a st = ts.all (fun c => c.before a st) := by
  induction ts with
  | nil => rfl
  | cons c t ih =>
    show (Jvm.Cond.and c (allAtoms t)).before a st = _
    rw [Jvm.Cond.before_and, ih, List.all_cons]
def words1 : List Jvm.Cond := Jvm.Cond.code x code maxLocals ret :: tables_1
/-- a 'code' word, met by the world's own term for the bytes: nothing is compared byte by byte -/
theorem code_word {y : MethodName} {bytes : ByteArray} {mx : Nat} {rt : Option FieldType} {a : Array Value} {s : State} {m : MethodId} {meth : Method} {c : Code} (h1 : s.methodNamed? y = some m) (h2 : s.vm.method? m = some meth) (h3 : meth.code = some c) (h4 : c.code = bytes)
    (h5 : (c.maxLocals == mx && c.exceptionTable.isEmpty && decide (c.maxStack ≤ mostOperands) && decide (meth.sig.returnType = rt) && !meth.locks && decide (parseMethodDescriptor y.desc = some meth.sig)) = true) : (Jvm.Cond.code y bytes mx rt).before a s = true := by
  simp only [Bool.and_eq_true, beq_iff_eq, Bool.not_eq_true', decide_eq_true_eq] at h5
  obtain ⟨⟨⟨⟨⟨g1, g2⟩, g3⟩, g4⟩, g5⟩, g6⟩ := h5
  simp [Cond.before, Cond.holds, Cond.value, h1, h2, h3, h4, g1, g2, g3, g4, g5, g6]
def isCode : Jvm.Cond → Bool
  | .code _ _ _ _ => true
  | _ => false
theorem all_split {L : List Jvm.Cond} {P : Jvm.Cond → Bool} (h1 : L.all (fun c => isCode c || P c) = true) (h2 : ∀ c ∈ L.filter isCode, P c = true) : L.all P = true := by
  refine List.all_eq_true.mpr fun c hc => ?_
  have h := List.all_eq_true.mp h1 c hc
  rcases Bool.eq_false_or_eq_true (isCode c) with hi | hi
  · exact h2 c (List.mem_filter.mpr ⟨hc, hi⟩)
  · simpa [hi] using h
set_option maxRecDepth 65536 in
theorem w_c0 : (Jvm.Cond.code x code maxLocals ret).before args0 about1 = true := code_word (m := ⟨1, 1⟩) (meth := k1m1) (c := k1c1) (by decide +kernel) rfl rfl rfl (by decide +kernel)
set_option maxRecDepth 65536 in
theorem w_c1 : (Jvm.Cond.code ({ cls := "com/example/wayfare/wayfare/parse/NTriples", name := "isNameStart", desc := "(I)Z" } : Jvm.MethodName) prog_55_method_6_code (1 : Nat) (Option.some Jvm.ClassFile.FieldType.boolean)).before args0 about1 = true := code_word (m := ⟨2, 0⟩) (meth := k2m0) (c := k2c0) (by decide +kernel) rfl rfl rfl (by decide +kernel)
def codes1 : List Jvm.Cond := [Jvm.Cond.code x code maxLocals ret, Jvm.Cond.code ({ cls := "com/example/wayfare/wayfare/parse/NTriples", name := "isNameStart", desc := "(I)Z" } : Jvm.MethodName) prog_55_method_6_code (1 : Nat) (Option.some Jvm.ClassFile.FieldType.boolean)]
set_option maxRecDepth 65536 in
theorem codes_eq : words1.filter isCode = codes1 := rfl
theorem w_codes : ∀ c ∈ words1.filter isCode, c.before args0 about1 = true := by
  rw [codes_eq]
  intro c hc
  simp only [codes1, List.mem_cons, List.not_mem_nil, or_false] at hc
  rcases hc with rfl | rfl
  · exact w_c0
  · exact w_c1
set_option maxRecDepth 65536 in
theorem w_t1 : (words1.take 24).all (fun c => isCode c || c.before args0 about1) = true := by decide +kernel
set_option maxRecDepth 65536 in
theorem w_t2 : (words1.drop 24).all (fun c => isCode c || c.before args0 about1) = true := by decide +kernel
theorem w_tables : (allAtoms (Jvm.Cond.code x code maxLocals ret :: tables_1)).before args0 about1 = true := by
  rw [allAtoms_all]
  show words1.all (fun c => c.before args0 about1) = true
  refine all_split ?_ w_codes
  rw [← List.take_append_drop 24 words1, List.all_append, w_t1, w_t2]
  rfl
set_option maxRecDepth 65536 in
theorem w_case : (Jvm.Cond.and given_1 narrow_1).before args0 about1 = true := by decide +kernel
theorem w_applies : (headSpec (Jvm.Cond.code x code maxLocals ret :: tables_1) room_1).applies x e0.platform about1 = true :=
  (Spec.applies_iff w_frames).mpr ⟨w_running, w_runnable, w_alone, w_named, w_hears, w_ripe, w_room, w_tables⟩
theorem atStart : AtStart classFile x code maxLocals ret World_1 tables_1 room_1 Calls_1 rest_1 Pre_1 launch0 p0 e0 about1 theMethod args0 below0 :=
  ⟨lists_1, trivial, launch0.admits_env _ _ _, launch0.least_env, fairChoices_fair.cas, fairChoices_fair.clock, w_frames, w_args, w_heap, w_applies, trivial, trivial, w_case⟩
end start1
theorem witness_1 : WitnessClaimed_1 := ⟨start1.p0, start1.e0, start1.about1, start1.theMethod, start1.args0, start1.below0, start1.atStart⟩
end Jvm.Pilot.@@N@@
