import JvmDerived
import JvmDerived.Pilot.@@N@@Statement
import JvmDerived.Pilot.@@N@@Code
set_option linter.unusedVariables false
set_option linter.unusedSimpArgs false
namespace Jvm.JW
open Sem ClassFile Op Lib Jvm.Stand Jvm.Free Jvm.LawKit Jvm.RoadKit
/-! The walk in continuation form: D holds of a machine state if the run from it ends as the contract says. -/
def Dn (p : Program) (e : Env) (below : List Frame) (s : State) (Q : Option Value → Heap → List Loc → Prop) (k n : Nat) (S : State) : Prop :=
  ∃ s₂ o, Steps p.tables e below S s₂ ∧ s₂.status = .running ∧ Ended s₂ below o ∧ ∃ v L, o = .returned v ∧ Q v s₂.heap L ∧ FrameEnd s o s₂ L k n
def Adv (p : Program) (e : Env) (below : List Frame) (D : State → Prop) : Prop :=
  ∀ {S S' : State}, (∀ {t : State}, Steps p.tables e below S' t → Steps p.tables e below S t) → D S' → D S
theorem Adv.dn {p : Program} {e : Env} {below : List Frame} {s : State} {Q : Option Value → Heap → List Loc → Prop} {k n : Nat} : Adv p e below (Dn p e below s Q k n) := by
  intro S S' h d
  obtain ⟨s2, o, h1, h2⟩ := d
  exact ⟨s2, o, h h1, h2⟩
theorem Adv.tr {p : Program} {e : Env} {below : List Frame} {D : State → Prop} (A : Adv p e below D) {S S' : State} (h : Steps p.tables e below S S') (d : D S') : D S := A (fun k => h.trans k) d
abbrev JMet (l : Launch) (Z : State) (y : MethodName) (bytes : ByteArray) (maxL : Nat) (ret : Option FieldType) (ws : List Cond) (rm : Room) (as' : Array Value) (h0 : Heap) (Q : Option Value → Heap → List Loc → Prop) : Prop :=
  MetFree l y (head1 (Cond.code y bytes maxL ret :: ws) rm) (fun a U => a = as' ∧ Z.Warmed39 U.vm ∧ U.heap = h0) (fun _ _ _ _ _ => True) (fun _ U o U' => ∃ v L, o = .returned v ∧ Q v U'.heap L ∧ FrameEnd U o U' L rm.cells rm.slots)
/-- a body that returns r and leaves the heap as it was -/
def QP (r : Value) (h0 : Heap) (n0 : Nat) (v : Option Value) (h : Heap) (L : List Loc) : Prop := v = some r ∧ Fr n0 L ∧ h = h0
/-- the law: it returns 1; nothing that stood at the start is written -/
def QL (n0 : Nat) (v : Option Value) (h : Heap) (L : List Loc) : Prop := v = some (.int 1) ∧ Fr n0 L
section Kit
variable {p : Program} {l : Launch} {e : Env} {R : Room} {s : State} {m : MethodId} {args : Array Value} {below : List Frame} {meth : Method} {c : Code} {T : State} {locs : List Loc} {cells slots : Nat} {Z : State} {a0 : Array Value} {h : Heap} {D : State → Prop}
theorem ret (X : Stand p l e R s m args below meth c T locs cells slots) (hlk : meth.locks = false) {Q : Option Value → Heap → List Loc → Prop} {k n : Nat} {S : State} {v : Option Value} (hv : meth.sig.returnType = none → v = none)
    (hst : ∀ fs, (∀ (f : JFrame) (acts : List Action), f.method = m → f.locked = none → f.entered = [] → (doReturn e (T.setTop f) acts v).1 = T.setFrames fs) → Steps p.tables e below S (T.setFrames fs))
    {hh : Heap} (eT : T.heap = hh) (hq : Q v hh locs) (hk : cells ≤ k) (hn : slots ≤ n) : Dn p e below s Q k n S := by
  subst eT
  obtain ⟨fs, hr, hrun, hended, hW, hsame⟩ := X.leave (v := v) hv hlk
  exact ⟨_, _, hst fs hr, hrun, hended, _, _, rfl, hq, ⟨_, rfl⟩, hW, hsame.mono hk hn⟩
theorem body {y : MethodName} {bytes : ByteArray} {maxL : Nat} {rt : Option FieldType} {ws : List Cond} {rm : Room} {as' : Array Value} {h0 : Heap} {Q : Option Value → Heap → List Loc → Prop} (Ls : Array Slot) (hpl : plainFor y = true) (hef : ∀ m, entryFrame m as' maxL = mkF m 0 Ls [])
    (bd : ∀ (p : Program) (e : Env) (s : State) (m : MethodId) (below : List Frame) (meth : Method) (c : Code) (T0 : State) (D : State → Prop), Adv p e below D → (∀ S, Dn p e below s Q rm.cells rm.slots S → D S) → Stand p l e rm s m as' below meth c T0 [] 0 0 → p.tables.exec = Jvm.exec → Z.Warmed39 s.vm → c.code = bytes → c.maxLocals = maxL → s.vm.findClass y.cls = some m.cls → meth.name = y.name → meth.sig.returnType = rt → meth.locks = false → T0.heap = h0 → D (T0.setTop (mkF m 0 Ls []))) :
    JMet l Z y bytes maxL rt ws rm as' h0 Q := by
  refine MetFree.of_bodySF hpl hisR ?_
  intro p e s m args below meth c s₁ Bd hml hP hK
  obtain ⟨rfl, hZ, hh⟩ := hP
  have q := bd p e s m below meth c s₁ (Dn p e below s Q rm.cells rm.slots) Adv.dn (fun _ d => d) (Stand.of_body Bd) Bd.exec hZ Bd.bytes hml (findClass_of_methodNamed Bd.named) (name_of_methodNamed Bd.named Bd.method).1 Bd.returns Bd.notSynchronized (by rw [← hh, Bd.state]; rfl)
  rw [← hef m] at q
  exact q
theorem Adv.callS (A : Adv p e below D) (X : Stand p l e R s m args below meth c T locs cells slots) (hx : p.tables.exec = Jvm.exec) (hZ : Z.Warmed39 s.vm) {own : String} {index : Nat} {y : MethodName} {bytes : ByteArray} {maxL : Nat} {rt : Option FieldType} {rm : Room} {as' : Array Value} {Q : Option Value → Heap → List Loc → Prop}
    (hown : s.vm.findClass own = some m.cls) (w1 : (Cond.methodLink own index y).before a0 Z = true) (w2 : (Cond.static y).before a0 Z = true) (w3 : (Cond.initialized y.cls).before a0 Z = true) (w4 : (Cond.code y bytes maxL rt).before a0 Z = true) (eT : T.heap = h)
    (hM : JMet l Z y bytes maxL rt [] rm as' h Q) (W : Nat) {g : JFrame} (hg : g.method = m) (hsz : g.locals.size = c.maxLocals) (argsL rest : List Value) (has : as' = argsL.toArray)
    (hlen : ∀ sig, parseMethodDescriptor y.desc = some sig → argsL.length = sig.parameters.length) (hstack : g.stack = argsL.reverse ++ rest) (hW : 2 * g.monitorRoom + (rest.map fun v => v.category).sum ≤ W)
    (hd : decode c.code g.pc = .ok (.invokestatic index, 3)) (hy : y.cls ≠ "java/lang/invoke/MethodHandle" ∧ y.cls ≠ "java/lang/invoke/VarHandle") (hf : rm.frames + 1 ≤ R.frames) (hl : W + (maxL + 11) + rm.locals ≤ R.locals) (hc : cells + rm.cells ≤ R.cells) (hs : slots + rm.slots ≤ R.slots)
    (k : ∀ (T' : State) (L' : List Loc) (v : Option Value), Stand p l e R s m args below meth c T' (locs ++ L') (cells + rm.cells) (slots + rm.slots) → Q v T'.heap L' → D (T'.setTop { g with pc := g.pc + 3, stack := v.toList ++ rest })) : D (T.setTop g) := by
  subst has
  obtain ⟨v, _, ⟨T', L, k', n'⟩, -, X', ⟨Lc, hQ, l', y', z'⟩, st⟩ := Jvm.LawKit.callS X hx (y := y) hown (mvT hZ w1) (mvT hZ w2) (mvT hZ w3) (mvT hZ w4) hy (backOf (W := W) hM hZ w4 w3 hf hl) (g := g) hg hsz (argsL := argsL) (rest := rest) hlen hstack hW hd (fun _ _ => ⟨rfl, eT, hc, hs⟩)
  dsimp only [Pt.U, Pt.locs, Pt.cells, Pt.slots] at X' l' y' z' st hQ
  subst l' y' z'
  exact A (fun q => st _ q) (k T' Lc v X' hQ)
theorem Adv.callI (A : Adv p e below D) (X : Stand p l e R s m args below meth c T locs cells slots) (hx : p.tables.exec = Jvm.exec) (hZ : Z.Warmed39 s.vm) {own : String} {index : Nat} {y : MethodName} {bytes : ByteArray} {maxL : Nat} {rm : Room} {as' : Array Value} {Q : Option Value → Heap → List Loc → Prop}
    (hown : s.vm.findClass own = some m.cls) (hi : y.name = "<init>") (w1 : (Cond.methodLink own index y).before a0 Z = true) (w2 : (Cond.instanceMethod y).before a0 Z = true) (w3 : (Cond.initialized y.cls).before a0 Z = true) (w4 : (Cond.code y bytes maxL none).before a0 Z = true) (eT : T.heap = h)
    (hM : JMet l Z y bytes maxL none [] rm as' h Q) (W : Nat) {g : JFrame} (hg : g.method = m) (hsz : g.locals.size = c.maxLocals) (a : Addr) (argsL rest : List Value) (has : as' = (.ref a :: argsL).toArray)
    (hlen : ∀ sig, parseMethodDescriptor y.desc = some sig → argsL.length = sig.parameters.length) (hstack : g.stack = argsL.reverse ++ .ref a :: rest) (hW : 2 * g.monitorRoom + (rest.map fun v => v.category).sum ≤ W)
    (hd : decode c.code g.pc = .ok (.invokespecial index, 3)) (hy : y.cls ≠ "java/lang/invoke/MethodHandle" ∧ y.cls ≠ "java/lang/invoke/VarHandle") (hf : rm.frames + 1 ≤ R.frames) (hl : W + (maxL + 11) + rm.locals ≤ R.locals) (hc : cells + rm.cells ≤ R.cells) (hs : slots + rm.slots ≤ R.slots)
    (k : ∀ (T' : State) (L' : List Loc) (v : Option Value), Stand p l e R s m args below meth c T' (locs ++ L') (cells + rm.cells) (slots + rm.slots) → Q v T'.heap L' → D (T'.setTop { g with pc := g.pc + 3, stack := v.toList ++ rest })) : D (T.setTop g) := by
  subst has
  obtain ⟨v, _, ⟨T', L, k', n'⟩, -, X', ⟨Lc, hQ, l', y', z'⟩, st⟩ := X.specialBack hx (y := y) hi hown (mvT hZ w1) (mvT hZ w2) (mvT hZ w4) hy (backOf (W := W) hM hZ w4 w3 hf hl) (g := g) hg hsz (Steps.refl _) (a := a) (argsL := argsL) (rest := rest) hlen hstack hW hd (fun _ _ => ⟨rfl, eT, hc, hs⟩)
  dsimp only [Pt.U, Pt.locs, Pt.cells, Pt.slots] at X' l' y' z' st hQ
  subst l' y' z'
  exact A.tr st (k T' Lc v X' hQ)
theorem Adv.callV (A : Adv p e below D) (X : Stand p l e R s m args below meth c T locs cells slots) (hx : p.tables.exec = Jvm.exec) (hZ : Z.Warmed39 s.vm) {own C : String} {index : Nat} {y z : MethodName} {bytes : ByteArray} {maxL : Nat} {rt : Option FieldType} {rm : Room} {as' : Array Value} {Q : Option Value → Heap → List Loc → Prop} {a : Addr}
    (hown : s.vm.findClass own = some m.cls) (w1 : (Cond.methodLink own index y).before a0 Z = true) (w2 : (Cond.declares y).before a0 Z = true) (nf : NotFace s y) (w5 : (Cond.selects C y z).before a0 Z = true) (w6 : (Cond.instanceMethod z).before a0 Z = true) (w3 : (Cond.initialized z.cls).before a0 Z = true) (w4 : (Cond.code z bytes maxL rt).before a0 Z = true) (eT : T.heap = h) (E : Exa Z h a C)
    (hM : JMet l Z z bytes maxL rt [] rm as' h Q) (W : Nat) {g : JFrame} (hg : g.method = m) (hsz : g.locals.size = c.maxLocals) (argsL rest : List Value) (has : as' = (.ref a :: argsL).toArray)
    (hlen : ∀ sig, parseMethodDescriptor y.desc = some sig → argsL.length = sig.parameters.length) (hstack : g.stack = argsL.reverse ++ .ref a :: rest) (hW : 2 * g.monitorRoom + (rest.map fun v => v.category).sum ≤ W)
    (hd : decode c.code g.pc = .ok (.invokevirtual index, 3)) (hy : y.cls ≠ "java/lang/invoke/MethodHandle" ∧ y.cls ≠ "java/lang/invoke/VarHandle") (hf : rm.frames + 1 ≤ R.frames) (hl : W + (maxL + 11) + rm.locals ≤ R.locals) (hc : cells + rm.cells ≤ R.cells) (hs : slots + rm.slots ≤ R.slots)
    (k : ∀ (T' : State) (L' : List Loc) (v : Option Value), Stand p l e R s m args below meth c T' (locs ++ L') (cells + rm.cells) (slots + rm.slots) → Q v T'.heap L' → D (T'.setTop { g with pc := g.pc + 3, stack := v.toList ++ rest })) : D (T.setTop g) := by
  subst has
  obtain ⟨cq, kq, qa, qb, qc⟩ := isOf hZ eT E
  obtain ⟨v, _, ⟨T', L, k', n'⟩, -, X', ⟨Lc, hQ, l', y', z'⟩, st⟩ := X.virtualBack hx (y := y) (z := z) hown (mvT hZ w1) (mvT hZ w2) nf (mvT hZ w5) (mvT hZ w6) hy (backOf (W := W) hM hZ w4 w3 hf hl) qa qc (g := g) hg hsz (Steps.refl _) (argsL := argsL) (rest := rest) hlen hstack hW hd (fun _ _ => ⟨rfl, eT, hc, hs⟩)
  dsimp only [Pt.U, Pt.locs, Pt.cells, Pt.slots] at X' l' y' z' st hQ
  subst l' y' z'
  exact A.tr st (k T' Lc v X' hQ)
theorem Adv.callU (A : Adv p e below D) (X : Stand p l e R s m args below meth c T locs cells slots) (hx : p.tables.exec = Jvm.exec) (hZ : Z.Warmed39 s.vm) {own C owner : String} {index : Nat} {y z : MethodName} {bytes : ByteArray} {maxL : Nat} {rt : Option FieldType} {rm : Room} {as' : Array Value} {Q : Option Value → Heap → List Loc → Prop} {a : Addr}
    (hown : s.vm.findClass own = some m.cls) (w1 : (Cond.methodLink own index y).before a0 Z = true) (w7 : (Cond.sameMethod y.cls owner y.name y.desc).before a0 Z = true) (w2 : (Cond.declares ⟨owner, y.name, y.desc⟩).before a0 Z = true) (w5 : (Cond.selects C y z).before a0 Z = true) (w6 : (Cond.instanceMethod z).before a0 Z = true) (w3 : (Cond.initialized z.cls).before a0 Z = true) (w4 : (Cond.code z bytes maxL rt).before a0 Z = true) (eT : T.heap = h) (E : Exa Z h a C)
    (hM : JMet l Z z bytes maxL rt [] rm as' h Q) (W : Nat) {g : JFrame} (hg : g.method = m) (hsz : g.locals.size = c.maxLocals) (argsL rest : List Value) (has : as' = (.ref a :: argsL).toArray)
    (hlen : ∀ sig, parseMethodDescriptor y.desc = some sig → argsL.length = sig.parameters.length) (hstack : g.stack = argsL.reverse ++ .ref a :: rest) (hW : 2 * g.monitorRoom + (rest.map fun v => v.category).sum ≤ W)
    (hd : decode c.code g.pc = .ok (.invokevirtual index, 3)) (hy : owner ≠ "java/lang/invoke/MethodHandle" ∧ owner ≠ "java/lang/invoke/VarHandle") (hf : rm.frames + 1 ≤ R.frames) (hl : W + (maxL + 11) + rm.locals ≤ R.locals) (hc : cells + rm.cells ≤ R.cells) (hs : slots + rm.slots ≤ R.slots)
    (k : ∀ (T' : State) (L' : List Loc) (v : Option Value), Stand p l e R s m args below meth c T' (locs ++ L') (cells + rm.cells) (slots + rm.slots) → Q v T'.heap L' → D (T'.setTop { g with pc := g.pc + 3, stack := v.toList ++ rest })) : D (T.setTop g) := by
  subst has
  obtain ⟨cq, kq, qa, qb, qc⟩ := isOf hZ eT E
  obtain ⟨v, _, ⟨T', L, k', n'⟩, -, X', ⟨Lc, hQ, l', y', z'⟩, st⟩ := X.virtualBackUp hx (x := y) (y := z) (owner := owner) hown (mvT hZ w1) (mvT hZ w7) (mvT hZ w2) hy (mvT hZ w5) (mvT hZ w6) (backOf (W := W) hM hZ w4 w3 hf hl) qa qc (g := g) hg hsz (Steps.refl _) (argsL := argsL) (rest := rest) hlen hstack hW hd (fun _ _ => ⟨rfl, eT, hc, hs⟩)
  dsimp only [Pt.U, Pt.locs, Pt.cells, Pt.slots] at X' l' y' z' st hQ
  subst l' y' z'
  exact A.tr st (k T' Lc v X' hQ)
theorem Adv.callP (A : Adv p e below D) (X : Stand p l e R s m args below meth c T locs cells slots) (hx : p.tables.exec = Jvm.exec) (hZ : Z.Warmed39 s.vm) {own C : String} {index kn : Nat} {y : MethodName} {bytes : ByteArray} {maxL : Nat} {rt : Option FieldType} {rm : Room} {as' : Array Value} {Q : Option Value → Heap → List Loc → Prop} {a : Addr}
    (hown : s.vm.findClass own = some m.cls) (w1 : (Cond.methodLink own index y).before a0 Z = true) (w2 : (Cond.instanceMethod y).before a0 Z = true) (wi : (Cond.instantiable y.cls kn).before a0 Z = true) (w5 : (Cond.privateMethod y).before a0 Z = true) (w3 : (Cond.initialized y.cls).before a0 Z = true) (w4 : (Cond.code y bytes maxL rt).before a0 Z = true) (eT : T.heap = h) (E : Exa Z h a C)
    (hM : JMet l Z y bytes maxL rt [] rm as' h Q) (W : Nat) {g : JFrame} (hg : g.method = m) (hsz : g.locals.size = c.maxLocals) (argsL rest : List Value) (has : as' = (.ref a :: argsL).toArray)
    (hlen : ∀ sig, parseMethodDescriptor y.desc = some sig → argsL.length = sig.parameters.length) (hstack : g.stack = argsL.reverse ++ .ref a :: rest) (hW : 2 * g.monitorRoom + (rest.map fun v => v.category).sum ≤ W)
    (hd : decode c.code g.pc = .ok (.invokevirtual index, 3)) (hy : y.cls ≠ "java/lang/invoke/MethodHandle" ∧ y.cls ≠ "java/lang/invoke/VarHandle") (hf : rm.frames + 1 ≤ R.frames) (hl : W + (maxL + 11) + rm.locals ≤ R.locals) (hc : cells + rm.cells ≤ R.cells) (hs : slots + rm.slots ≤ R.slots)
    (k : ∀ (T' : State) (L' : List Loc) (v : Option Value), Stand p l e R s m args below meth c T' (locs ++ L') (cells + rm.cells) (slots + rm.slots) → Q v T'.heap L' → D (T'.setTop { g with pc := g.pc + 3, stack := v.toList ++ rest })) : D (T.setTop g) := by
  subst has
  obtain ⟨ce, hce, hob⟩ := E.cell
  have hpriv : s.PrivateAt y := Cond.privateMethod_at (mvP hZ w5 (args := #[]))
  have hins : (Cond.instanceMethod y).before args s = true := mvT hZ w2
  have hwi : (Cond.instantiable y.cls kn).before args s = true := mvT hZ wi
  obtain ⟨ck, kk, c1, c2, -, c4, -⟩ := Cond.instantiable_spec hwi
  have hsel := selects_self_of_private c1 c2 (Bool.or_eq_false_iff.mp c4).1 hpriv hins hy
  obtain ⟨v, _, ⟨T', L, k', n'⟩, -, X', ⟨Lc, hQ, l', y', z'⟩, st⟩ := X.privateBack hx (y := y) hown (mvT hZ w1) hins hsel hpriv (mvT hZ w4) hy (backOf (W := W) hM hZ w4 w3 hf hl) (g := g) hg hsz (Steps.refl _) (a := a) (cell := ce) (by rw [eT]; exact hce) hob (argsL := argsL) (rest := rest) hlen hstack hW hd (fun _ _ => ⟨rfl, eT, hc, hs⟩)
  dsimp only [Pt.U, Pt.locs, Pt.cells, Pt.slots] at X' l' y' z' st hQ
  subst l' y' z'
  exact A.tr st (k T' Lc v X' hQ)
end Kit
/-! ### arrays by a function of the place -/
section Arrays
variable {p : Program} {l : Launch} {e : Env} {R : Room} {s : State} {m : MethodId} {args : Array Value} {below : List Frame} {meth : Method} {c : Code} {T : State} {locs : List Loc} {cells slots : Nat} {Z : State} {a0 : Array Value} {h h' : Heap} {D : State → Prop} {a b : Addr} {ty : FieldType} {n : Nat} {f : Nat → Int32} {fJ : Nat → Int64} {sl : Nat} {v : Value} {ws : List Addr}
def ArI (Z : State) (h : Heap) (a : Addr) (ty : FieldType) (n : Nat) (f : Nat → Int32) : Prop :=
  n < 2147483648 ∧ ∃ c : Cell, Arr Z h a c ty ∧ c.slots.size = n ∧ ∀ i, i < n → c.slots[i]? = some (.int (f i))
def ArJ (Z : State) (h : Heap) (a : Addr) (n : Nat) (f : Nat → Int64) : Prop :=
  n < 2147483648 ∧ ∃ c : Cell, Arr Z h a c .long ∧ c.slots.size = n ∧ ∀ i, i < n → c.slots[i]? = some (.long (f i))
theorem ArI.lt (F : ArI Z h a ty n f) : a < h.size := by obtain ⟨-, c, A, -⟩ := F; exact A.lt
theorem ArI.ext (F : ArI Z h a ty n f) (E : Ext h h') : ArI Z h' a ty n f := by obtain ⟨q, c, A, r⟩ := F; exact ⟨q, c, A.ext E, r⟩
theorem ArI.other (F : ArI Z h b ty n f) (W : Wr h h' a sl v) (q : b ≠ a) : ArI Z h' b ty n f := by obtain ⟨z, c, A, r⟩ := F; exact ⟨z, c, A.other W q, r⟩
theorem ArI.keep (F : ArI Z h a ty n f) (K : Keep h h' ws) (q : a ∉ ws) : ArI Z h' a ty n f := by obtain ⟨z, c, A, r⟩ := F; exact ⟨z, c, ⟨K.2.1 a c A.1 q, A.2⟩, r⟩
theorem ArI.eqf {g : Nat → Int32} (F : ArI Z h a ty n f) (q : ∀ i, i < n → f i = g i) : ArI Z h a ty n g := by
  obtain ⟨z, c, A, r, H⟩ := F; exact ⟨z, c, A, r, fun i hi => by rw [← q i hi]; exact H i hi⟩
theorem ArJ.lt (F : ArJ Z h a n fJ) : a < h.size := by obtain ⟨-, c, A, -⟩ := F; exact A.lt
theorem ArJ.ext (F : ArJ Z h a n fJ) (E : Ext h h') : ArJ Z h' a n fJ := by obtain ⟨q, c, A, r⟩ := F; exact ⟨q, c, A.ext E, r⟩
theorem ArJ.other (F : ArJ Z h b n fJ) (W : Wr h h' a sl v) (q : b ≠ a) : ArJ Z h' b n fJ := by obtain ⟨z, c, A, r⟩ := F; exact ⟨z, c, A.other W q, r⟩
theorem ArJ.keep (F : ArJ Z h a n fJ) (K : Keep h h' ws) (q : a ∉ ws) : ArJ Z h' a n fJ := by obtain ⟨z, c, A, r⟩ := F; exact ⟨z, c, ⟨K.2.1 a c A.1 q, A.2⟩, r⟩
theorem ArJ.eqf {g : Nat → Int64} (F : ArJ Z h a n fJ) (q : ∀ i, i < n → fJ i = g i) : ArJ Z h a n g := by
  obtain ⟨z, c, A, r, H⟩ := F; exact ⟨z, c, A, r, fun i hi => by rw [← q i hi]; exact H i hi⟩
theorem ne_ari {C : String} {k : Nat} (F : Exa Z h a C) (wi : (Cond.instantiable C k).before a0 Z = true) (G : ArI Z h b ty n f) : a ≠ b := by obtain ⟨-, c, A, -⟩ := G; exact ne_arr F wi A
theorem ne_arj {C : String} {k : Nat} (F : Exa Z h a C) (wi : (Cond.instantiable C k).before a0 Z = true) (G : ArJ Z h b n fJ) : a ≠ b := by obtain ⟨-, c, A, -⟩ := G; exact ne_arr F wi A
theorem ne_arr2 {c1 c2 : Cell} {t1 t2 : FieldType} (F : Arr Z h a c1 t1) (G : Arr Z h b c2 t2) (hn : t1 ≠ t2) : a ≠ b := fun q => by
  subst q
  cases F.1.symm.trans G.1
  obtain ⟨-, k1, j1, comp1, j2⟩ := F.2.1
  obtain ⟨-, k2, i1, comp2, i2⟩ := G.2.1
  cases j1.symm.trans i1
  rw [j2] at i2
  injection i2 with _ q2
  exact hn q2
theorem ne_aij {n' : Nat} (F : ArI Z h a ty n f) (G : ArJ Z h b n' fJ) (hn : ty ≠ .long) : a ≠ b := by obtain ⟨-, c, A, -⟩ := F; obtain ⟨-, c', A', -⟩ := G; exact ne_arr2 A A' hn
theorem to_nat {j : Int32} {k : Nat} (hk : j.toInt = k) : j.toNatClampNeg = k := by simp only [Int32.toNatClampNeg, hk, Int.toNat_natCast]
theorem inb {cl : Cell} {j : Int32} {k : Nat} (hk : j.toInt = k) (hkn : k < n) (hs : cl.slots.size = n) : ¬ (j < 0 ∨ cl.slots.size ≤ j.toNatClampNeg) := by
  rw [to_nat hk, hs, Int32.lt_iff_toInt_lt, hk, show (0 : Int32).toInt = 0 from rfl]; omega
theorem ixadd {x d : Int32} {k j : Nat} (hx : x.toInt = k) (hd : d.toInt = j) (h : k + j < 2147483648) : (x + d).toInt = ((k + j : Nat) : Int) := by
  have h2 := c_iadd x d
  have h3 := rng32 (x + d)
  omega
theorem ArI.mk {k : ClassId} {z : Int32} (A : Arr Z h a (newA k ty z) ty) (hn : z.toInt = n) (hd : defaultValue ty = .int 0) : ArI Z h a ty n (fun _ => 0) := by
  have hz := to_nat hn
  refine ⟨?_, _, A, by rw [sz_new, hz], fun i hi => ?_⟩
  · have := Int32.toInt_lt z; omega
  · simp [newA, hz, hi, hd]
theorem ArJ.mk {k : ClassId} {z : Int32} (A : Arr Z h a (newA k .long z) .long) (hn : z.toInt = n) : ArJ Z h a n (fun _ => 0) := by
  have hz := to_nat hn
  refine ⟨?_, _, A, by rw [sz_new, hz], fun i hi => ?_⟩
  · have := Int32.toInt_lt z; omega
  · simp [newA, hz, hi, defaultValue]
theorem set_at {cl : Cell} {i k : Nat} (hk : k < cl.slots.size) : (cl.setSlot k v).slots[i]? = if i = k then some v else cl.slots[i]? := by
  simp only [Cell.setSlot, Array.getElem?_setIfInBounds]
  by_cases q : i = k
  · subst q; simp [hk]
  · simp [q, Ne.symm q]
theorem ArI.set {x : Int32} {k : Nat} (F : ArI Z h a ty n f) (W : Wr h h' a k (.int x)) (hk : k < n) : ArI Z h' a ty n (fun i => if i = k then x else f i) := by
  obtain ⟨z, c, A, r, H⟩ := F
  refine ⟨z, _, A.same W, by rw [sz_set, r], fun i hi => ?_⟩
  rw [set_at (by omega)]
  by_cases q : i = k
  · simp [q]
  · simp [q, H i hi]
theorem ArJ.set {x : Int64} {k : Nat} (F : ArJ Z h a n fJ) (W : Wr h h' a k (.long x)) (hk : k < n) : ArJ Z h' a n (fun i => if i = k then x else fJ i) := by
  obtain ⟨z, c, A, r, H⟩ := F
  refine ⟨z, _, A.same W, by rw [sz_set, r], fun i hi => ?_⟩
  rw [set_at (by omega)]
  by_cases q : i = k
  · simp [q]
  · simp [q, H i hi]
theorem Adv.ldI (A : Adv p e below D) (X : Stand p l e R s m args below meth c T locs cells slots) (hx : p.tables.exec = Jvm.exec) (hZ : Z.Warmed39 s.vm) (eT : T.heap = h) (F : ArI Z h a .int n f) {j : Int32} {k : Nat} (hk : j.toInt = k) (hkn : k < n) {g : JFrame} (hg : g.method = m) {rest : List Value} (hs : g.stack = .int j :: .ref a :: rest) (hd : decode c.code g.pc = .ok (.iaload, 1))
    (kk : D (T.setTop { g with pc := g.pc + 1, stack := .int (f k) :: rest })) : D (T.setTop g) := by
  obtain ⟨-, cl, Ar, r, H⟩ := F
  exact A (X.iaload hx (j := j) (v := .int (f k)) (by rw [eT]; exact Ar.1) (State.isArrayOf_alike hZ.alike Ar.2.1) Ar.2.2 (inb hk hkn r) (by rw [to_nat hk]; exact H k hkn) (g := g) hg hs hd _) kk
theorem Adv.ldB (A : Adv p e below D) (X : Stand p l e R s m args below meth c T locs cells slots) (hx : p.tables.exec = Jvm.exec) (hZ : Z.Warmed39 s.vm) (eT : T.heap = h) (F : ArI Z h a .byte n f) {j : Int32} {k : Nat} (hk : j.toInt = k) (hkn : k < n) {g : JFrame} (hg : g.method = m) {rest : List Value} (hs : g.stack = .int j :: .ref a :: rest) (hd : decode c.code g.pc = .ok (.baload, 1))
    (kk : D (T.setTop { g with pc := g.pc + 1, stack := .int (f k) :: rest })) : D (T.setTop g) := by
  obtain ⟨-, cl, Ar, r, H⟩ := F
  exact A (X.baloadBytes hx (j := j) (v := .int (f k)) (by rw [eT]; exact Ar.1) (State.isArrayOf_alike hZ.alike Ar.2.1) Ar.2.2 (inb hk hkn r) (by rw [to_nat hk]; exact H k hkn) (g := g) hg hs hd _) kk
theorem Adv.ldJ (A : Adv p e below D) (X : Stand p l e R s m args below meth c T locs cells slots) (hx : p.tables.exec = Jvm.exec) (hZ : Z.Warmed39 s.vm) (eT : T.heap = h) (F : ArJ Z h a n fJ) {j : Int32} {k : Nat} (hk : j.toInt = k) (hkn : k < n) {g : JFrame} (hg : g.method = m) {rest : List Value} (hs : g.stack = .int j :: .ref a :: rest) (hd : decode c.code g.pc = .ok (.laload, 1))
    (kk : D (T.setTop { g with pc := g.pc + 1, stack := .long (fJ k) :: rest })) : D (T.setTop g) := by
  obtain ⟨-, cl, Ar, r, H⟩ := F
  exact A (X.laload hx (j := j) (v := .long (fJ k)) (by rw [eT]; exact Ar.1) (State.isArrayOf_alike hZ.alike Ar.2.1) Ar.2.2 (inb hk hkn r) (by rw [to_nat hk]; exact H k hkn) (g := g) hg hs hd _) kk
theorem len32 {cl : Cell} (z : n < 2147483648) (r : cl.slots.size = n) : cl.slots.size.toInt32 = Int32.ofNat n   := by rw [r]
theorem Adv.lenI (A : Adv p e below D) (X : Stand p l e R s m args below meth c T locs cells slots) (hx : p.tables.exec = Jvm.exec) (hZ : Z.Warmed39 s.vm) (eT : T.heap = h) (F : ArI Z h a ty n f) {g : JFrame} (hg : g.method = m) {rest : List Value} (hs : g.stack = .ref a :: rest) (hd : decode c.code g.pc = .ok (.arraylength, 1))
    (kk : D (T.setTop { g with pc := g.pc + 1, stack := .int (Int32.ofNat n) :: rest })) : D (T.setTop g) := by
  obtain ⟨z, cl, Ar, r, H⟩ := F
  rw [← len32 z r] at kk
  exact A (X.arraylength hx (by rw [eT]; exact Ar.1) (State.isArrayOf_alike hZ.alike Ar.2.1) (g := g) hg hs hd _) kk
theorem Adv.lenJ (A : Adv p e below D) (X : Stand p l e R s m args below meth c T locs cells slots) (hx : p.tables.exec = Jvm.exec) (hZ : Z.Warmed39 s.vm) (eT : T.heap = h) (F : ArJ Z h a n fJ) {g : JFrame} (hg : g.method = m) {rest : List Value} (hs : g.stack = .ref a :: rest) (hd : decode c.code g.pc = .ok (.arraylength, 1))
    (kk : D (T.setTop { g with pc := g.pc + 1, stack := .int (Int32.ofNat n) :: rest })) : D (T.setTop g) := by
  obtain ⟨z, cl, Ar, r, H⟩ := F
  rw [← len32 z r] at kk
  exact A (X.arraylength hx (by rw [eT]; exact Ar.1) (State.isArrayOf_alike hZ.alike Ar.2.1) (g := g) hg hs hd _) kk
theorem Adv.stI (A : Adv p e below D) (X : Stand p l e R s m args below meth c T locs cells slots) (hx : p.tables.exec = Jvm.exec) (hZ : Z.Warmed39 s.vm) (eT : T.heap = h) (F : ArI Z h a .int n f) {j x : Int32} {k : Nat} (hk : j.toInt = k) (hkn : k < n) {g : JFrame} (hg : g.method = m) {rest : List Value} (hs : g.stack = .int x :: .int j :: .ref a :: rest) (hd : decode c.code g.pc = .ok (.iastore, 1))
    (kk : ∀ T' h', Stand p l e R s m args below meth c T' (locs ++ [⟨a, k⟩]) cells slots → T'.heap = h' → Wr h h' a k (.int x) → ArI Z h' a .int n (fun i => if i = k then x else f i) → D (T'.setTop { g with pc := g.pc + 1, stack := rest })) : D (T.setTop g) := by
  obtain ⟨cl, Ar, r, H⟩ := F.2
  obtain ⟨T', h', X', e', W, st⟩ := Jvm.RoadKit.stI X hx hZ eT Ar (j := j) (x := x) (inb hk hkn r) hg hs hd
  rw [to_nat hk] at X' W
  exact A (fun q => st _ q) (kk T' h' X' e' W (F.set W hkn))
theorem Adv.stB (A : Adv p e below D) (X : Stand p l e R s m args below meth c T locs cells slots) (hx : p.tables.exec = Jvm.exec) (hZ : Z.Warmed39 s.vm) (eT : T.heap = h) (F : ArI Z h a .byte n f) {j x : Int32} {k : Nat} (hk : j.toInt = k) (hkn : k < n) {g : JFrame} (hg : g.method = m) {rest : List Value} (hs : g.stack = .int x :: .int j :: .ref a :: rest) (hd : decode c.code g.pc = .ok (.bastore, 1))
    (kk : ∀ T' h', Stand p l e R s m args below meth c T' (locs ++ [⟨a, k⟩]) cells slots → T'.heap = h' → Wr h h' a k (.int x.toInt8.toInt32) → ArI Z h' a .byte n (fun i => if i = k then x.toInt8.toInt32 else f i) → D (T'.setTop { g with pc := g.pc + 1, stack := rest })) : D (T.setTop g) := by
  obtain ⟨cl, Ar, r, H⟩ := F.2
  obtain ⟨T', h', X', e', W, st⟩ := Jvm.RoadKit.stB X hx hZ eT Ar (j := j) (x := x) (inb hk hkn r) hg hs hd
  rw [to_nat hk] at X' W
  exact A (fun q => st _ q) (kk T' h' X' e' W (F.set W hkn))
theorem Adv.stJ (A : Adv p e below D) (X : Stand p l e R s m args below meth c T locs cells slots) (hx : p.tables.exec = Jvm.exec) (hZ : Z.Warmed39 s.vm) (eT : T.heap = h) (F : ArJ Z h a n fJ) {j : Int32} {x : Int64} {k : Nat} (hk : j.toInt = k) (hkn : k < n) {g : JFrame} (hg : g.method = m) {rest : List Value} (hs : g.stack = .long x :: .int j :: .ref a :: rest) (hd : decode c.code g.pc = .ok (.lastore, 1))
    (kk : ∀ T' h', Stand p l e R s m args below meth c T' (locs ++ [⟨a, k⟩]) cells slots → T'.heap = h' → Wr h h' a k (.long x) → ArJ Z h' a n (fun i => if i = k then x else fJ i) → D (T'.setTop { g with pc := g.pc + 1, stack := rest })) : D (T.setTop g) := by
  obtain ⟨cl, Ar, r, H⟩ := F.2
  obtain ⟨T', h', X', e', W, st⟩ := Jvm.RoadKit.stJ X hx hZ eT Ar (j := j) (x := x) (inb hk hkn r) hg hs hd
  rw [to_nat hk] at X' W
  exact A (fun q => st _ q) (kk T' h' X' e' W (F.set W hkn))
theorem Adv.newI (A : Adv p e below D) (X : Stand p l e R s m args below meth c T locs cells slots) (hx : p.tables.exec = Jvm.exec) (hZ : Z.Warmed39 s.vm) {aty : ArrayType} (w : (Cond.arrayClass (newarray.typeOf aty)).before a0 Z = true) (eT : T.heap = h) {z : Int32} (hz : z.toInt = n) (cap : Nat) (hcap : n ≤ cap) (hb : cap * 8 ≤ 536870912) (hdv : defaultValue (newarray.typeOf aty) = .int 0) {ad : String} (had : "[" ++ (newarray.typeOf aty).toString = ad) (hc : cells + 1 ≤ R.cells) (hl : slots + cap ≤ R.slots) {g : JFrame} (hg : g.method = m) {rest : List Value} (hs : g.stack = .int z :: rest) (hd : decode c.code g.pc = .ok (.newarray aty, 2))
    (kk : ∀ T' h' a, a = h.size → Stand p l e R s m args below meth c T' locs (cells + 1) (slots + cap) → T'.heap = h' → Ext h h' → ArI Z h' a (newarray.typeOf aty) n (fun _ => 0) → Exa Z h' a ad → D (T'.setTop { g with pc := g.pc + 2, stack := .ref a :: rest })) : D (T.setTop g) := by
  have q0 : ¬ z < 0 := by rw [Int32.lt_iff_toInt_lt, hz, show (0 : Int32).toInt = 0 from rfl]; omega
  obtain ⟨T', h', k, X', e', E, Ar, Ex, st⟩ := newPE X hx hZ w eT hg hd hs q0 (cap := cap) (by rw [to_nat hz]; exact hcap) hb hc hl had
  exact A (fun q => st _ q) (kk T' h' _ rfl X' e' E (ArI.mk Ar hz hdv) Ex)
theorem Adv.newJ (A : Adv p e below D) (X : Stand p l e R s m args below meth c T locs cells slots) (hx : p.tables.exec = Jvm.exec) (hZ : Z.Warmed39 s.vm) (w : (Cond.arrayClass .long).before a0 Z = true) (eT : T.heap = h) {z : Int32} (hz : z.toInt = n) (cap : Nat) (hcap : n ≤ cap) (hb : cap * 8 ≤ 536870912) (hc : cells + 1 ≤ R.cells) (hl : slots + cap ≤ R.slots) {g : JFrame} (hg : g.method = m) {rest : List Value} (hs : g.stack = .int z :: rest) (hd : decode c.code g.pc = .ok (.newarray .long, 2))
    (kk : ∀ T' h' a, a = h.size → Stand p l e R s m args below meth c T' locs (cells + 1) (slots + cap) → T'.heap = h' → Ext h h' → ArJ Z h' a n (fun _ => 0) → D (T'.setTop { g with pc := g.pc + 2, stack := .ref a :: rest })) : D (T.setTop g) := by
  have q0 : ¬ z < 0 := by rw [Int32.lt_iff_toInt_lt, hz, show (0 : Int32).toInt = 0 from rfl]; omega
  obtain ⟨T', h', k, X', e', E, Ar, st⟩   := newP (aty := .long) X hx hZ w eT hg hd hs q0 (cap := cap) (by rw [to_nat hz]; exact hcap) hb hc hl
  exact A (fun q => st _ q) (kk T' h' _ rfl X' e' E (ArJ.mk Ar hz))
theorem Adv.cloneI (A : Adv p e below D) (X : Stand p l e R s m args below meth c T locs cells slots) (hx : p.tables.exec = Jvm.exec) (hZ : Z.Warmed39 s.vm) {own ad : String} {index : Nat} (hown : s.vm.findClass own = some m.cls)
    (w1 : (Cond.methodLink own index ⟨ad, "clone", "()Ljava/lang/Object;"⟩).before a0 Z = true) (w2 : (Cond.sameMethod ad "java/lang/Object" "clone" "()Ljava/lang/Object;").before a0 Z = true) (w3 : (Cond.native ⟨"java/lang/Object", "clone", "()Ljava/lang/Object;"⟩).before a0 Z = true)
    (w4 : (Cond.instanceMethod ⟨"java/lang/Object", "clone", "()Ljava/lang/Object;"⟩).before a0 Z = true) (w5 : (Cond.selects ad ⟨ad, "clone", "()Ljava/lang/Object;"⟩ ⟨"java/lang/Object", "clone", "()Ljava/lang/Object;"⟩).before a0 Z = true) (w6 : (Cond.castable ad "java/lang/Cloneable").before a0 Z = true)
    (eT : T.heap = h) (F : ArI Z h a ty n f) (hfit : ∀ i, i < n → fits ty (.int (f i)) = true) (E : Exa Z h a ad) (W cap : Nat) (hcap : n ≤ cap) {g : JFrame} (hg : g.method = m) (hsz : g.locals.size = c.maxLocals) {rest : List Value} (hs : g.stack = .ref a :: rest) (hd : decode c.code g.pc = .ok (.invokevirtual index, 3))
    (hW : 2 * g.monitorRoom + (rest.map fun v => v.category).sum ≤ W) (hf : 1 ≤ R.frames) (hl : W + 14 ≤ R.locals) (hc : cells + 1 ≤ R.cells) (hsl : slots + cap ≤ R.slots)
    (kk : ∀ T' h' b, b = h.size → Stand p l e R s m args below meth c T' locs (cells + 1) (slots + cap) → T'.heap = h' → Ext h h' → ArI Z h' b ty n f → Exa Z h' b ad → D (T'.setTop { g with pc := g.pc + 3, stack := .ref b :: rest })) : D (T.setTop g) := by
  obtain ⟨z, cl, Ar, r, H⟩ := F
  have FC : FitC Z cl := fitC_of Ar fun i hi v hv => by rw [H i (by omega)] at hv; cases hv; exact hfit i (by omega)
  obtain ⟨T', h', X', e', Ex, Ar', E', st⟩ := cloneA X hx hZ hown w1 w2 w3 w4 w5 w6 eT Ar E FC hg hsz hs hd hf hW hl (by rw [r]; exact hcap) hc hsl
  exact A (fun q => st _ q) (kk T' h' _ rfl X' e' Ex ⟨z, _, Ar', r, H⟩ E')
end Arrays
end Jvm.JW
namespace Jvm.Pilot.@@N@@
open Jvm Jvm.ClassFile Sem Op Lib Jvm.Free Jvm.Stand Jvm.LawKit Jvm.RoadKit Bundle Jvm.JW Jvm.Pilot.@@N@@.Jvm.D
theorem d1_0 : decode prog_55_method_8_code 0 = .ok (.iload_n 0, 1) := by decide +kernel
theorem d1_1 : decode prog_55_method_8_code 1 = .ok (.bipush 48, 2) := by decide +kernel
theorem d1_3 : decode prog_55_method_8_code 3 = .ok (.if_icmp .lt 9, 3) := by decide +kernel
theorem d1_6 : decode prog_55_method_8_code 6 = .ok (.iload_n 0, 1) := by decide +kernel
theorem d1_7 : decode prog_55_method_8_code 7 = .ok (.bipush 57, 2) := by decide +kernel
theorem d1_9 : decode prog_55_method_8_code 9 = .ok (.if_icmp .le 27, 3) := by decide +kernel
theorem d1_12 : decode prog_55_method_8_code 12 = .ok (.iload_n 0, 1) := by decide +kernel
theorem d1_13 : decode prog_55_method_8_code 13 = .ok (.bipush 97, 2) := by decide +kernel
theorem d1_15 : decode prog_55_method_8_code 15 = .ok (.if_icmp .lt 9, 3) := by decide +kernel
theorem d1_18 : decode prog_55_method_8_code 18 = .ok (.iload_n 0, 1) := by decide +kernel
theorem d1_19 : decode prog_55_method_8_code 19 = .ok (.bipush 102, 2) := by decide +kernel
theorem d1_21 : decode prog_55_method_8_code 21 = .ok (.if_icmp .le 15, 3) := by decide +kernel
theorem d1_24 : decode prog_55_method_8_code 24 = .ok (.iload_n 0, 1) := by decide +kernel
theorem d1_25 : decode prog_55_method_8_code 25 = .ok (.bipush 65, 2) := by decide +kernel
theorem d1_27 : decode prog_55_method_8_code 27 = .ok (.if_icmp .lt 13, 3) := by decide +kernel
theorem d1_30 : decode prog_55_method_8_code 30 = .ok (.iload_n 0, 1) := by decide +kernel
theorem d1_31 : decode prog_55_method_8_code 31 = .ok (.bipush 70, 2) := by decide +kernel
theorem d1_33 : decode prog_55_method_8_code 33 = .ok (.if_icmp .gt 7, 3) := by decide +kernel
theorem d1_36 : decode prog_55_method_8_code 36 = .ok (.iconst 1, 1) := by decide +kernel
theorem d1_37 : decode prog_55_method_8_code 37 = .ok (.goto 4, 3) := by decide +kernel
theorem d1_40 : decode prog_55_method_8_code 40 = .ok (.iconst 0, 1) := by decide +kernel
theorem d1_41 : decode prog_55_method_8_code 41 = .ok (.ireturn, 1) := by decide +kernel
theorem pn1 : plainFor (⟨"com/example/wayfare/wayfare/parse/NTriples", "isHexDigit", "(C)Z"⟩ : MethodName) = true := by decide +kernel
theorem ef1 (p1 : Int32) (m : MethodId) : entryFrame m #[(.int p1)] 1 = mkF m 0 #[.val (.int p1)] [] := by first | (simp [entryFrame, mkF, argsToLocals, Value.category]; done) | rfl
def g1_40 (p1 : Int32) : Int32 := (0 : Int32)
def g1_36 (p1 : Int32) : Int32 := (1 : Int32)
def g1_24 (p1 : Int32) : Int32 := if p1 < (65 : Int32) then (g1_40 p1) else if (70 : Int32) < p1 then (g1_40 p1) else (g1_36 p1)
def g1_12 (p1 : Int32) : Int32 := if p1 < (97 : Int32) then (g1_24 p1) else if (102 : Int32) < p1 then (g1_24 p1) else (g1_36 p1)
def g1_0 (p1 : Int32) : Int32 := if p1 < (48 : Int32) then (g1_12 p1) else if (57 : Int32) < p1 then (g1_12 p1) else (g1_36 p1)
def f1 (p1 : Int32) : Int32 := g1_0 p1
set_option maxRecDepth 65536 in
set_option maxHeartbeats 40000000 in
theorem rm1 (l : Launch) (Z : State) (a0 : Array Value) (hw : ∀ d ∈ tables_1, d.before a0 Z = true) (ws : List Jvm.Cond) (p1 : Int32) (h0 : Heap) (n0 : Nat) :
    JMet l Z (⟨"com/example/wayfare/wayfare/parse/NTriples", "isHexDigit", "(C)Z"⟩ : MethodName) prog_55_method_8_code 1 (some .boolean) ws ({ frames := 0, cells := 0, slots := 0, locals := 0 } : Room) #[(.int p1)] h0 (QP (.int (f1 p1)) h0 n0) := by
  refine Jvm.JW.body #[.val (.int p1)] pn1 (ef1 p1) ?_
  intro p e s m below meth c T0 D A F X0 hx hZ hby hml hown hnm hrt hlk e0
  have B40 : f1 p1 = g1_40 p1 → D (T0.setTop (mkF m 40 #[.val (.int p1)] [])) := by
    intro hq
    refine A (XS.iconst X0.here hx rfl (hb hby d1_40)) ?_
    show D (T0.setTop (mkF m 41 #[.val (.int p1)] [(.int (0 : Int32))]))
    refine F _ (Jvm.JW.ret X0 hlk (v := some (.int (0 : Int32))) (fun h => by rw [hrt] at h; cases h) (fun fs hr => retOut X0 hx hrt rfl (Or.inl ⟨rfl, Or.inr (Or.inl rfl), _, rfl⟩) (hb hby d1_41) hr) rfl ?_ (by decide) (by decide))
    exact ⟨congrArg (fun z => some (Value.int z)) hq.symm, (Fr.nil n0), e0⟩
  have B36 : f1 p1 = g1_36 p1 → D (T0.setTop (mkF m 36 #[.val (.int p1)] [])) := by
    intro hq
    refine A (XS.iconst X0.here hx rfl (hb hby d1_36)) ?_
    show D (T0.setTop (mkF m 37 #[.val (.int p1)] [(.int (1 : Int32))]))
    refine A (XS.goto X0.here hx rfl (pc0 := 37) (pc' := 41) rfl (hb hby d1_37) (by decide) (by decide)) ?_
    show D (T0.setTop (mkF m 41 #[.val (.int p1)] [(.int (1 : Int32))]))
    refine F _ (Jvm.JW.ret X0 hlk (v := some (.int (1 : Int32))) (fun h => by rw [hrt] at h; cases h) (fun fs hr => retOut X0 hx hrt rfl (Or.inl ⟨rfl, Or.inr (Or.inl rfl), _, rfl⟩) (hb hby d1_41) hr) rfl ?_ (by decide) (by decide))
    exact ⟨congrArg (fun z => some (Value.int z)) hq.symm, (Fr.nil n0), e0⟩
  have B24 : f1 p1 = g1_24 p1 → D (T0.setTop (mkF m 24 #[.val (.int p1)] [])) := by
    intro hq
    refine A (XS.iloadN X0.here hx rfl (hb hby d1_24) rfl) ?_
    show D (T0.setTop (mkF m 25 #[.val (.int p1)] [(.int p1)]))
    refine A (XS.bipush X0.here hx rfl (hb hby d1_25)) ?_
    show D (T0.setTop (mkF m 27 #[.val (.int p1)] [(.int (65 : Int32)), (.int p1)]))
    by_cases c27_1 : p1 < (65 : Int32)
    · refine A (XS.icmpYes X0.here hx rfl (pc0 := 27) (pc' := 40) rfl (hb hby d1_27) rfl (tlt c27_1).1 (by decide) (by decide)) ?_
      show D (T0.setTop (mkF m 40 #[.val (.int p1)] []))
      exact B40 (hq.trans (if_pos c27_1))
    · refine A (XS.icmpNo X0.here hx rfl (hb hby d1_27) rfl (flt c27_1).1) ?_
      show D (T0.setTop (mkF m 30 #[.val (.int p1)] []))
      refine A (XS.iloadN X0.here hx rfl (hb hby d1_30) rfl) ?_
      show D (T0.setTop (mkF m 31 #[.val (.int p1)] [(.int p1)]))
      refine A (XS.bipush X0.here hx rfl (hb hby d1_31)) ?_
      show D (T0.setTop (mkF m 33 #[.val (.int p1)] [(.int (70 : Int32)), (.int p1)]))
      by_cases c33_2 : (70 : Int32) < p1
      · refine A (XS.icmpYes X0.here hx rfl (pc0 := 33) (pc' := 40) rfl (hb hby d1_33) rfl (tlt c33_2).2.2.1 (by decide) (by decide)) ?_
        show D (T0.setTop (mkF m 40 #[.val (.int p1)] []))
        exact B40 (hq.trans ((if_neg c27_1).trans (if_pos c33_2)))
      · refine A (XS.icmpNo X0.here hx rfl (hb hby d1_33) rfl (flt c33_2).2.2.1) ?_
        show D (T0.setTop (mkF m 36 #[.val (.int p1)] []))
        exact B36 (hq.trans ((if_neg c27_1).trans (if_neg c33_2)))
  have B12 : f1 p1 = g1_12 p1 → D (T0.setTop (mkF m 12 #[.val (.int p1)] [])) := by
    intro hq
    refine A (XS.iloadN X0.here hx rfl (hb hby d1_12) rfl) ?_
    show D (T0.setTop (mkF m 13 #[.val (.int p1)] [(.int p1)]))
    refine A (XS.bipush X0.here hx rfl (hb hby d1_13)) ?_
    show D (T0.setTop (mkF m 15 #[.val (.int p1)] [(.int (97 : Int32)), (.int p1)]))
    by_cases c15_3 : p1 < (97 : Int32)
    · refine A (XS.icmpYes X0.here hx rfl (pc0 := 15) (pc' := 24) rfl (hb hby d1_15) rfl (tlt c15_3).1 (by decide) (by decide)) ?_
      show D (T0.setTop (mkF m 24 #[.val (.int p1)] []))
      exact B24 (hq.trans (if_pos c15_3))
    · refine A (XS.icmpNo X0.here hx rfl (hb hby d1_15) rfl (flt c15_3).1) ?_
      show D (T0.setTop (mkF m 18 #[.val (.int p1)] []))
      refine A (XS.iloadN X0.here hx rfl (hb hby d1_18) rfl) ?_
      show D (T0.setTop (mkF m 19 #[.val (.int p1)] [(.int p1)]))
      refine A (XS.bipush X0.here hx rfl (hb hby d1_19)) ?_
      show D (T0.setTop (mkF m 21 #[.val (.int p1)] [(.int (102 : Int32)), (.int p1)]))
      by_cases c21_4 : (102 : Int32) < p1
      · refine A (XS.icmpNo X0.here hx rfl (hb hby d1_21) rfl (tlt c21_4).2.2.2) ?_
        show D (T0.setTop (mkF m 24 #[.val (.int p1)] []))
        exact B24 (hq.trans ((if_neg c15_3).trans (if_pos c21_4)))
      · refine A (XS.icmpYes X0.here hx rfl (pc0 := 21) (pc' := 36) rfl (hb hby d1_21) rfl (flt c21_4).2.2.2 (by decide) (by decide)) ?_
        show D (T0.setTop (mkF m 36 #[.val (.int p1)] []))
        exact B36 (hq.trans ((if_neg c15_3).trans (if_neg c21_4)))
  have B0 : f1 p1 = g1_0 p1 → D (T0.setTop (mkF m 0 #[.val (.int p1)] [])) := by
    intro hq
    refine A (XS.iloadN X0.here hx rfl (hb hby d1_0) rfl) ?_
    show D (T0.setTop (mkF m 1 #[.val (.int p1)] [(.int p1)]))
    refine A (XS.bipush X0.here hx rfl (hb hby d1_1)) ?_
    show D (T0.setTop (mkF m 3 #[.val (.int p1)] [(.int (48 : Int32)), (.int p1)]))
    by_cases c3_5 : p1 < (48 : Int32)
    · refine A (XS.icmpYes X0.here hx rfl (pc0 := 3) (pc' := 12) rfl (hb hby d1_3) rfl (tlt c3_5).1 (by decide) (by decide)) ?_
      show D (T0.setTop (mkF m 12 #[.val (.int p1)] []))
      exact B12 (hq.trans (if_pos c3_5))
    · refine A (XS.icmpNo X0.here hx rfl (hb hby d1_3) rfl (flt c3_5).1) ?_
      show D (T0.setTop (mkF m 6 #[.val (.int p1)] []))
      refine A (XS.iloadN X0.here hx rfl (hb hby d1_6) rfl) ?_
      show D (T0.setTop (mkF m 7 #[.val (.int p1)] [(.int p1)]))
      refine A (XS.bipush X0.here hx rfl (hb hby d1_7)) ?_
      show D (T0.setTop (mkF m 9 #[.val (.int p1)] [(.int (57 : Int32)), (.int p1)]))
      by_cases c9_6 : (57 : Int32) < p1
      · refine A (XS.icmpNo X0.here hx rfl (hb hby d1_9) rfl (tlt c9_6).2.2.2) ?_
        show D (T0.setTop (mkF m 12 #[.val (.int p1)] []))
        exact B12 (hq.trans ((if_neg c3_5).trans (if_pos c9_6)))
      · refine A (XS.icmpYes X0.here hx rfl (pc0 := 9) (pc' := 36) rfl (hb hby d1_9) rfl (flt c9_6).2.2.2 (by decide) (by decide)) ?_
        show D (T0.setTop (mkF m 36 #[.val (.int p1)] []))
        exact B36 (hq.trans ((if_neg c3_5).trans (if_neg c9_6)))
  exact B0 rfl
theorem s1_40 (p1 : Int32) : g1_40 p1 = if (False) then 1 else 0 := by
  have r1 := p1.le_toInt; have r2 := p1.toInt_lt
  unfold g1_40
  repeat' split
  all_goals first | rfl | (exfalso; omega)
theorem s1_36 (p1 : Int32) : g1_36 p1 = if ((-2147483648 ≤ p1.toInt ∧ p1.toInt ≤ 2147483647)) then 1 else 0 := by
  have r1 := p1.le_toInt; have r2 := p1.toInt_lt
  unfold g1_36
  repeat' split
  all_goals first | rfl | (exfalso; omega)
theorem s1_24 (p1 : Int32) : g1_24 p1 = if ((65 ≤ p1.toInt ∧ p1.toInt ≤ 70)) then 1 else 0 := by
  have r1 := p1.le_toInt; have r2 := p1.toInt_lt
  unfold g1_24
  simp only [s1_36, s1_40]
  simp only [Int32.lt_iff_toInt_lt, ← Int32.toInt_inj, show (65 : Int32).toInt = 65 from rfl, show (70 : Int32).toInt = 70 from rfl]
  repeat' split
  all_goals first | rfl | (exfalso; omega)
theorem s1_12 (p1 : Int32) : g1_12 p1 = if ((65 ≤ p1.toInt ∧ p1.toInt ≤ 70) ∨ (97 ≤ p1.toInt ∧ p1.toInt ≤ 102)) then 1 else 0 := by
  have r1 := p1.le_toInt; have r2 := p1.toInt_lt
  unfold g1_12
  simp only [s1_24, s1_36]
  simp only [Int32.lt_iff_toInt_lt, ← Int32.toInt_inj, show (97 : Int32).toInt = 97 from rfl, show (102 : Int32).toInt = 102 from rfl]
  repeat' split
  all_goals first | rfl | (exfalso; omega)
theorem s1_0 (p1 : Int32) : g1_0 p1 = if ((48 ≤ p1.toInt ∧ p1.toInt ≤ 57) ∨ (65 ≤ p1.toInt ∧ p1.toInt ≤ 70) ∨ (97 ≤ p1.toInt ∧ p1.toInt ≤ 102)) then 1 else 0 := by
  have r1 := p1.le_toInt; have r2 := p1.toInt_lt
  unfold g1_0
  simp only [s1_12, s1_36]
  simp only [Int32.lt_iff_toInt_lt, ← Int32.toInt_inj, show (48 : Int32).toInt = 48 from rfl, show (57 : Int32).toInt = 57 from rfl]
  repeat' split
  all_goals first | rfl | (exfalso; omega)
theorem d2_0 : decode method_2_code 0 = .ok (.iload_n 0, 1) := by decide +kernel
theorem d2_1 : decode method_2_code 1 = .ok (.bipush 16, 2) := by decide +kernel
theorem d2_3 : decode method_2_code 3 = .ok (.idiv, 1) := by decide +kernel
theorem d2_4 : decode method_2_code 4 = .ok (.iconst 3, 1) := by decide +kernel
theorem d2_5 : decode method_2_code 5 = .ok (.if_icmp .ne 16, 3) := by decide +kernel
theorem d2_8 : decode method_2_code 8 = .ok (.iload_n 0, 1) := by decide +kernel
theorem d2_9 : decode method_2_code 9 = .ok (.bipush 16, 2) := by decide +kernel
theorem d2_11 : decode method_2_code 11 = .ok (.irem, 1) := by decide +kernel
theorem d2_12 : decode method_2_code 12 = .ok (.bipush 10, 2) := by decide +kernel
theorem d2_14 : decode method_2_code 14 = .ok (.if_icmp .ge 7, 3) := by decide +kernel
theorem d2_17 : decode method_2_code 17 = .ok (.iconst 1, 1) := by decide +kernel
theorem d2_18 : decode method_2_code 18 = .ok (.goto 4, 3) := by decide +kernel
theorem d2_21 : decode method_2_code 21 = .ok (.iconst 0, 1) := by decide +kernel
theorem d2_22 : decode method_2_code 22 = .ok (.istore_n 1, 1) := by decide +kernel
theorem d2_23 : decode method_2_code 23 = .ok (.iload_n 0, 1) := by decide +kernel
theorem d2_24 : decode method_2_code 24 = .ok (.bipush 32, 2) := by decide +kernel
theorem d2_26 : decode method_2_code 26 = .ok (.ior, 1) := by decide +kernel
theorem d2_27 : decode method_2_code 27 = .ok (.istore_n 2, 1) := by decide +kernel
theorem d2_28 : decode method_2_code 28 = .ok (.iload_n 2, 1) := by decide +kernel
theorem d2_29 : decode method_2_code 29 = .ok (.bipush 8, 2) := by decide +kernel
theorem d2_31 : decode method_2_code 31 = .ok (.idiv, 1) := by decide +kernel
theorem d2_32 : decode method_2_code 32 = .ok (.bipush 12, 2) := by decide +kernel
theorem d2_34 : decode method_2_code 34 = .ok (.if_icmp .ne 24, 3) := by decide +kernel
theorem d2_37 : decode method_2_code 37 = .ok (.iload_n 2, 1) := by decide +kernel
theorem d2_38 : decode method_2_code 38 = .ok (.bipush 8, 2) := by decide +kernel
theorem d2_40 : decode method_2_code 40 = .ok (.irem, 1) := by decide +kernel
theorem d2_41 : decode method_2_code 41 = .ok (.iconst 1, 1) := by decide +kernel
theorem d2_42 : decode method_2_code 42 = .ok (.if_icmp .lt 16, 3) := by decide +kernel
theorem d2_45 : decode method_2_code 45 = .ok (.iload_n 2, 1) := by decide +kernel
theorem d2_46 : decode method_2_code 46 = .ok (.bipush 8, 2) := by decide +kernel
theorem d2_48 : decode method_2_code 48 = .ok (.irem, 1) := by decide +kernel
theorem d2_49 : decode method_2_code 49 = .ok (.bipush 6, 2) := by decide +kernel
theorem d2_51 : decode method_2_code 51 = .ok (.if_icmp .gt 7, 3) := by decide +kernel
theorem d2_54 : decode method_2_code 54 = .ok (.iconst 1, 1) := by decide +kernel
theorem d2_55 : decode method_2_code 55 = .ok (.goto 4, 3) := by decide +kernel
theorem d2_58 : decode method_2_code 58 = .ok (.iconst 0, 1) := by decide +kernel
theorem d2_59 : decode method_2_code 59 = .ok (.istore_n 3, 1) := by decide +kernel
theorem d2_60 : decode method_2_code 60 = .ok (.iload_n 1, 1) := by decide +kernel
theorem d2_61 : decode method_2_code 61 = .ok (.ifCond .ne 7, 3) := by decide +kernel
theorem d2_64 : decode method_2_code 64 = .ok (.iload_n 3, 1) := by decide +kernel
theorem d2_65 : decode method_2_code 65 = .ok (.ifCond .eq 7, 3) := by decide +kernel
theorem d2_68 : decode method_2_code 68 = .ok (.iconst 1, 1) := by decide +kernel
theorem d2_69 : decode method_2_code 69 = .ok (.goto 4, 3) := by decide +kernel
theorem d2_72 : decode method_2_code 72 = .ok (.iconst 0, 1) := by decide +kernel
theorem d2_73 : decode method_2_code 73 = .ok (.ireturn, 1) := by decide +kernel
theorem pn2 : plainFor (⟨"com/example/wayfare/wayfare/parse/NTriplesIsHexDigitPinLaw", "reference", "(I)Z"⟩ : MethodName) = true := by decide +kernel
theorem ef2 (p1 : Int32) (m : MethodId) : entryFrame m #[(.int p1)] 4 = mkF m 0 #[.val (.int p1), .unset, .unset, .unset] [] := by first | (simp [entryFrame, mkF, argsToLocals, Value.category]; done) | rfl
def f2 (p1 : Int32) : Int32 := let v22s0 := (if (p1 / (16 : Int32)) = (3 : Int32) then (if (p1 % (16 : Int32)) < (10 : Int32) then (1 : Int32) else (0 : Int32)) else (0 : Int32)); let v59s0 := (if ((p1 ||| (32 : Int32)) / (8 : Int32)) = (12 : Int32) then (if ((p1 ||| (32 : Int32)) % (8 : Int32)) < (1 : Int32) then (0 : Int32) else (if (6 : Int32) < ((p1 ||| (32 : Int32)) % (8 : Int32)) then (0 : Int32) else (1 : Int32))) else (0 : Int32)); if v22s0 = (0 : Int32) then (if v59s0 = (0 : Int32) then ((0 : Int32)) else ((1 : Int32))) else ((1 : Int32))
set_option maxRecDepth 65536 in
set_option maxHeartbeats 40000000 in
theorem rm2 (l : Launch) (Z : State) (a0 : Array Value) (hw : ∀ d ∈ tables_1, d.before a0 Z = true) (ws : List Jvm.Cond) (p1 : Int32) (h0 : Heap) (n0 : Nat) :
    JMet l Z (⟨"com/example/wayfare/wayfare/parse/NTriplesIsHexDigitPinLaw", "reference", "(I)Z"⟩ : MethodName) method_2_code 4 (some .boolean) ws ({ frames := 0, cells := 0, slots := 0, locals := 0 } : Room) #[(.int p1)] h0 (QP (.int (f2 p1)) h0 n0) := by
  refine Jvm.JW.body #[.val (.int p1), .unset, .unset, .unset] pn2 (ef2 p1) ?_
  intro p e s m below meth c T0 D A F X0 hx hZ hby hml hown hnm hrt hlk e0
  refine A (XS.iloadN X0.here hx rfl (hb hby d2_0) rfl) ?_
  show D (T0.setTop (mkF m 1 #[.val (.int p1), .unset, .unset, .unset] [(.int p1)]))
  refine A (XS.bipush X0.here hx rfl (hb hby d2_1)) ?_
  show D (T0.setTop (mkF m 3 #[.val (.int p1), .unset, .unset, .unset] [(.int (16 : Int32)), (.int p1)]))
  refine A (XS.idiv X0.here hx rfl (hb hby d2_3) rfl (by decide)) ?_
  show D (T0.setTop (mkF m 4 #[.val (.int p1), .unset, .unset, .unset] [(.int (p1 / (16 : Int32)))]))
  refine A (XS.iconst X0.here hx rfl (hb hby d2_4)) ?_
  show D (T0.setTop (mkF m 5 #[.val (.int p1), .unset, .unset, .unset] [(.int (3 : Int32)), (.int (p1 / (16 : Int32)))]))
  suffices Km22_1 : ∀ (v22s0 : Int32), v22s0 = (if (p1 / (16 : Int32)) = (3 : Int32) then (if (p1 % (16 : Int32)) < (10 : Int32) then (1 : Int32) else (0 : Int32)) else (0 : Int32)) → D (T0.setTop (mkF m 22 #[.val (.int p1), .unset, .unset, .unset] [(.int v22s0)])) by
    by_cases c5_0 : (p1 / (16 : Int32)) = (3 : Int32)
    · refine A (XS.icmpNo X0.here hx rfl (hb hby d2_5) rfl (teq c5_0).2) ?_
      show D (T0.setTop (mkF m 8 #[.val (.int p1), .unset, .unset, .unset] []))
      refine A (XS.iloadN X0.here hx rfl (hb hby d2_8) rfl) ?_
      show D (T0.setTop (mkF m 9 #[.val (.int p1), .unset, .unset, .unset] [(.int p1)]))
      refine A (XS.bipush X0.here hx rfl (hb hby d2_9)) ?_
      show D (T0.setTop (mkF m 11 #[.val (.int p1), .unset, .unset, .unset] [(.int (16 : Int32)), (.int p1)]))
      refine A (iremM X0 hx rfl (hb hby d2_11) rfl (by decide)) ?_
      show D (T0.setTop (mkF m 12 #[.val (.int p1), .unset, .unset, .unset] [(.int (p1 % (16 : Int32)))]))
      refine A (XS.bipush X0.here hx rfl (hb hby d2_12)) ?_
      show D (T0.setTop (mkF m 14 #[.val (.int p1), .unset, .unset, .unset] [(.int (10 : Int32)), (.int (p1 % (16 : Int32)))]))
      by_cases c14_1 : (p1 % (16 : Int32)) < (10 : Int32)
      · refine A (XS.icmpNo X0.here hx rfl (hb hby d2_14) rfl (tlt c14_1).2.1) ?_
        show D (T0.setTop (mkF m 17 #[.val (.int p1), .unset, .unset, .unset] []))
        refine A (XS.iconst X0.here hx rfl (hb hby d2_17)) ?_
        show D (T0.setTop (mkF m 18 #[.val (.int p1), .unset, .unset, .unset] [(.int (1 : Int32))]))
        refine A (XS.goto X0.here hx rfl (pc0 := 18) (pc' := 22) rfl (hb hby d2_18) (by decide) (by decide)) ?_
        show D (T0.setTop (mkF m 22 #[.val (.int p1), .unset, .unset, .unset] [(.int (1 : Int32))]))
        exact Km22_1 _ (((if_pos c5_0)).trans (if_pos c14_1)).symm
      · refine A (XS.icmpYes X0.here hx rfl (pc0 := 14) (pc' := 21) rfl (hb hby d2_14) rfl (flt c14_1).2.1 (by decide) (by decide)) ?_
        show D (T0.setTop (mkF m 21 #[.val (.int p1), .unset, .unset, .unset] []))
        refine A (XS.iconst X0.here hx rfl (hb hby d2_21)) ?_
        show D (T0.setTop (mkF m 22 #[.val (.int p1), .unset, .unset, .unset] [(.int (0 : Int32))]))
        exact Km22_1 _ (((if_pos c5_0)).trans (if_neg c14_1)).symm
    · refine A (XS.icmpYes X0.here hx rfl (pc0 := 5) (pc' := 21) rfl (hb hby d2_5) rfl (feq c5_0).2 (by decide) (by decide)) ?_
      show D (T0.setTop (mkF m 21 #[.val (.int p1), .unset, .unset, .unset] []))
      refine A (XS.iconst X0.here hx rfl (hb hby d2_21)) ?_
      show D (T0.setTop (mkF m 22 #[.val (.int p1), .unset, .unset, .unset] [(.int (0 : Int32))]))
      exact Km22_1 _ ((if_neg c5_0)).symm
  intro v22s0 hv22s0
  show D (T0.setTop (mkF m 22 #[.val (.int p1), .unset, .unset, .unset] [(.int v22s0)]))
  refine A (XS.istoreN X0.here hx rfl (hb hby d2_22) rfl (l' := #[.val (.int p1), .val (.int v22s0), .unset, .unset]) rfl) ?_
  show D (T0.setTop (mkF m 23 #[.val (.int p1), .val (.int v22s0), .unset, .unset] []))
  refine A (XS.iloadN X0.here hx rfl (hb hby d2_23) rfl) ?_
  show D (T0.setTop (mkF m 24 #[.val (.int p1), .val (.int v22s0), .unset, .unset] [(.int p1)]))
  refine A (XS.bipush X0.here hx rfl (hb hby d2_24)) ?_
  show D (T0.setTop (mkF m 26 #[.val (.int p1), .val (.int v22s0), .unset, .unset] [(.int (32 : Int32)), (.int p1)]))
  refine A (XS.ior X0.here hx rfl (hb hby d2_26) rfl) ?_
  show D (T0.setTop (mkF m 27 #[.val (.int p1), .val (.int v22s0), .unset, .unset] [(.int (p1 ||| (32 : Int32)))]))
  refine A (XS.istoreN X0.here hx rfl (hb hby d2_27) rfl (l' := #[.val (.int p1), .val (.int v22s0), .val (.int (p1 ||| (32 : Int32))), .unset]) rfl) ?_
  show D (T0.setTop (mkF m 28 #[.val (.int p1), .val (.int v22s0), .val (.int (p1 ||| (32 : Int32))), .unset] []))
  refine A (XS.iloadN X0.here hx rfl (hb hby d2_28) rfl) ?_
  show D (T0.setTop (mkF m 29 #[.val (.int p1), .val (.int v22s0), .val (.int (p1 ||| (32 : Int32))), .unset] [(.int (p1 ||| (32 : Int32)))]))
  refine A (XS.bipush X0.here hx rfl (hb hby d2_29)) ?_
  show D (T0.setTop (mkF m 31 #[.val (.int p1), .val (.int v22s0), .val (.int (p1 ||| (32 : Int32))), .unset] [(.int (8 : Int32)), (.int (p1 ||| (32 : Int32)))]))
  refine A (XS.idiv X0.here hx rfl (hb hby d2_31) rfl (by decide)) ?_
  show D (T0.setTop (mkF m 32 #[.val (.int p1), .val (.int v22s0), .val (.int (p1 ||| (32 : Int32))), .unset] [(.int ((p1 ||| (32 : Int32)) / (8 : Int32)))]))
  refine A (XS.bipush X0.here hx rfl (hb hby d2_32)) ?_
  show D (T0.setTop (mkF m 34 #[.val (.int p1), .val (.int v22s0), .val (.int (p1 ||| (32 : Int32))), .unset] [(.int (12 : Int32)), (.int ((p1 ||| (32 : Int32)) / (8 : Int32)))]))
  suffices Km59_2 : ∀ (v59s0 : Int32), v59s0 = (if ((p1 ||| (32 : Int32)) / (8 : Int32)) = (12 : Int32) then (if ((p1 ||| (32 : Int32)) % (8 : Int32)) < (1 : Int32) then (0 : Int32) else (if (6 : Int32) < ((p1 ||| (32 : Int32)) % (8 : Int32)) then (0 : Int32) else (1 : Int32))) else (0 : Int32)) → D (T0.setTop (mkF m 59 #[.val (.int p1), .val (.int v22s0), .val (.int (p1 ||| (32 : Int32))), .unset] [(.int v59s0)])) by
    by_cases c34_0 : ((p1 ||| (32 : Int32)) / (8 : Int32)) = (12 : Int32)
    · refine A (XS.icmpNo X0.here hx rfl (hb hby d2_34) rfl (teq c34_0).2) ?_
      show D (T0.setTop (mkF m 37 #[.val (.int p1), .val (.int v22s0), .val (.int (p1 ||| (32 : Int32))), .unset] []))
      refine A (XS.iloadN X0.here hx rfl (hb hby d2_37) rfl) ?_
      show D (T0.setTop (mkF m 38 #[.val (.int p1), .val (.int v22s0), .val (.int (p1 ||| (32 : Int32))), .unset] [(.int (p1 ||| (32 : Int32)))]))
      refine A (XS.bipush X0.here hx rfl (hb hby d2_38)) ?_
      show D (T0.setTop (mkF m 40 #[.val (.int p1), .val (.int v22s0), .val (.int (p1 ||| (32 : Int32))), .unset] [(.int (8 : Int32)), (.int (p1 ||| (32 : Int32)))]))
      refine A (iremM X0 hx rfl (hb hby d2_40) rfl (by decide)) ?_
      show D (T0.setTop (mkF m 41 #[.val (.int p1), .val (.int v22s0), .val (.int (p1 ||| (32 : Int32))), .unset] [(.int ((p1 ||| (32 : Int32)) % (8 : Int32)))]))
      refine A (XS.iconst X0.here hx rfl (hb hby d2_41)) ?_
      show D (T0.setTop (mkF m 42 #[.val (.int p1), .val (.int v22s0), .val (.int (p1 ||| (32 : Int32))), .unset] [(.int (1 : Int32)), (.int ((p1 ||| (32 : Int32)) % (8 : Int32)))]))
      by_cases c42_1 : ((p1 ||| (32 : Int32)) % (8 : Int32)) < (1 : Int32)
      · refine A (XS.icmpYes X0.here hx rfl (pc0 := 42) (pc' := 58) rfl (hb hby d2_42) rfl (tlt c42_1).1 (by decide) (by decide)) ?_
        show D (T0.setTop (mkF m 58 #[.val (.int p1), .val (.int v22s0), .val (.int (p1 ||| (32 : Int32))), .unset] []))
        refine A (XS.iconst X0.here hx rfl (hb hby d2_58)) ?_
        show D (T0.setTop (mkF m 59 #[.val (.int p1), .val (.int v22s0), .val (.int (p1 ||| (32 : Int32))), .unset] [(.int (0 : Int32))]))
        exact Km59_2 _ (((if_pos c34_0)).trans (if_pos c42_1)).symm
      · refine A (XS.icmpNo X0.here hx rfl (hb hby d2_42) rfl (flt c42_1).1) ?_
        show D (T0.setTop (mkF m 45 #[.val (.int p1), .val (.int v22s0), .val (.int (p1 ||| (32 : Int32))), .unset] []))
        refine A (XS.iloadN X0.here hx rfl (hb hby d2_45) rfl) ?_
        show D (T0.setTop (mkF m 46 #[.val (.int p1), .val (.int v22s0), .val (.int (p1 ||| (32 : Int32))), .unset] [(.int (p1 ||| (32 : Int32)))]))
        refine A (XS.bipush X0.here hx rfl (hb hby d2_46)) ?_
        show D (T0.setTop (mkF m 48 #[.val (.int p1), .val (.int v22s0), .val (.int (p1 ||| (32 : Int32))), .unset] [(.int (8 : Int32)), (.int (p1 ||| (32 : Int32)))]))
        refine A (iremM X0 hx rfl (hb hby d2_48) rfl (by decide)) ?_
        show D (T0.setTop (mkF m 49 #[.val (.int p1), .val (.int v22s0), .val (.int (p1 ||| (32 : Int32))), .unset] [(.int ((p1 ||| (32 : Int32)) % (8 : Int32)))]))
        refine A (XS.bipush X0.here hx rfl (hb hby d2_49)) ?_
        show D (T0.setTop (mkF m 51 #[.val (.int p1), .val (.int v22s0), .val (.int (p1 ||| (32 : Int32))), .unset] [(.int (6 : Int32)), (.int ((p1 ||| (32 : Int32)) % (8 : Int32)))]))
        by_cases c51_2 : (6 : Int32) < ((p1 ||| (32 : Int32)) % (8 : Int32))
        · refine A (XS.icmpYes X0.here hx rfl (pc0 := 51) (pc' := 58) rfl (hb hby d2_51) rfl (tlt c51_2).2.2.1 (by decide) (by decide)) ?_
          show D (T0.setTop (mkF m 58 #[.val (.int p1), .val (.int v22s0), .val (.int (p1 ||| (32 : Int32))), .unset] []))
          refine A (XS.iconst X0.here hx rfl (hb hby d2_58)) ?_
          show D (T0.setTop (mkF m 59 #[.val (.int p1), .val (.int v22s0), .val (.int (p1 ||| (32 : Int32))), .unset] [(.int (0 : Int32))]))
          exact Km59_2 _ ((((if_pos c34_0)).trans (if_neg c42_1)).trans (if_pos c51_2)).symm
        · refine A (XS.icmpNo X0.here hx rfl (hb hby d2_51) rfl (flt c51_2).2.2.1) ?_
          show D (T0.setTop (mkF m 54 #[.val (.int p1), .val (.int v22s0), .val (.int (p1 ||| (32 : Int32))), .unset] []))
          refine A (XS.iconst X0.here hx rfl (hb hby d2_54)) ?_
          show D (T0.setTop (mkF m 55 #[.val (.int p1), .val (.int v22s0), .val (.int (p1 ||| (32 : Int32))), .unset] [(.int (1 : Int32))]))
          refine A (XS.goto X0.here hx rfl (pc0 := 55) (pc' := 59) rfl (hb hby d2_55) (by decide) (by decide)) ?_
          show D (T0.setTop (mkF m 59 #[.val (.int p1), .val (.int v22s0), .val (.int (p1 ||| (32 : Int32))), .unset] [(.int (1 : Int32))]))
          exact Km59_2 _ ((((if_pos c34_0)).trans (if_neg c42_1)).trans (if_neg c51_2)).symm
    · refine A (XS.icmpYes X0.here hx rfl (pc0 := 34) (pc' := 58) rfl (hb hby d2_34) rfl (feq c34_0).2 (by decide) (by decide)) ?_
      show D (T0.setTop (mkF m 58 #[.val (.int p1), .val (.int v22s0), .val (.int (p1 ||| (32 : Int32))), .unset] []))
      refine A (XS.iconst X0.here hx rfl (hb hby d2_58)) ?_
      show D (T0.setTop (mkF m 59 #[.val (.int p1), .val (.int v22s0), .val (.int (p1 ||| (32 : Int32))), .unset] [(.int (0 : Int32))]))
      exact Km59_2 _ ((if_neg c34_0)).symm
  intro v59s0 hv59s0
  show D (T0.setTop (mkF m 59 #[.val (.int p1), .val (.int v22s0), .val (.int (p1 ||| (32 : Int32))), .unset] [(.int v59s0)]))
  refine A (XS.istoreN X0.here hx rfl (hb hby d2_59) rfl (l' := #[.val (.int p1), .val (.int v22s0), .val (.int (p1 ||| (32 : Int32))), .val (.int v59s0)]) rfl) ?_
  show D (T0.setTop (mkF m 60 #[.val (.int p1), .val (.int v22s0), .val (.int (p1 ||| (32 : Int32))), .val (.int v59s0)] []))
  refine A (XS.iloadN X0.here hx rfl (hb hby d2_60) rfl) ?_
  show D (T0.setTop (mkF m 61 #[.val (.int p1), .val (.int v22s0), .val (.int (p1 ||| (32 : Int32))), .val (.int v59s0)] [(.int v22s0)]))
  by_cases c61_3 : v22s0 = (0 : Int32)
  · refine A (XS.ifNo X0.here hx rfl (hb hby d2_61) rfl ((if0 _ _).trans (teq c61_3).2)) ?_
    show D (T0.setTop (mkF m 64 #[.val (.int p1), .val (.int v22s0), .val (.int (p1 ||| (32 : Int32))), .val (.int v59s0)] []))
    refine A (XS.iloadN X0.here hx rfl (hb hby d2_64) rfl) ?_
    show D (T0.setTop (mkF m 65 #[.val (.int p1), .val (.int v22s0), .val (.int (p1 ||| (32 : Int32))), .val (.int v59s0)] [(.int v59s0)]))
    by_cases c65_4 : v59s0 = (0 : Int32)
    · refine A (XS.ifYes X0.here hx rfl (pc0 := 65) (pc' := 72) rfl (hb hby d2_65) rfl ((if0 _ _).trans (teq c65_4).1) (by decide) (by decide)) ?_
      show D (T0.setTop (mkF m 72 #[.val (.int p1), .val (.int v22s0), .val (.int (p1 ||| (32 : Int32))), .val (.int v59s0)] []))
      refine A (XS.iconst X0.here hx rfl (hb hby d2_72)) ?_
      show D (T0.setTop (mkF m 73 #[.val (.int p1), .val (.int v22s0), .val (.int (p1 ||| (32 : Int32))), .val (.int v59s0)] [(.int (0 : Int32))]))
      refine F _ (Jvm.JW.ret X0 hlk (v := some (.int (0 : Int32))) (fun h => by rw [hrt] at h; cases h) (fun fs hr => retOut X0 hx hrt rfl (Or.inl ⟨rfl, Or.inr (Or.inl rfl), _, rfl⟩) (hb hby d2_73) hr) rfl ?_ (by decide) (by decide))
      exact ⟨congrArg (fun z => some (Value.int z)) (by subst hv59s0; subst hv22s0; exact ((if_pos c61_3).trans (if_pos c65_4)).symm), (Fr.nil n0), e0⟩
    · refine A (XS.ifNo X0.here hx rfl (hb hby d2_65) rfl ((if0 _ _).trans (feq c65_4).1)) ?_
      show D (T0.setTop (mkF m 68 #[.val (.int p1), .val (.int v22s0), .val (.int (p1 ||| (32 : Int32))), .val (.int v59s0)] []))
      refine A (XS.iconst X0.here hx rfl (hb hby d2_68)) ?_
      show D (T0.setTop (mkF m 69 #[.val (.int p1), .val (.int v22s0), .val (.int (p1 ||| (32 : Int32))), .val (.int v59s0)] [(.int (1 : Int32))]))
      refine A (XS.goto X0.here hx rfl (pc0 := 69) (pc' := 73) rfl (hb hby d2_69) (by decide) (by decide)) ?_
      show D (T0.setTop (mkF m 73 #[.val (.int p1), .val (.int v22s0), .val (.int (p1 ||| (32 : Int32))), .val (.int v59s0)] [(.int (1 : Int32))]))
      refine F _ (Jvm.JW.ret X0 hlk (v := some (.int (1 : Int32))) (fun h => by rw [hrt] at h; cases h) (fun fs hr => retOut X0 hx hrt rfl (Or.inl ⟨rfl, Or.inr (Or.inl rfl), _, rfl⟩) (hb hby d2_73) hr) rfl ?_ (by decide) (by decide))
      exact ⟨congrArg (fun z => some (Value.int z)) (by subst hv59s0; subst hv22s0; exact ((if_pos c61_3).trans (if_neg c65_4)).symm), (Fr.nil n0), e0⟩
  · refine A (XS.ifYes X0.here hx rfl (pc0 := 61) (pc' := 68) rfl (hb hby d2_61) rfl ((if0 _ _).trans (feq c61_3).2) (by decide) (by decide)) ?_
    show D (T0.setTop (mkF m 68 #[.val (.int p1), .val (.int v22s0), .val (.int (p1 ||| (32 : Int32))), .val (.int v59s0)] []))
    refine A (XS.iconst X0.here hx rfl (hb hby d2_68)) ?_
    show D (T0.setTop (mkF m 69 #[.val (.int p1), .val (.int v22s0), .val (.int (p1 ||| (32 : Int32))), .val (.int v59s0)] [(.int (1 : Int32))]))
    refine A (XS.goto X0.here hx rfl (pc0 := 69) (pc' := 73) rfl (hb hby d2_69) (by decide) (by decide)) ?_
    show D (T0.setTop (mkF m 73 #[.val (.int p1), .val (.int v22s0), .val (.int (p1 ||| (32 : Int32))), .val (.int v59s0)] [(.int (1 : Int32))]))
    refine F _ (Jvm.JW.ret X0 hlk (v := some (.int (1 : Int32))) (fun h => by rw [hrt] at h; cases h) (fun fs hr => retOut X0 hx hrt rfl (Or.inl ⟨rfl, Or.inr (Or.inl rfl), _, rfl⟩) (hb hby d2_73) hr) rfl ?_ (by decide) (by decide))
    exact ⟨congrArg (fun z => some (Value.int z)) (by subst hv59s0; subst hv22s0; exact (if_neg c61_3).symm), (Fr.nil n0), e0⟩
theorem own_bit : ∀ j, j < 32 → j ≠ 5 → (32#32).getLsbD j = false := by decide
theorem own_bv (b : BitVec 32) : (b ||| 32#32) = if b.getLsbD 5 then b else b + 32#32 := by
  by_cases q : b.getLsbD 5 = true
  · rw [if_pos q]
    apply BitVec.eq_of_getLsbD_eq
    intro i hi
    rw [BitVec.getLsbD_or]
    by_cases z : i = 5
    · subst z; simp [q]
    · simp [own_bit i hi z]
  · rw [if_neg q]
    refine (BitVec.add_eq_or_of_and_eq_zero b 32#32 ?_).symm
    apply BitVec.eq_of_getLsbD_eq
    intro i hi
    rw [BitVec.getLsbD_and]
    by_cases z : i = 5
    · subst z; simp at q; simp [q]
    · simp [own_bit i hi z]
theorem own_or (x : Int32) (h0 : 0 ≤ x.toInt) : (x ||| 32).toInt = x.toInt + 32 * (1 - x.toInt / 32 % 2) := by
  have hn : x.toInt = (x.toBitVec.toNat : Int) := by
    have h1 : x.toInt = x.toBitVec.toInt := rfl
    rw [h1] at h0 ⊢
    rw [BitVec.toInt_eq_toNat_cond] at h0 ⊢
    have := x.toBitVec.isLt
    split <;> rename_i hlt
    · rfl
    · rw [if_neg hlt] at h0; omega
  have hbit : x.toBitVec.getLsbD 5 = decide (x.toInt / 32 % 2 = 1) := by
    rw [hn, BitVec.getLsbD, Nat.testBit_eq_decide_div_mod_eq]
    simp only [decide_eq_decide]
    omega
  by_cases q : x.toInt / 32 % 2 = 1
  · have e : x ||| 32 = x := by
      apply Int32.toBitVec_inj.mp
      show x.toBitVec ||| 32#32 = _
      rw [own_bv, hbit]; simp [q]
    rw [e]; omega
  · have e : x ||| 32 = x + 32 := by
      apply Int32.toBitVec_inj.mp
      show x.toBitVec ||| 32#32 = x.toBitVec + 32#32
      rw [own_bv, hbit]; simp [q]
    have h2 := c_iadd x 32
    have h3 := rng32 (x + 32)
    have h4 := rng32 x
    have : (32 : Int32).toInt = 32 := rfl
    rw [e]; omega
theorem own_a (x : Int32) (h0 : 0 ≤ x.toInt) : (if (x / (16 : Int32)) = (3 : Int32) then (if (x % (16 : Int32)) < (10 : Int32) then (1 : Int32) else (0 : Int32)) else (0 : Int32)) = if (48 ≤ x.toInt ∧ x.toInt ≤ 57) then (1 : Int32) else 0 := by
  have a2 := (c_idiv x 16 16 (by decide) (by decide)).1 h0
  have a3 := (c_irem x 16 16 (by decide)).1 h0
  simp only [Int32.lt_iff_toInt_lt, ← Int32.toInt_inj, a2, a3, show (3 : Int32).toInt = 3 from rfl, show (10 : Int32).toInt = 10 from rfl]
  clear a2 a3
  generalize x.toInt = z at *
  repeat' split
  all_goals first | rfl | (exfalso; omega)
theorem own_b (x : Int32) (h0 : 0 ≤ x.toInt) (h1 : x.toInt < 65536) : (if ((x ||| (32 : Int32)) / (8 : Int32)) = (12 : Int32) then (if ((x ||| (32 : Int32)) % (8 : Int32)) < (1 : Int32) then (0 : Int32) else (if (6 : Int32) < ((x ||| (32 : Int32)) % (8 : Int32)) then (0 : Int32) else (1 : Int32))) else (0 : Int32)) = if ((65 ≤ x.toInt ∧ x.toInt ≤ 70) ∨ (97 ≤ x.toInt ∧ x.toInt ≤ 102)) then (1 : Int32) else 0 := by
  have a1 := own_or x h0
  have a4 := (c_idiv (x ||| 32) 8 8 (by decide) (by decide)).1 (by omega)
  have a5 := (c_irem (x ||| 32) 8 8 (by decide)).1 (by omega)
  simp only [Int32.lt_iff_toInt_lt, ← Int32.toInt_inj, a4, a5, a1, show (12 : Int32).toInt = 12 from rfl, show (1 : Int32).toInt = 1 from rfl, show (6 : Int32).toInt = 6 from rfl]
  clear a1 a4 a5
  generalize x.toInt = z at *
  repeat' split
  all_goals first | rfl | (exfalso; omega)
theorem own_eqq (x : Int32) (h0 : 0 ≤ x.toInt) (h1 : x.toInt < 65536) : f1 x = f2 x := by
  have e : f2 x = (if (if (x / (16 : Int32)) = (3 : Int32) then (if (x % (16 : Int32)) < (10 : Int32) then (1 : Int32) else (0 : Int32)) else (0 : Int32)) = (0 : Int32) then (if (if ((x ||| (32 : Int32)) / (8 : Int32)) = (12 : Int32) then (if ((x ||| (32 : Int32)) % (8 : Int32)) < (1 : Int32) then (0 : Int32) else (if (6 : Int32) < ((x ||| (32 : Int32)) % (8 : Int32)) then (0 : Int32) else (1 : Int32))) else (0 : Int32)) = (0 : Int32) then (0 : Int32) else (1 : Int32)) else (1 : Int32)) := rfl
  rw [e, own_a x h0, own_b x h0 h1]
  show g1_0 x = _
  rw [s1_0]
  have d1 : ¬ ((1 : Int32) = 0) := by decide
  repeat' split
  all_goals first | rfl | (exfalso; omega) | (exfalso; simp_all; done)
theorem pn0 : plainFor x = true := by decide +kernel
theorem pd0_0 : parseMethodDescriptor "(C)Z" = some ⟨[.char], some .boolean⟩ := by decide +kernel
theorem pd0_1 : parseMethodDescriptor "(I)Z" = some ⟨[.int], some .boolean⟩ := by decide +kernel
theorem ef0 (p1 : Int32) (m : MethodId) : entryFrame m #[(.int p1)] maxLocals = mkF m 0 #[.val (.int p1), .unset, .unset] [] := by first | (simp [entryFrame, mkF, argsToLocals, Value.category, maxLocals]; done) | rfl
set_option maxRecDepth 65536 in
set_option maxHeartbeats 40000000 in
theorem rm0 (l : Launch) (Z : State) (a0 : Array Value) (hw : ∀ d ∈ tables_1, d.before a0 Z = true) (ws : List Jvm.Cond) (p1 : Int32) (h0 : Heap) (n0 : Nat) :
    JMet l Z x code maxLocals ret ws room_1 #[(.int p1)] h0 (QL n0) := by
  refine Jvm.JW.body #[.val (.int p1), .unset, .unset] pn0 (ef0 p1) ?_
  intro p e s m below meth c T0 D A F X0 hx hZ hby hml hown hnm hrt hlk e0
  refine A (XS.iloadN X0.here hx rfl (hb hby at_0) rfl) ?_
  show D (T0.setTop (mkF m 1 #[.val (.int p1), .unset, .unset] [(.int p1)]))
  refine A (XS.i2c X0.here hx rfl (hb hby at_1) rfl) ?_
  show D (T0.setTop (mkF m 2 #[.val (.int p1), .unset, .unset] [(.int (p1.toUInt32.toUInt16.toUInt32.toInt32))]))
  refine A (XS.istoreN X0.here hx rfl (hb hby at_2) rfl (l' := #[.val (.int p1), .val (.int (p1.toUInt32.toUInt16.toUInt32.toInt32)), .unset]) rfl) ?_
  show D (T0.setTop (mkF m 3 #[.val (.int p1), .val (.int (p1.toUInt32.toUInt16.toUInt32.toInt32)), .unset] []))
  suffices Kx1_3 : ∀ x1_3 : Int32, x1_3 = (p1.toUInt32.toUInt16.toUInt32.toInt32) → D (T0.setTop (mkF m 3 #[.val (.int p1), .val (.int x1_3), .unset] [])) from Kx1_3 _ rfl
  intro x1_3 hx1_3
  refine A (XS.iloadN X0.here hx rfl (hb hby at_3) rfl) ?_
  show D (T0.setTop (mkF m 4 #[.val (.int p1), .val (.int x1_3), .unset] [(.int x1_3)]))
  refine A (XS.istoreN X0.here hx rfl (hb hby at_4) rfl (l' := #[.val (.int p1), .val (.int x1_3), .val (.int x1_3)]) rfl) ?_
  show D (T0.setTop (mkF m 5 #[.val (.int p1), .val (.int x1_3), .val (.int x1_3)] []))
  refine A (XS.iloadN X0.here hx rfl (hb hby at_5) rfl) ?_
  show D (T0.setTop (mkF m 6 #[.val (.int p1), .val (.int x1_3), .val (.int x1_3)] [(.int x1_3)]))
  refine Adv.callS A X0 hx hZ hown (hw _ (List.mem_of_getElem? (i := 0) rfl)) (hw _ (List.mem_of_getElem? (i := 1) rfl)) (hw _ (List.mem_of_getElem? (i := 2) rfl)) (hw _ (List.mem_of_getElem? (i := 3) rfl)) e0 (rm1 l Z a0 hw [] x1_3 h0 n0) 0 (g := (mkF m 6 #[.val (.int p1), .val (.int x1_3), .val (.int x1_3)] [(.int x1_3)])) rfl (by rw [hml]; rfl) [(.int x1_3)] [] rfl (lenOf pd0_0 rfl) rfl (by show 2 * 0 + _ ≤ _; exact Nat.le_of_eq rfl) (hb hby at_6) (by decide) (by decide) (by decide) (by decide) (by decide) ?_
  rintro T1 L1 _ X1 ⟨rfl, N1q, e1⟩
  have N1 := Fr.app (Fr.nil n0) N1q
  show D (T1.setTop (mkF m 9 #[.val (.int p1), .val (.int x1_3), .val (.int x1_3)] [(.int (f1 x1_3))]))
  refine A (XS.iloadN X1.here hx rfl (hb hby at_9) rfl) ?_
  show D (T1.setTop (mkF m 10 #[.val (.int p1), .val (.int x1_3), .val (.int x1_3)] [(.int x1_3), (.int (f1 x1_3))]))
  refine Adv.callS A X1 hx hZ hown (hw _ (List.mem_of_getElem? (i := 4) rfl)) (hw _ (List.mem_of_getElem? (i := 5) rfl)) (hw _ (List.mem_of_getElem? (i := 6) rfl)) (hw _ (List.mem_of_getElem? (i := 7) rfl)) e1 (rm2 l Z a0 hw [] x1_3 h0 n0) 1 (g := (mkF m 10 #[.val (.int p1), .val (.int x1_3), .val (.int x1_3)] [(.int x1_3), (.int (f1 x1_3))])) rfl (by rw [hml]; rfl) [(.int x1_3)] [(.int (f1 x1_3))] rfl (lenOf pd0_1 rfl) rfl (by show 2 * 0 + _ ≤ _; exact Nat.le_of_eq rfl) (hb hby at_10) (by decide) (by decide) (by decide) (by decide) (by decide) ?_
  rintro T2 L2 _ X2 ⟨rfl, N2q, e2⟩
  have N2 := Fr.app N1 N2q
  show D (T2.setTop (mkF m 13 #[.val (.int p1), .val (.int x1_3), .val (.int x1_3)] [(.int (f2 x1_3)), (.int (f1 x1_3))]))
  suffices Km21_3 : ∀ (v21s0 : Int32), v21s0 = (if (f1 x1_3) = (f2 x1_3) then (1 : Int32) else (0 : Int32)) → D (T2.setTop (mkF m 21 #[.val (.int p1), .val (.int x1_3), .val (.int x1_3)] [(.int v21s0)])) by
    by_cases c13_0 : (f1 x1_3) = (f2 x1_3)
    · refine A (XS.icmpNo X2.here hx rfl (hb hby at_13) rfl (teq c13_0).2) ?_
      show D (T2.setTop (mkF m 16 #[.val (.int p1), .val (.int x1_3), .val (.int x1_3)] []))
      refine A (XS.iconst X2.here hx rfl (hb hby at_16)) ?_
      show D (T2.setTop (mkF m 17 #[.val (.int p1), .val (.int x1_3), .val (.int x1_3)] [(.int (1 : Int32))]))
      refine A (XS.goto X2.here hx rfl (pc0 := 17) (pc' := 21) rfl (hb hby at_17) (by decide) (by decide)) ?_
      show D (T2.setTop (mkF m 21 #[.val (.int p1), .val (.int x1_3), .val (.int x1_3)] [(.int (1 : Int32))]))
      exact Km21_3 _ ((if_pos c13_0)).symm
    · refine A (XS.icmpYes X2.here hx rfl (pc0 := 13) (pc' := 20) rfl (hb hby at_13) rfl (feq c13_0).2 (by decide) (by decide)) ?_
      show D (T2.setTop (mkF m 20 #[.val (.int p1), .val (.int x1_3), .val (.int x1_3)] []))
      refine A (XS.iconst X2.here hx rfl (hb hby at_20)) ?_
      show D (T2.setTop (mkF m 21 #[.val (.int p1), .val (.int x1_3), .val (.int x1_3)] [(.int (0 : Int32))]))
      exact Km21_3 _ ((if_neg c13_0)).symm
  intro v21s0 hv21s0
  show D (T2.setTop (mkF m 21 #[.val (.int p1), .val (.int x1_3), .val (.int x1_3)] [(.int v21s0)]))
  obtain rfl : v21s0 = (1 : Int32) := by
    have hc := c_i2c p1
    rw [← hx1_3] at hc
    rw [hv21s0, if_pos (own_eqq _ hc.2.1 hc.2.2)]
  show D (T2.setTop (mkF m 21 #[.val (.int p1), .val (.int x1_3), .val (.int x1_3)] [(.int (1 : Int32))]))
  exact F _ (Jvm.JW.ret X2 hlk (v := some (.int (1 : Int32))) (fun h => by rw [hrt] at h; cases h) (fun fs hr => retOut X2 hx hrt rfl (Or.inl ⟨rfl, Or.inr (Or.inl rfl), _, rfl⟩) (hb hby at_21) hr) rfl ⟨rfl, N2⟩ (by decide) (by decide))
set_option maxRecDepth 65536 in
set_option maxHeartbeats 40000000 in
theorem comes_1 {Post : Tables → Env → Array Value → State → Outcome → State → Prop} (hpost : ∀ tb e args s v u, (limb_1_1.after args s (.returned v) u = true ∧ limb_1_2.after args s (.returned v) u = true ∧ True) → FrameEnd s (.returned v) u (Jvm.fieldLocs frame_1_writes args s ++ Jvm.arrayLocs frame_1_arrays args s ++ Jvm.staticLocs frame_1_statics s) 0 0 → Post tb e args s (.returned v) u) :
    ArmFor flags0 classFile x code maxLocals ret World_1 tables_1 room_1 Calls_1 rest_1 Pre_1 Post := by
  intro l hfl _ _ p e ha hc hk s m args below hf hA hF happ hP
  obtain ⟨hcalls, hrest, hpre⟩ := hP
  obtain ⟨-, -, -, hnamed, -, -, -, hat⟩ := (Spec.applies_iff hf).mp happ
  obtain ⟨hg, hn⟩ := and_e (Cond.before_iff.mp (show (Jvm.Cond.and given_1 narrow_1).before args s = true from hpre))
  obtain ⟨g0, g1⟩ := and_e hg
  obtain ⟨w0, rfl⟩ : ∃ w0 : Value, args = #[w0] := by
    have hs : args.size = 1 := by simpa [Cond.value, given_1] using g0
    obtain ⟨L⟩ := args
    match L, hs with
    | [w0], _ => exact ⟨w0, rfl⟩
  have hw := fun d (hd : d ∈ tables_1) => atoms_spec (ws := Jvm.Cond.code x code maxLocals ret :: tables_1) hat d (List.mem_cons_of_mem _ hd)
  obtain ⟨i0, q0⟩ := is_v g1
  obtain rfl : w0 = (.int i0) := Option.some.inj q0
  obtain ⟨n, o, h1, h2, h3, _, L, rfl, ⟨rfl, N⟩, hq⟩ := rm0 l s _ hw tables_1 i0 s.heap s.heap.size p e ha hc hk s m _ below hf ((Spec.applies_iff_loose hf).mp happ).1 ⟨rfl, State.Warmed39.refl s, rfl⟩ trivial
  refine ⟨n, _, h1, h2, h3, hpost _ _ _ _ _ _ ⟨Cond.after_iff.mpr rfl, Cond.after_iff.mpr (eq_i res_at (Term.int_eval (1)) rfl), trivial⟩ ⟨hq.1, hq.2.1, (hq.2.2.sift fun y hy => Or.inr (N y hy)).mono (by decide) (by decide)⟩⟩
theorem main_1_1 : Claimed_1_1 := comes_1 fun _ _ _ _ _ _ h hF => ⟨h.1, hF⟩
theorem main_1_2 : Claimed_1_2 := comes_1 fun _ _ _ _ _ _ h hF => ⟨h.2.1, hF⟩
end Jvm.Pilot.@@N@@
namespace Jvm.Pilot.@@N@@
open Jvm Jvm.ClassFile Sem Op Lib Jvm.Free Jvm.Stand Jvm.Pilot.@@N@@.Jvm.D
/-! MADE BY PROGRAM (witnessworld.py) out of the Statement's table words and the real class files: 9 classes; the members and pool entries that the words name. The judged class is class 1, her method 2. -/
namespace start1
open Jvm.ClassFile
def u (s : String) : CpInfo := .utf8 (stringToUtf16 s)
/-- a pool by its gaps: so many unusable entries, then the entry; so many at the end -/
def gap : Nat → List CpInfo → List CpInfo
  | 0, r => r
  | n + 1, r => .unusable :: gap n r
def poolList (es : List (Nat × CpInfo)) (last : Nat) : List CpInfo := es.foldr (fun e r => gap e.1 (e.2 :: r)) (gap last [])
def pool (es : List (Nat × CpInfo)) (last : Nat) : Array CpInfo := ⟨poolList es last⟩
def fileOf (pool : Array CpInfo) (this : Nat) (attrs : Array Attribute := #[]) (ms : Array MethodInfo := #[]) (fl : Nat := 33) (sup : Nat := 0) (ifs : Array Nat := #[]) (fds : Array FieldInfo := #[]) : ClassFile where
  minorVersion := 0
  majorVersion := 65
  constantPool := pool
  accessFlags := fl
  thisClass := this
  superClass := sup
  interfaces := ifs
  fields := fds
  methods := ms
  attributes := attrs
def plain (name : String) (sup : Option ClassId) : Class where
  name := name
  kind := .ordinary
  loader := none
  accessFlags := 33
  super := sup
  interfaces := #[]
  cf := none
  fields := #[]
  methods := #[]
  instanceTypes := #[]
  staticTypes := #[]
  resolved := #[]
  callSites := []
  init := .initialized
  statics := none
  mirror := none

def pool0 : Array CpInfo := pool [(5, u "<init>"), (0, u "()V"), (1, .class_ 10), (1, u "java/lang/Object")] 113

def k0m0 : Method := { name := "<init>", desc := "()V", sig := { parameters := [], returnType := none }, accessFlags := 1, code := none }
/-- java/lang/Object -/
def k0 : Class := { plain "java/lang/Object" none with
  accessFlags := 33
  interfaces := #[]
  cf := some (fileOf pool0 8 #[] #[{ accessFlags := 1, nameIndex := 5, descriptorIndex := 6, attributes := #[] }] 33 0 #[] #[])
  fields := #[]
  methods := #[k0m0]
  instanceTypes := #[]
  staticTypes := #[]
  resolved := Array.replicate 124 none
  statics := none }

def pool1 : Array CpInfo := pool [(2, .class_ 4), (1, u "java/lang/Object"), (0, u "<init>"), (0, u "()V"), (0, .methodref 8 9), (0, .class_ 10), (0, .nameAndType 11 12), (0, u "com/example/wayfare/wayfare/parse/NTriples"), (0, u "isHexDigit"), (0, u "(C)Z"), (0, .methodref 14 15), (0, .class_ 16), (0, .nameAndType 17 18), (0, u "com/example/wayfare/wayfare/parse/NTriplesIsHexDigitPinLaw"), (0, u "reference"), (0, u "(I)Z"), (3, u "law")] 2

def k1m0 : Method := { name := "<init>", desc := "()V", sig := { parameters := [], returnType := none }, accessFlags := 2, code := none }
def k1c1 : Code := { maxStack := 2, maxLocals := 4, code := method_2_code, exceptionTable := #[], attributes := #[] }
def k1m1 : Method := { name := "reference", desc := "(I)Z", sig := { parameters := [.int], returnType := some .boolean }, accessFlags := 10, code := some k1c1 }
def k1c2 : Code := { maxStack := 2, maxLocals := 3, code := code, exceptionTable := #[], attributes := #[] }
def k1m2 : Method := { name := "law", desc := "(I)Z", sig := { parameters := [.int], returnType := some .boolean }, accessFlags := 9, code := some k1c2 }
/-- com/example/wayfare/wayfare/parse/NTriplesIsHexDigitPinLaw -/
def k1 : Class := { plain "com/example/wayfare/wayfare/parse/NTriplesIsHexDigitPinLaw" (some 0) with
  accessFlags := 49
  interfaces := #[]
  cf := some (fileOf pool1 14 #[] #[{ accessFlags := 2, nameIndex := 5, descriptorIndex := 6, attributes := #[] }, { accessFlags := 10, nameIndex := 17, descriptorIndex := 18, attributes := #[] }, { accessFlags := 9, nameIndex := 22, descriptorIndex := 18, attributes := #[] }] 49 2 #[] #[])
  fields := #[]
  methods := #[k1m0, k1m1, k1m2]
  instanceTypes := #[]
  staticTypes := #[]
  resolved := Array.replicate 25 none
  statics := none }

def pool2 : Array CpInfo := pool [(2, .class_ 4), (1, u "java/lang/Object"), (3, .class_ 10), (1, u "com/example/wayfare/wayfare/parse/NTriples"), (0, u "text"), (0, u "Ljava/lang/String;"), (2, u "position"), (0, u "I"), (11, .class_ 30), (1, u "com/example/wayfare/wayfare/parse/NTriples$Kind"), (39, .class_ 71), (0, u "com/example/wayfare/wayfare/parse/NTriples$Term"), (91, u "(C)Z"), (88, u "isHexDigit"), (72, u "RDF_TYPE"), (3, u "XSD_STRING"), (0, u "NOT_IN_IRI")] 47

def k2c0 : Code := { maxStack := 2, maxLocals := 1, code := prog_55_method_8_code, exceptionTable := #[], attributes := #[] }
def k2m0 : Method := { name := "isHexDigit", desc := "(C)Z", sig := { parameters := [.char], returnType := some .boolean }, accessFlags := 8, code := some k2c0 }
/-- com/example/wayfare/wayfare/parse/NTriples -/
def k2 : Class := { plain "com/example/wayfare/wayfare/parse/NTriples" (some 0) with
  accessFlags := 49
  interfaces := #[]
  cf := some (fileOf pool2 8 #[.nestMembers #[70, 28]] #[{ accessFlags := 8, nameIndex := 252, descriptorIndex := 163, attributes := #[] }] 49 2 #[] #[{ accessFlags := 25, nameIndex := 325, descriptorIndex := 12, attributes := #[] }, { accessFlags := 26, nameIndex := 329, descriptorIndex := 12, attributes := #[] }, { accessFlags := 26, nameIndex := 330, descriptorIndex := 12, attributes := #[] }, { accessFlags := 18, nameIndex := 11, descriptorIndex := 12, attributes := #[] }, { accessFlags := 2, nameIndex := 15, descriptorIndex := 16, attributes := #[] }])
  fields := #[{ name := "RDF_TYPE", type := (.object "java/lang/String"), accessFlags := 25, slot := 0, constantValue := 0 }, { name := "XSD_STRING", type := (.object "java/lang/String"), accessFlags := 26, slot := 1, constantValue := 0 }, { name := "NOT_IN_IRI", type := (.object "java/lang/String"), accessFlags := 26, slot := 2, constantValue := 0 }, { name := "text", type := (.object "java/lang/String"), accessFlags := 18, slot := 0, constantValue := 0 }, { name := "position", type := .int, accessFlags := 2, slot := 1, constantValue := 0 }]
  methods := #[k2m0]
  instanceTypes := #[(.object "java/lang/String"), .int]
  staticTypes := #[(.object "java/lang/String"), (.object "java/lang/String"), (.object "java/lang/String")]
  resolved := Array.replicate 378 none
  statics := none }

def pool3 : Array CpInfo := pool [(1, u "java/lang/Cloneable"), (0, .class_ 1), (0, u "java/lang/Object"), (0, .class_ 3)] 3

/-- java/lang/Cloneable -/
def k3 : Class := { plain "java/lang/Cloneable" (some 0) with
  accessFlags := 1537
  interfaces := #[]
  cf := some (fileOf pool3 2 #[] #[] 1537 4 #[] #[])
  fields := #[]
  methods := #[]
  instanceTypes := #[]
  staticTypes := #[]
  resolved := Array.replicate 8 none
  statics := none }

def pool4 : Array CpInfo := pool [(1, u "java/io/Serializable"), (0, .class_ 1), (0, u "java/lang/Object"), (0, .class_ 3)] 3

/-- java/io/Serializable -/
def k4 : Class := { plain "java/io/Serializable" (some 0) with
  accessFlags := 1537
  interfaces := #[]
  cf := some (fileOf pool4 2 #[] #[] 1537 4 #[] #[])
  fields := #[]
  methods := #[]
  instanceTypes := #[]
  staticTypes := #[]
  resolved := Array.replicate 8 none
  statics := none }

/-- the primitive byte -/
def k5 : Class := { plain "byte" none with kind := .primitive 'B', accessFlags := 0x411 }
/-- [B -/
def k6 : Class := { plain "[B" (some 0) with kind := .array 5 .byte, interfaces := #[3, 4], accessFlags := 1041 }

/-- the primitive int -/
def k7 : Class := { plain "int" none with kind := .primitive 'I', accessFlags := 0x411 }
/-- [I -/
def k8 : Class := { plain "[I" (some 0) with kind := .array 7 .int, interfaces := #[3, 4], accessFlags := 1041 }

def heap : Heap := #[]
def classes : Array Class := #[k0, k1, k2, k3, k4, k5, k6, k7, k8]
def interned : List (Array UInt16 × Addr) := []
def slotsUsed : Nat := 0
def theMethod : MethodId := ⟨1, 2⟩
def args0 : Array Value := #[.int 3]
def aboutOver (below : List Frame) : State where
  vm := { classes := classes, interned := interned.toArray }
  heap := heap
  slotsUsed := slotsUsed
  threads := #[{ frames := .invoking theMethod args0 :: below }]
def below0 : List Frame := [.native { method := ⟨0, 0⟩, args := #[] }]
def about1 : State := aboutOver below0
def p0 : Program := .bare "" "" ""
def e0 : Env := launch0.env 0 0 0
theorem w_frames : about1.frames = Frame.invoking theMethod args0 :: below0 := rfl
set_option maxRecDepth 65536 in
theorem w_args : argsFit about1.vm theMethod args0 = true := by decide +kernel
set_option maxRecDepth 65536 in
theorem w_heap : heapFits about1 = true := by decide +kernel
set_option maxRecDepth 65536 in
theorem w_runnable : about1.curStatus? = some .runnable := by decide +kernel
set_option maxRecDepth 65536 in
theorem w_alone : about1.alone = true := by decide +kernel
set_option maxRecDepth 65536 in
theorem w_named : about1.methodNamed? x = some theMethod := by decide +kernel
set_option maxRecDepth 65536 in
theorem w_hears : about1.hears theMethod below0 = true := by decide +kernel
set_option maxRecDepth 65536 in
theorem w_ripe : about1.ripe theMethod args0 below0 = true := by decide +kernel
theorem w_running : about1.status = .running := rfl
set_option maxRecDepth 65536 in
theorem w_room : about1.hasRoom e0.platform room_1 = true :=
  launch0.hasRoom_least _ room_1 (by decide +kernel) (by decide +kernel) (by decide +kernel) (by decide +kernel) (by decide +kernel) (by decide +kernel)
theorem allAtoms_all (ts : List Jvm.Cond) (a : Array Jvm.Value) (st : Jvm.State) : (allAtoms ts).before a st = ts.all (fun c => c.before a st) := by
  induction ts with
  | nil => rfl
  | cons c t ih =>
    show (Jvm.Cond.and c (allAtoms t)).before a st = _
    rw [Jvm.Cond.before_and, ih, List.all_cons]
def words1 : List Jvm.Cond := Jvm.Cond.code x code maxLocals ret :: tables_1
/-- a 'code' word, met by the world's own term for the bytes: nothing is compared byte by byte -/
theorem code_word {y : MethodName} {bytes : ByteArray} {mx : Nat} {rt : Option FieldType} {a : Array Value} {s : State} {m : MethodId} {meth : Method} {c : Code} (h1 : s.methodNamed? y = some m) (h2 : s.vm.method? m = some meth) (h3 : meth.code = some c) (h4 : c.code = bytes)
    (h5 : (c.maxLocals == mx && c.exceptionTable.isEmpty && decide (c.maxStack ≤ mostOperands) && decide (meth.sig.returnType = rt) && !meth.locks && decide (parseMethodDescriptor y.desc = some meth.sig)) = true) : (Jvm.Cond.code y bytes mx rt).before a s = true := by
  simp only [Bool.and_eq_true, beq_iff_eq, Bool.not_eq_true', decide_eq_true_eq] at h5
  obtain ⟨⟨⟨⟨⟨g1, g2⟩, g3⟩, g4⟩, g5⟩, g6⟩ := h5
  simp [Cond.before, Cond.holds, Cond.value, h1, h2, h3, h4, g1, g2, g3, g4, g5, g6]
def isCode : Jvm.Cond → Bool
  | .code _ _ _ _ => true
  | _ => false
theorem all_split {L : List Jvm.Cond} {P : Jvm.Cond → Bool} (h1 : L.all (fun c => isCode c || P c) = true) (h2 : ∀ c ∈ L.filter isCode, P c = true) : L.all P = true := by
  refine List.all_eq_true.mpr fun c hc => ?_
  have h := List.all_eq_true.mp h1 c hc
  rcases Bool.eq_false_or_eq_true (isCode c) with hi | hi
  · exact h2 c (List.mem_filter.mpr ⟨hc, hi⟩)
  · simpa [hi] using h
set_option maxRecDepth 65536 in
theorem w_c0 : (Jvm.Cond.code x code maxLocals ret).before args0 about1 = true := code_word (m := ⟨1, 2⟩) (meth := k1m2) (c := k1c2) (by decide +kernel) rfl rfl rfl (by decide +kernel)
set_option maxRecDepth 65536 in
theorem w_c1 : (Jvm.Cond.code ({ cls := "com/example/wayfare/wayfare/parse/NTriples", name := "isHexDigit", desc := "(C)Z" } : Jvm.MethodName) prog_55_method_8_code (1 : Nat) (Option.some Jvm.ClassFile.FieldType.boolean)).before args0 about1 = true := code_word (m := ⟨2, 0⟩) (meth := k2m0) (c := k2c0) (by decide +kernel) rfl rfl rfl (by decide +kernel)
set_option maxRecDepth 65536 in
theorem w_c2 : (Jvm.Cond.code ({ cls := "com/example/wayfare/wayfare/parse/NTriplesIsHexDigitPinLaw", name := "reference", desc := "(I)Z" } : Jvm.MethodName) method_2_code (4 : Nat) (Option.some Jvm.ClassFile.FieldType.boolean)).before args0 about1 = true := code_word (m := ⟨1, 1⟩) (meth := k1m1) (c := k1c1) (by decide +kernel) rfl rfl rfl (by decide +kernel)
def codes1 : List Jvm.Cond := [Jvm.Cond.code x code maxLocals ret, Jvm.Cond.code ({ cls := "com/example/wayfare/wayfare/parse/NTriples", name := "isHexDigit", desc := "(C)Z" } : Jvm.MethodName) prog_55_method_8_code (1 : Nat) (Option.some Jvm.ClassFile.FieldType.boolean), Jvm.Cond.code ({ cls := "com/example/wayfare/wayfare/parse/NTriplesIsHexDigitPinLaw", name := "reference", desc := "(I)Z" } : Jvm.MethodName) method_2_code (4 : Nat) (Option.some Jvm.ClassFile.FieldType.boolean)]
set_option maxRecDepth 65536 in
theorem codes_eq : words1.filter isCode = codes1 := rfl
theorem w_codes : ∀ c ∈ words1.filter isCode, c.before args0 about1 = true := by
  rw [codes_eq]
  intro c hc
  simp only [codes1, List.mem_cons, List.not_mem_nil, or_false] at hc
  rcases hc with rfl | rfl | rfl
  · exact w_c0
  · exact w_c1
  · exact w_c2
set_option maxRecDepth 65536 in
theorem w_t1 : words1.all (fun c => isCode c || c.before args0 about1) = true := by decide +kernel
theorem w_tables : (allAtoms (Jvm.Cond.code x code maxLocals ret :: tables_1)).before args0 about1 = true := by
  rw [allAtoms_all]
  show words1.all (fun c => c.before args0 about1) = true
  refine all_split ?_ w_codes
  rw [w_t1]
set_option maxRecDepth 65536 in
theorem w_case : (Jvm.Cond.and given_1 narrow_1).before args0 about1 = true := by decide +kernel
theorem w_applies : (headSpec (Jvm.Cond.code x code maxLocals ret :: tables_1) room_1).applies x e0.platform about1 = true :=
  (Spec.applies_iff w_frames).mpr ⟨w_running, w_runnable, w_alone, w_named, w_hears, w_ripe, w_room, w_tables⟩
theorem atStart : AtStart classFile x code maxLocals ret World_1 tables_1 room_1 Calls_1 rest_1 Pre_1 launch0 p0 e0 about1 theMethod args0 below0 :=
  ⟨lists_1, trivial, launch0.admits_env _ _ _, launch0.least_env, fairChoices_fair.cas, fairChoices_fair.clock, w_frames, w_args, w_heap, w_applies, trivial, trivial, w_case⟩
end start1
theorem witness_1 : WitnessClaimed_1 := ⟨start1.p0, start1.e0, start1.about1, start1.theMethod, start1.args0, start1.below0, start1.atStart⟩
end Jvm.Pilot.@@N@@
