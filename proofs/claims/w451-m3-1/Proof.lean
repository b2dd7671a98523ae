import JvmDerived
import JvmDerived.Pilot.@@N@@Statement
import JvmDerived.Pilot.@@N@@Code
set_option linter.unusedVariables false
set_option linter.unusedSimpArgs false
namespace Jvm.JW
open Sem ClassFile Op Lib Jvm.Stand Jvm.Free Jvm.LawKit Jvm.RoadKit
/-! The walk in continuation form: D holds of a machine state if the run from it ends as the contract says. -/
def Dn (p : Program) (e : Env) (below : List Frame) (s : State) (Q : Option Value → Heap → List Loc → Prop) (k n : Nat) (S : State) : Prop :=
  ∃ s₂ o, Steps p.tables e below S s₂ ∧ s₂.status = .running ∧ Ended s₂ below o ∧ ∃ v L, o = .returned v ∧ Q v s₂.heap L ∧ FrameEnd s o s₂ L k n
def Adv (p : Program) (e : Env) (below : List Frame) (D : State → Prop) : Prop :=
  ∀ {S S' : State}, (∀ {t : State}, Steps p.tables e below S' t → Steps p.tables e below S t) → D S' → D S
theorem Adv.dn {p : Program} {e : Env} {below : List Frame} {s : State} {Q : Option Value → Heap → List Loc → Prop} {k n : Nat} : Adv p e below (Dn p e below s Q k n) := by
  intro S S' h d
  obtain ⟨s2, o, h1, h2⟩ := d
  exact ⟨s2, o, h h1, h2⟩
theorem Adv.tr {p : Program} {e : Env} {below : List Frame} {D : State → Prop} (A : Adv p e below D) {S S' : State} (h : Steps p.tables e below S S') (d : D S') : D S := A (fun k => h.trans k) d
abbrev JMet (l : Launch) (Z : State) (y : MethodName) (bytes : ByteArray) (maxL : Nat) (ret : Option FieldType) (ws : List Cond) (rm : Room) (as' : Array Value) (h0 : Heap) (Q : Option Value → Heap → List Loc → Prop) : Prop :=
  MetFree l y (head1 (Cond.code y bytes maxL ret :: ws) rm) (fun a U => a = as' ∧ Z.Warmed39 U.vm ∧ U.heap = h0) (fun _ _ _ _ _ => True) (fun _ U o U' => ∃ v L, o = .returned v ∧ Q v U'.heap L ∧ FrameEnd U o U' L rm.cells rm.slots)
/-- a body that returns r and leaves the heap as it was -/
def QP (r : Value) (h0 : Heap) (n0 : Nat) (v : Option Value) (h : Heap) (L : List Loc) : Prop := v = some r ∧ Fr n0 L ∧ h = h0
/-- the law: it returns 1; nothing that stood at the start is written -/
def QL (n0 : Nat) (v : Option Value) (h : Heap) (L : List Loc) : Prop := v = some (.int 1) ∧ Fr n0 L
section Kit
variable {p : Program} {l : Launch} {e : Env} {R : Room} {s : State} {m : MethodId} {args : Array Value} {below : List Frame} {meth : Method} {c : Code} {T : State} {locs : List Loc} {cells slots : Nat} {Z : State} {a0 : Array Value} {h : Heap} {D : State → Prop}
theorem ret (X : Stand p l e R s m args below meth c T locs cells slots) (hlk : meth.locks = false) {Q : Option Value → Heap → List Loc → Prop} {k n : Nat} {S : State} {v : Option Value} (hv : meth.sig.returnType = none → v = none)
    (hst : ∀ fs, (∀ (f : JFrame) (acts : List Action), f.method = m → f.locked = none → f.entered = [] → (doReturn e (T.setTop f) acts v).1 = T.setFrames fs) → Steps p.tables e below S (T.setFrames fs))
    {hh : Heap} (eT : T.heap = hh) (hq : Q v hh locs) (hk : cells ≤ k) (hn : slots ≤ n) : Dn p e below s Q k n S := by
  subst eT
  obtain ⟨fs, hr, hrun, hended, hW, hsame⟩ := X.leave (v := v) hv hlk
  exact ⟨_, _, hst fs hr, hrun, hended, _, _, rfl, hq, ⟨_, rfl⟩, hW, hsame.mono hk hn⟩
theorem body {y : MethodName} {bytes : ByteArray} {maxL : Nat} {rt : Option FieldType} {ws : List Cond} {rm : Room} {as' : Array Value} {h0 : Heap} {Q : Option Value → Heap → List Loc → Prop} (Ls : Array Slot) (hpl : plainFor y = true) (hef : ∀ m, entryFrame m as' maxL = mkF m 0 Ls [])
    (bd : ∀ (p : Program) (e : Env) (s : State) (m : MethodId) (below : List Frame) (meth : Method) (c : Code) (T0 : State) (D : State → Prop), Adv p e below D → (∀ S, Dn p e below s Q rm.cells rm.slots S → D S) → Stand p l e rm s m as' below meth c T0 [] 0 0 → p.tables.exec = Jvm.exec → Z.Warmed39 s.vm → c.code = bytes → c.maxLocals = maxL → s.vm.findClass y.cls = some m.cls → meth.name = y.name → meth.sig.returnType = rt → meth.locks = false → T0.heap = h0 → D (T0.setTop (mkF m 0 Ls []))) :
    JMet l Z y bytes maxL rt ws rm as' h0 Q := by
  refine MetFree.of_bodySF hpl hisR ?_
  intro p e s m args below meth c s₁ Bd hml hP hK
  obtain ⟨rfl, hZ, hh⟩ := hP
  have q := bd p e s m below meth c s₁ (Dn p e below s Q rm.cells rm.slots) Adv.dn (fun _ d => d) (Stand.of_body Bd) Bd.exec hZ Bd.bytes hml (findClass_of_methodNamed Bd.named) (name_of_methodNamed Bd.named Bd.method).1 Bd.returns Bd.notSynchronized (by rw [← hh, Bd.state]; rfl)
  rw [← hef m] at q
  exact q
theorem Adv.callS (A : Adv p e below D) (X : Stand p l e R s m args below meth c T locs cells slots) (hx : p.tables.exec = Jvm.exec) (hZ : Z.Warmed39 s.vm) {own : String} {index : Nat} {y : MethodName} {bytes : ByteArray} {maxL : Nat} {rt : Option FieldType} {rm : Room} {as' : Array Value} {Q : Option Value → Heap → List Loc → Prop}
    (hown : s.vm.findClass own = some m.cls) (w1 : (Cond.methodLink own index y).before a0 Z = true) (w2 : (Cond.static y).before a0 Z = true) (w3 : (Cond.initialized y.cls).before a0 Z = true) (w4 : (Cond.code y bytes maxL rt).before a0 Z = true) (eT : T.heap = h)
    (hM : JMet l Z y bytes maxL rt [] rm as' h Q) (W : Nat) {g : JFrame} (hg : g.method = m) (hsz : g.locals.size = c.maxLocals) (argsL rest : List Value) (has : as' = argsL.toArray)
    (hlen : ∀ sig, parseMethodDescriptor y.desc = some sig → argsL.length = sig.parameters.length) (hstack : g.stack = argsL.reverse ++ rest) (hW : 2 * g.monitorRoom + (rest.map fun v => v.category).sum ≤ W)
    (hd : decode c.code g.pc = .ok (.invokestatic index, 3)) (hy : y.cls ≠ "java/lang/invoke/MethodHandle" ∧ y.cls ≠ "java/lang/invoke/VarHandle") (hf : rm.frames + 1 ≤ R.frames) (hl : W + (maxL + 11) + rm.locals ≤ R.locals) (hc : cells + rm.cells ≤ R.cells) (hs : slots + rm.slots ≤ R.slots)
    (k : ∀ (T' : State) (L' : List Loc) (v : Option Value), Stand p l e R s m args below meth c T' (locs ++ L') (cells + rm.cells) (slots + rm.slots) → Q v T'.heap L' → D (T'.setTop { g with pc := g.pc + 3, stack := v.toList ++ rest })) : D (T.setTop g) := by
  subst has
  obtain ⟨v, _, ⟨T', L, k', n'⟩, -, X', ⟨Lc, hQ, l', y', z'⟩, st⟩ := Jvm.LawKit.callS X hx (y := y) hown (mvT hZ w1) (mvT hZ w2) (mvT hZ w3) (mvT hZ w4) hy (backOf (W := W) hM hZ w4 w3 hf hl) (g := g) hg hsz (argsL := argsL) (rest := rest) hlen hstack hW hd (fun _ _ => ⟨rfl, eT, hc, hs⟩)
  dsimp only [Pt.U, Pt.locs, Pt.cells, Pt.slots] at X' l' y' z' st hQ
  subst l' y' z'
  exact A (fun q => st _ q) (k T' Lc v X' hQ)
theorem Adv.callI (A : Adv p e below D) (X : Stand p l e R s m args below meth c T locs cells slots) (hx : p.tables.exec = Jvm.exec) (hZ : Z.Warmed39 s.vm) {own : String} {index : Nat} {y : MethodName} {bytes : ByteArray} {maxL : Nat} {rm : Room} {as' : Array Value} {Q : Option Value → Heap → List Loc → Prop}
    (hown : s.vm.findClass own = some m.cls) (hi : y.name = "<init>") (w1 : (Cond.methodLink own index y).before a0 Z = true) (w2 : (Cond.instanceMethod y).before a0 Z = true) (w3 : (Cond.initialized y.cls).before a0 Z = true) (w4 : (Cond.code y bytes maxL none).before a0 Z = true) (eT : T.heap = h)
    (hM : JMet l Z y bytes maxL none [] rm as' h Q) (W : Nat) {g : JFrame} (hg : g.method = m) (hsz : g.locals.size = c.maxLocals) (a : Addr) (argsL rest : List Value) (has : as' = (.ref a :: argsL).toArray)
    (hlen : ∀ sig, parseMethodDescriptor y.desc = some sig → argsL.length = sig.parameters.length) (hstack : g.stack = argsL.reverse ++ .ref a :: rest) (hW : 2 * g.monitorRoom + (rest.map fun v => v.category).sum ≤ W)
    (hd : decode c.code g.pc = .ok (.invokespecial index, 3)) (hy : y.cls ≠ "java/lang/invoke/MethodHandle" ∧ y.cls ≠ "java/lang/invoke/VarHandle") (hf : rm.frames + 1 ≤ R.frames) (hl : W + (maxL + 11) + rm.locals ≤ R.locals) (hc : cells + rm.cells ≤ R.cells) (hs : slots + rm.slots ≤ R.slots)
    (k : ∀ (T' : State) (L' : List Loc) (v : Option Value), Stand p l e R s m args below meth c T' (locs ++ L') (cells + rm.cells) (slots + rm.slots) → Q v T'.heap L' → D (T'.setTop { g with pc := g.pc + 3, stack := v.toList ++ rest })) : D (T.setTop g) := by
  subst has
  obtain ⟨v, _, ⟨T', L, k', n'⟩, -, X', ⟨Lc, hQ, l', y', z'⟩, st⟩ := X.specialBack hx (y := y) hi hown (mvT hZ w1) (mvT hZ w2) (mvT hZ w4) hy (backOf (W := W) hM hZ w4 w3 hf hl) (g := g) hg hsz (Steps.refl _) (a := a) (argsL := argsL) (rest := rest) hlen hstack hW hd (fun _ _ => ⟨rfl, eT, hc, hs⟩)
  dsimp only [Pt.U, Pt.locs, Pt.cells, Pt.slots] at X' l' y' z' st hQ
  subst l' y' z'
  exact A.tr st (k T' Lc v X' hQ)
theorem Adv.callV (A : Adv p e below D) (X : Stand p l e R s m args below meth c T locs cells slots) (hx : p.tables.exec = Jvm.exec) (hZ : Z.Warmed39 s.vm) {own C : String} {index : Nat} {y z : MethodName} {bytes : ByteArray} {maxL : Nat} {rt : Option FieldType} {rm : Room} {as' : Array Value} {Q : Option Value → Heap → List Loc → Prop} {a : Addr}
    (hown : s.vm.findClass own = some m.cls) (w1 : (Cond.methodLink own index y).before a0 Z = true) (w2 : (Cond.declares y).before a0 Z = true) (nf : NotFace s y) (w5 : (Cond.selects C y z).before a0 Z = true) (w6 : (Cond.instanceMethod z).before a0 Z = true) (w3 : (Cond.initialized z.cls).before a0 Z = true) (w4 : (Cond.code z bytes maxL rt).before a0 Z = true) (eT : T.heap = h) (E : Exa Z h a C)
    (hM : JMet l Z z bytes maxL rt [] rm as' h Q) (W : Nat) {g : JFrame} (hg : g.method = m) (hsz : g.locals.size = c.maxLocals) (argsL rest : List Value) (has : as' = (.ref a :: argsL).toArray)
    (hlen : ∀ sig, parseMethodDescriptor y.desc = some sig → argsL.length = sig.parameters.length) (hstack : g.stack = argsL.reverse ++ .ref a :: rest) (hW : 2 * g.monitorRoom + (rest.map fun v => v.category).sum ≤ W)
    (hd : decode c.code g.pc = .ok (.invokevirtual index, 3)) (hy : y.cls ≠ "java/lang/invoke/MethodHandle" ∧ y.cls ≠ "java/lang/invoke/VarHandle") (hf : rm.frames + 1 ≤ R.frames) (hl : W + (maxL + 11) + rm.locals ≤ R.locals) (hc : cells + rm.cells ≤ R.cells) (hs : slots + rm.slots ≤ R.slots)
    (k : ∀ (T' : State) (L' : List Loc) (v : Option Value), Stand p l e R s m args below meth c T' (locs ++ L') (cells + rm.cells) (slots + rm.slots) → Q v T'.heap L' → D (T'.setTop { g with pc := g.pc + 3, stack := v.toList ++ rest })) : D (T.setTop g) := by
  subst has
  obtain ⟨cq, kq, qa, qb, qc⟩ := isOf hZ eT E
  obtain ⟨v, _, ⟨T', L, k', n'⟩, -, X', ⟨Lc, hQ, l', y', z'⟩, st⟩ := X.virtualBack hx (y := y) (z := z) hown (mvT hZ w1) (mvT hZ w2) nf (mvT hZ w5) (mvT hZ w6) hy (backOf (W := W) hM hZ w4 w3 hf hl) qa qc (g := g) hg hsz (Steps.refl _) (argsL := argsL) (rest := rest) hlen hstack hW hd (fun _ _ => ⟨rfl, eT, hc, hs⟩)
  dsimp only [Pt.U, Pt.locs, Pt.cells, Pt.slots] at X' l' y' z' st hQ
  subst l' y' z'
  exact A.tr st (k T' Lc v X' hQ)
theorem Adv.callU (A : Adv p e below D) (X : Stand p l e R s m args below meth c T locs cells slots) (hx : p.tables.exec = Jvm.exec) (hZ : Z.Warmed39 s.vm) {own C owner : String} {index : Nat} {y z : MethodName} {bytes : ByteArray} {maxL : Nat} {rt : Option FieldType} {rm : Room} {as' : Array Value} {Q : Option Value → Heap → List Loc → Prop} {a : Addr}
    (hown : s.vm.findClass own = some m.cls) (w1 : (Cond.methodLink own index y).before a0 Z = true) (w7 : (Cond.sameMethod y.cls owner y.name y.desc).before a0 Z = true) (w2 : (Cond.declares ⟨owner, y.name, y.desc⟩).before a0 Z = true) (w5 : (Cond.selects C y z).before a0 Z = true) (w6 : (Cond.instanceMethod z).before a0 Z = true) (w3 : (Cond.initialized z.cls).before a0 Z = true) (w4 : (Cond.code z bytes maxL rt).before a0 Z = true) (eT : T.heap = h) (E : Exa Z h a C)
    (hM : JMet l Z z bytes maxL rt [] rm as' h Q) (W : Nat) {g : JFrame} (hg : g.method = m) (hsz : g.locals.size = c.maxLocals) (argsL rest : List Value) (has : as' = (.ref a :: argsL).toArray)
    (hlen : ∀ sig, parseMethodDescriptor y.desc = some sig → argsL.length = sig.parameters.length) (hstack : g.stack = argsL.reverse ++ .ref a :: rest) (hW : 2 * g.monitorRoom + (rest.map fun v => v.category).sum ≤ W)
    (hd : decode c.code g.pc = .ok (.invokevirtual index, 3)) (hy : owner ≠ "java/lang/invoke/MethodHandle" ∧ owner ≠ "java/lang/invoke/VarHandle") (hf : rm.frames + 1 ≤ R.frames) (hl : W + (maxL + 11) + rm.locals ≤ R.locals) (hc : cells + rm.cells ≤ R.cells) (hs : slots + rm.slots ≤ R.slots)
    (k : ∀ (T' : State) (L' : List Loc) (v : Option Value), Stand p l e R s m args below meth c T' (locs ++ L') (cells + rm.cells) (slots + rm.slots) → Q v T'.heap L' → D (T'.setTop { g with pc := g.pc + 3, stack := v.toList ++ rest })) : D (T.setTop g) := by
  subst has
  obtain ⟨cq, kq, qa, qb, qc⟩ := isOf hZ eT E
  obtain ⟨v, _, ⟨T', L, k', n'⟩, -, X', ⟨Lc, hQ, l', y', z'⟩, st⟩ := X.virtualBackUp hx (x := y) (y := z) (owner := owner) hown (mvT hZ w1) (mvT hZ w7) (mvT hZ w2) hy (mvT hZ w5) (mvT hZ w6) (backOf (W := W) hM hZ w4 w3 hf hl) qa qc (g := g) hg hsz (Steps.refl _) (argsL := argsL) (rest := rest) hlen hstack hW hd (fun _ _ => ⟨rfl, eT, hc, hs⟩)
  dsimp only [Pt.U, Pt.locs, Pt.cells, Pt.slots] at X' l' y' z' st hQ
  subst l' y' z'
  exact A.tr st (k T' Lc v X' hQ)
theorem Adv.callP (A : Adv p e below D) (X : Stand p l e R s m args below meth c T locs cells slots) (hx : p.tables.exec = Jvm.exec) (hZ : Z.Warmed39 s.vm) {own C : String} {index kn : Nat} {y : MethodName} {bytes : ByteArray} {maxL : Nat} {rt : Option FieldType} {rm : Room} {as' : Array Value} {Q : Option Value → Heap → List Loc → Prop} {a : Addr}
    (hown : s.vm.findClass own = some m.cls) (w1 : (Cond.methodLink own index y).before a0 Z = true) (w2 : (Cond.instanceMethod y).before a0 Z = true) (wi : (Cond.instantiable y.cls kn).before a0 Z = true) (w5 : (Cond.privateMethod y).before a0 Z = true) (w3 : (Cond.initialized y.cls).before a0 Z = true) (w4 : (Cond.code y bytes maxL rt).before a0 Z = true) (eT : T.heap = h) (E : Exa Z h a C)
    (hM : JMet l Z y bytes maxL rt [] rm as' h Q) (W : Nat) {g : JFrame} (hg : g.method = m) (hsz : g.locals.size = c.maxLocals) (argsL rest : List Value) (has : as' = (.ref a :: argsL).toArray)
    (hlen : ∀ sig, parseMethodDescriptor y.desc = some sig → argsL.length = sig.parameters.length) (hstack : g.stack = argsL.reverse ++ .ref a :: rest) (hW : 2 * g.monitorRoom + (rest.map fun v => v.category).sum ≤ W)
    (hd : decode c.code g.pc = .ok (.invokevirtual index, 3)) (hy : y.cls ≠ "java/lang/invoke/MethodHandle" ∧ y.cls ≠ "java/lang/invoke/VarHandle") (hf : rm.frames + 1 ≤ R.frames) (hl : W + (maxL + 11) + rm.locals ≤ R.locals) (hc : cells + rm.cells ≤ R.cells) (hs : slots + rm.slots ≤ R.slots)
    (k : ∀ (T' : State) (L' : List Loc) (v : Option Value), Stand p l e R s m args below meth c T' (locs ++ L') (cells + rm.cells) (slots + rm.slots) → Q v T'.heap L' → D (T'.setTop { g with pc := g.pc + 3, stack := v.toList ++ rest })) : D (T.setTop g) := by
  subst has
  obtain ⟨ce, hce, hob⟩ := E.cell
  have hpriv : s.PrivateAt y := Cond.privateMethod_at (mvP hZ w5 (args := #[]))
  have hins : (Cond.instanceMethod y).before args s = true := mvT hZ w2
  have hwi : (Cond.instantiable y.cls kn).before args s = true := mvT hZ wi
  obtain ⟨ck, kk, c1, c2, -, c4, -⟩ := Cond.instantiable_spec hwi
  have hsel := selects_self_of_private c1 c2 (Bool.or_eq_false_iff.mp c4).1 hpriv hins hy
  obtain ⟨v, _, ⟨T', L, k', n'⟩, -, X', ⟨Lc, hQ, l', y', z'⟩, st⟩ := X.privateBack hx (y := y) hown (mvT hZ w1) hins hsel hpriv (mvT hZ w4) hy (backOf (W := W) hM hZ w4 w3 hf hl) (g := g) hg hsz (Steps.refl _) (a := a) (cell := ce) (by rw [eT]; exact hce) hob (argsL := argsL) (rest := rest) hlen hstack hW hd (fun _ _ => ⟨rfl, eT, hc, hs⟩)
  dsimp only [Pt.U, Pt.locs, Pt.cells, Pt.slots] at X' l' y' z' st hQ
  subst l' y' z'
  exact A.tr st (k T' Lc v X' hQ)
end Kit
/-! ### arrays by a function of the place -/
section Arrays
variable {p : Program} {l : Launch} {e : Env} {R : Room} {s : State} {m : MethodId} {args : Array Value} {below : List Frame} {meth : Method} {c : Code} {T : State} {locs : List Loc} {cells slots : Nat} {Z : State} {a0 : Array Value} {h h' : Heap} {D : State → Prop} {a b : Addr} {ty : FieldType} {n : Nat} {f : Nat → Int32} {fJ : Nat → Int64} {sl : Nat} {v : Value} {ws : List Addr}
def ArI (Z : State) (h : Heap) (a : Addr) (ty : FieldType) (n : Nat) (f : Nat → Int32) : Prop :=
  n < 2147483648 ∧ ∃ c : Cell, Arr Z h a c ty ∧ c.slots.size = n ∧ ∀ i, i < n → c.slots[i]? = some (.int (f i))
def ArJ (Z : State) (h : Heap) (a : Addr) (n : Nat) (f : Nat → Int64) : Prop :=
  n < 2147483648 ∧ ∃ c : Cell, Arr Z h a c .long ∧ c.slots.size = n ∧ ∀ i, i < n → c.slots[i]? = some (.long (f i))
theorem ArI.lt (F : ArI Z h a ty n f) : a < h.size := by obtain ⟨-, c, A, -⟩ := F; exact A.lt
theorem ArI.ext (F : ArI Z h a ty n f) (E : Ext h h') : ArI Z h' a ty n f := by obtain ⟨q, c, A, r⟩ := F; exact ⟨q, c, A.ext E, r⟩
theorem ArI.other (F : ArI Z h b ty n f) (W : Wr h h' a sl v) (q : b ≠ a) : ArI Z h' b ty n f := by obtain ⟨z, c, A, r⟩ := F; exact ⟨z, c, A.other W q, r⟩
theorem ArI.keep (F : ArI Z h a ty n f) (K : Keep h h' ws) (q : a ∉ ws) : ArI Z h' a ty n f := by obtain ⟨z, c, A, r⟩ := F; exact ⟨z, c, ⟨K.2.1 a c A.1 q, A.2⟩, r⟩
theorem ArI.eqf {g : Nat → Int32} (F : ArI Z h a ty n f) (q : ∀ i, i < n → f i = g i) : ArI Z h a ty n g := by
  obtain ⟨z, c, A, r, H⟩ := F; exact ⟨z, c, A, r, fun i hi => by rw [← q i hi]; exact H i hi⟩
theorem ArJ.lt (F : ArJ Z h a n fJ) : a < h.size := by obtain ⟨-, c, A, -⟩ := F; exact A.lt
theorem ArJ.ext (F : ArJ Z h a n fJ) (E : Ext h h') : ArJ Z h' a n fJ := by obtain ⟨q, c, A, r⟩ := F; exact ⟨q, c, A.ext E, r⟩
theorem ArJ.other (F : ArJ Z h b n fJ) (W : Wr h h' a sl v) (q : b ≠ a) : ArJ Z h' b n fJ := by obtain ⟨z, c, A, r⟩ := F; exact ⟨z, c, A.other W q, r⟩
theorem ArJ.keep (F : ArJ Z h a n fJ) (K : Keep h h' ws) (q : a ∉ ws) : ArJ Z h' a n fJ := by obtain ⟨z, c, A, r⟩ := F; exact ⟨z, c, ⟨K.2.1 a c A.1 q, A.2⟩, r⟩
theorem ArJ.eqf {g : Nat → Int64} (F : ArJ Z h a n fJ) (q : ∀ i, i < n → fJ i = g i) : ArJ Z h a n g := by
  obtain ⟨z, c, A, r, H⟩ := F; exact ⟨z, c, A, r, fun i hi => by rw [← q i hi]; exact H i hi⟩
theorem ne_ari {C : String} {k : Nat} (F : Exa Z h a C) (wi : (Cond.instantiable C k).before a0 Z = true) (G : ArI Z h b ty n f) : a ≠ b := by obtain ⟨-, c, A, -⟩ := G; exact ne_arr F wi A
theorem ne_arj {C : String} {k : Nat} (F : Exa Z h a C) (wi : (Cond.instantiable C k).before a0 Z = true) (G : ArJ Z h b n fJ) : a ≠ b := by obtain ⟨-, c, A, -⟩ := G; exact ne_arr F wi A
theorem ne_arr2 {c1 c2 : Cell} {t1 t2 : FieldType} (F : Arr Z h a c1 t1) (G : Arr Z h b c2 t2) (hn : t1 ≠ t2) : a ≠ b := fun q => by
  subst q
  cases F.1.symm.trans G.1
  obtain ⟨-, k1, j1, comp1, j2⟩ := F.2.1
  obtain ⟨-, k2, i1, comp2, i2⟩ := G.2.1
  cases j1.symm.trans i1
  rw [j2] at i2
  injection i2 with _ q2
  exact hn q2
theorem ne_aij {n' : Nat} (F : ArI Z h a ty n f) (G : ArJ Z h b n' fJ) (hn : ty ≠ .long) : a ≠ b := by obtain ⟨-, c, A, -⟩ := F; obtain ⟨-, c', A', -⟩ := G; exact ne_arr2 A A' hn
theorem to_nat {j : Int32} {k : Nat} (hk : j.toInt = k) : j.toNatClampNeg = k := by simp only [Int32.toNatClampNeg, hk, Int.toNat_natCast]
theorem inb {cl : Cell} {j : Int32} {k : Nat} (hk : j.toInt = k) (hkn : k < n) (hs : cl.slots.size = n) : ¬ (j < 0 ∨ cl.slots.size ≤ j.toNatClampNeg) := by
  rw [to_nat hk, hs, Int32.lt_iff_toInt_lt, hk, show (0 : Int32).toInt = 0 from rfl]; omega
theorem ixadd {x d : Int32} {k j : Nat} (hx : x.toInt = k) (hd : d.toInt = j) (h : k + j < 2147483648) : (x + d).toInt = ((k + j : Nat) : Int) := by
  have h2 := c_iadd x d
  have h3 := rng32 (x + d)
  omega
theorem ArI.mk {k : ClassId} {z : Int32} (A : Arr Z h a (newA k ty z) ty) (hn : z.toInt = n) (hd : defaultValue ty = .int 0) : ArI Z h a ty n (fun _ => 0) := by
  have hz := to_nat hn
  refine ⟨?_, _, A, by rw [sz_new, hz], fun i hi => ?_⟩
  · have := Int32.toInt_lt z; omega
  · simp [newA, hz, hi, hd]
theorem ArJ.mk {k : ClassId} {z : Int32} (A : Arr Z h a (newA k .long z) .long) (hn : z.toInt = n) : ArJ Z h a n (fun _ => 0) := by
  have hz := to_nat hn
  refine ⟨?_, _, A, by rw [sz_new, hz], fun i hi => ?_⟩
  · have := Int32.toInt_lt z; omega
  · simp [newA, hz, hi, defaultValue]
theorem set_at {cl : Cell} {i k : Nat} (hk : k < cl.slots.size) : (cl.setSlot k v).slots[i]? = if i = k then some v else cl.slots[i]? := by
  simp only [Cell.setSlot, Array.getElem?_setIfInBounds]
  by_cases q : i = k
  · subst q; simp [hk]
  · simp [q, Ne.symm q]
theorem ArI.set {x : Int32} {k : Nat} (F : ArI Z h a ty n f) (W : Wr h h' a k (.int x)) (hk : k < n) : ArI Z h' a ty n (fun i => if i = k then x else f i) := by
  obtain ⟨z, c, A, r, H⟩ := F
  refine ⟨z, _, A.same W, by rw [sz_set, r], fun i hi => ?_⟩
  rw [set_at (by omega)]
  by_cases q : i = k
  · simp [q]
  · simp [q, H i hi]
theorem ArJ.set {x : Int64} {k : Nat} (F : ArJ Z h a n fJ) (W : Wr h h' a k (.long x)) (hk : k < n) : ArJ Z h' a n (fun i => if i = k then x else fJ i) := by
  obtain ⟨z, c, A, r, H⟩ := F
  refine ⟨z, _, A.same W, by rw [sz_set, r], fun i hi => ?_⟩
  rw [set_at (by omega)]
  by_cases q : i = k
  · simp [q]
  · simp [q, H i hi]
theorem Adv.ldI (A : Adv p e below D) (X : Stand p l e R s m args below meth c T locs cells slots) (hx : p.tables.exec = Jvm.exec) (hZ : Z.Warmed39 s.vm) (eT : T.heap = h) (F : ArI Z h a .int n f) {j : Int32} {k : Nat} (hk : j.toInt = k) (hkn : k < n) {g : JFrame} (hg : g.method = m) {rest : List Value} (hs : g.stack = .int j :: .ref a :: rest) (hd : decode c.code g.pc = .ok (.iaload, 1))
    (kk : D (T.setTop { g with pc := g.pc + 1, stack := .int (f k) :: rest })) : D (T.setTop g) := by
  obtain ⟨-, cl, Ar, r, H⟩ := F
  exact A (X.iaload hx (j := j) (v := .int (f k)) (by rw [eT]; exact Ar.1) (State.isArrayOf_alike hZ.alike Ar.2.1) Ar.2.2 (inb hk hkn r) (by rw [to_nat hk]; exact H k hkn) (g := g) hg hs hd _) kk
theorem Adv.ldB (A : Adv p e below D) (X : Stand p l e R s m args below meth c T locs cells slots) (hx : p.tables.exec = Jvm.exec) (hZ : Z.Warmed39 s.vm) (eT : T.heap = h) (F : ArI Z h a .byte n f) {j : Int32} {k : Nat} (hk : j.toInt = k) (hkn : k < n) {g : JFrame} (hg : g.method = m) {rest : List Value} (hs : g.stack = .int j :: .ref a :: rest) (hd : decode c.code g.pc = .ok (.baload, 1))
    (kk : D (T.setTop { g with pc := g.pc + 1, stack := .int (f k) :: rest })) : D (T.setTop g) := by
  obtain ⟨-, cl, Ar, r, H⟩ := F
  exact A (X.baloadBytes hx (j := j) (v := .int (f k)) (by rw [eT]; exact Ar.1) (State.isArrayOf_alike hZ.alike Ar.2.1) Ar.2.2 (inb hk hkn r) (by rw [to_nat hk]; exact H k hkn) (g := g) hg hs hd _) kk
theorem Adv.ldJ (A : Adv p e below D) (X : Stand p l e R s m args below meth c T locs cells slots) (hx : p.tables.exec = Jvm.exec) (hZ : Z.Warmed39 s.vm) (eT : T.heap = h) (F : ArJ Z h a n fJ) {j : Int32} {k : Nat} (hk : j.toInt = k) (hkn : k < n) {g : JFrame} (hg : g.method = m) {rest : List Value} (hs : g.stack = .int j :: .ref a :: rest) (hd : decode c.code g.pc = .ok (.laload, 1))
    (kk : D (T.setTop { g with pc := g.pc + 1, stack := .long (fJ k) :: rest })) : D (T.setTop g) := by
  obtain ⟨-, cl, Ar, r, H⟩ := F
  exact A (X.laload hx (j := j) (v := .long (fJ k)) (by rw [eT]; exact Ar.1) (State.isArrayOf_alike hZ.alike Ar.2.1) Ar.2.2 (inb hk hkn r) (by rw [to_nat hk]; exact H k hkn) (g := g) hg hs hd _) kk
theorem len32 {cl : Cell} (z : n < 2147483648) (r : cl.slots.size = n) : cl.slots.size.toInt32 = Int32.ofNat n   := by rw [r]
theorem Adv.lenI (A : Adv p e below D) (X : Stand p l e R s m args below meth c T locs cells slots) (hx : p.tables.exec = Jvm.exec) (hZ : Z.Warmed39 s.vm) (eT : T.heap = h) (F : ArI Z h a ty n f) {g : JFrame} (hg : g.method = m) {rest : List Value} (hs : g.stack = .ref a :: rest) (hd : decode c.code g.pc = .ok (.arraylength, 1))
    (kk : D (T.setTop { g with pc := g.pc + 1, stack := .int (Int32.ofNat n) :: rest })) : D (T.setTop g) := by
  obtain ⟨z, cl, Ar, r, H⟩ := F
  rw [← len32 z r] at kk
  exact A (X.arraylength hx (by rw [eT]; exact Ar.1) (State.isArrayOf_alike hZ.alike Ar.2.1) (g := g) hg hs hd _) kk
theorem Adv.lenJ (A : Adv p e below D) (X : Stand p l e R s m args below meth c T locs cells slots) (hx : p.tables.exec = Jvm.exec) (hZ : Z.Warmed39 s.vm) (eT : T.heap = h) (F : ArJ Z h a n fJ) {g : JFrame} (hg : g.method = m) {rest : List Value} (hs : g.stack = .ref a :: rest) (hd : decode c.code g.pc = .ok (.arraylength, 1))
    (kk : D (T.setTop { g with pc := g.pc + 1, stack := .int (Int32.ofNat n) :: rest })) : D (T.setTop g) := by
  obtain ⟨z, cl, Ar, r, H⟩ := F
  rw [← len32 z r] at kk
  exact A (X.arraylength hx (by rw [eT]; exact Ar.1) (State.isArrayOf_alike hZ.alike Ar.2.1) (g := g) hg hs hd _) kk
theorem Adv.stI (A : Adv p e below D) (X : Stand p l e R s m args below meth c T locs cells slots) (hx : p.tables.exec = Jvm.exec) (hZ : Z.Warmed39 s.vm) (eT : T.heap = h) (F : ArI Z h a .int n f) {j x : Int32} {k : Nat} (hk : j.toInt = k) (hkn : k < n) {g : JFrame} (hg : g.method = m) {rest : List Value} (hs : g.stack = .int x :: .int j :: .ref a :: rest) (hd : decode c.code g.pc = .ok (.iastore, 1))
    (kk : ∀ T' h', Stand p l e R s m args below meth c T' (locs ++ [⟨a, k⟩]) cells slots → T'.heap = h' → Wr h h' a k (.int x) → ArI Z h' a .int n (fun i => if i = k then x else f i) → D (T'.setTop { g with pc := g.pc + 1, stack := rest })) : D (T.setTop g) := by
  obtain ⟨cl, Ar, r, H⟩ := F.2
  obtain ⟨T', h', X', e', W, st⟩ := Jvm.RoadKit.stI X hx hZ eT Ar (j := j) (x := x) (inb hk hkn r) hg hs hd
  rw [to_nat hk] at X' W
  exact A (fun q => st _ q) (kk T' h' X' e' W (F.set W hkn))
theorem Adv.stB (A : Adv p e below D) (X : Stand p l e R s m args below meth c T locs cells slots) (hx : p.tables.exec = Jvm.exec) (hZ : Z.Warmed39 s.vm) (eT : T.heap = h) (F : ArI Z h a .byte n f) {j x : Int32} {k : Nat} (hk : j.toInt = k) (hkn : k < n) {g : JFrame} (hg : g.method = m) {rest : List Value} (hs : g.stack = .int x :: .int j :: .ref a :: rest) (hd : decode c.code g.pc = .ok (.bastore, 1))
    (kk : ∀ T' h', Stand p l e R s m args below meth c T' (locs ++ [⟨a, k⟩]) cells slots → T'.heap = h' → Wr h h' a k (.int x.toInt8.toInt32) → ArI Z h' a .byte n (fun i => if i = k then x.toInt8.toInt32 else f i) → D (T'.setTop { g with pc := g.pc + 1, stack := rest })) : D (T.setTop g) := by
  obtain ⟨cl, Ar, r, H⟩ := F.2
  obtain ⟨T', h', X', e', W, st⟩ := Jvm.RoadKit.stB X hx hZ eT Ar (j := j) (x := x) (inb hk hkn r) hg hs hd
  rw [to_nat hk] at X' W
  exact A (fun q => st _ q) (kk T' h' X' e' W (F.set W hkn))
theorem Adv.stJ (A : Adv p e below D) (X : Stand p l e R s m args below meth c T locs cells slots) (hx : p.tables.exec = Jvm.exec) (hZ : Z.Warmed39 s.vm) (eT : T.heap = h) (F : ArJ Z h a n fJ) {j : Int32} {x : Int64} {k : Nat} (hk : j.toInt = k) (hkn : k < n) {g : JFrame} (hg : g.method = m) {rest : List Value} (hs : g.stack = .long x :: .int j :: .ref a :: rest) (hd : decode c.code g.pc = .ok (.lastore, 1))
    (kk : ∀ T' h', Stand p l e R s m args below meth c T' (locs ++ [⟨a, k⟩]) cells slots → T'.heap = h' → Wr h h' a k (.long x) → ArJ Z h' a n (fun i => if i = k then x else fJ i) → D (T'.setTop { g with pc := g.pc + 1, stack := rest })) : D (T.setTop g) := by
  obtain ⟨cl, Ar, r, H⟩ := F.2
  obtain ⟨T', h', X', e', W, st⟩ := Jvm.RoadKit.stJ X hx hZ eT Ar (j := j) (x := x) (inb hk hkn r) hg hs hd
  rw [to_nat hk] at X' W
  exact A (fun q => st _ q) (kk T' h' X' e' W (F.set W hkn))
theorem Adv.newI (A : Adv p e below D) (X : Stand p l e R s m args below meth c T locs cells slots) (hx : p.tables.exec = Jvm.exec) (hZ : Z.Warmed39 s.vm) {aty : ArrayType} (w : (Cond.arrayClass (newarray.typeOf aty)).before a0 Z = true) (eT : T.heap = h) {z : Int32} (hz : z.toInt = n) (cap : Nat) (hcap : n ≤ cap) (hb : cap * 8 ≤ 536870912) (hdv : defaultValue (newarray.typeOf aty) = .int 0) {ad : String} (had : "[" ++ (newarray.typeOf aty).toString = ad) (hc : cells + 1 ≤ R.cells) (hl : slots + cap ≤ R.slots) {g : JFrame} (hg : g.method = m) {rest : List Value} (hs : g.stack = .int z :: rest) (hd : decode c.code g.pc = .ok (.newarray aty, 2))
    (kk : ∀ T' h' a, a = h.size → Stand p l e R s m args below meth c T' locs (cells + 1) (slots + cap) → T'.heap = h' → Ext h h' → ArI Z h' a (newarray.typeOf aty) n (fun _ => 0) → Exa Z h' a ad → D (T'.setTop { g with pc := g.pc + 2, stack := .ref a :: rest })) : D (T.setTop g) := by
  have q0 : ¬ z < 0 := by rw [Int32.lt_iff_toInt_lt, hz, show (0 : Int32).toInt = 0 from rfl]; omega
  obtain ⟨T', h', k, X', e', E, Ar, Ex, st⟩ := newPE X hx hZ w eT hg hd hs q0 (cap := cap) (by rw [to_nat hz]; exact hcap) hb hc hl had
  exact A (fun q => st _ q) (kk T' h' _ rfl X' e' E (ArI.mk Ar hz hdv) Ex)
theorem Adv.newJ (A : Adv p e below D) (X : Stand p l e R s m args below meth c T locs cells slots) (hx : p.tables.exec = Jvm.exec) (hZ : Z.Warmed39 s.vm) (w : (Cond.arrayClass .long).before a0 Z = true) (eT : T.heap = h) {z : Int32} (hz : z.toInt = n) (cap : Nat) (hcap : n ≤ cap) (hb : cap * 8 ≤ 536870912) (hc : cells + 1 ≤ R.cells) (hl : slots + cap ≤ R.slots) {g : JFrame} (hg : g.method = m) {rest : List Value} (hs : g.stack = .int z :: rest) (hd : decode c.code g.pc = .ok (.newarray .long, 2))
    (kk : ∀ T' h' a, a = h.size → Stand p l e R s m args below meth c T' locs (cells + 1) (slots + cap) → T'.heap = h' → Ext h h' → ArJ Z h' a n (fun _ => 0) → D (T'.setTop { g with pc := g.pc + 2, stack := .ref a :: rest })) : D (T.setTop g) := by
  have q0 : ¬ z < 0 := by rw [Int32.lt_iff_toInt_lt, hz, show (0 : Int32).toInt = 0 from rfl]; omega
  obtain ⟨T', h', k, X', e', E, Ar, st⟩   := newP (aty := .long) X hx hZ w eT hg hd hs q0 (cap := cap) (by rw [to_nat hz]; exact hcap) hb hc hl
  exact A (fun q => st _ q) (kk T' h' _ rfl X' e' E (ArJ.mk Ar hz))
theorem Adv.cloneI (A : Adv p e below D) (X : Stand p l e R s m args below meth c T locs cells slots) (hx : p.tables.exec = Jvm.exec) (hZ : Z.Warmed39 s.vm) {own ad : String} {index : Nat} (hown : s.vm.findClass own = some m.cls)
    (w1 : (Cond.methodLink own index ⟨ad, "clone", "()Ljava/lang/Object;"⟩).before a0 Z = true) (w2 : (Cond.sameMethod ad "java/lang/Object" "clone" "()Ljava/lang/Object;").before a0 Z = true) (w3 : (Cond.native ⟨"java/lang/Object", "clone", "()Ljava/lang/Object;"⟩).before a0 Z = true)
    (w4 : (Cond.instanceMethod ⟨"java/lang/Object", "clone", "()Ljava/lang/Object;"⟩).before a0 Z = true) (w5 : (Cond.selects ad ⟨ad, "clone", "()Ljava/lang/Object;"⟩ ⟨"java/lang/Object", "clone", "()Ljava/lang/Object;"⟩).before a0 Z = true) (w6 : (Cond.castable ad "java/lang/Cloneable").before a0 Z = true)
    (eT : T.heap = h) (F : ArI Z h a ty n f) (hfit : ∀ i, i < n → fits ty (.int (f i)) = true) (E : Exa Z h a ad) (W cap : Nat) (hcap : n ≤ cap) {g : JFrame} (hg : g.method = m) (hsz : g.locals.size = c.maxLocals) {rest : List Value} (hs : g.stack = .ref a :: rest) (hd : decode c.code g.pc = .ok (.invokevirtual index, 3))
    (hW : 2 * g.monitorRoom + (rest.map fun v => v.category).sum ≤ W) (hf : 1 ≤ R.frames) (hl : W + 14 ≤ R.locals) (hc : cells + 1 ≤ R.cells) (hsl : slots + cap ≤ R.slots)
    (kk : ∀ T' h' b, b = h.size → Stand p l e R s m args below meth c T' locs (cells + 1) (slots + cap) → T'.heap = h' → Ext h h' → ArI Z h' b ty n f → Exa Z h' b ad → D (T'.setTop { g with pc := g.pc + 3, stack := .ref b :: rest })) : D (T.setTop g) := by
  obtain ⟨z, cl, Ar, r, H⟩ := F
  have FC : FitC Z cl := fitC_of Ar fun i hi v hv => by rw [H i (by omega)] at hv; cases hv; exact hfit i (by omega)
  obtain ⟨T', h', X', e', Ex, Ar', E', st⟩ := cloneA X hx hZ hown w1 w2 w3 w4 w5 w6 eT Ar E FC hg hsz hs hd hf hW hl (by rw [r]; exact hcap) hc hsl
  exact A (fun q => st _ q) (kk T' h' _ rfl X' e' Ex ⟨z, _, Ar', r, H⟩ E')
theorem ofNat32 (hn : n < 2147483648) : (Int32.ofNat n).toInt = (n : Int) := Int32.toInt_ofNat_of_lt (by omega)
theorem getD_map (vs : Nat → Value) (d : Value) {i : Nat} (hi : i < n) : (((List.range n).map vs).getD i d) = vs i := by
  simp [List.getD, hi]
theorem ArI.arv (F : ArI Z h a ty n f) (hfit : ∀ i, i < n → fits ty (.int (f i)) = true) : ∃ k, Arv Z h a k ty (Int32.ofNat n) ((List.range n).map fun i => .int (f i)) (.int 0) := by
  obtain ⟨z, cl, Ar, r, H⟩ := F
  have e : (Int32.ofNat n).toNatClampNeg = n := to_nat (ofNat32 z)
  refine ⟨cl.cls, cl, Ar, rfl, by rw [r, e], ?_, fun i hi => ?_, fun i hi => ?_⟩
  · rw [Int32.lt_iff_toInt_lt, ofNat32 z, show (0 : Int32).toInt = 0 from rfl]; omega
  · rw [getD_map _ _ (by omega)]; exact H i (by omega)
  · rw [getD_map _ _ (by omega)]; exact hfit i (by omega)
def intOf : Value → Int32
  | .int x => x
  | _ => 0
theorem Arv.toI {k : ClassId} {vs : List Value} {dv : Value} (F : Arv Z h a k ty (Int32.ofNat n) vs dv) (hn : n < 2147483648) (ht : ty = .int ∨ ty = .boolean ∨ ty = .byte ∨ ty = .char ∨ ty = .short) : ArI Z h a ty n (fun i => intOf (vs.getD i dv)) ∧ ∀ i, i < n → fits ty (.int (intOf (vs.getD i dv))) = true := by
  obtain ⟨cl, Ar, -, S, -, H, G⟩ := F
  rw [to_nat (ofNat32 hn)] at S
  have q : ∀ i, i < n → vs.getD i dv = .int (intOf (vs.getD i dv)) := fun i hi => by
    obtain ⟨x, hx⟩ := fit_I (G i (by omega)) ht
    rw [hx]; rfl
  refine ⟨⟨hn, cl, Ar, S, fun i hi => ?_⟩, fun i hi => ?_⟩
  · rw [← q i hi]; exact H i (by omega)
  · rw [← q i hi]; exact G i (by omega)
theorem Adv.copyI (A : Adv p e below D) (X : Stand p l e R s m args below meth c T locs cells slots) (hx : p.tables.exec = Jvm.exec) (hZ : Z.Warmed39 s.vm) {own : String} {index : Nat} (hown : s.vm.findClass own = some m.cls)
    (w1 : (Cond.methodLink own index Jvm.Stand.acN).before a0 Z = true) (w2 : (Cond.native Jvm.Stand.acN).before a0 Z = true) (w3 : (Cond.static Jvm.Stand.acN).before a0 Z = true) (w4 : (Cond.initialized "java/lang/System").before a0 Z = true) (eT : T.heap = h)
    {f' : Nat → Int32} {n' : Nat} (F : ArI Z h a ty n f) (G : ArI Z h b ty n' f') (ff : ∀ i, i < n → fits ty (.int (f i)) = true) (fg : ∀ i, i < n' → fits ty (.int (f' i)) = true) (hty : ty = .int ∨ ty = .byte) {sp dp nn : Int32} (s1 : 0 ≤ sp.toInt) (s2 : 0 ≤ dp.toInt) (s3 : 0 ≤ nn.toInt) (s4 : sp.toInt + nn.toInt ≤ n) (s5 : dp.toInt + nn.toInt ≤ n')
    {n0 : Nat} (N : Fr n0 locs) (ge : n0 ≤ b) {g : JFrame} (hg : g.method = m) (hsz : g.locals.size = c.maxLocals) {rest : List Value} (hs : g.stack = .int nn :: .int dp :: .ref b :: .int sp :: .ref a :: rest) (hd : decode c.code g.pc = .ok (.invokestatic index, 3))
    (W : Nat) (hW : 2 * g.monitorRoom + (rest.map fun v => v.category).sum ≤ W) (hf : 1 ≤ R.frames) (hlo : W + (nativeFrameWords "java/lang/System" "arraycopy" 5 + 11) ≤ R.locals)
    (kk : ∀ T' h' L f'', Stand p l e R s m args below meth c T' L cells slots → T'.heap = h' → Fr n0 L → Keep h h' [b] → ArI Z h' b ty n' f'' → (∀ i, i < n' → fits ty (.int (f'' i)) = true) → D (T'.setTop { g with pc := g.pc + 3, stack := rest })) : D (T.setTop g) := by
  obtain ⟨k1, Av⟩ := F.arv ff
  obtain ⟨k2, Bv⟩ := G.arv fg
  have z0 : (0 : Int32).toInt = 0 := rfl
  have hn1 := F.1
  have hn2 := G.1
  have e1 := to_nat (ofNat32 hn1)
  have e2 := to_nat (ofNat32 hn2)
  obtain ⟨T', h', L, X', e', N', K, Cv, st⟩ := cpA X hx hZ hown w1 w2 w3 w4 eT Av Bv (us := _) (Or.inl ⟨rfl, by rcases hty with rfl | rfl <;> rfl⟩) (sp := sp) (dp := dp) (nn := nn)
    (by rw [Int32.lt_iff_toInt_lt]; omega) (by rw [Int32.lt_iff_toInt_lt]; omega) (by rw [Int32.lt_iff_toInt_lt]; omega) (by rw [e1]; simp only [Int32.toNatClampNeg]; omega) (by rw [e2]; simp only [Int32.toNatClampNeg]; omega) rfl (by rw [List.length_map, List.length_range]; simp only [Int32.toNatClampNeg]; omega) N ge hg hsz hs hd hf hW hlo
  obtain ⟨I1, I2⟩ := Arv.toI Cv hn2 (by rcases hty with rfl | rfl <;> simp)
  exact A (fun q => st _ q) (kk T' h' L _ X' e' N' K I1 I2)
end Arrays
end Jvm.JW
namespace Jvm.Pilot.@@N@@
open Jvm Jvm.ClassFile Sem Op Lib Jvm.Free Jvm.Stand Jvm.LawKit Jvm.RoadKit Bundle Jvm.JW Jvm.Pilot.@@N@@.Jvm.D
theorem own_lt {i : Int32} {ii n : Nat} (h : i < Int32.ofNat n) (hi : i.toInt = ii) (hn : n < 2147483648) : ii < n := by rw [Int32.lt_iff_toInt_lt, ofNat32 hn] at h; omega
theorem own_ge {i : Int32} {ii n : Nat} (h : ¬ i < Int32.ofNat n) (hi : i.toInt = ii) (hn : n < 2147483648) : n ≤ ii := by rw [Int32.lt_iff_toInt_lt, ofNat32 hn] at h; omega
theorem d4_0 : decode jdk_65_method_103_code 0 = .ok (.iconst 0, 1) := by decide +kernel
theorem d4_1 : decode jdk_65_method_103_code 1 = .ok (.istore_n 2, 1) := by decide +kernel
theorem d4_2 : decode jdk_65_method_103_code 2 = .ok (.aload_n 0, 1) := by decide +kernel
theorem d4_3 : decode jdk_65_method_103_code 3 = .ok (.arraylength, 1) := by decide +kernel
theorem d4_4 : decode jdk_65_method_103_code 4 = .ok (.istore_n 3, 1) := by decide +kernel
theorem d4_5 : decode jdk_65_method_103_code 5 = .ok (.iload_n 2, 1) := by decide +kernel
theorem d4_6 : decode jdk_65_method_103_code 6 = .ok (.iload_n 3, 1) := by decide +kernel
theorem d4_7 : decode jdk_65_method_103_code 7 = .ok (.if_icmp .ge 13, 3) := by decide +kernel
theorem d4_10 : decode jdk_65_method_103_code 10 = .ok (.aload_n 0, 1) := by decide +kernel
theorem d4_11 : decode jdk_65_method_103_code 11 = .ok (.iload_n 2, 1) := by decide +kernel
theorem d4_12 : decode jdk_65_method_103_code 12 = .ok (.iload_n 1, 1) := by decide +kernel
theorem d4_13 : decode jdk_65_method_103_code 13 = .ok (.iastore, 1) := by decide +kernel
theorem d4_14 : decode jdk_65_method_103_code 14 = .ok (.iinc 2 1, 3) := by decide +kernel
theorem d4_17 : decode jdk_65_method_103_code 17 = .ok (.goto (-12), 3) := by decide +kernel
theorem d4_20 : decode jdk_65_method_103_code 20 = .ok (.return_, 1) := by decide +kernel
theorem pn4 : plainFor (⟨"java/util/Arrays", "fill", "([II)V"⟩ : MethodName) = true := by decide +kernel
theorem ef4 (p1 : Addr) (p2 : Int32) (m : MethodId) : entryFrame m #[(.ref p1), (.int p2)] 4 = mkF m 0 #[.val (.ref p1), .val (.int p2), .unset, .unset] [] := by first | (simp [entryFrame, mkF, argsToLocals, Value.category]; done) | rfl
set_option maxRecDepth 65536 in
set_option maxHeartbeats 40000000 in
theorem rm4 (l : Launch) (Z : State) (a0 : Array Value) (hw : ∀ d ∈ tables_1, d.before a0 Z = true) (ws : List Jvm.Cond) (p1 : Addr) (p2 : Int32) (h0 : Heap) (n0 : Nat) (n : Nat) (f : Nat → Int32) (Z0 : n0 ≤ h0.size) (g_p1 : n0 ≤ p1) (V_p1 : ArI Z h0 p1 .int n f) :
    JMet l Z (⟨"java/util/Arrays", "fill", "([II)V"⟩ : MethodName) jdk_65_method_103_code 4 none ws ({ frames := 0, cells := 0, slots := 0, locals := 0 } : Room) #[(.ref p1), (.int p2)] h0 (fun v h L => v = none ∧ Fr n0 L ∧ Keep h0 h [p1] ∧ ArI Z h p1 .int n (fun _ => p2)) := by
  refine Jvm.JW.body #[.val (.ref p1), .val (.int p2), .unset, .unset] pn4 (ef4 p1 p2) ?_
  intro p e s m below meth c T0 D A F X0 hx hZ hby hml hown hnm hrt hlk e0
  refine A (XS.iconst X0.here hx rfl (hb hby d4_0)) ?_
  show D (T0.setTop (mkF m 1 #[.val (.ref p1), .val (.int p2), .unset, .unset] [(.int (0 : Int32))]))
  refine A (XS.istoreN X0.here hx rfl (hb hby d4_1) rfl (l' := #[.val (.ref p1), .val (.int p2), .val (.int (0 : Int32)), .unset]) rfl) ?_
  show D (T0.setTop (mkF m 2 #[.val (.ref p1), .val (.int p2), .val (.int (0 : Int32)), .unset] []))
  refine A (XS.aloadN X0.here hx rfl (hb hby d4_2) rfl rfl) ?_
  show D (T0.setTop (mkF m 3 #[.val (.ref p1), .val (.int p2), .val (.int (0 : Int32)), .unset] [(.ref p1)]))
  refine Adv.lenI A X0 hx hZ e0 V_p1 (g := (mkF m 3 #[.val (.ref p1), .val (.int p2), .val (.int (0 : Int32)), .unset] [(.ref p1)])) rfl rfl (hb hby d4_3) ?_
  show D (T0.setTop (mkF m 4 #[.val (.ref p1), .val (.int p2), .val (.int (0 : Int32)), .unset] [(.int (Int32.ofNat n))]))
  refine A (XS.istoreN X0.here hx rfl (hb hby d4_4) rfl (l' := #[.val (.ref p1), .val (.int p2), .val (.int (0 : Int32)), .val (.int (Int32.ofNat n))]) rfl) ?_
  show D (T0.setTop (mkF m 5 #[.val (.ref p1), .val (.int p2), .val (.int (0 : Int32)), .val (.int (Int32.ofNat n))] []))
  suffices LP1 : ∀ (kk : Nat) (ii : Nat) (i : Int32) (fi : Nat → Int32) (T1 : State) (H1 : Heap) (lc1 : List Loc), n - ii = kk → (i.toInt = ii) → (ii ≤ n) → (∀ j, j < ii → fi j = p2) → (Stand p l e ({ frames := 0, cells := 0, slots := 0, locals := 0 } : Room) s m #[(.ref p1), (.int p2)] below meth c T1 lc1 0 0) → (T1.heap = H1) → (Fr n0 lc1) → (n0 ≤ H1.size) → (Keep h0 H1 [p1]) → (ArI Z H1 p1 .int n fi) → D (T1.setTop (mkF m 5 #[.val (.ref p1), .val (.int p2), .val (.int i), .val (.int (Int32.ofNat n))] [])) from LP1 _ 0 (0 : Int32) f _ _ _ rfl rfl (Nat.zero_le _) (fun _ h => absurd h (Nat.not_lt_zero _)) X0 e0 (Fr.nil n0) Z0 (Keep.refl h0 [p1]) V_p1
  intro kk1
  induction kk1 using Nat.strongRecOn with
  | _ kk1 ih1 =>
    intro ii i fi T1 H1 lc1 hm1 hi hn hf X1 e1 N1 Zq1 KK_1 V_p1_1
    show D (T1.setTop (mkF m 5 #[.val (.ref p1), .val (.int p2), .val (.int i), .val (.int (Int32.ofNat n))] []))
    refine A (XS.iloadN X1.here hx rfl (hb hby d4_5) rfl) ?_
    show D (T1.setTop (mkF m 6 #[.val (.ref p1), .val (.int p2), .val (.int i), .val (.int (Int32.ofNat n))] [(.int i)]))
    refine A (XS.iloadN X1.here hx rfl (hb hby d4_6) rfl) ?_
    show D (T1.setTop (mkF m 7 #[.val (.ref p1), .val (.int p2), .val (.int i), .val (.int (Int32.ofNat n))] [(.int (Int32.ofNat n)), (.int i)]))
    by_cases c7_2 : i < (Int32.ofNat n)
    · refine A (XS.icmpNo X1.here hx rfl (hb hby d4_7) rfl (tlt c7_2).2.1) ?_
      show D (T1.setTop (mkF m 10 #[.val (.ref p1), .val (.int p2), .val (.int i), .val (.int (Int32.ofNat n))] []))
      refine A (XS.aloadN X1.here hx rfl (hb hby d4_10) rfl rfl) ?_
      show D (T1.setTop (mkF m 11 #[.val (.ref p1), .val (.int p2), .val (.int i), .val (.int (Int32.ofNat n))] [(.ref p1)]))
      refine A (XS.iloadN X1.here hx rfl (hb hby d4_11) rfl) ?_
      show D (T1.setTop (mkF m 12 #[.val (.ref p1), .val (.int p2), .val (.int i), .val (.int (Int32.ofNat n))] [(.int i), (.ref p1)]))
      refine A (XS.iloadN X1.here hx rfl (hb hby d4_12) rfl) ?_
      show D (T1.setTop (mkF m 13 #[.val (.ref p1), .val (.int p2), .val (.int i), .val (.int (Int32.ofNat n))] [(.int p2), (.int i), (.ref p1)]))
      refine Adv.stI A X1 hx hZ e1 V_p1_1 (k := ii) hi (own_lt c7_2 hi V_p1.1) (g := (mkF m 13 #[.val (.ref p1), .val (.int p2), .val (.int i), .val (.int (Int32.ofNat n))] [(.int p2), (.int i), (.ref p1)])) rfl rfl (hb hby d4_13) ?_
      intro T3 h3 X3 e3 W3 Vp1_3
      have N3 := Fr.snoc X3 N1 g_p1
      have Z_3 : n0 ≤ h3.size := Nat.le_trans Zq1 (Nat.le_of_eq W3.size.symm)
      have KK_3 : Keep h0 h3 [p1] := KK_1.wr W3 (Or.inl (List.mem_of_getElem? (i := 0) rfl))
      show D (T3.setTop (mkF m 14 #[.val (.ref p1), .val (.int p2), .val (.int i), .val (.int (Int32.ofNat n))] []))
      refine A (XS.iinc X3.here hx rfl (hb hby d4_14) rfl (l' := #[.val (.ref p1), .val (.int p2), .val (.int (i + (1 : Int32))), .val (.int (Int32.ofNat n))]) rfl) ?_
      show D (T3.setTop (mkF m 17 #[.val (.ref p1), .val (.int p2), .val (.int (i + (1 : Int32))), .val (.int (Int32.ofNat n))] []))
      refine A (XS.goto X3.here hx rfl (pc0 := 17) (pc' := 5) rfl (hb hby d4_17) (by decide) (by decide)) ?_
      show D (T3.setTop (mkF m 5 #[.val (.ref p1), .val (.int p2), .val (.int (i + (1 : Int32))), .val (.int (Int32.ofNat n))] []))
      exact ih1 _ (by have := own_lt c7_2 hi V_p1.1; omega) (ii + 1) (i + (1 : Int32)) (fun ix => if ix = ii then p2 else fi ix) _ _ _ rfl (ixadd hi (by decide) (by have := own_lt c7_2 hi V_p1.1; have := V_p1.1; omega)) (own_lt c7_2 hi V_p1.1) (fun j hj => show (if j = ii then p2 else fi j) = p2 from if q : j = ii then if_pos q else (if_neg q).trans (hf j (by omega))) X3 e3 N3 Z_3 KK_3 Vp1_3
    · refine A (XS.icmpYes X1.here hx rfl (pc0 := 7) (pc' := 20) rfl (hb hby d4_7) rfl (flt c7_2).2.1 (by decide) (by decide)) ?_
      show D (T1.setTop (mkF m 20 #[.val (.ref p1), .val (.int p2), .val (.int i), .val (.int (Int32.ofNat n))] []))
      exact F _ (Jvm.JW.ret X1 hlk (v := none) (fun _ => rfl) (fun fs hr => X1.returnOut hx hrt (hb hby d4_20) hr) e1 ⟨rfl, N1, KK_1, V_p1_1.eqf (fun i hi' => hf i (by have := own_ge c7_2 hi V_p1.1; omega))⟩ (by decide) (by decide))
theorem d2_0 : decode prog_18_method_1_code 0 = .ok (.aload_n 0, 1) := by decide +kernel
theorem d2_1 : decode prog_18_method_1_code 1 = .ok (.invokespecial 1, 3) := by decide +kernel
theorem d2_4 : decode prog_18_method_1_code 4 = .ok (.aload_n 0, 1) := by decide +kernel
theorem d2_5 : decode prog_18_method_1_code 5 = .ok (.iconst (-1), 1) := by decide +kernel
theorem d2_6 : decode prog_18_method_1_code 6 = .ok (.putfield 7, 3) := by decide +kernel
theorem d2_9 : decode prog_18_method_1_code 9 = .ok (.aload_n 0, 1) := by decide +kernel
theorem d2_10 : decode prog_18_method_1_code 10 = .ok (.iload_n 1, 1) := by decide +kernel
theorem d2_11 : decode prog_18_method_1_code 11 = .ok (.newarray .int, 2) := by decide +kernel
theorem d2_13 : decode prog_18_method_1_code 13 = .ok (.putfield 13, 3) := by decide +kernel
theorem d2_16 : decode prog_18_method_1_code 16 = .ok (.return_, 1) := by decide +kernel
theorem pn2 : plainFor (⟨"com/example/wayfare/wayfare/exec/RowTargets", "<init>", "(I)V"⟩ : MethodName) = true := by decide +kernel
theorem ef2 (self : Addr) (p1 : Int32) (m : MethodId) : entryFrame m #[(.ref self), (.int p1)] 2 = mkF m 0 #[.val (.ref self), .val (.int p1)] [] := by first | (simp [entryFrame, mkF, argsToLocals, Value.category]; done) | rfl
set_option maxRecDepth 65536 in
set_option maxHeartbeats 40000000 in
theorem rm2 (l : Launch) (Z : State) (a0 : Array Value) (hw : ∀ d ∈ tables_1, d.before a0 Z = true) (ws : List Jvm.Cond) (self : Addr) (p1 : Int32) (h0 : Heap) (n0 : Nat) (n : Nat) (hk : p1.toInt = n) (hn4 : n < 4) (Z0 : n0 ≤ h0.size) (g_self : n0 ≤ self) (E_self : Exa Z h0 self "com/example/wayfare/wayfare/exec/RowTargets$Marked") (F_row : Fld Z h0 self "com/example/wayfare/wayfare/exec/RowTargets" "row" "I" (.int (0 : Int32))) (F_targets : Fld Z h0 self "com/example/wayfare/wayfare/exec/RowTargets" "targets" "[I" .null) (F_size : Fld Z h0 self "com/example/wayfare/wayfare/exec/RowTargets" "size" "I" (.int (0 : Int32))) (F_takenInRow : Fld Z h0 self "com/example/wayfare/wayfare/exec/RowTargets$Marked" "takenInRow" "[I" .null) :
    JMet l Z (⟨"com/example/wayfare/wayfare/exec/RowTargets", "<init>", "(I)V"⟩ : MethodName) prog_18_method_1_code 2 none ws ({ frames := 1, cells := 1, slots := 3, locals := 12 } : Room) #[(.ref self), (.int p1)] h0 (fun v h L => v = none ∧ ∃ tg : Addr, Fr n0 L ∧ Keep h0 h [self] ∧ Exa Z h self "com/example/wayfare/wayfare/exec/RowTargets$Marked" ∧ Fld Z h self "com/example/wayfare/wayfare/exec/RowTargets" "row" "I" (.int (-1 : Int32)) ∧ Fld Z h self "com/example/wayfare/wayfare/exec/RowTargets" "targets" "[I" (.ref tg) ∧ Fld Z h self "com/example/wayfare/wayfare/exec/RowTargets" "size" "I" (.int (0 : Int32)) ∧ Fld Z h self "com/example/wayfare/wayfare/exec/RowTargets$Marked" "takenInRow" "[I" .null ∧ ArI Z h tg .int n (fun _ => 0) ∧ Exa Z h tg "[I" ∧ h0.size ≤ tg) := by
  refine Jvm.JW.body #[.val (.ref self), .val (.int p1)] pn2 (ef2 self p1) ?_
  intro p e s m below meth c T0 D A F X0 hx hZ hby hml hown hnm hrt hlk e0
  refine A (XS.aloadN X0.here hx rfl (hb hby d2_0) rfl rfl) ?_
  show D (T0.setTop (mkF m 1 #[.val (.ref self), .val (.int p1)] [(.ref self)]))
  obtain ⟨T1, X1, e1, st1⟩ := initO X0 hx hZ hown (hw _ (List.mem_of_getElem? (i := 12) rfl)) (hw _ (List.mem_of_getElem? (i := 13) rfl)) (hw _ (List.mem_of_getElem? (i := 14) rfl)) e0 (g := (mkF m 1 #[.val (.ref self), .val (.int p1)] [(.ref self)])) rfl (by rw [hml]; rfl) rfl (hb hby d2_1) (by decide) (W := 0) (by show 2 * 0 + _ ≤ _; exact Nat.le_of_eq rfl) (by decide)
  refine A (st1 _) ?_
  show D (T1.setTop (mkF m 4 #[.val (.ref self), .val (.int p1)] []))
  refine A (XS.aloadN X1.here hx rfl (hb hby d2_4) rfl rfl) ?_
  show D (T1.setTop (mkF m 5 #[.val (.ref self), .val (.int p1)] [(.ref self)]))
  refine A (XS.iconst X1.here hx rfl (hb hby d2_5)) ?_
  show D (T1.setTop (mkF m 6 #[.val (.ref self), .val (.int p1)] [(.int (-1 : Int32)), (.ref self)]))
  obtain ⟨T2, h2, X2, e2, W2, st2⟩ := putF X1 hx hZ hown (host := "") (Or.inl (hw _ (List.mem_of_getElem? (i := 15) rfl))) Via.refl e1 F_row E_self (Or.inl (hw _ (List.mem_of_getElem? (i := 16) rfl))) (hw _ (List.mem_of_getElem? (i := 2) rfl)) (ty := .int) (by decide) rfl rfl (g := (mkF m 6 #[.val (.ref self), .val (.int p1)] [(.int (-1 : Int32)), (.ref self)])) rfl rfl (hb hby d2_6)
  have N2 := Fr.snoc X2 (Fr.nil n0) g_self
  have F_row_self_2 := F_row.same W2
  have E_self_2 := E_self.wr W2
  have F_targets_self_2 := F_targets.other W2 (Or.inr (slot_ne (Or.inl (hw _ (List.mem_of_getElem? (i := 19) rfl))) (Or.inl (hw _ (List.mem_of_getElem? (i := 16) rfl))) (by decide) (t := (.array .int)) (t' := .int) (by decide) (by decide)))
  have F_size_self_2 := F_size.other W2 (Or.inr (slot_ne (Or.inl (hw _ (List.mem_of_getElem? (i := 33) rfl))) (Or.inl (hw _ (List.mem_of_getElem? (i := 16) rfl))) (by decide) (t := .int) (t' := .int) (by decide) (by decide)))
  have F_takenInRow_self_2 := F_takenInRow.other W2 (Or.inr (slot_ne (Or.inr (hw _ (List.mem_of_getElem? (i := 21) rfl))) (Or.inl (hw _ (List.mem_of_getElem? (i := 16) rfl))) (by decide) (t := (.array .int)) (t' := .int) (by decide) (by decide)))
  have Z_2 : n0 ≤ h2.size := Nat.le_trans Z0 (Nat.le_of_eq W2.size.symm)
  have KK_2 : Keep h0 h2 [self] := (Keep.refl h0 [self]).wr W2 (Or.inl (List.mem_of_getElem? (i := 0) rfl))
  refine A (st2 _) ?_
  show D (T2.setTop (mkF m 9 #[.val (.ref self), .val (.int p1)] []))
  refine A (XS.aloadN X2.here hx rfl (hb hby d2_9) rfl rfl) ?_
  show D (T2.setTop (mkF m 10 #[.val (.ref self), .val (.int p1)] [(.ref self)]))
  refine A (XS.iloadN X2.here hx rfl (hb hby d2_10) rfl) ?_
  show D (T2.setTop (mkF m 11 #[.val (.ref self), .val (.int p1)] [(.int p1), (.ref self)]))
  refine Adv.newI A X2 hx hZ (aty := .int) (hw _ (List.mem_of_getElem? (i := 17) rfl)) e2 (n := n) hk 3 (by omega) (by decide) rfl (ad := "[I") (by decide) (by decide) (by decide) (g := (mkF m 11 #[.val (.ref self), .val (.int p1)] [(.int p1), (.ref self)])) rfl rfl (hb hby d2_11) ?_
  intro T3 h3 b3 q_b3 X3 e3 E3 V_b3 EA_b3
  have ne_self_b3 : self ≠ b3 := Nat.ne_of_lt (Nat.lt_of_lt_of_le E_self_2.lt (Nat.le_of_eq q_b3.symm))
  have g_b3 : n0 ≤ b3 := Nat.le_trans Z_2 (Nat.le_of_eq q_b3.symm)
  have sz_b3 : h0.size ≤ b3 := Nat.le_trans KK_2.1 (Nat.le_of_eq q_b3.symm)
  have E_self_3 := E_self_2.ext E3
  have F_row_self_3 := F_row_self_2.ext E3
  have F_targets_self_3 := F_targets_self_2.ext E3
  have F_size_self_3 := F_size_self_2.ext E3
  have F_takenInRow_self_3 := F_takenInRow_self_2.ext E3
  have Z_3 : n0 ≤ h3.size := Nat.le_trans Z_2 E3.1
  have KK_3 : Keep h0 h3 [self] := KK_2.ext E3
  show D (T3.setTop (mkF m 13 #[.val (.ref self), .val (.int p1)] [(.ref b3), (.ref self)]))
  obtain ⟨T4, h4, X4, e4, W4, st4⟩ := putF X3 hx hZ hown (host := "") (Or.inl (hw _ (List.mem_of_getElem? (i := 18) rfl))) Via.refl e3 F_targets_self_3 E_self_3 (Or.inl (hw _ (List.mem_of_getElem? (i := 19) rfl))) (hw _ (List.mem_of_getElem? (i := 2) rfl)) (ty := (.array .int)) (by decide) rfl rfl (g := (mkF m 13 #[.val (.ref self), .val (.int p1)] [(.ref b3), (.ref self)])) rfl rfl (hb hby d2_13)
  have N4 := Fr.snoc X4 N2 g_self
  have F_targets_self_4 := F_targets_self_3.same W4
  have E_self_4 := E_self_3.wr W4
  have F_row_self_4 := F_row_self_3.other W4 (Or.inr (slot_ne (Or.inl (hw _ (List.mem_of_getElem? (i := 16) rfl))) (Or.inl (hw _ (List.mem_of_getElem? (i := 19) rfl))) (by decide) (t := .int) (t' := (.array .int)) (by decide) (by decide)))
  have F_size_self_4 := F_size_self_3.other W4 (Or.inr (slot_ne (Or.inl (hw _ (List.mem_of_getElem? (i := 33) rfl))) (Or.inl (hw _ (List.mem_of_getElem? (i := 19) rfl))) (by decide) (t := .int) (t' := (.array .int)) (by decide) (by decide)))
  have F_takenInRow_self_4 := F_takenInRow_self_3.other W4 (Or.inr (slot_ne (Or.inr (hw _ (List.mem_of_getElem? (i := 21) rfl))) (Or.inl (hw _ (List.mem_of_getElem? (i := 19) rfl))) (by decide) (t := (.array .int)) (t' := (.array .int)) (by decide) (by decide)))
  have V_b3_4 := V_b3.other W4 (Ne.symm ne_self_b3)
  have EA_b3_4 := EA_b3.wr W4
  have Z_4 : n0 ≤ h4.size := Nat.le_trans Z_3 (Nat.le_of_eq W4.size.symm)
  have KK_4 : Keep h0 h4 [self] := KK_3.wr W4 (Or.inl (List.mem_of_getElem? (i := 0) rfl))
  refine A (st4 _) ?_
  show D (T4.setTop (mkF m 16 #[.val (.ref self), .val (.int p1)] []))
  exact F _ (Jvm.JW.ret X4 hlk (v := none) (fun _ => rfl) (fun fs hr => X4.returnOut hx hrt (hb hby d2_16) hr) e4 ⟨rfl, b3, N4, KK_4, E_self_4, F_row_self_4, F_targets_self_4, F_size_self_4, F_takenInRow_self_4, V_b3_4, EA_b3_4, sz_b3⟩ (by decide) (by decide))
theorem d1_0 : decode prog_20_method_1_code 0 = .ok (.aload_n 0, 1) := by decide +kernel
theorem d1_1 : decode prog_20_method_1_code 1 = .ok (.iload_n 1, 1) := by decide +kernel
theorem d1_2 : decode prog_20_method_1_code 2 = .ok (.invokespecial 1, 3) := by decide +kernel
theorem d1_5 : decode prog_20_method_1_code 5 = .ok (.aload_n 0, 1) := by decide +kernel
theorem d1_6 : decode prog_20_method_1_code 6 = .ok (.iload_n 1, 1) := by decide +kernel
theorem d1_7 : decode prog_20_method_1_code 7 = .ok (.newarray .int, 2) := by decide +kernel
theorem d1_9 : decode prog_20_method_1_code 9 = .ok (.putfield 7, 3) := by decide +kernel
theorem d1_12 : decode prog_20_method_1_code 12 = .ok (.aload_n 0, 1) := by decide +kernel
theorem d1_13 : decode prog_20_method_1_code 13 = .ok (.getfield 7, 3) := by decide +kernel
theorem d1_16 : decode prog_20_method_1_code 16 = .ok (.iconst (-1), 1) := by decide +kernel
theorem d1_17 : decode prog_20_method_1_code 17 = .ok (.invokestatic 13, 3) := by decide +kernel
theorem d1_20 : decode prog_20_method_1_code 20 = .ok (.return_, 1) := by decide +kernel
theorem pn1 : plainFor (⟨"com/example/wayfare/wayfare/exec/RowTargets$Marked", "<init>", "(I)V"⟩ : MethodName) = true := by decide +kernel
theorem pd1_0 : parseMethodDescriptor "(I)V" = some ⟨[.int], none⟩ := by decide +kernel
theorem pd1_1 : parseMethodDescriptor "([II)V" = some ⟨[(.array .int), .int], none⟩ := by decide +kernel
theorem ef1 (self : Addr) (p1 : Int32) (m : MethodId) : entryFrame m #[(.ref self), (.int p1)] 2 = mkF m 0 #[.val (.ref self), .val (.int p1)] [] := by first | (simp [entryFrame, mkF, argsToLocals, Value.category]; done) | rfl
set_option maxRecDepth 65536 in
set_option maxHeartbeats 40000000 in
theorem rm1 (l : Launch) (Z : State) (a0 : Array Value) (hw : ∀ d ∈ tables_1, d.before a0 Z = true) (ws : List Jvm.Cond) (self : Addr) (p1 : Int32) (h0 : Heap) (n0 : Nat) (n : Nat) (hk : p1.toInt = n) (hn4 : n < 4) (Z0 : n0 ≤ h0.size) (g_self : n0 ≤ self) (E_self : Exa Z h0 self "com/example/wayfare/wayfare/exec/RowTargets$Marked") (F_row : Fld Z h0 self "com/example/wayfare/wayfare/exec/RowTargets" "row" "I" (.int (0 : Int32))) (F_targets : Fld Z h0 self "com/example/wayfare/wayfare/exec/RowTargets" "targets" "[I" .null) (F_size : Fld Z h0 self "com/example/wayfare/wayfare/exec/RowTargets" "size" "I" (.int (0 : Int32))) (F_takenInRow : Fld Z h0 self "com/example/wayfare/wayfare/exec/RowTargets$Marked" "takenInRow" "[I" .null) :
    JMet l Z (⟨"com/example/wayfare/wayfare/exec/RowTargets$Marked", "<init>", "(I)V"⟩ : MethodName) prog_20_method_1_code 2 none ws ({ frames := 2, cells := 2, slots := 6, locals := 25 } : Room) #[(.ref self), (.int p1)] h0 (fun v h L => v = none ∧ ∃ tg tk : Addr, Fr n0 L ∧ Keep h0 h [self] ∧ Exa Z h self "com/example/wayfare/wayfare/exec/RowTargets$Marked" ∧ Fld Z h self "com/example/wayfare/wayfare/exec/RowTargets" "row" "I" (.int (-1 : Int32)) ∧ Fld Z h self "com/example/wayfare/wayfare/exec/RowTargets" "targets" "[I" (.ref tg) ∧ Fld Z h self "com/example/wayfare/wayfare/exec/RowTargets" "size" "I" (.int (0 : Int32)) ∧ Fld Z h self "com/example/wayfare/wayfare/exec/RowTargets$Marked" "takenInRow" "[I" (.ref tk) ∧ ArI Z h tg .int n (fun _ => 0) ∧ Exa Z h tg "[I" ∧ ArI Z h tk .int n (fun _ => (-1 : Int32)) ∧ h0.size ≤ tg ∧ h0.size ≤ tk ∧ tk ≠ tg) := by
  refine Jvm.JW.body #[.val (.ref self), .val (.int p1)] pn1 (ef1 self p1) ?_
  intro p e s m below meth c T0 D A F X0 hx hZ hby hml hown hnm hrt hlk e0
  refine A (XS.aloadN X0.here hx rfl (hb hby d1_0) rfl rfl) ?_
  show D (T0.setTop (mkF m 1 #[.val (.ref self), .val (.int p1)] [(.ref self)]))
  refine A (XS.iloadN X0.here hx rfl (hb hby d1_1) rfl) ?_
  show D (T0.setTop (mkF m 2 #[.val (.ref self), .val (.int p1)] [(.int p1), (.ref self)]))
  refine Adv.callI A X0 hx hZ hown rfl (hw _ (List.mem_of_getElem? (i := 7) rfl)) (hw _ (List.mem_of_getElem? (i := 8) rfl)) (hw _ (List.mem_of_getElem? (i := 10) rfl)) (hw _ (List.mem_of_getElem? (i := 11) rfl)) e0 (rm2 l Z a0 hw [] self p1 h0 n0 n hk hn4 Z0 g_self E_self F_row F_targets F_size F_takenInRow) 0 (g := (mkF m 2 #[.val (.ref self), .val (.int p1)] [(.int p1), (.ref self)])) rfl (by rw [hml]; rfl) self [(.int p1)] [] rfl (lenOf pd1_0 rfl) rfl (by show 2 * 0 + _ ≤ _; exact Nat.le_of_eq rfl) (hb hby d1_2) (by decide) (by decide) (by decide) (by decide) (by decide) ?_
  rintro T1 L1 _ X1 ⟨rfl, b1, N1_q, K1, -, F1_row, F1_targets, F1_size, F1_takenInRow, V1_q, EA1_q, szq_b1⟩
  have N1 := Fr.app (Fr.nil n0) N1_q
  have ne_self_b1 : self ≠ b1 := Nat.ne_of_lt (Nat.lt_of_lt_of_le E_self.lt szq_b1)
  have g_b1 : n0 ≤ b1 := Nat.le_trans Z0 szq_b1
  have sz_b1 : h0.size ≤ b1 := Nat.le_trans (Keep.refl h0 [self]).1 szq_b1
  have E_self_1 := E_self.keep K1
  have Z_1 : n0 ≤ T1.heap.size := Nat.le_trans Z0 K1.1
  have KK_1 : Keep h0 T1.heap [self] := (Keep.refl h0 [self]).trans K1 (allS (Or.inl (List.mem_of_getElem? (i := 0) rfl)) all0)
  show D (T1.setTop (mkF m 5 #[.val (.ref self), .val (.int p1)] []))
  refine A (XS.aloadN X1.here hx rfl (hb hby d1_5) rfl rfl) ?_
  show D (T1.setTop (mkF m 6 #[.val (.ref self), .val (.int p1)] [(.ref self)]))
  refine A (XS.iloadN X1.here hx rfl (hb hby d1_6) rfl) ?_
  show D (T1.setTop (mkF m 7 #[.val (.ref self), .val (.int p1)] [(.int p1), (.ref self)]))
  refine Adv.newI A X1 hx hZ (aty := .int) (hw _ (List.mem_of_getElem? (i := 17) rfl)) rfl (n := n) hk 3 (by omega) (by decide) rfl (ad := "[I") (by decide) (by decide) (by decide) (g := (mkF m 7 #[.val (.ref self), .val (.int p1)] [(.int p1), (.ref self)])) rfl rfl (hb hby d1_7) ?_
  intro T2 h2 b2 q_b2 X2 e2 E2 V_b2 EA_b2
  have ne_self_b2 : self ≠ b2 := Nat.ne_of_lt (Nat.lt_of_lt_of_le E_self_1.lt (Nat.le_of_eq q_b2.symm))
  have ne_b1_b2 : b1 ≠ b2 := Nat.ne_of_lt (Nat.lt_of_lt_of_le V1_q.lt (Nat.le_of_eq q_b2.symm))
  have g_b2 : n0 ≤ b2 := Nat.le_trans Z_1 (Nat.le_of_eq q_b2.symm)
  have sz_b2 : h0.size ≤ b2 := Nat.le_trans KK_1.1 (Nat.le_of_eq q_b2.symm)
  have E_self_2 := E_self_1.ext E2
  have F_row_self_2 := F1_row.ext E2
  have F_targets_self_2 := F1_targets.ext E2
  have F_size_self_2 := F1_size.ext E2
  have F_takenInRow_self_2 := F1_takenInRow.ext E2
  have V_b1_2 := V1_q.ext E2
  have EA_b1_2 := EA1_q.ext E2
  have Z_2 : n0 ≤ h2.size := Nat.le_trans Z_1 E2.1
  have KK_2 : Keep h0 h2 [self] := KK_1.ext E2
  show D (T2.setTop (mkF m 9 #[.val (.ref self), .val (.int p1)] [(.ref b2), (.ref self)]))
  obtain ⟨T3, h3, X3, e3, W3, st3⟩ := putF X2 hx hZ hown (host := "") (Or.inl (hw _ (List.mem_of_getElem? (i := 20) rfl))) Via.refl e2 F_takenInRow_self_2 E_self_2 (Or.inr ⟨(hw _ (List.mem_of_getElem? (i := 21) rfl)), rfl, hnm⟩) (hw _ (List.mem_of_getElem? (i := 2) rfl)) (ty := (.array .int)) (by decide) rfl rfl (g := (mkF m 9 #[.val (.ref self), .val (.int p1)] [(.ref b2), (.ref self)])) rfl rfl (hb hby d1_9)
  have N3 := Fr.snoc X3 N1 g_self
  have F_takenInRow_self_3 := F_takenInRow_self_2.same W3
  have E_self_3 := E_self_2.wr W3
  have F_row_self_3 := F_row_self_2.other W3 (Or.inr (slot_ne (Or.inl (hw _ (List.mem_of_getElem? (i := 16) rfl))) (Or.inr (hw _ (List.mem_of_getElem? (i := 21) rfl))) (by decide) (t := .int) (t' := (.array .int)) (by decide) (by decide)))
  have F_targets_self_3 := F_targets_self_2.other W3 (Or.inr (slot_ne (Or.inl (hw _ (List.mem_of_getElem? (i := 19) rfl))) (Or.inr (hw _ (List.mem_of_getElem? (i := 21) rfl))) (by decide) (t := (.array .int)) (t' := (.array .int)) (by decide) (by decide)))
  have F_size_self_3 := F_size_self_2.other W3 (Or.inr (slot_ne (Or.inl (hw _ (List.mem_of_getElem? (i := 33) rfl))) (Or.inr (hw _ (List.mem_of_getElem? (i := 21) rfl))) (by decide) (t := .int) (t' := (.array .int)) (by decide) (by decide)))
  have V_b1_3 := V_b1_2.other W3 (Ne.symm ne_self_b1)
  have EA_b1_3 := EA_b1_2.wr W3
  have V_b2_3 := V_b2.other W3 (Ne.symm ne_self_b2)
  have Z_3 : n0 ≤ h3.size := Nat.le_trans Z_2 (Nat.le_of_eq W3.size.symm)
  have KK_3 : Keep h0 h3 [self] := KK_2.wr W3 (Or.inl (List.mem_of_getElem? (i := 0) rfl))
  refine A (st3 _) ?_
  show D (T3.setTop (mkF m 12 #[.val (.ref self), .val (.int p1)] []))
  refine A (XS.aloadN X3.here hx rfl (hb hby d1_12) rfl rfl) ?_
  show D (T3.setTop (mkF m 13 #[.val (.ref self), .val (.int p1)] [(.ref self)]))
  obtain ⟨T4, X4, e4, st4⟩ := getF X3 hx hZ hown (host := "") (Or.inl (hw _ (List.mem_of_getElem? (i := 20) rfl))) Via.refl e3 F_takenInRow_self_3 (g := (mkF m 13 #[.val (.ref self), .val (.int p1)] [(.ref self)])) rfl rfl (hb hby d1_13)
  refine A (st4 _) ?_
  show D (T4.setTop (mkF m 16 #[.val (.ref self), .val (.int p1)] [(.ref b2)]))
  refine A (XS.iconst X4.here hx rfl (hb hby d1_16)) ?_
  show D (T4.setTop (mkF m 17 #[.val (.ref self), .val (.int p1)] [(.int (-1 : Int32)), (.ref b2)]))
  refine Adv.callS A X4 hx hZ hown (hw _ (List.mem_of_getElem? (i := 22) rfl)) (hw _ (List.mem_of_getElem? (i := 23) rfl)) (hw _ (List.mem_of_getElem? (i := 24) rfl)) (hw _ (List.mem_of_getElem? (i := 25) rfl)) e4 (rm4 l Z a0 hw [] b2 (-1 : Int32) h3 n0 n (fun _ => 0) Z_3 g_b2 V_b2_3) 0 (g := (mkF m 17 #[.val (.ref self), .val (.int p1)] [(.int (-1 : Int32)), (.ref b2)])) rfl (by rw [hml]; rfl) [(.ref b2), (.int (-1 : Int32))] [] rfl (lenOf pd1_1 rfl) rfl (by show 2 * 0 + _ ≤ _; exact Nat.le_of_eq rfl) (hb hby d1_17) (by decide) (by decide) (by decide) (by decide) (by decide) ?_
  rintro T5 L5 _ X5 ⟨rfl, N5_q, K5, V5_q⟩
  have N5 := Fr.app N3 N5_q
  have E_self_5 := E_self_3.keep K5
  have F_row_self_5 := F_row_self_3.keep K5 (ninS ne_self_b2 nin0)
  have F_targets_self_5 := F_targets_self_3.keep K5 (ninS ne_self_b2 nin0)
  have F_size_self_5 := F_size_self_3.keep K5 (ninS ne_self_b2 nin0)
  have F_takenInRow_self_5 := F_takenInRow_self_3.keep K5 (ninS ne_self_b2 nin0)
  have V_b1_5 := V_b1_3.keep K5 (ninS ne_b1_b2 nin0)
  have EA_b1_5 := EA_b1_3.keep K5
  have Z_5 : n0 ≤ T5.heap.size := Nat.le_trans Z_3 K5.1
  have KK_5 : Keep h0 T5.heap [self] := KK_3.trans K5 (allS (Or.inr sz_b2) all0)
  show D (T5.setTop (mkF m 20 #[.val (.ref self), .val (.int p1)] []))
  exact F _ (Jvm.JW.ret X5 hlk (v := none) (fun _ => rfl) (fun fs hr => X5.returnOut hx hrt (hb hby d1_20) hr) rfl ⟨rfl, b1, b2, N5, KK_5, E_self_5, F_row_self_5, F_targets_self_5, F_size_self_5, F_takenInRow_self_5, V_b1_5, EA_b1_5, V5_q, sz_b1, sz_b2, (Ne.symm ne_b1_b2)⟩ (by decide) (by decide))
theorem d11_0 : decode prog_18_method_3_code 0 = .ok (.aload_n 0, 1) := by decide +kernel
theorem d11_1 : decode prog_18_method_3_code 1 = .ok (.getfield 7, 3) := by decide +kernel
theorem d11_4 : decode prog_18_method_3_code 4 = .ok (.ireturn, 1) := by decide +kernel
theorem pn11 : plainFor (⟨"com/example/wayfare/wayfare/exec/RowTargets", "row", "()I"⟩ : MethodName) = true := by decide +kernel
theorem ef11 (self : Addr) (m : MethodId) : entryFrame m #[(.ref self)] 1 = mkF m 0 #[.val (.ref self)] [] := by first | (simp [entryFrame, mkF, argsToLocals, Value.category]; done) | rfl
set_option maxRecDepth 65536 in
set_option maxHeartbeats 40000000 in
theorem rm11 (l : Launch) (Z : State) (a0 : Array Value) (hw : ∀ d ∈ tables_1, d.before a0 Z = true) (ws : List Jvm.Cond) (self : Addr) (h0 : Heap) (n0 : Nat) (r sz : Int32) (tg tk : Addr) (Z0 : n0 ≤ h0.size) (g_self : n0 ≤ self) (E_self : Exa Z h0 self "com/example/wayfare/wayfare/exec/RowTargets$Marked") (F_row : Fld Z h0 self "com/example/wayfare/wayfare/exec/RowTargets" "row" "I" (.int r)) (F_targets : Fld Z h0 self "com/example/wayfare/wayfare/exec/RowTargets" "targets" "[I" (.ref tg)) (F_size : Fld Z h0 self "com/example/wayfare/wayfare/exec/RowTargets" "size" "I" (.int sz)) (F_takenInRow : Fld Z h0 self "com/example/wayfare/wayfare/exec/RowTargets$Marked" "takenInRow" "[I" (.ref tk)) :
    JMet l Z (⟨"com/example/wayfare/wayfare/exec/RowTargets", "row", "()I"⟩ : MethodName) prog_18_method_3_code 1 (some .int) ws ({ frames := 0, cells := 0, slots := 0, locals := 0 } : Room) #[(.ref self)] h0 (QP (.int r) h0 n0) := by
  refine Jvm.JW.body #[.val (.ref self)] pn11 (ef11 self) ?_
  intro p e s m below meth c T0 D A F X0 hx hZ hby hml hown hnm hrt hlk e0
  refine A (XS.aloadN X0.here hx rfl (hb hby d11_0) rfl rfl) ?_
  show D (T0.setTop (mkF m 1 #[.val (.ref self)] [(.ref self)]))
  obtain ⟨T1, X1, e1, st1⟩ := getF X0 hx hZ hown (host := "") (Or.inl (hw _ (List.mem_of_getElem? (i := 15) rfl))) Via.refl e0 F_row (g := (mkF m 1 #[.val (.ref self)] [(.ref self)])) rfl rfl (hb hby d11_1)
  refine A (st1 _) ?_
  show D (T1.setTop (mkF m 4 #[.val (.ref self)] [(.int r)]))
  refine F _ (Jvm.JW.ret X1 hlk (v := some (.int r)) (fun h => by rw [hrt] at h; cases h) (fun fs hr => retOut X1 hx hrt rfl (Or.inl ⟨rfl, Or.inl rfl, _, rfl⟩) (hb hby d11_4) hr) rfl ?_ (by decide) (by decide))
  exact ⟨rfl, (Fr.nil n0), e1⟩
def own_full (sz : Int32) (m : Nat) : Int32 := if sz = Int32.ofNat m then 1 else 0
theorem d6_0 : decode prog_18_method_8_code 0 = .ok (.aload_n 0, 1) := by decide +kernel
theorem d6_1 : decode prog_18_method_8_code 1 = .ok (.getfield 17, 3) := by decide +kernel
theorem d6_4 : decode prog_18_method_8_code 4 = .ok (.aload_n 0, 1) := by decide +kernel
theorem d6_5 : decode prog_18_method_8_code 5 = .ok (.getfield 13, 3) := by decide +kernel
theorem d6_8 : decode prog_18_method_8_code 8 = .ok (.arraylength, 1) := by decide +kernel
theorem d6_9 : decode prog_18_method_8_code 9 = .ok (.if_icmp .ne 7, 3) := by decide +kernel
theorem d6_12 : decode prog_18_method_8_code 12 = .ok (.iconst 1, 1) := by decide +kernel
theorem d6_13 : decode prog_18_method_8_code 13 = .ok (.goto 4, 3) := by decide +kernel
theorem d6_16 : decode prog_18_method_8_code 16 = .ok (.iconst 0, 1) := by decide +kernel
theorem d6_17 : decode prog_18_method_8_code 17 = .ok (.ireturn, 1) := by decide +kernel
theorem pn6 : plainFor (⟨"com/example/wayfare/wayfare/exec/RowTargets", "full", "()Z"⟩ : MethodName) = true := by decide +kernel
theorem ef6 (self : Addr) (m : MethodId) : entryFrame m #[(.ref self)] 1 = mkF m 0 #[.val (.ref self)] [] := by first | (simp [entryFrame, mkF, argsToLocals, Value.category]; done) | rfl
set_option maxRecDepth 65536 in
set_option maxHeartbeats 40000000 in
theorem rm6 (l : Launch) (Z : State) (a0 : Array Value) (hw : ∀ d ∈ tables_1, d.before a0 Z = true) (ws : List Jvm.Cond) (self : Addr) (h0 : Heap) (n0 : Nat) (r sz : Int32) (tg tk : Addr) (Z0 : n0 ≤ h0.size) (g_self : n0 ≤ self) (E_self : Exa Z h0 self "com/example/wayfare/wayfare/exec/RowTargets$Marked") (F_row : Fld Z h0 self "com/example/wayfare/wayfare/exec/RowTargets" "row" "I" (.int r)) (F_targets : Fld Z h0 self "com/example/wayfare/wayfare/exec/RowTargets" "targets" "[I" (.ref tg)) (F_size : Fld Z h0 self "com/example/wayfare/wayfare/exec/RowTargets" "size" "I" (.int sz)) (F_takenInRow : Fld Z h0 self "com/example/wayfare/wayfare/exec/RowTargets$Marked" "takenInRow" "[I" (.ref tk)) (mm : Nat) (fg : Nat → Int32) (V_tg : ArI Z h0 tg .int mm fg) :
    JMet l Z (⟨"com/example/wayfare/wayfare/exec/RowTargets", "full", "()Z"⟩ : MethodName) prog_18_method_8_code 1 (some .boolean) ws ({ frames := 0, cells := 0, slots := 0, locals := 0 } : Room) #[(.ref self)] h0 (QP (.int (own_full sz mm)) h0 n0) := by
  refine Jvm.JW.body #[.val (.ref self)] pn6 (ef6 self) ?_
  intro p e s m below meth c T0 D A F X0 hx hZ hby hml hown hnm hrt hlk e0
  refine A (XS.aloadN X0.here hx rfl (hb hby d6_0) rfl rfl) ?_
  show D (T0.setTop (mkF m 1 #[.val (.ref self)] [(.ref self)]))
  obtain ⟨T1, X1, e1, st1⟩ := getF X0 hx hZ hown (host := "") (Or.inl (hw _ (List.mem_of_getElem? (i := 32) rfl))) Via.refl e0 F_size (g := (mkF m 1 #[.val (.ref self)] [(.ref self)])) rfl rfl (hb hby d6_1)
  refine A (st1 _) ?_
  show D (T1.setTop (mkF m 4 #[.val (.ref self)] [(.int sz)]))
  refine A (XS.aloadN X1.here hx rfl (hb hby d6_4) rfl rfl) ?_
  show D (T1.setTop (mkF m 5 #[.val (.ref self)] [(.ref self), (.int sz)]))
  obtain ⟨T2, X2, e2, st2⟩ := getF X1 hx hZ hown (host := "") (Or.inl (hw _ (List.mem_of_getElem? (i := 18) rfl))) Via.refl e1 F_targets (g := (mkF m 5 #[.val (.ref self)] [(.ref self), (.int sz)])) rfl rfl (hb hby d6_5)
  refine A (st2 _) ?_
  show D (T2.setTop (mkF m 8 #[.val (.ref self)] [(.ref tg), (.int sz)]))
  refine Adv.lenI A X2 hx hZ e2 V_tg (g := (mkF m 8 #[.val (.ref self)] [(.ref tg), (.int sz)])) rfl rfl (hb hby d6_8) ?_
  show D (T2.setTop (mkF m 9 #[.val (.ref self)] [(.int (Int32.ofNat mm)), (.int sz)]))
  by_cases c9_3 : sz = (Int32.ofNat mm)
  · refine A (XS.icmpNo X2.here hx rfl (hb hby d6_9) rfl (teq c9_3).2) ?_
    show D (T2.setTop (mkF m 12 #[.val (.ref self)] []))
    refine A (XS.iconst X2.here hx rfl (hb hby d6_12)) ?_
    show D (T2.setTop (mkF m 13 #[.val (.ref self)] [(.int (1 : Int32))]))
    refine A (XS.goto X2.here hx rfl (pc0 := 13) (pc' := 17) rfl (hb hby d6_13) (by decide) (by decide)) ?_
    show D (T2.setTop (mkF m 17 #[.val (.ref self)] [(.int (1 : Int32))]))
    refine F _ (Jvm.JW.ret X2 hlk (v := some (.int (1 : Int32))) (fun h => by rw [hrt] at h; cases h) (fun fs hr => retOut X2 hx hrt rfl (Or.inl ⟨rfl, Or.inr (Or.inl rfl), _, rfl⟩) (hb hby d6_17) hr) rfl ?_ (by decide) (by decide))
    exact ⟨congrArg (fun z => some (Value.int z)) (if_pos c9_3).symm, (Fr.nil n0), e2⟩
  · refine A (XS.icmpYes X2.here hx rfl (pc0 := 9) (pc' := 16) rfl (hb hby d6_9) rfl (feq c9_3).2 (by decide) (by decide)) ?_
    show D (T2.setTop (mkF m 16 #[.val (.ref self)] []))
    refine A (XS.iconst X2.here hx rfl (hb hby d6_16)) ?_
    show D (T2.setTop (mkF m 17 #[.val (.ref self)] [(.int (0 : Int32))]))
    refine F _ (Jvm.JW.ret X2 hlk (v := some (.int (0 : Int32))) (fun h => by rw [hrt] at h; cases h) (fun fs hr => retOut X2 hx hrt rfl (Or.inl ⟨rfl, Or.inr (Or.inl rfl), _, rfl⟩) (hb hby d6_17) hr) rfl ?_ (by decide) (by decide))
    exact ⟨congrArg (fun z => some (Value.int z)) (if_neg c9_3).symm, (Fr.nil n0), e2⟩
theorem d5_0 : decode prog_18_method_2_code 0 = .ok (.aload_n 0, 1) := by decide +kernel
theorem d5_1 : decode prog_18_method_2_code 1 = .ok (.dup, 1) := by decide +kernel
theorem d5_2 : decode prog_18_method_2_code 2 = .ok (.getfield 7, 3) := by decide +kernel
theorem d5_5 : decode prog_18_method_2_code 5 = .ok (.iconst 1, 1) := by decide +kernel
theorem d5_6 : decode prog_18_method_2_code 6 = .ok (.iadd, 1) := by decide +kernel
theorem d5_7 : decode prog_18_method_2_code 7 = .ok (.putfield 7, 3) := by decide +kernel
theorem d5_10 : decode prog_18_method_2_code 10 = .ok (.aload_n 0, 1) := by decide +kernel
theorem d5_11 : decode prog_18_method_2_code 11 = .ok (.iconst 0, 1) := by decide +kernel
theorem d5_12 : decode prog_18_method_2_code 12 = .ok (.putfield 17, 3) := by decide +kernel
theorem d5_15 : decode prog_18_method_2_code 15 = .ok (.return_, 1) := by decide +kernel
theorem pn5 : plainFor (⟨"com/example/wayfare/wayfare/exec/RowTargets", "startRow", "()V"⟩ : MethodName) = true := by decide +kernel
theorem ef5 (self : Addr) (m : MethodId) : entryFrame m #[(.ref self)] 1 = mkF m 0 #[.val (.ref self)] [] := by first | (simp [entryFrame, mkF, argsToLocals, Value.category]; done) | rfl
set_option maxRecDepth 65536 in
set_option maxHeartbeats 40000000 in
theorem rm5 (l : Launch) (Z : State) (a0 : Array Value) (hw : ∀ d ∈ tables_1, d.before a0 Z = true) (ws : List Jvm.Cond) (self : Addr) (h0 : Heap) (n0 : Nat) (r sz : Int32) (tg tk : Addr) (Z0 : n0 ≤ h0.size) (g_self : n0 ≤ self) (E_self : Exa Z h0 self "com/example/wayfare/wayfare/exec/RowTargets$Marked") (F_row : Fld Z h0 self "com/example/wayfare/wayfare/exec/RowTargets" "row" "I" (.int r)) (F_targets : Fld Z h0 self "com/example/wayfare/wayfare/exec/RowTargets" "targets" "[I" (.ref tg)) (F_size : Fld Z h0 self "com/example/wayfare/wayfare/exec/RowTargets" "size" "I" (.int sz)) (F_takenInRow : Fld Z h0 self "com/example/wayfare/wayfare/exec/RowTargets$Marked" "takenInRow" "[I" (.ref tk)) (r' : Int32) (hr : r + (1 : Int32) = r') :
    JMet l Z (⟨"com/example/wayfare/wayfare/exec/RowTargets", "startRow", "()V"⟩ : MethodName) prog_18_method_2_code 1 none ws ({ frames := 0, cells := 0, slots := 0, locals := 0 } : Room) #[(.ref self)] h0 (fun v h L => v = none ∧ Fr n0 L ∧ Keep h0 h [self] ∧ Exa Z h self "com/example/wayfare/wayfare/exec/RowTargets$Marked" ∧ Fld Z h self "com/example/wayfare/wayfare/exec/RowTargets" "row" "I" (.int r') ∧ Fld Z h self "com/example/wayfare/wayfare/exec/RowTargets" "targets" "[I" (.ref tg) ∧ Fld Z h self "com/example/wayfare/wayfare/exec/RowTargets" "size" "I" (.int (0 : Int32)) ∧ Fld Z h self "com/example/wayfare/wayfare/exec/RowTargets$Marked" "takenInRow" "[I" (.ref tk)) := by
  refine Jvm.JW.body #[.val (.ref self)] pn5 (ef5 self) ?_
  intro p e s m below meth c T0 D A F X0 hx hZ hby hml hown hnm hrt hlk e0
  refine A (XS.aloadN X0.here hx rfl (hb hby d5_0) rfl rfl) ?_
  show D (T0.setTop (mkF m 1 #[.val (.ref self)] [(.ref self)]))
  refine A (XS.dup X0.here hx rfl (hb hby d5_1) rfl rfl) ?_
  show D (T0.setTop (mkF m 2 #[.val (.ref self)] [(.ref self), (.ref self)]))
  obtain ⟨T1, X1, e1, st1⟩ := getF X0 hx hZ hown (host := "") (Or.inl (hw _ (List.mem_of_getElem? (i := 15) rfl))) Via.refl e0 F_row (g := (mkF m 2 #[.val (.ref self)] [(.ref self), (.ref self)])) rfl rfl (hb hby d5_2)
  refine A (st1 _) ?_
  show D (T1.setTop (mkF m 5 #[.val (.ref self)] [(.int r), (.ref self)]))
  refine A (XS.iconst X1.here hx rfl (hb hby d5_5)) ?_
  show D (T1.setTop (mkF m 6 #[.val (.ref self)] [(.int (1 : Int32)), (.int r), (.ref self)]))
  refine A (XS.iadd X1.here hx rfl (hb hby d5_6) rfl) ?_
  show D (T1.setTop (mkF m 7 #[.val (.ref self)] [(.int (r + (1 : Int32))), (.ref self)]))
  obtain ⟨T2, h2, X2, e2, W2, st2⟩ := putF X1 hx hZ hown (host := "") (Or.inl (hw _ (List.mem_of_getElem? (i := 15) rfl))) Via.refl e1 F_row E_self (Or.inl (hw _ (List.mem_of_getElem? (i := 16) rfl))) (hw _ (List.mem_of_getElem? (i := 2) rfl)) (ty := .int) (by decide) rfl rfl (g := (mkF m 7 #[.val (.ref self)] [(.int (r + (1 : Int32))), (.ref self)])) rfl rfl (hb hby d5_7)
  have N2 := Fr.snoc X2 (Fr.nil n0) g_self
  have F_row_self_2 := F_row.same W2
  have E_self_2 := E_self.wr W2
  have F_targets_self_2 := F_targets.other W2 (Or.inr (slot_ne (Or.inl (hw _ (List.mem_of_getElem? (i := 19) rfl))) (Or.inl (hw _ (List.mem_of_getElem? (i := 16) rfl))) (by decide) (t := (.array .int)) (t' := .int) (by decide) (by decide)))
  have F_size_self_2 := F_size.other W2 (Or.inr (slot_ne (Or.inl (hw _ (List.mem_of_getElem? (i := 33) rfl))) (Or.inl (hw _ (List.mem_of_getElem? (i := 16) rfl))) (by decide) (t := .int) (t' := .int) (by decide) (by decide)))
  have F_takenInRow_self_2 := F_takenInRow.other W2 (Or.inr (slot_ne (Or.inr (hw _ (List.mem_of_getElem? (i := 21) rfl))) (Or.inl (hw _ (List.mem_of_getElem? (i := 16) rfl))) (by decide) (t := (.array .int)) (t' := .int) (by decide) (by decide)))
  have Z_2 : n0 ≤ h2.size := Nat.le_trans Z0 (Nat.le_of_eq W2.size.symm)
  have KK_2 : Keep h0 h2 [self] := (Keep.refl h0 [self]).wr W2 (Or.inl (List.mem_of_getElem? (i := 0) rfl))
  refine A (st2 _) ?_
  show D (T2.setTop (mkF m 10 #[.val (.ref self)] []))
  refine A (XS.aloadN X2.here hx rfl (hb hby d5_10) rfl rfl) ?_
  show D (T2.setTop (mkF m 11 #[.val (.ref self)] [(.ref self)]))
  refine A (XS.iconst X2.here hx rfl (hb hby d5_11)) ?_
  show D (T2.setTop (mkF m 12 #[.val (.ref self)] [(.int (0 : Int32)), (.ref self)]))
  obtain ⟨T3, h3, X3, e3, W3, st3⟩ := putF X2 hx hZ hown (host := "") (Or.inl (hw _ (List.mem_of_getElem? (i := 32) rfl))) Via.refl e2 F_size_self_2 E_self_2 (Or.inl (hw _ (List.mem_of_getElem? (i := 33) rfl))) (hw _ (List.mem_of_getElem? (i := 2) rfl)) (ty := .int) (by decide) rfl rfl (g := (mkF m 12 #[.val (.ref self)] [(.int (0 : Int32)), (.ref self)])) rfl rfl (hb hby d5_12)
  have N3 := Fr.snoc X3 N2 g_self
  have F_size_self_3 := F_size_self_2.same W3
  have E_self_3 := E_self_2.wr W3
  have F_row_self_3 := F_row_self_2.other W3 (Or.inr (slot_ne (Or.inl (hw _ (List.mem_of_getElem? (i := 16) rfl))) (Or.inl (hw _ (List.mem_of_getElem? (i := 33) rfl))) (by decide) (t := .int) (t' := .int) (by decide) (by decide)))
  have F_targets_self_3 := F_targets_self_2.other W3 (Or.inr (slot_ne (Or.inl (hw _ (List.mem_of_getElem? (i := 19) rfl))) (Or.inl (hw _ (List.mem_of_getElem? (i := 33) rfl))) (by decide) (t := (.array .int)) (t' := .int) (by decide) (by decide)))
  have F_takenInRow_self_3 := F_takenInRow_self_2.other W3 (Or.inr (slot_ne (Or.inr (hw _ (List.mem_of_getElem? (i := 21) rfl))) (Or.inl (hw _ (List.mem_of_getElem? (i := 33) rfl))) (by decide) (t := (.array .int)) (t' := .int) (by decide) (by decide)))
  have Z_3 : n0 ≤ h3.size := Nat.le_trans Z_2 (Nat.le_of_eq W3.size.symm)
  have KK_3 : Keep h0 h3 [self] := KK_2.wr W3 (Or.inl (List.mem_of_getElem? (i := 0) rfl))
  refine A (st3 _) ?_
  show D (T3.setTop (mkF m 15 #[.val (.ref self)] []))
  exact F _ (Jvm.JW.ret X3 hlk (v := none) (fun _ => rfl) (fun fs hr => X3.returnOut hx hrt (hb hby d5_15) hr) e3 ⟨rfl, N3, KK_3, E_self_3, (hr ▸ F_row_self_3), F_targets_self_3, F_size_self_3, F_takenInRow_self_3⟩ (by decide) (by decide))
theorem d12_0 : decode prog_18_method_6_code 0 = .ok (.aload_n 0, 1) := by decide +kernel
theorem d12_1 : decode prog_18_method_6_code 1 = .ok (.getfield 13, 3) := by decide +kernel
theorem d12_4 : decode prog_18_method_6_code 4 = .ok (.aload_n 0, 1) := by decide +kernel
theorem d12_5 : decode prog_18_method_6_code 5 = .ok (.dup, 1) := by decide +kernel
theorem d12_6 : decode prog_18_method_6_code 6 = .ok (.getfield 17, 3) := by decide +kernel
theorem d12_9 : decode prog_18_method_6_code 9 = .ok (.dup_x1, 1) := by decide +kernel
theorem d12_10 : decode prog_18_method_6_code 10 = .ok (.iconst 1, 1) := by decide +kernel
theorem d12_11 : decode prog_18_method_6_code 11 = .ok (.iadd, 1) := by decide +kernel
theorem d12_12 : decode prog_18_method_6_code 12 = .ok (.putfield 17, 3) := by decide +kernel
theorem d12_15 : decode prog_18_method_6_code 15 = .ok (.iload_n 1, 1) := by decide +kernel
theorem d12_16 : decode prog_18_method_6_code 16 = .ok (.iastore, 1) := by decide +kernel
theorem d12_17 : decode prog_18_method_6_code 17 = .ok (.return_, 1) := by decide +kernel
theorem pn12 : plainFor (⟨"com/example/wayfare/wayfare/exec/RowTargets", "take", "(I)V"⟩ : MethodName) = true := by decide +kernel
theorem ef12 (self : Addr) (p1 : Int32) (m : MethodId) : entryFrame m #[(.ref self), (.int p1)] 2 = mkF m 0 #[.val (.ref self), .val (.int p1)] [] := by first | (simp [entryFrame, mkF, argsToLocals, Value.category]; done) | rfl
set_option maxRecDepth 65536 in
set_option maxHeartbeats 40000000 in
theorem rm12 (l : Launch) (Z : State) (a0 : Array Value) (hw : ∀ d ∈ tables_1, d.before a0 Z = true) (ws : List Jvm.Cond) (self : Addr) (p1 : Int32) (h0 : Heap) (n0 : Nat) (r sz : Int32) (tg tk : Addr) (Z0 : n0 ≤ h0.size) (g_self : n0 ≤ self) (E_self : Exa Z h0 self "com/example/wayfare/wayfare/exec/RowTargets$Marked") (F_row : Fld Z h0 self "com/example/wayfare/wayfare/exec/RowTargets" "row" "I" (.int r)) (F_targets : Fld Z h0 self "com/example/wayfare/wayfare/exec/RowTargets" "targets" "[I" (.ref tg)) (F_size : Fld Z h0 self "com/example/wayfare/wayfare/exec/RowTargets" "size" "I" (.int sz)) (F_takenInRow : Fld Z h0 self "com/example/wayfare/wayfare/exec/RowTargets$Marked" "takenInRow" "[I" (.ref tk)) (mm : Nat) (fg : Nat → Int32) (s0 : Nat) (hs0 : sz.toInt = s0) (hsm : s0 < mm) (g_tg : n0 ≤ tg) (V_tg : ArI Z h0 tg .int mm fg) :
    JMet l Z (⟨"com/example/wayfare/wayfare/exec/RowTargets", "take", "(I)V"⟩ : MethodName) prog_18_method_6_code 2 none ws ({ frames := 0, cells := 0, slots := 0, locals := 0 } : Room) #[(.ref self), (.int p1)] h0 (fun v h L => v = none ∧ Fr n0 L ∧ Keep h0 h [self, tg] ∧ Exa Z h self "com/example/wayfare/wayfare/exec/RowTargets$Marked" ∧ Fld Z h self "com/example/wayfare/wayfare/exec/RowTargets" "row" "I" (.int r) ∧ Fld Z h self "com/example/wayfare/wayfare/exec/RowTargets" "targets" "[I" (.ref tg) ∧ Fld Z h self "com/example/wayfare/wayfare/exec/RowTargets" "size" "I" (.int (sz + (1 : Int32))) ∧ Fld Z h self "com/example/wayfare/wayfare/exec/RowTargets$Marked" "takenInRow" "[I" (.ref tk) ∧ ArI Z h tg .int mm (fun ix => if ix = s0 then p1 else fg ix)) := by
  refine Jvm.JW.body #[.val (.ref self), .val (.int p1)] pn12 (ef12 self p1) ?_
  intro p e s m below meth c T0 D A F X0 hx hZ hby hml hown hnm hrt hlk e0
  refine A (XS.aloadN X0.here hx rfl (hb hby d12_0) rfl rfl) ?_
  show D (T0.setTop (mkF m 1 #[.val (.ref self), .val (.int p1)] [(.ref self)]))
  obtain ⟨T1, X1, e1, st1⟩ := getF X0 hx hZ hown (host := "") (Or.inl (hw _ (List.mem_of_getElem? (i := 18) rfl))) Via.refl e0 F_targets (g := (mkF m 1 #[.val (.ref self), .val (.int p1)] [(.ref self)])) rfl rfl (hb hby d12_1)
  refine A (st1 _) ?_
  show D (T1.setTop (mkF m 4 #[.val (.ref self), .val (.int p1)] [(.ref tg)]))
  refine A (XS.aloadN X1.here hx rfl (hb hby d12_4) rfl rfl) ?_
  show D (T1.setTop (mkF m 5 #[.val (.ref self), .val (.int p1)] [(.ref self), (.ref tg)]))
  refine A (XS.dup X1.here hx rfl (hb hby d12_5) rfl rfl) ?_
  show D (T1.setTop (mkF m 6 #[.val (.ref self), .val (.int p1)] [(.ref self), (.ref self), (.ref tg)]))
  obtain ⟨T2, X2, e2, st2⟩ := getF X1 hx hZ hown (host := "") (Or.inl (hw _ (List.mem_of_getElem? (i := 32) rfl))) Via.refl e1 F_size (g := (mkF m 6 #[.val (.ref self), .val (.int p1)] [(.ref self), (.ref self), (.ref tg)])) rfl rfl (hb hby d12_6)
  refine A (st2 _) ?_
  show D (T2.setTop (mkF m 9 #[.val (.ref self), .val (.int p1)] [(.int sz), (.ref self), (.ref tg)]))
  refine A (XS.dupX1 X2.here hx rfl (hb hby d12_9) rfl rfl rfl) ?_
  show D (T2.setTop (mkF m 10 #[.val (.ref self), .val (.int p1)] [(.int sz), (.ref self), (.int sz), (.ref tg)]))
  refine A (XS.iconst X2.here hx rfl (hb hby d12_10)) ?_
  show D (T2.setTop (mkF m 11 #[.val (.ref self), .val (.int p1)] [(.int (1 : Int32)), (.int sz), (.ref self), (.int sz), (.ref tg)]))
  refine A (XS.iadd X2.here hx rfl (hb hby d12_11) rfl) ?_
  show D (T2.setTop (mkF m 12 #[.val (.ref self), .val (.int p1)] [(.int (sz + (1 : Int32))), (.ref self), (.int sz), (.ref tg)]))
  obtain ⟨T3, h3, X3, e3, W3, st3⟩ := putF X2 hx hZ hown (host := "") (Or.inl (hw _ (List.mem_of_getElem? (i := 32) rfl))) Via.refl e2 F_size E_self (Or.inl (hw _ (List.mem_of_getElem? (i := 33) rfl))) (hw _ (List.mem_of_getElem? (i := 2) rfl)) (ty := .int) (by decide) rfl rfl (g := (mkF m 12 #[.val (.ref self), .val (.int p1)] [(.int (sz + (1 : Int32))), (.ref self), (.int sz), (.ref tg)])) rfl rfl (hb hby d12_12)
  have N3 := Fr.snoc X3 (Fr.nil n0) g_self
  have F_size_self_3 := F_size.same W3
  have E_self_3 := E_self.wr W3
  have F_row_self_3 := F_row.other W3 (Or.inr (slot_ne (Or.inl (hw _ (List.mem_of_getElem? (i := 16) rfl))) (Or.inl (hw _ (List.mem_of_getElem? (i := 33) rfl))) (by decide) (t := .int) (t' := .int) (by decide) (by decide)))
  have F_targets_self_3 := F_targets.other W3 (Or.inr (slot_ne (Or.inl (hw _ (List.mem_of_getElem? (i := 19) rfl))) (Or.inl (hw _ (List.mem_of_getElem? (i := 33) rfl))) (by decide) (t := (.array .int)) (t' := .int) (by decide) (by decide)))
  have F_takenInRow_self_3 := F_takenInRow.other W3 (Or.inr (slot_ne (Or.inr (hw _ (List.mem_of_getElem? (i := 21) rfl))) (Or.inl (hw _ (List.mem_of_getElem? (i := 33) rfl))) (by decide) (t := (.array .int)) (t' := .int) (by decide) (by decide)))
  have V_tg_3 := V_tg.other W3 (Ne.symm (ne_ari E_self (hw _ (List.mem_of_getElem? (i := 2) rfl)) V_tg))
  have Z_3 : n0 ≤ h3.size := Nat.le_trans Z0 (Nat.le_of_eq W3.size.symm)
  have KK_3 : Keep h0 h3 [self, tg] := (Keep.refl h0 [self, tg]).wr W3 (Or.inl (List.mem_of_getElem? (i := 0) rfl))
  refine A (st3 _) ?_
  show D (T3.setTop (mkF m 15 #[.val (.ref self), .val (.int p1)] [(.int sz), (.ref tg)]))
  refine A (XS.iloadN X3.here hx rfl (hb hby d12_15) rfl) ?_
  show D (T3.setTop (mkF m 16 #[.val (.ref self), .val (.int p1)] [(.int p1), (.int sz), (.ref tg)]))
  refine Adv.stI A X3 hx hZ e3 V_tg_3 (k := s0) hs0 hsm (g := (mkF m 16 #[.val (.ref self), .val (.int p1)] [(.int p1), (.int sz), (.ref tg)])) rfl rfl (hb hby d12_16) ?_
  intro T4 h4 X4 e4 W4 Vtg_4
  have N4 := Fr.snoc X4 N3 g_tg
  have E_self_4 := E_self_3.wr W4
  have F_row_self_4 := F_row_self_3.other W4 (Or.inl (ne_ari E_self_3 (hw _ (List.mem_of_getElem? (i := 2) rfl)) V_tg_3))
  have F_targets_self_4 := F_targets_self_3.other W4 (Or.inl (ne_ari E_self_3 (hw _ (List.mem_of_getElem? (i := 2) rfl)) V_tg_3))
  have F_size_self_4 := F_size_self_3.other W4 (Or.inl (ne_ari E_self_3 (hw _ (List.mem_of_getElem? (i := 2) rfl)) V_tg_3))
  have F_takenInRow_self_4 := F_takenInRow_self_3.other W4 (Or.inl (ne_ari E_self_3 (hw _ (List.mem_of_getElem? (i := 2) rfl)) V_tg_3))
  have Z_4 : n0 ≤ h4.size := Nat.le_trans Z_3 (Nat.le_of_eq W4.size.symm)
  have KK_4 : Keep h0 h4 [self, tg] := KK_3.wr W4 (Or.inl (List.mem_of_getElem? (i := 1) rfl))
  show D (T4.setTop (mkF m 17 #[.val (.ref self), .val (.int p1)] []))
  exact F _ (Jvm.JW.ret X4 hlk (v := none) (fun _ => rfl) (fun fs hr => X4.returnOut hx hrt (hb hby d12_17) hr) e4 ⟨rfl, N4, KK_4, E_self_4, F_row_self_4, F_targets_self_4, F_size_self_4, F_takenInRow_self_4, Vtg_4⟩ (by decide) (by decide))
theorem d10_0 : decode prog_20_method_2_code 0 = .ok (.aload_n 0, 1) := by decide +kernel
theorem d10_1 : decode prog_20_method_2_code 1 = .ok (.getfield 7, 3) := by decide +kernel
theorem d10_4 : decode prog_20_method_2_code 4 = .ok (.iload_n 1, 1) := by decide +kernel
theorem d10_5 : decode prog_20_method_2_code 5 = .ok (.iaload, 1) := by decide +kernel
theorem d10_6 : decode prog_20_method_2_code 6 = .ok (.aload_n 0, 1) := by decide +kernel
theorem d10_7 : decode prog_20_method_2_code 7 = .ok (.invokevirtual 19, 3) := by decide +kernel
theorem d10_10 : decode prog_20_method_2_code 10 = .ok (.if_icmp .ne 4, 3) := by decide +kernel
theorem d10_14 : decode prog_20_method_2_code 14 = .ok (.aload_n 0, 1) := by decide +kernel
theorem d10_15 : decode prog_20_method_2_code 15 = .ok (.getfield 7, 3) := by decide +kernel
theorem d10_18 : decode prog_20_method_2_code 18 = .ok (.iload_n 1, 1) := by decide +kernel
theorem d10_19 : decode prog_20_method_2_code 19 = .ok (.aload_n 0, 1) := by decide +kernel
theorem d10_20 : decode prog_20_method_2_code 20 = .ok (.invokevirtual 19, 3) := by decide +kernel
theorem d10_23 : decode prog_20_method_2_code 23 = .ok (.iastore, 1) := by decide +kernel
theorem d10_24 : decode prog_20_method_2_code 24 = .ok (.aload_n 0, 1) := by decide +kernel
theorem d10_25 : decode prog_20_method_2_code 25 = .ok (.iload_n 1, 1) := by decide +kernel
theorem d10_26 : decode prog_20_method_2_code 26 = .ok (.invokevirtual 23, 3) := by decide +kernel
theorem d10_29 : decode prog_20_method_2_code 29 = .ok (.return_, 1) := by decide +kernel
theorem pn10 : plainFor (⟨"com/example/wayfare/wayfare/exec/RowTargets$Marked", "add", "(I)V"⟩ : MethodName) = true := by decide +kernel
theorem pd10_0 : parseMethodDescriptor "()I" = some ⟨[], some .int⟩ := by decide +kernel
theorem pd10_1 : parseMethodDescriptor "(I)V" = some ⟨[.int], none⟩ := by decide +kernel
theorem ef10 (self : Addr) (p1 : Int32) (m : MethodId) : entryFrame m #[(.ref self), (.int p1)] 2 = mkF m 0 #[.val (.ref self), .val (.int p1)] [] := by first | (simp [entryFrame, mkF, argsToLocals, Value.category]; done) | rfl
set_option maxRecDepth 65536 in
set_option maxHeartbeats 40000000 in
theorem rm10n (l : Launch) (Z : State) (a0 : Array Value) (hw : ∀ d ∈ tables_1, d.before a0 Z = true) (ws : List Jvm.Cond) (self : Addr) (p1 : Int32) (h0 : Heap) (n0 : Nat) (r sz : Int32) (tg tk : Addr) (Z0 : n0 ≤ h0.size) (g_self : n0 ≤ self) (E_self : Exa Z h0 self "com/example/wayfare/wayfare/exec/RowTargets$Marked") (F_row : Fld Z h0 self "com/example/wayfare/wayfare/exec/RowTargets" "row" "I" (.int r)) (F_targets : Fld Z h0 self "com/example/wayfare/wayfare/exec/RowTargets" "targets" "[I" (.ref tg)) (F_size : Fld Z h0 self "com/example/wayfare/wayfare/exec/RowTargets" "size" "I" (.int sz)) (F_takenInRow : Fld Z h0 self "com/example/wayfare/wayfare/exec/RowTargets$Marked" "takenInRow" "[I" (.ref tk)) (mm : Nat) (fg : Nat → Int32) (s0 : Nat) (hs0 : sz.toInt = s0) (hsm : s0 < mm) (g_tg : n0 ≤ tg) (V_tg : ArI Z h0 tg .int mm fg) (n : Nat) (ft : Nat → Int32) (j : Nat) (hj : p1.toInt = j) (hjn : j < n) (g_tk : n0 ≤ tk) (V_tk : ArI Z h0 tk .int n ft) (ne_tk_tg : tk ≠ tg) (hold : ¬ (ft j) = r) :
    JMet l Z (⟨"com/example/wayfare/wayfare/exec/RowTargets$Marked", "add", "(I)V"⟩ : MethodName) prog_20_method_2_code 2 none ws ({ frames := 1, cells := 0, slots := 0, locals := 14 } : Room) #[(.ref self), (.int p1)] h0 (fun v h L => v = none ∧ Fr n0 L ∧ Keep h0 h [self, tg, tk] ∧ Exa Z h self "com/example/wayfare/wayfare/exec/RowTargets$Marked" ∧ Fld Z h self "com/example/wayfare/wayfare/exec/RowTargets" "row" "I" (.int r) ∧ Fld Z h self "com/example/wayfare/wayfare/exec/RowTargets" "targets" "[I" (.ref tg) ∧ Fld Z h self "com/example/wayfare/wayfare/exec/RowTargets" "size" "I" (.int (sz + (1 : Int32))) ∧ Fld Z h self "com/example/wayfare/wayfare/exec/RowTargets$Marked" "takenInRow" "[I" (.ref tk) ∧ ArI Z h tg .int mm (fun ix => if ix = s0 then p1 else fg ix) ∧ ArI Z h tk .int n (fun ix => if ix = j then r else ft ix)) := by
  refine Jvm.JW.body #[.val (.ref self), .val (.int p1)] pn10 (ef10 self p1) ?_
  intro p e s m below meth c T0 D A F X0 hx hZ hby hml hown hnm hrt hlk e0
  refine A (XS.aloadN X0.here hx rfl (hb hby d10_0) rfl rfl) ?_
  show D (T0.setTop (mkF m 1 #[.val (.ref self), .val (.int p1)] [(.ref self)]))
  obtain ⟨T1, X1, e1, st1⟩ := getF X0 hx hZ hown (host := "") (Or.inl (hw _ (List.mem_of_getElem? (i := 20) rfl))) Via.refl e0 F_takenInRow (g := (mkF m 1 #[.val (.ref self), .val (.int p1)] [(.ref self)])) rfl rfl (hb hby d10_1)
  refine A (st1 _) ?_
  show D (T1.setTop (mkF m 4 #[.val (.ref self), .val (.int p1)] [(.ref tk)]))
  refine A (XS.iloadN X1.here hx rfl (hb hby d10_4) rfl) ?_
  show D (T1.setTop (mkF m 5 #[.val (.ref self), .val (.int p1)] [(.int p1), (.ref tk)]))
  refine Adv.ldI A X1 hx hZ e1 V_tk (k := j) hj hjn (g := (mkF m 5 #[.val (.ref self), .val (.int p1)] [(.int p1), (.ref tk)])) rfl rfl (hb hby d10_5) ?_
  show D (T1.setTop (mkF m 6 #[.val (.ref self), .val (.int p1)] [(.int (ft j))]))
  refine A (XS.aloadN X1.here hx rfl (hb hby d10_6) rfl rfl) ?_
  show D (T1.setTop (mkF m 7 #[.val (.ref self), .val (.int p1)] [(.ref self), (.int (ft j))]))
  refine Adv.callU A X1 hx hZ hown (hw _ (List.mem_of_getElem? (i := 62) rfl)) (hw _ (List.mem_of_getElem? (i := 63) rfl)) (hw _ (List.mem_of_getElem? (i := 64) rfl)) (hw _ (List.mem_of_getElem? (i := 66) rfl)) (hw _ (List.mem_of_getElem? (i := 65) rfl)) (hw _ (List.mem_of_getElem? (i := 10) rfl)) (hw _ (List.mem_of_getElem? (i := 67) rfl)) e1 E_self (rm11 l Z a0 hw [] self h0 n0 r sz tg tk Z0 g_self E_self F_row F_targets F_size F_takenInRow) 1 (g := (mkF m 7 #[.val (.ref self), .val (.int p1)] [(.ref self), (.int (ft j))])) rfl (by rw [hml]; rfl) [] [(.int (ft j))] rfl (lenOf pd10_0 rfl) rfl (by show 2 * 0 + _ ≤ _; exact Nat.le_of_eq rfl) (hb hby d10_7) (by decide) (by decide) (by decide) (by decide) (by decide) ?_
  rintro T2 L2 _ X2 ⟨rfl, N2_q, e2⟩
  have N2 := Fr.app (Fr.nil n0) N2_q
  show D (T2.setTop (mkF m 10 #[.val (.ref self), .val (.int p1)] [(.int r), (.int (ft j))]))
  refine A (XS.icmpYes X2.here hx rfl (pc0 := 10) (pc' := 14) rfl (hb hby d10_10) rfl (feq hold).2 (by decide) (by decide)) ?_
  show D (T2.setTop (mkF m 14 #[.val (.ref self), .val (.int p1)] []))
  refine A (XS.aloadN X2.here hx rfl (hb hby d10_14) rfl rfl) ?_
  show D (T2.setTop (mkF m 15 #[.val (.ref self), .val (.int p1)] [(.ref self)]))
  obtain ⟨T3, X3, e3, st3⟩ := getF X2 hx hZ hown (host := "") (Or.inl (hw _ (List.mem_of_getElem? (i := 20) rfl))) Via.refl e2 F_takenInRow (g := (mkF m 15 #[.val (.ref self), .val (.int p1)] [(.ref self)])) rfl rfl (hb hby d10_15)
  refine A (st3 _) ?_
  show D (T3.setTop (mkF m 18 #[.val (.ref self), .val (.int p1)] [(.ref tk)]))
  refine A (XS.iloadN X3.here hx rfl (hb hby d10_18) rfl) ?_
  show D (T3.setTop (mkF m 19 #[.val (.ref self), .val (.int p1)] [(.int p1), (.ref tk)]))
  refine A (XS.aloadN X3.here hx rfl (hb hby d10_19) rfl rfl) ?_
  show D (T3.setTop (mkF m 20 #[.val (.ref self), .val (.int p1)] [(.ref self), (.int p1), (.ref tk)]))
  refine Adv.callU A X3 hx hZ hown (hw _ (List.mem_of_getElem? (i := 62) rfl)) (hw _ (List.mem_of_getElem? (i := 63) rfl)) (hw _ (List.mem_of_getElem? (i := 64) rfl)) (hw _ (List.mem_of_getElem? (i := 66) rfl)) (hw _ (List.mem_of_getElem? (i := 65) rfl)) (hw _ (List.mem_of_getElem? (i := 10) rfl)) (hw _ (List.mem_of_getElem? (i := 67) rfl)) e3 E_self (rm11 l Z a0 hw [] self h0 n0 r sz tg tk Z0 g_self E_self F_row F_targets F_size F_takenInRow) 2 (g := (mkF m 20 #[.val (.ref self), .val (.int p1)] [(.ref self), (.int p1), (.ref tk)])) rfl (by rw [hml]; rfl) [] [(.int p1), (.ref tk)] rfl (lenOf pd10_0 rfl) rfl (by show 2 * 0 + _ ≤ _; exact Nat.le_of_eq rfl) (hb hby d10_20) (by decide) (by decide) (by decide) (by decide) (by decide) ?_
  rintro T4 L4 _ X4 ⟨rfl, N4_q, e4⟩
  have N4 := Fr.app N2 N4_q
  show D (T4.setTop (mkF m 23 #[.val (.ref self), .val (.int p1)] [(.int r), (.int p1), (.ref tk)]))
  refine Adv.stI A X4 hx hZ e4 V_tk (k := j) hj hjn (g := (mkF m 23 #[.val (.ref self), .val (.int p1)] [(.int r), (.int p1), (.ref tk)])) rfl rfl (hb hby d10_23) ?_
  intro T5 h5 X5 e5 W5 Vtk_5
  have N5 := Fr.snoc X5 N4 g_tk
  have E_self_5 := E_self.wr W5
  have F_row_self_5 := F_row.other W5 (Or.inl (ne_ari E_self (hw _ (List.mem_of_getElem? (i := 2) rfl)) V_tk))
  have F_targets_self_5 := F_targets.other W5 (Or.inl (ne_ari E_self (hw _ (List.mem_of_getElem? (i := 2) rfl)) V_tk))
  have F_size_self_5 := F_size.other W5 (Or.inl (ne_ari E_self (hw _ (List.mem_of_getElem? (i := 2) rfl)) V_tk))
  have F_takenInRow_self_5 := F_takenInRow.other W5 (Or.inl (ne_ari E_self (hw _ (List.mem_of_getElem? (i := 2) rfl)) V_tk))
  have V_tg_5 := V_tg.other W5 (Ne.symm ne_tk_tg)
  have Z_5 : n0 ≤ h5.size := Nat.le_trans Z0 (Nat.le_of_eq W5.size.symm)
  have KK_5 : Keep h0 h5 [self, tg, tk] := (Keep.refl h0 [self, tg, tk]).wr W5 (Or.inl (List.mem_of_getElem? (i := 2) rfl))
  show D (T5.setTop (mkF m 24 #[.val (.ref self), .val (.int p1)] []))
  refine A (XS.aloadN X5.here hx rfl (hb hby d10_24) rfl rfl) ?_
  show D (T5.setTop (mkF m 25 #[.val (.ref self), .val (.int p1)] [(.ref self)]))
  refine A (XS.iloadN X5.here hx rfl (hb hby d10_25) rfl) ?_
  show D (T5.setTop (mkF m 26 #[.val (.ref self), .val (.int p1)] [(.int p1), (.ref self)]))
  refine Adv.callU A X5 hx hZ hown (hw _ (List.mem_of_getElem? (i := 68) rfl)) (hw _ (List.mem_of_getElem? (i := 69) rfl)) (hw _ (List.mem_of_getElem? (i := 70) rfl)) (hw _ (List.mem_of_getElem? (i := 72) rfl)) (hw _ (List.mem_of_getElem? (i := 71) rfl)) (hw _ (List.mem_of_getElem? (i := 10) rfl)) (hw _ (List.mem_of_getElem? (i := 73) rfl)) e5 E_self_5 (rm12 l Z a0 hw [] self p1 h5 n0 r sz tg tk Z_5 g_self E_self_5 F_row_self_5 F_targets_self_5 F_size_self_5 F_takenInRow_self_5 mm fg s0 hs0 hsm g_tg V_tg_5) 0 (g := (mkF m 26 #[.val (.ref self), .val (.int p1)] [(.int p1), (.ref self)])) rfl (by rw [hml]; rfl) [(.int p1)] [] rfl (lenOf pd10_1 rfl) rfl (by show 2 * 0 + _ ≤ _; exact Nat.le_of_eq rfl) (hb hby d10_26) (by decide) (by decide) (by decide) (by decide) (by decide) ?_
  rintro T6 L6 _ X6 ⟨rfl, N6_q, K6, -, F6_row, F6_targets, F6_size, F6_takenInRow, V6_q⟩
  have N6 := Fr.app N5 N6_q
  have E_self_6 := E_self_5.keep K6
  have V_tk_6 := Vtk_5.keep K6 (ninS (Ne.symm (ne_ari E_self_5 (hw _ (List.mem_of_getElem? (i := 2) rfl)) Vtk_5)) (ninS ne_tk_tg nin0))
  have Z_6 : n0 ≤ T6.heap.size := Nat.le_trans Z_5 K6.1
  have KK_6 : Keep h0 T6.heap [self, tg, tk] := KK_5.trans K6 (allS (Or.inl (List.mem_of_getElem? (i := 0) rfl)) (allS (Or.inl (List.mem_of_getElem? (i := 1) rfl)) all0))
  show D (T6.setTop (mkF m 29 #[.val (.ref self), .val (.int p1)] []))
  exact F _ (Jvm.JW.ret X6 hlk (v := none) (fun _ => rfl) (fun fs hr => X6.returnOut hx hrt (hb hby d10_29) hr) rfl ⟨rfl, N6, KK_6, E_self_6, F6_row, F6_targets, F6_size, F6_takenInRow, V6_q, V_tk_6⟩ (by decide) (by decide))
theorem d10_13 : decode prog_20_method_2_code 13 = .ok (.return_, 1) := by decide +kernel
set_option maxRecDepth 65536 in
set_option maxHeartbeats 40000000 in
theorem rm10o (l : Launch) (Z : State) (a0 : Array Value) (hw : ∀ d ∈ tables_1, d.before a0 Z = true) (ws : List Jvm.Cond) (self : Addr) (p1 : Int32) (h0 : Heap) (n0 : Nat) (r sz : Int32) (tg tk : Addr) (Z0 : n0 ≤ h0.size) (g_self : n0 ≤ self) (E_self : Exa Z h0 self "com/example/wayfare/wayfare/exec/RowTargets$Marked") (F_row : Fld Z h0 self "com/example/wayfare/wayfare/exec/RowTargets" "row" "I" (.int r)) (F_targets : Fld Z h0 self "com/example/wayfare/wayfare/exec/RowTargets" "targets" "[I" (.ref tg)) (F_size : Fld Z h0 self "com/example/wayfare/wayfare/exec/RowTargets" "size" "I" (.int sz)) (F_takenInRow : Fld Z h0 self "com/example/wayfare/wayfare/exec/RowTargets$Marked" "takenInRow" "[I" (.ref tk)) (mm : Nat) (fg : Nat → Int32) (g_tg : n0 ≤ tg) (V_tg : ArI Z h0 tg .int mm fg) (n : Nat) (ft : Nat → Int32) (j : Nat) (hj : p1.toInt = j) (hjn : j < n) (g_tk : n0 ≤ tk) (V_tk : ArI Z h0 tk .int n ft) (ne_tk_tg : tk ≠ tg) (hold : (ft j) = r) :
    JMet l Z (⟨"com/example/wayfare/wayfare/exec/RowTargets$Marked", "add", "(I)V"⟩ : MethodName) prog_20_method_2_code 2 none ws ({ frames := 1, cells := 0, slots := 0, locals := 13 } : Room) #[(.ref self), (.int p1)] h0 (fun v h L => v = none ∧ Fr n0 L ∧ h = h0) := by
  refine Jvm.JW.body #[.val (.ref self), .val (.int p1)] pn10 (ef10 self p1) ?_
  intro p e s m below meth c T0 D A F X0 hx hZ hby hml hown hnm hrt hlk e0
  refine A (XS.aloadN X0.here hx rfl (hb hby d10_0) rfl rfl) ?_
  show D (T0.setTop (mkF m 1 #[.val (.ref self), .val (.int p1)] [(.ref self)]))
  obtain ⟨T1, X1, e1, st1⟩ := getF X0 hx hZ hown (host := "") (Or.inl (hw _ (List.mem_of_getElem? (i := 20) rfl))) Via.refl e0 F_takenInRow (g := (mkF m 1 #[.val (.ref self), .val (.int p1)] [(.ref self)])) rfl rfl (hb hby d10_1)
  refine A (st1 _) ?_
  show D (T1.setTop (mkF m 4 #[.val (.ref self), .val (.int p1)] [(.ref tk)]))
  refine A (XS.iloadN X1.here hx rfl (hb hby d10_4) rfl) ?_
  show D (T1.setTop (mkF m 5 #[.val (.ref self), .val (.int p1)] [(.int p1), (.ref tk)]))
  refine Adv.ldI A X1 hx hZ e1 V_tk (k := j) hj hjn (g := (mkF m 5 #[.val (.ref self), .val (.int p1)] [(.int p1), (.ref tk)])) rfl rfl (hb hby d10_5) ?_
  show D (T1.setTop (mkF m 6 #[.val (.ref self), .val (.int p1)] [(.int (ft j))]))
  refine A (XS.aloadN X1.here hx rfl (hb hby d10_6) rfl rfl) ?_
  show D (T1.setTop (mkF m 7 #[.val (.ref self), .val (.int p1)] [(.ref self), (.int (ft j))]))
  refine Adv.callU A X1 hx hZ hown (hw _ (List.mem_of_getElem? (i := 62) rfl)) (hw _ (List.mem_of_getElem? (i := 63) rfl)) (hw _ (List.mem_of_getElem? (i := 64) rfl)) (hw _ (List.mem_of_getElem? (i := 66) rfl)) (hw _ (List.mem_of_getElem? (i := 65) rfl)) (hw _ (List.mem_of_getElem? (i := 10) rfl)) (hw _ (List.mem_of_getElem? (i := 67) rfl)) e1 E_self (rm11 l Z a0 hw [] self h0 n0 r sz tg tk Z0 g_self E_self F_row F_targets F_size F_takenInRow) 1 (g := (mkF m 7 #[.val (.ref self), .val (.int p1)] [(.ref self), (.int (ft j))])) rfl (by rw [hml]; rfl) [] [(.int (ft j))] rfl (lenOf pd10_0 rfl) rfl (by show 2 * 0 + _ ≤ _; exact Nat.le_of_eq rfl) (hb hby d10_7) (by decide) (by decide) (by decide) (by decide) (by decide) ?_
  rintro T2 L2 _ X2 ⟨rfl, N2_q, e2⟩
  have N2 := Fr.app (Fr.nil n0) N2_q
  show D (T2.setTop (mkF m 10 #[.val (.ref self), .val (.int p1)] [(.int r), (.int (ft j))]))
  refine A (XS.icmpNo X2.here hx rfl (hb hby d10_10) rfl (teq hold).2) ?_
  show D (T2.setTop (mkF m 13 #[.val (.ref self), .val (.int p1)] []))
  exact F _ (Jvm.JW.ret X2 hlk (v := none) (fun _ => rfl) (fun fs hr => X2.returnOut hx hrt (hb hby d10_13) hr) rfl ⟨rfl, N2, e2⟩ (by decide) (by decide))
theorem d9_0 : decode jdk_29_method_69_code 0 = .ok (.iload_n 0, 1) := by decide +kernel
theorem d9_1 : decode jdk_29_method_69_code 1 = .ok (.iload_n 1, 1) := by decide +kernel
theorem d9_2 : decode jdk_29_method_69_code 2 = .ok (.if_icmp .gt 7, 3) := by decide +kernel
theorem d9_5 : decode jdk_29_method_69_code 5 = .ok (.iload_n 0, 1) := by decide +kernel
theorem d9_6 : decode jdk_29_method_69_code 6 = .ok (.goto 4, 3) := by decide +kernel
theorem d9_9 : decode jdk_29_method_69_code 9 = .ok (.iload_n 1, 1) := by decide +kernel
theorem d9_10 : decode jdk_29_method_69_code 10 = .ok (.ireturn, 1) := by decide +kernel
theorem pn9 : plainFor (⟨"java/lang/Math", "min", "(II)I"⟩ : MethodName) = true := Jvm.Free.JP.mathPlain rfl (by decide +kernel)
theorem ef9 (p1 : Int32) (p2 : Int32) (m : MethodId) : entryFrame m #[(.int p1), (.int p2)] 2 = mkF m 0 #[.val (.int p1), .val (.int p2)] [] := by first | (simp [entryFrame, mkF, argsToLocals, Value.category]; done) | rfl
def f9 (p1 : Int32) (p2 : Int32) : Int32 := if p2 < p1 then (p2) else (p1)
set_option maxRecDepth 65536 in
set_option maxHeartbeats 40000000 in
theorem rm9 (l : Launch) (Z : State) (a0 : Array Value) (hw : ∀ d ∈ tables_1, d.before a0 Z = true) (ws : List Jvm.Cond) (p1 : Int32) (p2 : Int32) (h0 : Heap) (n0 : Nat) :
    JMet l Z (⟨"java/lang/Math", "min", "(II)I"⟩ : MethodName) jdk_29_method_69_code 2 (some .int) ws ({ frames := 0, cells := 0, slots := 0, locals := 0 } : Room) #[(.int p1), (.int p2)] h0 (QP (.int (f9 p1 p2)) h0 n0) := by
  refine Jvm.JW.body #[.val (.int p1), .val (.int p2)] pn9 (ef9 p1 p2) ?_
  intro p e s m below meth c T0 D A F X0 hx hZ hby hml hown hnm hrt hlk e0
  refine A (XS.iloadN X0.here hx rfl (hb hby d9_0) rfl) ?_
  show D (T0.setTop (mkF m 1 #[.val (.int p1), .val (.int p2)] [(.int p1)]))
  refine A (XS.iloadN X0.here hx rfl (hb hby d9_1) rfl) ?_
  show D (T0.setTop (mkF m 2 #[.val (.int p1), .val (.int p2)] [(.int p2), (.int p1)]))
  by_cases c2_1 : p2 < p1
  · refine A (XS.icmpYes X0.here hx rfl (pc0 := 2) (pc' := 9) rfl (hb hby d9_2) rfl (tlt c2_1).2.2.1 (by decide) (by decide)) ?_
    show D (T0.setTop (mkF m 9 #[.val (.int p1), .val (.int p2)] []))
    refine A (XS.iloadN X0.here hx rfl (hb hby d9_9) rfl) ?_
    show D (T0.setTop (mkF m 10 #[.val (.int p1), .val (.int p2)] [(.int p2)]))
    refine F _ (Jvm.JW.ret X0 hlk (v := some (.int p2)) (fun h => by rw [hrt] at h; cases h) (fun fs hr => retOut X0 hx hrt rfl (Or.inl ⟨rfl, Or.inl rfl, _, rfl⟩) (hb hby d9_10) hr) rfl ?_ (by decide) (by decide))
    exact ⟨congrArg (fun z => some (Value.int z)) (by exact (if_pos c2_1).symm), (Fr.nil n0), e0⟩
  · refine A (XS.icmpNo X0.here hx rfl (hb hby d9_2) rfl (flt c2_1).2.2.1) ?_
    show D (T0.setTop (mkF m 5 #[.val (.int p1), .val (.int p2)] []))
    refine A (XS.iloadN X0.here hx rfl (hb hby d9_5) rfl) ?_
    show D (T0.setTop (mkF m 6 #[.val (.int p1), .val (.int p2)] [(.int p1)]))
    refine A (XS.goto X0.here hx rfl (pc0 := 6) (pc' := 10) rfl (hb hby d9_6) (by decide) (by decide)) ?_
    show D (T0.setTop (mkF m 10 #[.val (.int p1), .val (.int p2)] [(.int p1)]))
    refine F _ (Jvm.JW.ret X0 hlk (v := some (.int p1)) (fun h => by rw [hrt] at h; cases h) (fun fs hr => retOut X0 hx hrt rfl (Or.inl ⟨rfl, Or.inl rfl, _, rfl⟩) (hb hby d9_10) hr) rfl ?_ (by decide) (by decide))
    exact ⟨congrArg (fun z => some (Value.int z)) (by exact (if_neg c2_1).symm), (Fr.nil n0), e0⟩
theorem own_min (a b : Int32) (h : a.toInt ≤ b.toInt) : f9 a b = a := by
  unfold f9
  first | rw [if_neg (by rw [Int32.lt_iff_toInt_lt]; omega)] | rw [if_pos (by rw [Int32.lt_iff_toInt_lt]; omega)]
theorem own_mn {p2 : Int32} {n m2 : Nat} (h : p2 = Int32.ofNat n) (hm : p2.toInt = m2) (hn : n < 2147483648) : m2 = n := by rw [h, ofNat32 hn] at hm; omega
theorem d8_0 : decode jdk_65_method_123_code 0 = .ok (.iload_n 1, 1) := by decide +kernel
theorem d8_1 : decode jdk_65_method_123_code 1 = .ok (.aload_n 0, 1) := by decide +kernel
theorem d8_2 : decode jdk_65_method_123_code 2 = .ok (.arraylength, 1) := by decide +kernel
theorem d8_3 : decode jdk_65_method_123_code 3 = .ok (.if_icmp .ne 11, 3) := by decide +kernel
theorem d8_6 : decode jdk_65_method_123_code 6 = .ok (.aload_n 0, 1) := by decide +kernel
theorem d8_7 : decode jdk_65_method_123_code 7 = .ok (.invokevirtual 316, 3) := by decide +kernel
theorem d8_10 : decode jdk_65_method_123_code 10 = .ok (.checkcast 317, 3) := by decide +kernel
theorem d8_13 : decode jdk_65_method_123_code 13 = .ok (.areturn, 1) := by decide +kernel
theorem d8_14 : decode jdk_65_method_123_code 14 = .ok (.iload_n 1, 1) := by decide +kernel
theorem d8_15 : decode jdk_65_method_123_code 15 = .ok (.newarray .int, 2) := by decide +kernel
theorem d8_17 : decode jdk_65_method_123_code 17 = .ok (.astore_n 2, 1) := by decide +kernel
theorem d8_18 : decode jdk_65_method_123_code 18 = .ok (.aload_n 0, 1) := by decide +kernel
theorem d8_19 : decode jdk_65_method_123_code 19 = .ok (.iconst 0, 1) := by decide +kernel
theorem d8_20 : decode jdk_65_method_123_code 20 = .ok (.aload_n 2, 1) := by decide +kernel
theorem d8_21 : decode jdk_65_method_123_code 21 = .ok (.iconst 0, 1) := by decide +kernel
theorem d8_22 : decode jdk_65_method_123_code 22 = .ok (.aload_n 0, 1) := by decide +kernel
theorem d8_23 : decode jdk_65_method_123_code 23 = .ok (.arraylength, 1) := by decide +kernel
theorem d8_24 : decode jdk_65_method_123_code 24 = .ok (.iload_n 1, 1) := by decide +kernel
theorem d8_25 : decode jdk_65_method_123_code 25 = .ok (.invokestatic 304, 3) := by decide +kernel
theorem d8_28 : decode jdk_65_method_123_code 28 = .ok (.invokestatic 150, 3) := by decide +kernel
theorem d8_31 : decode jdk_65_method_123_code 31 = .ok (.aload_n 2, 1) := by decide +kernel
theorem d8_32 : decode jdk_65_method_123_code 32 = .ok (.areturn, 1) := by decide +kernel
theorem pn8 : plainFor (⟨"java/util/Arrays", "copyOf", "([II)[I"⟩ : MethodName) = true := by decide +kernel
theorem pd8_0 : parseMethodDescriptor "(II)I" = some ⟨[.int, .int], some .int⟩ := by decide +kernel
theorem ef8 (p1 : Addr) (p2 : Int32) (m : MethodId) : entryFrame m #[(.ref p1), (.int p2)] 3 = mkF m 0 #[.val (.ref p1), .val (.int p2), .unset] [] := by first | (simp [entryFrame, mkF, argsToLocals, Value.category]; done) | rfl
set_option maxRecDepth 65536 in
set_option maxHeartbeats 40000000 in
theorem rm8 (l : Launch) (Z : State) (a0 : Array Value) (hw : ∀ d ∈ tables_1, d.before a0 Z = true) (ws : List Jvm.Cond) (p1 : Addr) (p2 : Int32) (h0 : Heap) (n0 : Nat) (n m2 : Nat) (f : Nat → Int32) (hm2 : p2.toInt = m2) (hm7 : m2 < 7) (hnm2 : n ≤ m2) (Z0 : n0 ≤ h0.size) (V_p1 : ArI Z h0 p1 .int n f) (E_p1 : Exa Z h0 p1 "[I") :
    JMet l Z (⟨"java/util/Arrays", "copyOf", "([II)[I"⟩ : MethodName) jdk_65_method_123_code 3 (some (.array .int)) ws ({ frames := 1, cells := 1, slots := 6, locals := 40 } : Room) #[(.ref p1), (.int p2)] h0 (fun v h L => ∃ (b : Addr) (f' : Nat → Int32), v = some (.ref b) ∧ Fr n0 L ∧ Keep h0 h [] ∧ ArI Z h b .int m2 f' ∧ h0.size ≤ b) := by
  refine Jvm.JW.body #[.val (.ref p1), .val (.int p2), .unset] pn8 (ef8 p1 p2) ?_
  intro p e s m below meth c T0 D A F X0 hx hZ hby hml hown hnm hrt hlk e0
  refine A (XS.iloadN X0.here hx rfl (hb hby d8_0) rfl) ?_
  show D (T0.setTop (mkF m 1 #[.val (.ref p1), .val (.int p2), .unset] [(.int p2)]))
  refine A (XS.aloadN X0.here hx rfl (hb hby d8_1) rfl rfl) ?_
  show D (T0.setTop (mkF m 2 #[.val (.ref p1), .val (.int p2), .unset] [(.ref p1), (.int p2)]))
  refine Adv.lenI A X0 hx hZ e0 V_p1 (g := (mkF m 2 #[.val (.ref p1), .val (.int p2), .unset] [(.ref p1), (.int p2)])) rfl rfl (hb hby d8_2) ?_
  show D (T0.setTop (mkF m 3 #[.val (.ref p1), .val (.int p2), .unset] [(.int (Int32.ofNat n)), (.int p2)]))
  by_cases c3_1 : p2 = (Int32.ofNat n)
  · refine A (XS.icmpNo X0.here hx rfl (hb hby d8_3) rfl (teq c3_1).2) ?_
    show D (T0.setTop (mkF m 6 #[.val (.ref p1), .val (.int p2), .unset] []))
    refine A (XS.aloadN X0.here hx rfl (hb hby d8_6) rfl rfl) ?_
    show D (T0.setTop (mkF m 7 #[.val (.ref p1), .val (.int p2), .unset] [(.ref p1)]))
    refine Adv.cloneI A X0 hx hZ hown (hw _ (List.mem_of_getElem? (i := 74) rfl)) (hw _ (List.mem_of_getElem? (i := 75) rfl)) (hw _ (List.mem_of_getElem? (i := 79) rfl)) (hw _ (List.mem_of_getElem? (i := 77) rfl)) (hw _ (List.mem_of_getElem? (i := 78) rfl)) (hw _ (List.mem_of_getElem? (i := 80) rfl)) e0 V_p1 (fun _ _ => rfl) E_p1 0 6 (by omega) (g := (mkF m 7 #[.val (.ref p1), .val (.int p2), .unset] [(.ref p1)])) rfl (by rw [hml]; rfl) rfl (hb hby d8_7) (by show 2 * 0 + _ ≤ _; exact Nat.le_of_eq rfl) (by decide) (by decide) (by decide) (by decide) ?_
    intro T2 h2 b2 q_b2 X2 e2 E2 V_b2 EA_b2
    have ne_p1_b2 : p1 ≠ b2 := Nat.ne_of_lt (Nat.lt_of_lt_of_le V_p1.lt (Nat.le_of_eq q_b2.symm))
    have g_b2 : n0 ≤ b2 := Nat.le_trans Z0 (Nat.le_of_eq q_b2.symm)
    have sz_b2 : h0.size ≤ b2 := Nat.le_trans (Keep.refl h0 []).1 (Nat.le_of_eq q_b2.symm)
    have V_p1_2 := V_p1.ext E2
    have E_p1_2 := E_p1.ext E2
    have Z_2 : n0 ≤ h2.size := Nat.le_trans Z0 E2.1
    have KK_2 : Keep h0 h2 [] := (Keep.refl h0 []).ext E2
    show D (T2.setTop (mkF m 10 #[.val (.ref p1), .val (.int p2), .unset] [(.ref b2)]))
    obtain ⟨T3, X3, e3, st3⟩ := castY X2 hx hZ hown (hw _ (List.mem_of_getElem? (i := 81) rfl)) e2 (Ins.self EA_b2) (g := (mkF m 10 #[.val (.ref p1), .val (.int p2), .unset] [(.ref b2)])) rfl rfl (hb hby d8_10)
    refine A (st3 _) ?_
    show D (T3.setTop (mkF m 13 #[.val (.ref p1), .val (.int p2), .unset] [(.ref b2)]))
    refine F _ (Jvm.JW.ret X3 hlk (v := some (.ref b2)) (fun h => by rw [hrt] at h; cases h) (fun fs hr => retOut X3 hx hrt rfl (Or.inr (Or.inr (Or.inr (Or.inr ⟨rfl, rfl, rfl⟩)))) (hb hby d8_13) hr) e3 ?_ (by decide) (by decide))
    have hnm : m2 = n := own_mn c3_1 hm2 V_p1.1
    subst hnm
    exact ⟨b2, _, rfl, (Fr.nil n0), KK_2, V_b2, sz_b2⟩
  · refine A (XS.icmpYes X0.here hx rfl (pc0 := 3) (pc' := 14) rfl (hb hby d8_3) rfl (feq c3_1).2 (by decide) (by decide)) ?_
    show D (T0.setTop (mkF m 14 #[.val (.ref p1), .val (.int p2), .unset] []))
    refine A (XS.iloadN X0.here hx rfl (hb hby d8_14) rfl) ?_
    show D (T0.setTop (mkF m 15 #[.val (.ref p1), .val (.int p2), .unset] [(.int p2)]))
    refine Adv.newI A X0 hx hZ (aty := .int) (hw _ (List.mem_of_getElem? (i := 17) rfl)) e0 (n := m2) hm2 6 (by omega) (by decide) rfl (ad := "[I") (by decide) (by decide) (by decide) (g := (mkF m 15 #[.val (.ref p1), .val (.int p2), .unset] [(.int p2)])) rfl rfl (hb hby d8_15) ?_
    intro T4 h4 b4 q_b4 X4 e4 E4 V_b4 EA_b4
    have ne_p1_b4 : p1 ≠ b4 := Nat.ne_of_lt (Nat.lt_of_lt_of_le V_p1.lt (Nat.le_of_eq q_b4.symm))
    have g_b4 : n0 ≤ b4 := Nat.le_trans Z0 (Nat.le_of_eq q_b4.symm)
    have sz_b4 : h0.size ≤ b4 := Nat.le_trans (Keep.refl h0 []).1 (Nat.le_of_eq q_b4.symm)
    have V_p1_4 := V_p1.ext E4
    have E_p1_4 := E_p1.ext E4
    have Z_4 : n0 ≤ h4.size := Nat.le_trans Z0 E4.1
    have KK_4 : Keep h0 h4 [] := (Keep.refl h0 []).ext E4
    show D (T4.setTop (mkF m 17 #[.val (.ref p1), .val (.int p2), .unset] [(.ref b4)]))
    refine A (XS.astoreN X4.here hx rfl (hb hby d8_17) rfl rfl (l' := #[.val (.ref p1), .val (.int p2), .val (.ref b4)]) rfl) ?_
    show D (T4.setTop (mkF m 18 #[.val (.ref p1), .val (.int p2), .val (.ref b4)] []))
    refine A (XS.aloadN X4.here hx rfl (hb hby d8_18) rfl rfl) ?_
    show D (T4.setTop (mkF m 19 #[.val (.ref p1), .val (.int p2), .val (.ref b4)] [(.ref p1)]))
    refine A (XS.iconst X4.here hx rfl (hb hby d8_19)) ?_
    show D (T4.setTop (mkF m 20 #[.val (.ref p1), .val (.int p2), .val (.ref b4)] [(.int (0 : Int32)), (.ref p1)]))
    refine A (XS.aloadN X4.here hx rfl (hb hby d8_20) rfl rfl) ?_
    show D (T4.setTop (mkF m 21 #[.val (.ref p1), .val (.int p2), .val (.ref b4)] [(.ref b4), (.int (0 : Int32)), (.ref p1)]))
    refine A (XS.iconst X4.here hx rfl (hb hby d8_21)) ?_
    show D (T4.setTop (mkF m 22 #[.val (.ref p1), .val (.int p2), .val (.ref b4)] [(.int (0 : Int32)), (.ref b4), (.int (0 : Int32)), (.ref p1)]))
    refine A (XS.aloadN X4.here hx rfl (hb hby d8_22) rfl rfl) ?_
    show D (T4.setTop (mkF m 23 #[.val (.ref p1), .val (.int p2), .val (.ref b4)] [(.ref p1), (.int (0 : Int32)), (.ref b4), (.int (0 : Int32)), (.ref p1)]))
    refine Adv.lenI A X4 hx hZ e4 V_p1_4 (g := (mkF m 23 #[.val (.ref p1), .val (.int p2), .val (.ref b4)] [(.ref p1), (.int (0 : Int32)), (.ref b4), (.int (0 : Int32)), (.ref p1)])) rfl rfl (hb hby d8_23) ?_
    show D (T4.setTop (mkF m 24 #[.val (.ref p1), .val (.int p2), .val (.ref b4)] [(.int (Int32.ofNat n)), (.int (0 : Int32)), (.ref b4), (.int (0 : Int32)), (.ref p1)]))
    refine A (XS.iloadN X4.here hx rfl (hb hby d8_24) rfl) ?_
    show D (T4.setTop (mkF m 25 #[.val (.ref p1), .val (.int p2), .val (.ref b4)] [(.int p2), (.int (Int32.ofNat n)), (.int (0 : Int32)), (.ref b4), (.int (0 : Int32)), (.ref p1)]))
    refine Adv.callS A X4 hx hZ hown (hw _ (List.mem_of_getElem? (i := 49) rfl)) (hw _ (List.mem_of_getElem? (i := 50) rfl)) (hw _ (List.mem_of_getElem? (i := 51) rfl)) (hw _ (List.mem_of_getElem? (i := 52) rfl)) e4 (rm9 l Z a0 hw [] (Int32.ofNat n) p2 h4 n0) 4 (g := (mkF m 25 #[.val (.ref p1), .val (.int p2), .val (.ref b4)] [(.int p2), (.int (Int32.ofNat n)), (.int (0 : Int32)), (.ref b4), (.int (0 : Int32)), (.ref p1)])) rfl (by rw [hml]; rfl) [(.int (Int32.ofNat n)), (.int p2)] [(.int (0 : Int32)), (.ref b4), (.int (0 : Int32)), (.ref p1)] rfl (lenOf pd8_0 rfl) rfl (by show 2 * 0 + _ ≤ _; exact Nat.le_of_eq rfl) (hb hby d8_25) (by decide) (by decide) (by decide) (by decide) (by decide) ?_
    rintro T5 L5 _ X5 ⟨rfl, N5_q, e5⟩
    have N5 := Fr.app (Fr.nil n0) N5_q
    show D (T5.setTop (mkF m 28 #[.val (.ref p1), .val (.int p2), .val (.ref b4)] [(.int (f9 (Int32.ofNat n) p2)), (.int (0 : Int32)), (.ref b4), (.int (0 : Int32)), (.ref p1)]))
    have hmin : (f9 (Int32.ofNat n) p2) = Int32.ofNat n := own_min _ _ (by rw [ofNat32 V_p1.1]; omega)
    refine Adv.copyI A X5 hx hZ hown (hw _ (List.mem_of_getElem? (i := 53) rfl)) (hw _ (List.mem_of_getElem? (i := 56) rfl)) (hw _ (List.mem_of_getElem? (i := 54) rfl)) (hw _ (List.mem_of_getElem? (i := 55) rfl)) e5 V_p1_4 V_b4 (fun _ _ => rfl) (fun _ _ => rfl) (Or.inl rfl) (by decide) (by decide) (by rw [hmin, ofNat32 V_p1.1]; omega) (by rw [hmin, ofNat32 V_p1.1, show (0 : Int32).toInt = 0 from rfl]; omega) (by rw [hmin, ofNat32 V_p1.1, show (0 : Int32).toInt = 0 from rfl]; omega) N5 g_b4 (g := (mkF m 28 #[.val (.ref p1), .val (.int p2), .val (.ref b4)] [(.int (f9 (Int32.ofNat n) p2)), (.int (0 : Int32)), (.ref b4), (.int (0 : Int32)), (.ref p1)])) rfl (by rw [hml]; rfl) rfl (hb hby d8_28) 0 (by show 2 * 0 + _ ≤ _; exact Nat.le_of_eq rfl) (by decide) (by decide) ?_
    intro T6 h6 L6 fc6 X6 e6 N6 K6 V6_q fit6
    have V_p1_6 := V_p1_4.keep K6 (ninS ne_p1_b4 nin0)
    have E_p1_6 := E_p1_4.keep K6
    have EA_b4_6 := EA_b4.keep K6
    have Z_6 : n0 ≤ h6.size := Nat.le_trans Z_4 K6.1
    have KK_6 : Keep h0 h6 [] := KK_4.trans K6 (allS (Or.inr sz_b4) all0)
    show D (T6.setTop (mkF m 31 #[.val (.ref p1), .val (.int p2), .val (.ref b4)] []))
    refine A (XS.aloadN X6.here hx rfl (hb hby d8_31) rfl rfl) ?_
    show D (T6.setTop (mkF m 32 #[.val (.ref p1), .val (.int p2), .val (.ref b4)] [(.ref b4)]))
    refine F _ (Jvm.JW.ret X6 hlk (v := some (.ref b4)) (fun h => by rw [hrt] at h; cases h) (fun fs hr => retOut X6 hx hrt rfl (Or.inr (Or.inr (Or.inr (Or.inr ⟨rfl, rfl, rfl⟩)))) (hb hby d8_32) hr) e6 ?_ (by decide) (by decide))
    exact ⟨b4, _, rfl, N6, KK_6, V6_q, sz_b4⟩
theorem own_dbl {m : Nat} (h : m < 4) : ((2 : Int32) * (Int32.ofNat m)).toInt = ((2 * m : Nat) : Int) := by
  rcases (by omega : m = 0 ∨ m = 1 ∨ m = 2 ∨ m = 3) with rfl | rfl | rfl | rfl <;> decide
theorem d7_0 : decode prog_18_method_9_code 0 = .ok (.aload_n 0, 1) := by decide +kernel
theorem d7_1 : decode prog_18_method_9_code 1 = .ok (.aload_n 0, 1) := by decide +kernel
theorem d7_2 : decode prog_18_method_9_code 2 = .ok (.getfield 13, 3) := by decide +kernel
theorem d7_5 : decode prog_18_method_9_code 5 = .ok (.iconst 2, 1) := by decide +kernel
theorem d7_6 : decode prog_18_method_9_code 6 = .ok (.aload_n 0, 1) := by decide +kernel
theorem d7_7 : decode prog_18_method_9_code 7 = .ok (.getfield 13, 3) := by decide +kernel
theorem d7_10 : decode prog_18_method_9_code 10 = .ok (.arraylength, 1) := by decide +kernel
theorem d7_11 : decode prog_18_method_9_code 11 = .ok (.imul, 1) := by decide +kernel
theorem d7_12 : decode prog_18_method_9_code 12 = .ok (.invokestatic 20, 3) := by decide +kernel
theorem d7_15 : decode prog_18_method_9_code 15 = .ok (.putfield 13, 3) := by decide +kernel
theorem d7_18 : decode prog_18_method_9_code 18 = .ok (.return_, 1) := by decide +kernel
theorem pn7 : plainFor (⟨"com/example/wayfare/wayfare/exec/RowTargets", "makeRoom", "()V"⟩ : MethodName) = true := by decide +kernel
theorem pd7_0 : parseMethodDescriptor "([II)[I" = some ⟨[(.array .int), .int], some (.array .int)⟩ := by decide +kernel
theorem ef7 (self : Addr) (m : MethodId) : entryFrame m #[(.ref self)] 1 = mkF m 0 #[.val (.ref self)] [] := by first | (simp [entryFrame, mkF, argsToLocals, Value.category]; done) | rfl
set_option maxRecDepth 65536 in
set_option maxHeartbeats 40000000 in
theorem rm7 (l : Launch) (Z : State) (a0 : Array Value) (hw : ∀ d ∈ tables_1, d.before a0 Z = true) (ws : List Jvm.Cond) (self : Addr) (h0 : Heap) (n0 : Nat) (r sz : Int32) (tg tk : Addr) (Z0 : n0 ≤ h0.size) (g_self : n0 ≤ self) (E_self : Exa Z h0 self "com/example/wayfare/wayfare/exec/RowTargets$Marked") (F_row : Fld Z h0 self "com/example/wayfare/wayfare/exec/RowTargets" "row" "I" (.int r)) (F_targets : Fld Z h0 self "com/example/wayfare/wayfare/exec/RowTargets" "targets" "[I" (.ref tg)) (F_size : Fld Z h0 self "com/example/wayfare/wayfare/exec/RowTargets" "size" "I" (.int sz)) (F_takenInRow : Fld Z h0 self "com/example/wayfare/wayfare/exec/RowTargets$Marked" "takenInRow" "[I" (.ref tk)) (mm : Nat) (fg : Nat → Int32) (hm4 : mm < 4) (V_tg : ArI Z h0 tg .int mm fg) (EA_tg : Exa Z h0 tg "[I") :
    JMet l Z (⟨"com/example/wayfare/wayfare/exec/RowTargets", "makeRoom", "()V"⟩ : MethodName) prog_18_method_9_code 1 none ws ({ frames := 2, cells := 1, slots := 6, locals := 55 } : Room) #[(.ref self)] h0 (fun v h L => v = none ∧ ∃ (b : Addr) (f' : Nat → Int32), Fr n0 L ∧ Keep h0 h [self] ∧ Exa Z h self "com/example/wayfare/wayfare/exec/RowTargets$Marked" ∧ Fld Z h self "com/example/wayfare/wayfare/exec/RowTargets" "row" "I" (.int r) ∧ Fld Z h self "com/example/wayfare/wayfare/exec/RowTargets" "targets" "[I" (.ref b) ∧ Fld Z h self "com/example/wayfare/wayfare/exec/RowTargets" "size" "I" (.int sz) ∧ Fld Z h self "com/example/wayfare/wayfare/exec/RowTargets$Marked" "takenInRow" "[I" (.ref tk) ∧ ArI Z h b .int (2 * mm) f') := by
  refine Jvm.JW.body #[.val (.ref self)] pn7 (ef7 self) ?_
  intro p e s m below meth c T0 D A F X0 hx hZ hby hml hown hnm hrt hlk e0
  refine A (XS.aloadN X0.here hx rfl (hb hby d7_0) rfl rfl) ?_
  show D (T0.setTop (mkF m 1 #[.val (.ref self)] [(.ref self)]))
  refine A (XS.aloadN X0.here hx rfl (hb hby d7_1) rfl rfl) ?_
  show D (T0.setTop (mkF m 2 #[.val (.ref self)] [(.ref self), (.ref self)]))
  obtain ⟨T1, X1, e1, st1⟩ := getF X0 hx hZ hown (host := "") (Or.inl (hw _ (List.mem_of_getElem? (i := 18) rfl))) Via.refl e0 F_targets (g := (mkF m 2 #[.val (.ref self)] [(.ref self), (.ref self)])) rfl rfl (hb hby d7_2)
  refine A (st1 _) ?_
  show D (T1.setTop (mkF m 5 #[.val (.ref self)] [(.ref tg), (.ref self)]))
  refine A (XS.iconst X1.here hx rfl (hb hby d7_5)) ?_
  show D (T1.setTop (mkF m 6 #[.val (.ref self)] [(.int (2 : Int32)), (.ref tg), (.ref self)]))
  refine A (XS.aloadN X1.here hx rfl (hb hby d7_6) rfl rfl) ?_
  show D (T1.setTop (mkF m 7 #[.val (.ref self)] [(.ref self), (.int (2 : Int32)), (.ref tg), (.ref self)]))
  obtain ⟨T2, X2, e2, st2⟩ := getF X1 hx hZ hown (host := "") (Or.inl (hw _ (List.mem_of_getElem? (i := 18) rfl))) Via.refl e1 F_targets (g := (mkF m 7 #[.val (.ref self)] [(.ref self), (.int (2 : Int32)), (.ref tg), (.ref self)])) rfl rfl (hb hby d7_7)
  refine A (st2 _) ?_
  show D (T2.setTop (mkF m 10 #[.val (.ref self)] [(.ref tg), (.int (2 : Int32)), (.ref tg), (.ref self)]))
  refine Adv.lenI A X2 hx hZ e2 V_tg (g := (mkF m 10 #[.val (.ref self)] [(.ref tg), (.int (2 : Int32)), (.ref tg), (.ref self)])) rfl rfl (hb hby d7_10) ?_
  show D (T2.setTop (mkF m 11 #[.val (.ref self)] [(.int (Int32.ofNat mm)), (.int (2 : Int32)), (.ref tg), (.ref self)]))
  refine A (XS.imul X2.here hx rfl (hb hby d7_11) rfl) ?_
  show D (T2.setTop (mkF m 12 #[.val (.ref self)] [(.int ((2 : Int32) * (Int32.ofNat mm))), (.ref tg), (.ref self)]))
  refine Adv.callS A X2 hx hZ hown (hw _ (List.mem_of_getElem? (i := 46) rfl)) (hw _ (List.mem_of_getElem? (i := 47) rfl)) (hw _ (List.mem_of_getElem? (i := 24) rfl)) (hw _ (List.mem_of_getElem? (i := 48) rfl)) e2 (rm8 l Z a0 hw [] tg ((2 : Int32) * (Int32.ofNat mm)) h0 n0 mm (2 * mm) fg (own_dbl (by omega)) (by omega) (by omega) Z0 V_tg EA_tg) 1 (g := (mkF m 12 #[.val (.ref self)] [(.int ((2 : Int32) * (Int32.ofNat mm))), (.ref tg), (.ref self)])) rfl (by rw [hml]; rfl) [(.ref tg), (.int ((2 : Int32) * (Int32.ofNat mm)))] [(.ref self)] rfl (lenOf pd7_0 rfl) rfl (by show 2 * 0 + _ ≤ _; exact Nat.le_of_eq rfl) (hb hby d7_12) (by decide) (by decide) (by decide) (by decide) (by decide) ?_
  rintro T3 L3 _ X3 ⟨b3, fq3, rfl, N3_q, K3, V3_q, szq_b3⟩
  have N3 := Fr.app (Fr.nil n0) N3_q
  have ne_self_b3 : self ≠ b3 := Nat.ne_of_lt (Nat.lt_of_lt_of_le E_self.lt szq_b3)
  have ne_tg_b3 : tg ≠ b3 := Nat.ne_of_lt (Nat.lt_of_lt_of_le V_tg.lt szq_b3)
  have g_b3 : n0 ≤ b3 := Nat.le_trans Z0 szq_b3
  have E_self_3 := E_self.keep K3
  have F_row_self_3 := F_row.keep K3 nin0
  have F_targets_self_3 := F_targets.keep K3 nin0
  have F_size_self_3 := F_size.keep K3 nin0
  have F_takenInRow_self_3 := F_takenInRow.keep K3 nin0
  have V_tg_3 := V_tg.keep K3 nin0
  have EA_tg_3 := EA_tg.keep K3
  have Z_3 : n0 ≤ T3.heap.size := Nat.le_trans Z0 K3.1
  have KK_3 : Keep h0 T3.heap [self] := (Keep.refl h0 [self]).trans K3 all0
  show D (T3.setTop (mkF m 15 #[.val (.ref self)] [(.ref b3), (.ref self)]))
  obtain ⟨T4, h4, X4, e4, W4, st4⟩ := putF X3 hx hZ hown (host := "") (Or.inl (hw _ (List.mem_of_getElem? (i := 18) rfl))) Via.refl rfl F_targets_self_3 E_self_3 (Or.inl (hw _ (List.mem_of_getElem? (i := 19) rfl))) (hw _ (List.mem_of_getElem? (i := 2) rfl)) (ty := (.array .int)) (by decide) rfl rfl (g := (mkF m 15 #[.val (.ref self)] [(.ref b3), (.ref self)])) rfl rfl (hb hby d7_15)
  have N4 := Fr.snoc X4 N3 g_self
  have F_targets_self_4 := F_targets_self_3.same W4
  have E_self_4 := E_self_3.wr W4
  have F_row_self_4 := F_row_self_3.other W4 (Or.inr (slot_ne (Or.inl (hw _ (List.mem_of_getElem? (i := 16) rfl))) (Or.inl (hw _ (List.mem_of_getElem? (i := 19) rfl))) (by decide) (t := .int) (t' := (.array .int)) (by decide) (by decide)))
  have F_size_self_4 := F_size_self_3.other W4 (Or.inr (slot_ne (Or.inl (hw _ (List.mem_of_getElem? (i := 33) rfl))) (Or.inl (hw _ (List.mem_of_getElem? (i := 19) rfl))) (by decide) (t := .int) (t' := (.array .int)) (by decide) (by decide)))
  have F_takenInRow_self_4 := F_takenInRow_self_3.other W4 (Or.inr (slot_ne (Or.inr (hw _ (List.mem_of_getElem? (i := 21) rfl))) (Or.inl (hw _ (List.mem_of_getElem? (i := 19) rfl))) (by decide) (t := (.array .int)) (t' := (.array .int)) (by decide) (by decide)))
  have V_tg_4 := V_tg_3.other W4 (Ne.symm (ne_ari E_self_3 (hw _ (List.mem_of_getElem? (i := 2) rfl)) V_tg_3))
  have EA_tg_4 := EA_tg_3.wr W4
  have V_b3_4 := V3_q.other W4 (Ne.symm ne_self_b3)
  have Z_4 : n0 ≤ h4.size := Nat.le_trans Z_3 (Nat.le_of_eq W4.size.symm)
  have KK_4 : Keep h0 h4 [self] := KK_3.wr W4 (Or.inl (List.mem_of_getElem? (i := 0) rfl))
  refine A (st4 _) ?_
  show D (T4.setTop (mkF m 18 #[.val (.ref self)] []))
  exact F _ (Jvm.JW.ret X4 hlk (v := none) (fun _ => rfl) (fun fs hr => X4.returnOut hx hrt (hb hby d7_18) hr) e4 ⟨rfl, b3, _, N4, KK_4, E_self_4, F_row_self_4, F_targets_self_4, F_size_self_4, F_takenInRow_self_4, V_b3_4⟩ (by decide) (by decide))
theorem own_n {v x : Int32} (h : v = (x &&& (3 : Int32))) : ∃ n : Nat, v.toInt = n ∧ n < 4 := by
  have h1 := c_mask x 3 2 (by decide) (by decide)
  rw [← h] at h1
  exact ⟨v.toInt.toNat, by omega, by omega⟩
theorem own_inc3 {x : Int32} {n : Nat} (h : x.toInt = n) (h4 : n < 4) : (x + (1 : Int32)).toInt = ((n + 1 : Nat) : Int) := ixadd h (by decide) (by omega)
theorem own_nz {x : Int32} {n : Nat} (h : x.toInt = n) (h4 : n < 4) : x + (1 : Int32) ≠ 0 := fun q => by
  have := own_inc3 h h4
  rw [q, show (0 : Int32).toInt = 0 from rfl] at this
  omega
theorem own_k {v x y : Int32} {n : Nat} (hy : y.toInt = n) (h4 : n < 4) (h : v = ((x &&& (2147483647 : Int32)) % (y + (1 : Int32)))) : ∃ k : Nat, v.toInt = k ∧ k ≤ n := by
  have h1 := c_mask x 2147483647 31 (by decide) (by decide)
  have h2 := (c_irem (x &&& 2147483647) (y + 1) ((n + 1 : Nat) : Int) (own_inc3 hy h4)).1 (by omega)
  rw [← h] at h2
  have h3 := Int.emod_nonneg (x &&& 2147483647).toInt (show ((n + 1 : Nat) : Int) ≠ 0 by omega)
  have h4' := Int.emod_lt_of_pos (x &&& 2147483647).toInt (show 0 < ((n + 1 : Nat) : Int) by omega)
  exact ⟨v.toInt.toNat, by omega, by omega⟩
theorem own_kn {x d : Int32} {k n j : Nat} (c : ¬ x < d) (hk : x.toInt = k) (hd : d.toInt = ((j + 1 : Nat) : Int)) (hkn : k ≤ n) : j < n := by rw [Int32.lt_iff_toInt_lt] at c; omega
theorem own_k1 {x : Int32} {k : Nat} (c : ¬ x < (1 : Int32)) (hk : x.toInt = k) : 1 ≤ k := by rw [Int32.lt_iff_toInt_lt, show (1 : Int32).toInt = 1 from rfl] at c; omega
theorem own_kge {x d : Int32} {k : Nat} (j : Nat) (c : ¬ x < d) (hk : x.toInt = k) (hd : d.toInt = (j : Int)) : j ≤ k := by rw [Int32.lt_iff_toInt_lt] at c; omega
theorem own_klt {x d : Int32} {k : Nat} (j : Nat) (c : x < d) (hk : x.toInt = k) (hd : d.toInt = (j : Int)) : k < j := by rw [Int32.lt_iff_toInt_lt] at c; omega
/-- the size after the first j adds -/
def own_sz (sz : Int32) (k j : Nat) : Prop := (k ≤ j → sz.toInt = k) ∧ (j ≤ k → sz.toInt = j)
theorem own_sz0 (k : Nat) : own_sz 0 k 0 := ⟨fun h => by have : (0 : Int32).toInt = 0 := rfl; omega, fun _ => rfl⟩
theorem own_szs {sz : Int32} {k j : Nat} (h : own_sz sz k j) (hk : k < j + 1) : own_sz sz k (j + 1) := ⟨fun _ => h.1 (by omega), fun q => by omega⟩
theorem own_sza {sz : Int32} {k j : Nat} (h : own_sz sz k j) (hk : j + 1 ≤ k) (hj : j < 4) : own_sz (sz + (1 : Int32)) k (j + 1) := by
  have := ixadd (h.2 (by omega)) (show (1 : Int32).toInt = ((1 : Nat) : Int) by decide) (by omega)
  exact ⟨fun q => by omega, fun q => by omega⟩
theorem own_szk {sz : Int32} {k n : Nat} (h : own_sz sz k 3) (hkn : k ≤ n) (h4 : n < 4) : sz.toInt = k := h.1 (by omega)
theorem own_f1 {sz x y : Int32} {k n : Nat} (hs : sz.toInt = k) (hx : x.toInt = k) (hy : y.toInt = n) (h4 : n < 4) : own_full sz n = (if x = y then (1 : Int32) else (0 : Int32)) := by
  unfold own_full
  have e1 : sz = x := Int32.toInt_inj.mp (by omega)
  have e2 : Int32.ofNat n = y := Int32.toInt_inj.mp (by rw [ofNat32 (by omega)]; omega)
  rw [e1, e2]
theorem own_f2 {sz x y : Int32} {k n : Nat} (hs : sz.toInt = k) (hx : x.toInt = k) (hy : y.toInt = n) (h4 : n < 4) : own_full sz (2 * n) = (if x = ((2 : Int32) * y) then (1 : Int32) else (0 : Int32)) := by
  unfold own_full
  have e1 : sz = x := Int32.toInt_inj.mp (by omega)
  have e0 : Int32.ofNat n = y := Int32.toInt_inj.mp (by rw [ofNat32 (by omega)]; omega)
  have e2 : Int32.ofNat (2 * n) = (2 : Int32) * y := Int32.toInt_inj.mp (by rw [ofNat32 (by omega), ← e0, own_dbl h4])
  rw [e1, e2]
theorem own_f3 {y : Int32} {n : Nat} (hy : y.toInt = n) (h4 : n < 4) : own_full 0 n = (if y = (0 : Int32) then (1 : Int32) else (0 : Int32)) := by
  unfold own_full
  have e2 : Int32.ofNat n = y := Int32.toInt_inj.mp (by rw [ofNat32 (by omega)]; omega)
  rw [e2]
  by_cases h : y = 0
  · rw [if_pos h, if_pos h.symm]
  · rw [if_neg h, if_neg (fun q => h q.symm)]
theorem pn0 : plainFor x = true := by decide +kernel
theorem pd0_0 : parseMethodDescriptor "(I)V" = some ⟨[.int], none⟩ := by decide +kernel
theorem pd0_1 : parseMethodDescriptor "()V" = some ⟨[], none⟩ := by decide +kernel
theorem pd0_2 : parseMethodDescriptor "()Z" = some ⟨[], some .boolean⟩ := by decide +kernel
theorem ef0 (p1 : Int32) (p2 : Int32) (p3 : Int32) (m : MethodId) : entryFrame m #[(.int p1), (.int p2), (.int p3)] maxLocals = mkF m 0 #[.val (.int p1), .val (.int p2), .val (.int p3), .unset, .unset, .unset, .unset, .unset, .unset] [] := by first | (simp [entryFrame, mkF, argsToLocals, Value.category, maxLocals]; done) | rfl
set_option maxRecDepth 65536 in
set_option maxHeartbeats 40000000 in
theorem rm0 (l : Launch) (Z : State) (a0 : Array Value) (hw : ∀ d ∈ tables_1, d.before a0 Z = true) (ws : List Jvm.Cond) (p1 : Int32) (p2 : Int32) (p3 : Int32) (h0 : Heap) (n0 : Nat) (Z0 : n0 ≤ h0.size) :
    JMet l Z x code maxLocals ret ws room_1 #[(.int p1), (.int p2), (.int p3)] h0 (QL n0) := by
  refine Jvm.JW.body #[.val (.int p1), .val (.int p2), .val (.int p3), .unset, .unset, .unset, .unset, .unset, .unset] pn0 (ef0 p1 p2 p3) ?_
  intro p e s m below meth c T0 D A F X0 hx hZ hby hml hown hnm hrt hlk e0
  refine A (XS.iloadN X0.here hx rfl (hb hby at_0) rfl) ?_
  show D (T0.setTop (mkF m 1 #[.val (.int p1), .val (.int p2), .val (.int p3), .unset, .unset, .unset, .unset, .unset, .unset] [(.int p1)]))
  refine A (XS.iconst X0.here hx rfl (hb hby at_1)) ?_
  show D (T0.setTop (mkF m 2 #[.val (.int p1), .val (.int p2), .val (.int p3), .unset, .unset, .unset, .unset, .unset, .unset] [(.int (3 : Int32)), (.int p1)]))
  refine A (XS.iand X0.here hx rfl (hb hby at_2) rfl) ?_
  show D (T0.setTop (mkF m 3 #[.val (.int p1), .val (.int p2), .val (.int p3), .unset, .unset, .unset, .unset, .unset, .unset] [(.int (p1 &&& (3 : Int32)))]))
  refine A (XS.istoreN X0.here hx rfl (hb hby at_3) rfl (l' := #[.val (.int p1), .val (.int p2), .val (.int p3), .val (.int (p1 &&& (3 : Int32))), .unset, .unset, .unset, .unset, .unset]) rfl) ?_
  show D (T0.setTop (mkF m 4 #[.val (.int p1), .val (.int p2), .val (.int p3), .val (.int (p1 &&& (3 : Int32))), .unset, .unset, .unset, .unset, .unset] []))
  suffices Kx3_4 : ∀ x3_4 : Int32, x3_4 = (p1 &&& (3 : Int32)) → D (T0.setTop (mkF m 4 #[.val (.int p1), .val (.int p2), .val (.int p3), .val (.int x3_4), .unset, .unset, .unset, .unset, .unset] [])) from Kx3_4 _ rfl
  intro x3_4 hx3_4
  obtain ⟨n, hn, hn4⟩ := own_n hx3_4
  refine A (XS.iloadN X0.here hx rfl (hb hby at_4) rfl) ?_
  show D (T0.setTop (mkF m 5 #[.val (.int p1), .val (.int p2), .val (.int p3), .val (.int x3_4), .unset, .unset, .unset, .unset, .unset] [(.int p2)]))
  refine A (X0.ldcInt hx hown (mvT hZ (hw _ (List.mem_of_getElem? (i := 0) rfl))) (g := (mkF m 5 #[.val (.int p1), .val (.int p2), .val (.int p3), .val (.int x3_4), .unset, .unset, .unset, .unset, .unset] [(.int p2)])) rfl (hb hby at_5) _) ?_
  show D (T0.setTop (mkF m 7 #[.val (.int p1), .val (.int p2), .val (.int p3), .val (.int x3_4), .unset, .unset, .unset, .unset, .unset] [(.int (2147483647 : Int32)), (.int p2)]))
  refine A (XS.iand X0.here hx rfl (hb hby at_7) rfl) ?_
  show D (T0.setTop (mkF m 8 #[.val (.int p1), .val (.int p2), .val (.int p3), .val (.int x3_4), .unset, .unset, .unset, .unset, .unset] [(.int (p2 &&& (2147483647 : Int32)))]))
  refine A (XS.iloadN X0.here hx rfl (hb hby at_8) rfl) ?_
  show D (T0.setTop (mkF m 9 #[.val (.int p1), .val (.int p2), .val (.int p3), .val (.int x3_4), .unset, .unset, .unset, .unset, .unset] [(.int x3_4), (.int (p2 &&& (2147483647 : Int32)))]))
  refine A (XS.iconst X0.here hx rfl (hb hby at_9)) ?_
  show D (T0.setTop (mkF m 10 #[.val (.int p1), .val (.int p2), .val (.int p3), .val (.int x3_4), .unset, .unset, .unset, .unset, .unset] [(.int (1 : Int32)), (.int x3_4), (.int (p2 &&& (2147483647 : Int32)))]))
  refine A (XS.iadd X0.here hx rfl (hb hby at_10) rfl) ?_
  show D (T0.setTop (mkF m 11 #[.val (.int p1), .val (.int p2), .val (.int p3), .val (.int x3_4), .unset, .unset, .unset, .unset, .unset] [(.int (x3_4 + (1 : Int32))), (.int (p2 &&& (2147483647 : Int32)))]))
  refine A (iremM X0 hx rfl (hb hby at_11) rfl (own_nz hn hn4)) ?_
  show D (T0.setTop (mkF m 12 #[.val (.int p1), .val (.int p2), .val (.int p3), .val (.int x3_4), .unset, .unset, .unset, .unset, .unset] [(.int ((p2 &&& (2147483647 : Int32)) % (x3_4 + (1 : Int32))))]))
  refine A (XS.istore X0.here hx rfl (hb hby at_12) rfl (l' := #[.val (.int p1), .val (.int p2), .val (.int p3), .val (.int x3_4), .val (.int ((p2 &&& (2147483647 : Int32)) % (x3_4 + (1 : Int32)))), .unset, .unset, .unset, .unset]) rfl) ?_
  show D (T0.setTop (mkF m 14 #[.val (.int p1), .val (.int p2), .val (.int p3), .val (.int x3_4), .val (.int ((p2 &&& (2147483647 : Int32)) % (x3_4 + (1 : Int32)))), .unset, .unset, .unset, .unset] []))
  suffices Kx4_14 : ∀ x4_14 : Int32, x4_14 = ((p2 &&& (2147483647 : Int32)) % (x3_4 + (1 : Int32))) → D (T0.setTop (mkF m 14 #[.val (.int p1), .val (.int p2), .val (.int p3), .val (.int x3_4), .val (.int x4_14), .unset, .unset, .unset, .unset] [])) from Kx4_14 _ rfl
  intro x4_14 hx4_14
  obtain ⟨k, hk4, hkn⟩ := own_k hn hn4 hx4_14
  obtain ⟨T1, h1, X1, e1, E1, A1, D1, -, st1⟩ := newO X0 hx hZ hown (hw _ (List.mem_of_getElem? (i := 1) rfl)) (hw _ (List.mem_of_getElem? (i := 2) rfl)) (hw _ (List.mem_of_getElem? (i := 3) rfl)) e0 (g := (mkF m 14 #[.val (.int p1), .val (.int p2), .val (.int p3), .val (.int x3_4), .val (.int x4_14), .unset, .unset, .unset, .unset] [])) rfl (hb hby at_14) (by decide) (by decide)
  obtain ⟨b1, q_b1⟩ : ∃ z, z = h0.size := ⟨_, rfl⟩
  rw [← q_b1] at A1 D1 st1
  have g_b1 : n0 ≤ b1 := Nat.le_trans Z0 (Nat.le_of_eq q_b1.symm)
  have Z_1 : n0 ≤ h1.size := Nat.le_trans Z0 E1.1
  have F_row_b1 : Fld Z h1 b1 "com/example/wayfare/wayfare/exec/RowTargets" "row" "I" (.int (0 : Int32)) := D1 (Or.inl (hw _ (List.mem_of_getElem? (i := 16) rfl))) (ty := .int) (by decide)
  have F_targets_b1 : Fld Z h1 b1 "com/example/wayfare/wayfare/exec/RowTargets" "targets" "[I" .null := D1 (Or.inl (hw _ (List.mem_of_getElem? (i := 19) rfl))) (ty := (.array .int)) (by decide)
  have F_takenInRow_b1 : Fld Z h1 b1 "com/example/wayfare/wayfare/exec/RowTargets$Marked" "takenInRow" "[I" .null := D1 (Or.inr (hw _ (List.mem_of_getElem? (i := 21) rfl))) (ty := (.array .int)) (by decide)
  have F_size_b1 : Fld Z h1 b1 "com/example/wayfare/wayfare/exec/RowTargets" "size" "I" (.int (0 : Int32)) := D1 (Or.inl (hw _ (List.mem_of_getElem? (i := 33) rfl))) (ty := .int) (by decide)
  refine A (st1 _) ?_
  show D (T1.setTop (mkF m 17 #[.val (.int p1), .val (.int p2), .val (.int p3), .val (.int x3_4), .val (.int x4_14), .unset, .unset, .unset, .unset] [(.ref b1)]))
  refine A (XS.dup X1.here hx rfl (hb hby at_17) rfl rfl) ?_
  show D (T1.setTop (mkF m 18 #[.val (.int p1), .val (.int p2), .val (.int p3), .val (.int x3_4), .val (.int x4_14), .unset, .unset, .unset, .unset] [(.ref b1), (.ref b1)]))
  refine A (XS.iloadN X1.here hx rfl (hb hby at_18) rfl) ?_
  show D (T1.setTop (mkF m 19 #[.val (.int p1), .val (.int p2), .val (.int p3), .val (.int x3_4), .val (.int x4_14), .unset, .unset, .unset, .unset] [(.int x3_4), (.ref b1), (.ref b1)]))
  refine Adv.callI A X1 hx hZ hown rfl (hw _ (List.mem_of_getElem? (i := 4) rfl)) (hw _ (List.mem_of_getElem? (i := 5) rfl)) (hw _ (List.mem_of_getElem? (i := 3) rfl)) (hw _ (List.mem_of_getElem? (i := 6) rfl)) e1 (rm1 l Z a0 hw [] b1 x3_4 h1 n0 n hn hn4 Z_1 g_b1 A1 F_row_b1 F_targets_b1 F_size_b1 F_takenInRow_b1) 1 (g := (mkF m 19 #[.val (.int p1), .val (.int p2), .val (.int p3), .val (.int x3_4), .val (.int x4_14), .unset, .unset, .unset, .unset] [(.int x3_4), (.ref b1), (.ref b1)])) rfl (by rw [hml]; rfl) b1 [(.int x3_4)] [(.ref b1)] rfl (lenOf pd0_0 rfl) rfl (by show 2 * 0 + _ ≤ _; exact Nat.le_of_eq rfl) (hb hby at_19) (by decide) (by decide) (by decide) (by decide) (by decide) ?_
  rintro T2 L2 _ X2 ⟨rfl, tg, tk, N2_q, K2, -, F2_row, F2_targets, F2_size, F2_takenInRow, V2_q, EA2_q, Vk2_q, szq_tg, szq_tk, ne_tk_tg⟩
  have N2 := Fr.app (Fr.nil n0) N2_q
  have ne_b1_tg : b1 ≠ tg := Nat.ne_of_lt (Nat.lt_of_lt_of_le A1.lt szq_tg)
  have g_tg : n0 ≤ tg := Nat.le_trans Z_1 szq_tg
  have ne_b1_tk : b1 ≠ tk := Nat.ne_of_lt (Nat.lt_of_lt_of_le A1.lt szq_tk)
  have g_tk : n0 ≤ tk := Nat.le_trans Z_1 szq_tk
  have E_b1_2 := A1.keep K2
  have Z_2 : n0 ≤ T2.heap.size := Nat.le_trans Z_1 K2.1
  show D (T2.setTop (mkF m 22 #[.val (.int p1), .val (.int p2), .val (.int p3), .val (.int x3_4), .val (.int x4_14), .unset, .unset, .unset, .unset] [(.ref b1)]))
  refine A (XS.astore X2.here hx rfl (hb hby at_22) rfl rfl (l' := #[.val (.int p1), .val (.int p2), .val (.int p3), .val (.int x3_4), .val (.int x4_14), .val (.ref b1), .unset, .unset, .unset]) rfl) ?_
  show D (T2.setTop (mkF m 24 #[.val (.int p1), .val (.int p2), .val (.int p3), .val (.int x3_4), .val (.int x4_14), .val (.ref b1), .unset, .unset, .unset] []))
  refine A (XS.aload X2.here hx rfl (hb hby at_24) rfl rfl) ?_
  show D (T2.setTop (mkF m 26 #[.val (.int p1), .val (.int p2), .val (.int p3), .val (.int x3_4), .val (.int x4_14), .val (.ref b1), .unset, .unset, .unset] [(.ref b1)]))
  refine Adv.callU A X2 hx hZ hown (hw _ (List.mem_of_getElem? (i := 26) rfl)) (hw _ (List.mem_of_getElem? (i := 27) rfl)) (hw _ (List.mem_of_getElem? (i := 28) rfl)) (hw _ (List.mem_of_getElem? (i := 30) rfl)) (hw _ (List.mem_of_getElem? (i := 29) rfl)) (hw _ (List.mem_of_getElem? (i := 10) rfl)) (hw _ (List.mem_of_getElem? (i := 31) rfl)) rfl E_b1_2 (rm5 l Z a0 hw [] b1 T2.heap n0 (-1 : Int32) (0 : Int32) tg tk Z_2 g_b1 E_b1_2 F2_row F2_targets F2_size F2_takenInRow (0 : Int32) (by decide)) 0 (g := (mkF m 26 #[.val (.int p1), .val (.int p2), .val (.int p3), .val (.int x3_4), .val (.int x4_14), .val (.ref b1), .unset, .unset, .unset] [(.ref b1)])) rfl (by rw [hml]; rfl) [] [] rfl (lenOf pd0_1 rfl) rfl (by show 2 * 0 + _ ≤ _; exact Nat.le_of_eq rfl) (hb hby at_26) (by decide) (by decide) (by decide) (by decide) (by decide) ?_
  rintro T3 L3 _ X3 ⟨rfl, N3_q, K3, -, F3_row, F3_targets, F3_size, F3_takenInRow⟩
  have N3 := Fr.app N2 N3_q
  have E_b1_3 := E_b1_2.keep K3
  have V_tg_3 := V2_q.keep K3 (ninS (Ne.symm ne_b1_tg) nin0)
  have EA_tg_3 := EA2_q.keep K3
  have V_tk_3 := Vk2_q.keep K3 (ninS (Ne.symm ne_b1_tk) nin0)
  have Z_3 : n0 ≤ T3.heap.size := Nat.le_trans Z_2 K3.1
  show D (T3.setTop (mkF m 29 #[.val (.int p1), .val (.int p2), .val (.int p3), .val (.int x3_4), .val (.int x4_14), .val (.ref b1), .unset, .unset, .unset] []))
  refine A (XS.iload X3.here hx rfl (hb hby at_29) rfl) ?_
  show D (T3.setTop (mkF m 31 #[.val (.int p1), .val (.int p2), .val (.int p3), .val (.int x3_4), .val (.int x4_14), .val (.ref b1), .unset, .unset, .unset] [(.int x4_14)]))
  refine A (XS.iconst X3.here hx rfl (hb hby at_31)) ?_
  show D (T3.setTop (mkF m 32 #[.val (.int p1), .val (.int p2), .val (.int p3), .val (.int x3_4), .val (.int x4_14), .val (.ref b1), .unset, .unset, .unset] [(.int (1 : Int32)), (.int x4_14)]))
  have HJ4 : ∀ (ft41 : Nat → Int32) (fg41 : Nat → Int32) (sz41 : Int32) (T4 : State) (H4 : Heap) (lc4 : List Loc), (own_sz sz41 k 1) → (1 ≤ k → ft41 0 = (0 : Int32)) → (∀ i, 1 ≤ i → ft41 i = (-1 : Int32)) → (Stand p l e room_1 s m #[(.int p1), (.int p2), (.int p3)] below meth c T4 lc4 3 10) → (T4.heap = H4) → (Fr n0 lc4) → (n0 ≤ H4.size) → (Exa Z H4 b1 "com/example/wayfare/wayfare/exec/RowTargets$Marked") → (ArI Z H4 tg .int n fg41) → (Exa Z H4 tg "[I") → (ArI Z H4 tk .int n ft41) → (Fld Z H4 b1 "com/example/wayfare/wayfare/exec/RowTargets" "row" "I" (.int (0 : Int32))) → (Fld Z H4 b1 "com/example/wayfare/wayfare/exec/RowTargets" "targets" "[I" (.ref tg)) → (Fld Z H4 b1 "com/example/wayfare/wayfare/exec/RowTargets" "size" "I" (.int sz41)) → (Fld Z H4 b1 "com/example/wayfare/wayfare/exec/RowTargets$Marked" "takenInRow" "[I" (.ref tk)) → D (T4.setTop (mkF m 41 #[.val (.int p1), .val (.int p2), .val (.int p3), .val (.int x3_4), .val (.int x4_14), .val (.ref b1), .unset, .unset, .unset] [])) := by
    intro ft41 fg41 sz41 T4 H4 lc4 hs41 hf41 hr41 X4 e4 N4 Zq4 E_b1_4 V_tg_4 EA_tg_4 V_tk_4 F_row_b1_4 F_targets_b1_4 F_size_b1_4 F_takenInRow_b1_4
    show D (T4.setTop (mkF m 41 #[.val (.int p1), .val (.int p2), .val (.int p3), .val (.int x3_4), .val (.int x4_14), .val (.ref b1), .unset, .unset, .unset] []))
    refine A (XS.iload X4.here hx rfl (hb hby at_41) rfl) ?_
    show D (T4.setTop (mkF m 43 #[.val (.int p1), .val (.int p2), .val (.int p3), .val (.int x3_4), .val (.int x4_14), .val (.ref b1), .unset, .unset, .unset] [(.int x4_14)]))
    refine A (XS.iconst X4.here hx rfl (hb hby at_43)) ?_
    show D (T4.setTop (mkF m 44 #[.val (.int p1), .val (.int p2), .val (.int p3), .val (.int x3_4), .val (.int x4_14), .val (.ref b1), .unset, .unset, .unset] [(.int (2 : Int32)), (.int x4_14)]))
    have HJ5 : ∀ (ft53 : Nat → Int32) (fg53 : Nat → Int32) (sz53 : Int32) (T5 : State) (H5 : Heap) (lc5 : List Loc), (own_sz sz53 k 2) → (1 ≤ k → ft53 0 = (0 : Int32)) → (∀ i, 2 ≤ i → ft53 i = (-1 : Int32)) → (Stand p l e room_1 s m #[(.int p1), (.int p2), (.int p3)] below meth c T5 lc5 3 10) → (T5.heap = H5) → (Fr n0 lc5) → (n0 ≤ H5.size) → (Exa Z H5 b1 "com/example/wayfare/wayfare/exec/RowTargets$Marked") → (ArI Z H5 tg .int n fg53) → (Exa Z H5 tg "[I") → (ArI Z H5 tk .int n ft53) → (Fld Z H5 b1 "com/example/wayfare/wayfare/exec/RowTargets" "row" "I" (.int (0 : Int32))) → (Fld Z H5 b1 "com/example/wayfare/wayfare/exec/RowTargets" "targets" "[I" (.ref tg)) → (Fld Z H5 b1 "com/example/wayfare/wayfare/exec/RowTargets" "size" "I" (.int sz53)) → (Fld Z H5 b1 "com/example/wayfare/wayfare/exec/RowTargets$Marked" "takenInRow" "[I" (.ref tk)) → D (T5.setTop (mkF m 53 #[.val (.int p1), .val (.int p2), .val (.int p3), .val (.int x3_4), .val (.int x4_14), .val (.ref b1), .unset, .unset, .unset] [])) := by
      intro ft53 fg53 sz53 T5 H5 lc5 hs53 hf53 hr53 X5 e5 N5 Zq5 E_b1_5 V_tg_5 EA_tg_5 V_tk_5 F_row_b1_5 F_targets_b1_5 F_size_b1_5 F_takenInRow_b1_5
      show D (T5.setTop (mkF m 53 #[.val (.int p1), .val (.int p2), .val (.int p3), .val (.int x3_4), .val (.int x4_14), .val (.ref b1), .unset, .unset, .unset] []))
      refine A (XS.iload X5.here hx rfl (hb hby at_53) rfl) ?_
      show D (T5.setTop (mkF m 55 #[.val (.int p1), .val (.int p2), .val (.int p3), .val (.int x3_4), .val (.int x4_14), .val (.ref b1), .unset, .unset, .unset] [(.int x4_14)]))
      refine A (XS.iconst X5.here hx rfl (hb hby at_55)) ?_
      show D (T5.setTop (mkF m 56 #[.val (.int p1), .val (.int p2), .val (.int p3), .val (.int x3_4), .val (.int x4_14), .val (.ref b1), .unset, .unset, .unset] [(.int (3 : Int32)), (.int x4_14)]))
      have HJ6 : ∀ (ft65 : Nat → Int32) (fg65 : Nat → Int32) (sz65 : Int32) (T6 : State) (H6 : Heap) (lc6 : List Loc), (own_sz sz65 k 3) → (1 ≤ k → ft65 0 = (0 : Int32)) → (∀ i, 3 ≤ i → ft65 i = (-1 : Int32)) → (Stand p l e room_1 s m #[(.int p1), (.int p2), (.int p3)] below meth c T6 lc6 3 10) → (T6.heap = H6) → (Fr n0 lc6) → (n0 ≤ H6.size) → (Exa Z H6 b1 "com/example/wayfare/wayfare/exec/RowTargets$Marked") → (ArI Z H6 tg .int n fg65) → (Exa Z H6 tg "[I") → (ArI Z H6 tk .int n ft65) → (Fld Z H6 b1 "com/example/wayfare/wayfare/exec/RowTargets" "row" "I" (.int (0 : Int32))) → (Fld Z H6 b1 "com/example/wayfare/wayfare/exec/RowTargets" "targets" "[I" (.ref tg)) → (Fld Z H6 b1 "com/example/wayfare/wayfare/exec/RowTargets" "size" "I" (.int sz65)) → (Fld Z H6 b1 "com/example/wayfare/wayfare/exec/RowTargets$Marked" "takenInRow" "[I" (.ref tk)) → D (T6.setTop (mkF m 65 #[.val (.int p1), .val (.int p2), .val (.int p3), .val (.int x3_4), .val (.int x4_14), .val (.ref b1), .unset, .unset, .unset] [])) := by
        intro ft65 fg65 sz65 T6 H6 lc6 hs65 hf65 hr65 X6 e6 N6 Zq6 E_b1_6 V_tg_6 EA_tg_6 V_tk_6 F_row_b1_6 F_targets_b1_6 F_size_b1_6 F_takenInRow_b1_6
        show D (T6.setTop (mkF m 65 #[.val (.int p1), .val (.int p2), .val (.int p3), .val (.int x3_4), .val (.int x4_14), .val (.ref b1), .unset, .unset, .unset] []))
        refine A (XS.iloadN X6.here hx rfl (hb hby at_65) rfl) ?_
        show D (T6.setTop (mkF m 66 #[.val (.int p1), .val (.int p2), .val (.int p3), .val (.int x3_4), .val (.int x4_14), .val (.ref b1), .unset, .unset, .unset] [(.int p3)]))
        refine A (XS.iconst X6.here hx rfl (hb hby at_66)) ?_
        show D (T6.setTop (mkF m 67 #[.val (.int p1), .val (.int p2), .val (.int p3), .val (.int x3_4), .val (.int x4_14), .val (.ref b1), .unset, .unset, .unset] [(.int (4 : Int32)), (.int p3)]))
        refine A (XS.iand X6.here hx rfl (hb hby at_67) rfl) ?_
        show D (T6.setTop (mkF m 68 #[.val (.int p1), .val (.int p2), .val (.int p3), .val (.int x3_4), .val (.int x4_14), .val (.ref b1), .unset, .unset, .unset] [(.int (p3 &&& (4 : Int32)))]))
        have HJ7 : ∀  (T7 : State) (H7 : Heap) (lc7 : List Loc), (Stand p l e room_1 s m #[(.int p1), (.int p2), (.int p3)] below meth c T7 lc7 3 10) → (T7.heap = H7) → (Fr n0 lc7) → (n0 ≤ H7.size) → (Exa Z H7 b1 "com/example/wayfare/wayfare/exec/RowTargets$Marked") → (ArI Z H7 tg .int n fg65) → (Exa Z H7 tg "[I") → (ArI Z H7 tk .int n ft65) → (Fld Z H7 b1 "com/example/wayfare/wayfare/exec/RowTargets" "row" "I" (.int (0 : Int32))) → (Fld Z H7 b1 "com/example/wayfare/wayfare/exec/RowTargets" "targets" "[I" (.ref tg)) → (Fld Z H7 b1 "com/example/wayfare/wayfare/exec/RowTargets" "size" "I" (.int sz65)) → (Fld Z H7 b1 "com/example/wayfare/wayfare/exec/RowTargets$Marked" "takenInRow" "[I" (.ref tk)) → D (T7.setTop (mkF m 83 #[.val (.int p1), .val (.int p2), .val (.int p3), .val (.int x3_4), .val (.int x4_14), .val (.ref b1), .unset, .unset, .unset] [])) := by
          intro  T7 H7 lc7 X7 e7 N7 Zq7 E_b1_7 V_tg_7 EA_tg_7 V_tk_7 F_row_b1_7 F_targets_b1_7 F_size_b1_7 F_takenInRow_b1_7
          show D (T7.setTop (mkF m 83 #[.val (.int p1), .val (.int p2), .val (.int p3), .val (.int x3_4), .val (.int x4_14), .val (.ref b1), .unset, .unset, .unset] []))
          refine A (XS.aload X7.here hx rfl (hb hby at_83) rfl rfl) ?_
          show D (T7.setTop (mkF m 85 #[.val (.int p1), .val (.int p2), .val (.int p3), .val (.int x3_4), .val (.int x4_14), .val (.ref b1), .unset, .unset, .unset] [(.ref b1)]))
          refine Adv.callU A X7 hx hZ hown (hw _ (List.mem_of_getElem? (i := 34) rfl)) (hw _ (List.mem_of_getElem? (i := 35) rfl)) (hw _ (List.mem_of_getElem? (i := 36) rfl)) (hw _ (List.mem_of_getElem? (i := 38) rfl)) (hw _ (List.mem_of_getElem? (i := 37) rfl)) (hw _ (List.mem_of_getElem? (i := 10) rfl)) (hw _ (List.mem_of_getElem? (i := 39) rfl)) e7 E_b1_7 (rm6 l Z a0 hw [] b1 H7 n0 (0 : Int32) sz65 tg tk Zq7 g_b1 E_b1_7 F_row_b1_7 F_targets_b1_7 F_size_b1_7 F_takenInRow_b1_7 n fg65 V_tg_7) 0 (g := (mkF m 85 #[.val (.int p1), .val (.int p2), .val (.int p3), .val (.int x3_4), .val (.int x4_14), .val (.ref b1), .unset, .unset, .unset] [(.ref b1)])) rfl (by rw [hml]; rfl) [] [] rfl (lenOf pd0_2 rfl) rfl (by show 2 * 0 + _ ≤ _; exact Nat.le_of_eq rfl) (hb hby at_85) (by decide) (by decide) (by decide) (by decide) (by decide) ?_
          rintro T8 L8 _ X8 ⟨rfl, N8_q, e8⟩
          have N8 := Fr.app N7 N8_q
          show D (T8.setTop (mkF m 88 #[.val (.int p1), .val (.int p2), .val (.int p3), .val (.int x3_4), .val (.int x4_14), .val (.ref b1), .unset, .unset, .unset] [(.int (own_full sz65 n))]))
          refine A (XS.iload X8.here hx rfl (hb hby at_88) rfl) ?_
          show D (T8.setTop (mkF m 90 #[.val (.int p1), .val (.int p2), .val (.int p3), .val (.int x3_4), .val (.int x4_14), .val (.ref b1), .unset, .unset, .unset] [(.int x4_14), (.int (own_full sz65 n))]))
          refine A (XS.iloadN X8.here hx rfl (hb hby at_90) rfl) ?_
          show D (T8.setTop (mkF m 91 #[.val (.int p1), .val (.int p2), .val (.int p3), .val (.int x3_4), .val (.int x4_14), .val (.ref b1), .unset, .unset, .unset] [(.int x3_4), (.int x4_14), (.int (own_full sz65 n))]))
          suffices Km99_9 : ∀ (v99s0 : Int32), v99s0 = (if x4_14 = x3_4 then (1 : Int32) else (0 : Int32)) → D (T8.setTop (mkF m 99 #[.val (.int p1), .val (.int p2), .val (.int p3), .val (.int x3_4), .val (.int x4_14), .val (.ref b1), .unset, .unset, .unset] [(.int v99s0), (.int (own_full sz65 n))])) by
            by_cases c91_0 : x4_14 = x3_4
            · refine A (XS.icmpNo X8.here hx rfl (hb hby at_91) rfl (teq c91_0).2) ?_
              show D (T8.setTop (mkF m 94 #[.val (.int p1), .val (.int p2), .val (.int p3), .val (.int x3_4), .val (.int x4_14), .val (.ref b1), .unset, .unset, .unset] [(.int (own_full sz65 n))]))
              refine A (XS.iconst X8.here hx rfl (hb hby at_94)) ?_
              show D (T8.setTop (mkF m 95 #[.val (.int p1), .val (.int p2), .val (.int p3), .val (.int x3_4), .val (.int x4_14), .val (.ref b1), .unset, .unset, .unset] [(.int (1 : Int32)), (.int (own_full sz65 n))]))
              refine A (XS.goto X8.here hx rfl (pc0 := 95) (pc' := 99) rfl (hb hby at_95) (by decide) (by decide)) ?_
              show D (T8.setTop (mkF m 99 #[.val (.int p1), .val (.int p2), .val (.int p3), .val (.int x3_4), .val (.int x4_14), .val (.ref b1), .unset, .unset, .unset] [(.int (1 : Int32)), (.int (own_full sz65 n))]))
              exact Km99_9 _ ((if_pos c91_0)).symm
            · refine A (XS.icmpYes X8.here hx rfl (pc0 := 91) (pc' := 98) rfl (hb hby at_91) rfl (feq c91_0).2 (by decide) (by decide)) ?_
              show D (T8.setTop (mkF m 98 #[.val (.int p1), .val (.int p2), .val (.int p3), .val (.int x3_4), .val (.int x4_14), .val (.ref b1), .unset, .unset, .unset] [(.int (own_full sz65 n))]))
              refine A (XS.iconst X8.here hx rfl (hb hby at_98)) ?_
              show D (T8.setTop (mkF m 99 #[.val (.int p1), .val (.int p2), .val (.int p3), .val (.int x3_4), .val (.int x4_14), .val (.ref b1), .unset, .unset, .unset] [(.int (0 : Int32)), (.int (own_full sz65 n))]))
              exact Km99_9 _ ((if_neg c91_0)).symm
          intro v99s0 hv99s0
          show D (T8.setTop (mkF m 99 #[.val (.int p1), .val (.int p2), .val (.int p3), .val (.int x3_4), .val (.int x4_14), .val (.ref b1), .unset, .unset, .unset] [(.int v99s0), (.int (own_full sz65 n))]))
          suffices Km107_10 : ∀ (v107s0 : Int32), v107s0 = (if (own_full sz65 n) = v99s0 then (1 : Int32) else (0 : Int32)) → D (T8.setTop (mkF m 107 #[.val (.int p1), .val (.int p2), .val (.int p3), .val (.int x3_4), .val (.int x4_14), .val (.ref b1), .unset, .unset, .unset] [(.int v107s0)])) by
            by_cases c99_0 : (own_full sz65 n) = v99s0
            · refine A (XS.icmpNo X8.here hx rfl (hb hby at_99) rfl (teq c99_0).2) ?_
              show D (T8.setTop (mkF m 102 #[.val (.int p1), .val (.int p2), .val (.int p3), .val (.int x3_4), .val (.int x4_14), .val (.ref b1), .unset, .unset, .unset] []))
              refine A (XS.iconst X8.here hx rfl (hb hby at_102)) ?_
              show D (T8.setTop (mkF m 103 #[.val (.int p1), .val (.int p2), .val (.int p3), .val (.int x3_4), .val (.int x4_14), .val (.ref b1), .unset, .unset, .unset] [(.int (1 : Int32))]))
              refine A (XS.goto X8.here hx rfl (pc0 := 103) (pc' := 107) rfl (hb hby at_103) (by decide) (by decide)) ?_
              show D (T8.setTop (mkF m 107 #[.val (.int p1), .val (.int p2), .val (.int p3), .val (.int x3_4), .val (.int x4_14), .val (.ref b1), .unset, .unset, .unset] [(.int (1 : Int32))]))
              exact Km107_10 _ ((if_pos c99_0)).symm
            · refine A (XS.icmpYes X8.here hx rfl (pc0 := 99) (pc' := 106) rfl (hb hby at_99) rfl (feq c99_0).2 (by decide) (by decide)) ?_
              show D (T8.setTop (mkF m 106 #[.val (.int p1), .val (.int p2), .val (.int p3), .val (.int x3_4), .val (.int x4_14), .val (.ref b1), .unset, .unset, .unset] []))
              refine A (XS.iconst X8.here hx rfl (hb hby at_106)) ?_
              show D (T8.setTop (mkF m 107 #[.val (.int p1), .val (.int p2), .val (.int p3), .val (.int x3_4), .val (.int x4_14), .val (.ref b1), .unset, .unset, .unset] [(.int (0 : Int32))]))
              exact Km107_10 _ ((if_neg c99_0)).symm
          intro v107s0 hv107s0
          show D (T8.setTop (mkF m 107 #[.val (.int p1), .val (.int p2), .val (.int p3), .val (.int x3_4), .val (.int x4_14), .val (.ref b1), .unset, .unset, .unset] [(.int v107s0)]))
          refine A (XS.istore X8.here hx rfl (hb hby at_107) rfl (l' := #[.val (.int p1), .val (.int p2), .val (.int p3), .val (.int x3_4), .val (.int x4_14), .val (.ref b1), .val (.int v107s0), .unset, .unset]) rfl) ?_
          show D (T8.setTop (mkF m 109 #[.val (.int p1), .val (.int p2), .val (.int p3), .val (.int x3_4), .val (.int x4_14), .val (.ref b1), .val (.int v107s0), .unset, .unset] []))
          refine A (XS.iloadN X8.here hx rfl (hb hby at_109) rfl) ?_
          show D (T8.setTop (mkF m 110 #[.val (.int p1), .val (.int p2), .val (.int p3), .val (.int x3_4), .val (.int x4_14), .val (.ref b1), .val (.int v107s0), .unset, .unset] [(.int p3)]))
          refine A (XS.iconst X8.here hx rfl (hb hby at_110)) ?_
          show D (T8.setTop (mkF m 111 #[.val (.int p1), .val (.int p2), .val (.int p3), .val (.int x3_4), .val (.int x4_14), .val (.ref b1), .val (.int v107s0), .unset, .unset] [(.int (3 : Int32)), (.int p3)]))
          refine A (XS.iand X8.here hx rfl (hb hby at_111) rfl) ?_
          show D (T8.setTop (mkF m 112 #[.val (.int p1), .val (.int p2), .val (.int p3), .val (.int x3_4), .val (.int x4_14), .val (.ref b1), .val (.int v107s0), .unset, .unset] [(.int (p3 &&& (3 : Int32)))]))
          refine A (XS.istore X8.here hx rfl (hb hby at_112) rfl (l' := #[.val (.int p1), .val (.int p2), .val (.int p3), .val (.int x3_4), .val (.int x4_14), .val (.ref b1), .val (.int v107s0), .val (.int (p3 &&& (3 : Int32))), .unset]) rfl) ?_
          show D (T8.setTop (mkF m 114 #[.val (.int p1), .val (.int p2), .val (.int p3), .val (.int x3_4), .val (.int x4_14), .val (.ref b1), .val (.int v107s0), .val (.int (p3 &&& (3 : Int32))), .unset] []))
          suffices Kx7_114 : ∀ x7_114 : Int32, x7_114 = (p3 &&& (3 : Int32)) → D (T8.setTop (mkF m 114 #[.val (.int p1), .val (.int p2), .val (.int p3), .val (.int x3_4), .val (.int x4_14), .val (.ref b1), .val (.int v107s0), .val (.int x7_114), .unset] [])) from Kx7_114 _ rfl
          intro x7_114 hx7_114
          refine A (XS.iload X8.here hx rfl (hb hby at_114) rfl) ?_
          show D (T8.setTop (mkF m 116 #[.val (.int p1), .val (.int p2), .val (.int p3), .val (.int x3_4), .val (.int x4_14), .val (.ref b1), .val (.int v107s0), .val (.int x7_114), .unset] [(.int x7_114)]))
          refine A (XS.iconst X8.here hx rfl (hb hby at_116)) ?_
          show D (T8.setTop (mkF m 117 #[.val (.int p1), .val (.int p2), .val (.int p3), .val (.int x3_4), .val (.int x4_14), .val (.ref b1), .val (.int v107s0), .val (.int x7_114), .unset] [(.int (1 : Int32)), (.int x7_114)]))
          by_cases c117_11 : x7_114 = (1 : Int32)
          · refine A (XS.icmpNo X8.here hx rfl (hb hby at_117) rfl (teq c117_11).2) ?_
            show D (T8.setTop (mkF m 120 #[.val (.int p1), .val (.int p2), .val (.int p3), .val (.int x3_4), .val (.int x4_14), .val (.ref b1), .val (.int v107s0), .val (.int x7_114), .unset] []))
            refine A (XS.aload X8.here hx rfl (hb hby at_120) rfl rfl) ?_
            show D (T8.setTop (mkF m 122 #[.val (.int p1), .val (.int p2), .val (.int p3), .val (.int x3_4), .val (.int x4_14), .val (.ref b1), .val (.int v107s0), .val (.int x7_114), .unset] [(.ref b1)]))
            refine Adv.callU A X8 hx hZ hown (hw _ (List.mem_of_getElem? (i := 40) rfl)) (hw _ (List.mem_of_getElem? (i := 41) rfl)) (hw _ (List.mem_of_getElem? (i := 42) rfl)) (hw _ (List.mem_of_getElem? (i := 44) rfl)) (hw _ (List.mem_of_getElem? (i := 43) rfl)) (hw _ (List.mem_of_getElem? (i := 10) rfl)) (hw _ (List.mem_of_getElem? (i := 45) rfl)) e8 E_b1_7 (rm7 l Z a0 hw [] b1 H7 n0 (0 : Int32) sz65 tg tk Zq7 g_b1 E_b1_7 F_row_b1_7 F_targets_b1_7 F_size_b1_7 F_takenInRow_b1_7 n fg65 hn4 V_tg_7 EA_tg_7) 0 (g := (mkF m 122 #[.val (.int p1), .val (.int p2), .val (.int p3), .val (.int x3_4), .val (.int x4_14), .val (.ref b1), .val (.int v107s0), .val (.int x7_114), .unset] [(.ref b1)])) rfl (by rw [hml]; rfl) [] [] rfl (lenOf pd0_1 rfl) rfl (by show 2 * 0 + _ ≤ _; exact Nat.le_of_eq rfl) (hb hby at_122) (by decide) (by decide) (by decide) (by decide) (by decide) ?_
            rintro T12 L12 _ X12 ⟨rfl, tn12, fz12, N12_q, K12, -, F12_row, F12_targets, F12_size, F12_takenInRow, V12_q⟩
            have N12 := Fr.app N8 N12_q
            have E_b1_12 := E_b1_7.keep K12
            have Z_12 : n0 ≤ T12.heap.size := Nat.le_trans Zq7 K12.1
            show D (T12.setTop (mkF m 125 #[.val (.int p1), .val (.int p2), .val (.int p3), .val (.int x3_4), .val (.int x4_14), .val (.ref b1), .val (.int v107s0), .val (.int x7_114), .unset] []))
            refine A (XS.iload X12.here hx rfl (hb hby at_125) rfl) ?_
            show D (T12.setTop (mkF m 127 #[.val (.int p1), .val (.int p2), .val (.int p3), .val (.int x3_4), .val (.int x4_14), .val (.ref b1), .val (.int v107s0), .val (.int x7_114), .unset] [(.int x4_14)]))
            refine A (XS.iconst X12.here hx rfl (hb hby at_127)) ?_
            show D (T12.setTop (mkF m 128 #[.val (.int p1), .val (.int p2), .val (.int p3), .val (.int x3_4), .val (.int x4_14), .val (.ref b1), .val (.int v107s0), .val (.int x7_114), .unset] [(.int (2 : Int32)), (.int x4_14)]))
            refine A (XS.iloadN X12.here hx rfl (hb hby at_128) rfl) ?_
            show D (T12.setTop (mkF m 129 #[.val (.int p1), .val (.int p2), .val (.int p3), .val (.int x3_4), .val (.int x4_14), .val (.ref b1), .val (.int v107s0), .val (.int x7_114), .unset] [(.int x3_4), (.int (2 : Int32)), (.int x4_14)]))
            refine A (XS.imul X12.here hx rfl (hb hby at_129) rfl) ?_
            show D (T12.setTop (mkF m 130 #[.val (.int p1), .val (.int p2), .val (.int p3), .val (.int x3_4), .val (.int x4_14), .val (.ref b1), .val (.int v107s0), .val (.int x7_114), .unset] [(.int ((2 : Int32) * x3_4)), (.int x4_14)]))
            suffices Km138_13 : ∀ (v138s0 : Int32), v138s0 = (if x4_14 = ((2 : Int32) * x3_4) then (1 : Int32) else (0 : Int32)) → D (T12.setTop (mkF m 138 #[.val (.int p1), .val (.int p2), .val (.int p3), .val (.int x3_4), .val (.int x4_14), .val (.ref b1), .val (.int v107s0), .val (.int x7_114), .unset] [(.int v138s0)])) by
              by_cases c130_1 : x4_14 = ((2 : Int32) * x3_4)
              · refine A (XS.icmpNo X12.here hx rfl (hb hby at_130) rfl (teq c130_1).2) ?_
                show D (T12.setTop (mkF m 133 #[.val (.int p1), .val (.int p2), .val (.int p3), .val (.int x3_4), .val (.int x4_14), .val (.ref b1), .val (.int v107s0), .val (.int x7_114), .unset] []))
                refine A (XS.iconst X12.here hx rfl (hb hby at_133)) ?_
                show D (T12.setTop (mkF m 134 #[.val (.int p1), .val (.int p2), .val (.int p3), .val (.int x3_4), .val (.int x4_14), .val (.ref b1), .val (.int v107s0), .val (.int x7_114), .unset] [(.int (1 : Int32))]))
                refine A (XS.goto X12.here hx rfl (pc0 := 134) (pc' := 138) rfl (hb hby at_134) (by decide) (by decide)) ?_
                show D (T12.setTop (mkF m 138 #[.val (.int p1), .val (.int p2), .val (.int p3), .val (.int x3_4), .val (.int x4_14), .val (.ref b1), .val (.int v107s0), .val (.int x7_114), .unset] [(.int (1 : Int32))]))
                exact Km138_13 _ ((if_pos c130_1)).symm
              · refine A (XS.icmpYes X12.here hx rfl (pc0 := 130) (pc' := 137) rfl (hb hby at_130) rfl (feq c130_1).2 (by decide) (by decide)) ?_
                show D (T12.setTop (mkF m 137 #[.val (.int p1), .val (.int p2), .val (.int p3), .val (.int x3_4), .val (.int x4_14), .val (.ref b1), .val (.int v107s0), .val (.int x7_114), .unset] []))
                refine A (XS.iconst X12.here hx rfl (hb hby at_137)) ?_
                show D (T12.setTop (mkF m 138 #[.val (.int p1), .val (.int p2), .val (.int p3), .val (.int x3_4), .val (.int x4_14), .val (.ref b1), .val (.int v107s0), .val (.int x7_114), .unset] [(.int (0 : Int32))]))
                exact Km138_13 _ ((if_neg c130_1)).symm
            intro v138s0 hv138s0
            show D (T12.setTop (mkF m 138 #[.val (.int p1), .val (.int p2), .val (.int p3), .val (.int x3_4), .val (.int x4_14), .val (.ref b1), .val (.int v107s0), .val (.int x7_114), .unset] [(.int v138s0)]))
            refine A (XS.istore X12.here hx rfl (hb hby at_138) rfl (l' := #[.val (.int p1), .val (.int p2), .val (.int p3), .val (.int x3_4), .val (.int x4_14), .val (.ref b1), .val (.int v107s0), .val (.int x7_114), .val (.int v138s0)]) rfl) ?_
            show D (T12.setTop (mkF m 140 #[.val (.int p1), .val (.int p2), .val (.int p3), .val (.int x3_4), .val (.int x4_14), .val (.ref b1), .val (.int v107s0), .val (.int x7_114), .val (.int v138s0)] []))
            refine A (XS.goto X12.here hx rfl (pc0 := 140) (pc' := 181) rfl (hb hby at_140) (by decide) (by decide)) ?_
            show D (T12.setTop (mkF m 181 #[.val (.int p1), .val (.int p2), .val (.int p3), .val (.int x3_4), .val (.int x4_14), .val (.ref b1), .val (.int v107s0), .val (.int x7_114), .val (.int v138s0)] []))
            refine A (XS.iload X12.here hx rfl (hb hby at_181) rfl) ?_
            show D (T12.setTop (mkF m 183 #[.val (.int p1), .val (.int p2), .val (.int p3), .val (.int x3_4), .val (.int x4_14), .val (.ref b1), .val (.int v107s0), .val (.int x7_114), .val (.int v138s0)] [(.int v107s0)]))
            by_cases c183_14 : v107s0 = (0 : Int32)
            · refine A (XS.ifYes X12.here hx rfl (pc0 := 183) (pc' := 200) rfl (hb hby at_183) rfl ((if0 _ _).trans (teq c183_14).1) (by decide) (by decide)) ?_
              show D (T12.setTop (mkF m 200 #[.val (.int p1), .val (.int p2), .val (.int p3), .val (.int x3_4), .val (.int x4_14), .val (.ref b1), .val (.int v107s0), .val (.int x7_114), .val (.int v138s0)] []))
              refine A (XS.iconst X12.here hx rfl (hb hby at_200)) ?_
              show D (T12.setTop (mkF m 201 #[.val (.int p1), .val (.int p2), .val (.int p3), .val (.int x3_4), .val (.int x4_14), .val (.ref b1), .val (.int v107s0), .val (.int x7_114), .val (.int v138s0)] [(.int (0 : Int32))]))
              exfalso
              have hF : own_full sz65 n = v99s0 := by rw [hv99s0]; exact own_f1 (own_szk hs65 hkn hn4) hk4 hn hn4
              have h6 : v107s0 = 1 := by rw [hv107s0, if_pos hF]
              exact absurd c183_14 (by rw [h6]; decide)
            · refine A (XS.ifNo X12.here hx rfl (hb hby at_183) rfl ((if0 _ _).trans (feq c183_14).1)) ?_
              show D (T12.setTop (mkF m 186 #[.val (.int p1), .val (.int p2), .val (.int p3), .val (.int x3_4), .val (.int x4_14), .val (.ref b1), .val (.int v107s0), .val (.int x7_114), .val (.int v138s0)] []))
              refine A (XS.aload X12.here hx rfl (hb hby at_186) rfl rfl) ?_
              show D (T12.setTop (mkF m 188 #[.val (.int p1), .val (.int p2), .val (.int p3), .val (.int x3_4), .val (.int x4_14), .val (.ref b1), .val (.int v107s0), .val (.int x7_114), .val (.int v138s0)] [(.ref b1)]))
              refine Adv.callU A X12 hx hZ hown (hw _ (List.mem_of_getElem? (i := 34) rfl)) (hw _ (List.mem_of_getElem? (i := 35) rfl)) (hw _ (List.mem_of_getElem? (i := 36) rfl)) (hw _ (List.mem_of_getElem? (i := 38) rfl)) (hw _ (List.mem_of_getElem? (i := 37) rfl)) (hw _ (List.mem_of_getElem? (i := 10) rfl)) (hw _ (List.mem_of_getElem? (i := 39) rfl)) rfl E_b1_12 (rm6 l Z a0 hw [] b1 T12.heap n0 (0 : Int32) sz65 tn12 tk Z_12 g_b1 E_b1_12 F12_row F12_targets F12_size F12_takenInRow (2 * n) fz12 V12_q) 0 (g := (mkF m 188 #[.val (.int p1), .val (.int p2), .val (.int p3), .val (.int x3_4), .val (.int x4_14), .val (.ref b1), .val (.int v107s0), .val (.int x7_114), .val (.int v138s0)] [(.ref b1)])) rfl (by rw [hml]; rfl) [] [] rfl (lenOf pd0_2 rfl) rfl (by show 2 * 0 + _ ≤ _; exact Nat.le_of_eq rfl) (hb hby at_188) (by decide) (by decide) (by decide) (by decide) (by decide) ?_
              rintro T15 L15 _ X15 ⟨rfl, N15_q, e15⟩
              have N15 := Fr.app N12 N15_q
              show D (T15.setTop (mkF m 191 #[.val (.int p1), .val (.int p2), .val (.int p3), .val (.int x3_4), .val (.int x4_14), .val (.ref b1), .val (.int v107s0), .val (.int x7_114), .val (.int v138s0)] [(.int (own_full sz65 (2 * n)))]))
              refine A (XS.iload X15.here hx rfl (hb hby at_191) rfl) ?_
              show D (T15.setTop (mkF m 193 #[.val (.int p1), .val (.int p2), .val (.int p3), .val (.int x3_4), .val (.int x4_14), .val (.ref b1), .val (.int v107s0), .val (.int x7_114), .val (.int v138s0)] [(.int v138s0), (.int (own_full sz65 (2 * n)))]))
              suffices Km201_16 : ∀ (v201s0 : Int32), v201s0 = (if (own_full sz65 (2 * n)) = v138s0 then (1 : Int32) else (0 : Int32)) → D (T15.setTop (mkF m 201 #[.val (.int p1), .val (.int p2), .val (.int p3), .val (.int x3_4), .val (.int x4_14), .val (.ref b1), .val (.int v107s0), .val (.int x7_114), .val (.int v138s0)] [(.int v201s0)])) by
                by_cases c193_2 : (own_full sz65 (2 * n)) = v138s0
                · refine A (XS.icmpNo X15.here hx rfl (hb hby at_193) rfl (teq c193_2).2) ?_
                  show D (T15.setTop (mkF m 196 #[.val (.int p1), .val (.int p2), .val (.int p3), .val (.int x3_4), .val (.int x4_14), .val (.ref b1), .val (.int v107s0), .val (.int x7_114), .val (.int v138s0)] []))
                  refine A (XS.iconst X15.here hx rfl (hb hby at_196)) ?_
                  show D (T15.setTop (mkF m 197 #[.val (.int p1), .val (.int p2), .val (.int p3), .val (.int x3_4), .val (.int x4_14), .val (.ref b1), .val (.int v107s0), .val (.int x7_114), .val (.int v138s0)] [(.int (1 : Int32))]))
                  refine A (XS.goto X15.here hx rfl (pc0 := 197) (pc' := 201) rfl (hb hby at_197) (by decide) (by decide)) ?_
                  show D (T15.setTop (mkF m 201 #[.val (.int p1), .val (.int p2), .val (.int p3), .val (.int x3_4), .val (.int x4_14), .val (.ref b1), .val (.int v107s0), .val (.int x7_114), .val (.int v138s0)] [(.int (1 : Int32))]))
                  exact Km201_16 _ ((if_pos c193_2)).symm
                · refine A (XS.icmpYes X15.here hx rfl (pc0 := 193) (pc' := 200) rfl (hb hby at_193) rfl (feq c193_2).2 (by decide) (by decide)) ?_
                  show D (T15.setTop (mkF m 200 #[.val (.int p1), .val (.int p2), .val (.int p3), .val (.int x3_4), .val (.int x4_14), .val (.ref b1), .val (.int v107s0), .val (.int x7_114), .val (.int v138s0)] []))
                  refine A (XS.iconst X15.here hx rfl (hb hby at_200)) ?_
                  show D (T15.setTop (mkF m 201 #[.val (.int p1), .val (.int p2), .val (.int p3), .val (.int x3_4), .val (.int x4_14), .val (.ref b1), .val (.int v107s0), .val (.int x7_114), .val (.int v138s0)] [(.int (0 : Int32))]))
                  exact Km201_16 _ ((if_neg c193_2)).symm
              intro v201s0 hv201s0
              show D (T15.setTop (mkF m 201 #[.val (.int p1), .val (.int p2), .val (.int p3), .val (.int x3_4), .val (.int x4_14), .val (.ref b1), .val (.int v107s0), .val (.int x7_114), .val (.int v138s0)] [(.int v201s0)]))
              obtain rfl : v201s0 = (1 : Int32) := by
                rw [hv201s0, if_pos (by rw [hv138s0]; exact own_f2 (own_szk hs65 hkn hn4) hk4 hn hn4)]
              show D (T15.setTop (mkF m 201 #[.val (.int p1), .val (.int p2), .val (.int p3), .val (.int x3_4), .val (.int x4_14), .val (.ref b1), .val (.int v107s0), .val (.int x7_114), .val (.int v138s0)] [(.int (1 : Int32))]))
              exact F _ (Jvm.JW.ret X15 hlk (v := some (.int (1 : Int32))) (fun h => by rw [hrt] at h; cases h) (fun fs hr => retOut X15 hx hrt rfl (Or.inl ⟨rfl, Or.inr (Or.inl rfl), _, rfl⟩) (hb hby at_201) hr) rfl ⟨rfl, N15⟩ (by decide) (by decide))
          · refine A (XS.icmpYes X8.here hx rfl (pc0 := 117) (pc' := 143) rfl (hb hby at_117) rfl (feq c117_11).2 (by decide) (by decide)) ?_
            show D (T8.setTop (mkF m 143 #[.val (.int p1), .val (.int p2), .val (.int p3), .val (.int x3_4), .val (.int x4_14), .val (.ref b1), .val (.int v107s0), .val (.int x7_114), .unset] []))
            refine A (XS.iload X8.here hx rfl (hb hby at_143) rfl) ?_
            show D (T8.setTop (mkF m 145 #[.val (.int p1), .val (.int p2), .val (.int p3), .val (.int x3_4), .val (.int x4_14), .val (.ref b1), .val (.int v107s0), .val (.int x7_114), .unset] [(.int x7_114)]))
            refine A (XS.iconst X8.here hx rfl (hb hby at_145)) ?_
            show D (T8.setTop (mkF m 146 #[.val (.int p1), .val (.int p2), .val (.int p3), .val (.int x3_4), .val (.int x4_14), .val (.ref b1), .val (.int v107s0), .val (.int x7_114), .unset] [(.int (2 : Int32)), (.int x7_114)]))
            by_cases c146_17 : x7_114 = (2 : Int32)
            · refine A (XS.icmpNo X8.here hx rfl (hb hby at_146) rfl (teq c146_17).2) ?_
              show D (T8.setTop (mkF m 149 #[.val (.int p1), .val (.int p2), .val (.int p3), .val (.int x3_4), .val (.int x4_14), .val (.ref b1), .val (.int v107s0), .val (.int x7_114), .unset] []))
              refine A (XS.aload X8.here hx rfl (hb hby at_149) rfl rfl) ?_
              show D (T8.setTop (mkF m 151 #[.val (.int p1), .val (.int p2), .val (.int p3), .val (.int x3_4), .val (.int x4_14), .val (.ref b1), .val (.int v107s0), .val (.int x7_114), .unset] [(.ref b1)]))
              refine Adv.callU A X8 hx hZ hown (hw _ (List.mem_of_getElem? (i := 26) rfl)) (hw _ (List.mem_of_getElem? (i := 27) rfl)) (hw _ (List.mem_of_getElem? (i := 28) rfl)) (hw _ (List.mem_of_getElem? (i := 30) rfl)) (hw _ (List.mem_of_getElem? (i := 29) rfl)) (hw _ (List.mem_of_getElem? (i := 10) rfl)) (hw _ (List.mem_of_getElem? (i := 31) rfl)) e8 E_b1_7 (rm5 l Z a0 hw [] b1 H7 n0 (0 : Int32) sz65 tg tk Zq7 g_b1 E_b1_7 F_row_b1_7 F_targets_b1_7 F_size_b1_7 F_takenInRow_b1_7 (1 : Int32) (by decide)) 0 (g := (mkF m 151 #[.val (.int p1), .val (.int p2), .val (.int p3), .val (.int x3_4), .val (.int x4_14), .val (.ref b1), .val (.int v107s0), .val (.int x7_114), .unset] [(.ref b1)])) rfl (by rw [hml]; rfl) [] [] rfl (lenOf pd0_1 rfl) rfl (by show 2 * 0 + _ ≤ _; exact Nat.le_of_eq rfl) (hb hby at_151) (by decide) (by decide) (by decide) (by decide) (by decide) ?_
              rintro T18 L18 _ X18 ⟨rfl, N18_q, K18, -, F18_row, F18_targets, F18_size, F18_takenInRow⟩
              have N18 := Fr.app N8 N18_q
              have E_b1_18 := E_b1_7.keep K18
              have V_tg_18 := V_tg_7.keep K18 (ninS (Ne.symm ne_b1_tg) nin0)
              have EA_tg_18 := EA_tg_7.keep K18
              have V_tk_18 := V_tk_7.keep K18 (ninS (Ne.symm ne_b1_tk) nin0)
              have Z_18 : n0 ≤ T18.heap.size := Nat.le_trans Zq7 K18.1
              show D (T18.setTop (mkF m 154 #[.val (.int p1), .val (.int p2), .val (.int p3), .val (.int x3_4), .val (.int x4_14), .val (.ref b1), .val (.int v107s0), .val (.int x7_114), .unset] []))
              refine A (XS.iloadN X18.here hx rfl (hb hby at_154) rfl) ?_
              show D (T18.setTop (mkF m 155 #[.val (.int p1), .val (.int p2), .val (.int p3), .val (.int x3_4), .val (.int x4_14), .val (.ref b1), .val (.int v107s0), .val (.int x7_114), .unset] [(.int x3_4)]))
              suffices Km163_19 : ∀ (v163s0 : Int32), v163s0 = (if x3_4 = (0 : Int32) then (1 : Int32) else (0 : Int32)) → D (T18.setTop (mkF m 163 #[.val (.int p1), .val (.int p2), .val (.int p3), .val (.int x3_4), .val (.int x4_14), .val (.ref b1), .val (.int v107s0), .val (.int x7_114), .unset] [(.int v163s0)])) by
                by_cases c155_2 : x3_4 = (0 : Int32)
                · refine A (XS.ifNo X18.here hx rfl (hb hby at_155) rfl ((if0 _ _).trans (teq c155_2).2)) ?_
                  show D (T18.setTop (mkF m 158 #[.val (.int p1), .val (.int p2), .val (.int p3), .val (.int x3_4), .val (.int x4_14), .val (.ref b1), .val (.int v107s0), .val (.int x7_114), .unset] []))
                  refine A (XS.iconst X18.here hx rfl (hb hby at_158)) ?_
                  show D (T18.setTop (mkF m 159 #[.val (.int p1), .val (.int p2), .val (.int p3), .val (.int x3_4), .val (.int x4_14), .val (.ref b1), .val (.int v107s0), .val (.int x7_114), .unset] [(.int (1 : Int32))]))
                  refine A (XS.goto X18.here hx rfl (pc0 := 159) (pc' := 163) rfl (hb hby at_159) (by decide) (by decide)) ?_
                  show D (T18.setTop (mkF m 163 #[.val (.int p1), .val (.int p2), .val (.int p3), .val (.int x3_4), .val (.int x4_14), .val (.ref b1), .val (.int v107s0), .val (.int x7_114), .unset] [(.int (1 : Int32))]))
                  exact Km163_19 _ ((if_pos c155_2)).symm
                · refine A (XS.ifYes X18.here hx rfl (pc0 := 155) (pc' := 162) rfl (hb hby at_155) rfl ((if0 _ _).trans (feq c155_2).2) (by decide) (by decide)) ?_
                  show D (T18.setTop (mkF m 162 #[.val (.int p1), .val (.int p2), .val (.int p3), .val (.int x3_4), .val (.int x4_14), .val (.ref b1), .val (.int v107s0), .val (.int x7_114), .unset] []))
                  refine A (XS.iconst X18.here hx rfl (hb hby at_162)) ?_
                  show D (T18.setTop (mkF m 163 #[.val (.int p1), .val (.int p2), .val (.int p3), .val (.int x3_4), .val (.int x4_14), .val (.ref b1), .val (.int v107s0), .val (.int x7_114), .unset] [(.int (0 : Int32))]))
                  exact Km163_19 _ ((if_neg c155_2)).symm
              intro v163s0 hv163s0
              show D (T18.setTop (mkF m 163 #[.val (.int p1), .val (.int p2), .val (.int p3), .val (.int x3_4), .val (.int x4_14), .val (.ref b1), .val (.int v107s0), .val (.int x7_114), .unset] [(.int v163s0)]))
              refine A (XS.istore X18.here hx rfl (hb hby at_163) rfl (l' := #[.val (.int p1), .val (.int p2), .val (.int p3), .val (.int x3_4), .val (.int x4_14), .val (.ref b1), .val (.int v107s0), .val (.int x7_114), .val (.int v163s0)]) rfl) ?_
              show D (T18.setTop (mkF m 165 #[.val (.int p1), .val (.int p2), .val (.int p3), .val (.int x3_4), .val (.int x4_14), .val (.ref b1), .val (.int v107s0), .val (.int x7_114), .val (.int v163s0)] []))
              refine A (XS.goto X18.here hx rfl (pc0 := 165) (pc' := 181) rfl (hb hby at_165) (by decide) (by decide)) ?_
              show D (T18.setTop (mkF m 181 #[.val (.int p1), .val (.int p2), .val (.int p3), .val (.int x3_4), .val (.int x4_14), .val (.ref b1), .val (.int v107s0), .val (.int x7_114), .val (.int v163s0)] []))
              refine A (XS.iload X18.here hx rfl (hb hby at_181) rfl) ?_
              show D (T18.setTop (mkF m 183 #[.val (.int p1), .val (.int p2), .val (.int p3), .val (.int x3_4), .val (.int x4_14), .val (.ref b1), .val (.int v107s0), .val (.int x7_114), .val (.int v163s0)] [(.int v107s0)]))
              by_cases c183_20 : v107s0 = (0 : Int32)
              · refine A (XS.ifYes X18.here hx rfl (pc0 := 183) (pc' := 200) rfl (hb hby at_183) rfl ((if0 _ _).trans (teq c183_20).1) (by decide) (by decide)) ?_
                show D (T18.setTop (mkF m 200 #[.val (.int p1), .val (.int p2), .val (.int p3), .val (.int x3_4), .val (.int x4_14), .val (.ref b1), .val (.int v107s0), .val (.int x7_114), .val (.int v163s0)] []))
                refine A (XS.iconst X18.here hx rfl (hb hby at_200)) ?_
                show D (T18.setTop (mkF m 201 #[.val (.int p1), .val (.int p2), .val (.int p3), .val (.int x3_4), .val (.int x4_14), .val (.ref b1), .val (.int v107s0), .val (.int x7_114), .val (.int v163s0)] [(.int (0 : Int32))]))
                exfalso
                have hF : own_full sz65 n = v99s0 := by rw [hv99s0]; exact own_f1 (own_szk hs65 hkn hn4) hk4 hn hn4
                have h6 : v107s0 = 1 := by rw [hv107s0, if_pos hF]
                exact absurd c183_20 (by rw [h6]; decide)
              · refine A (XS.ifNo X18.here hx rfl (hb hby at_183) rfl ((if0 _ _).trans (feq c183_20).1)) ?_
                show D (T18.setTop (mkF m 186 #[.val (.int p1), .val (.int p2), .val (.int p3), .val (.int x3_4), .val (.int x4_14), .val (.ref b1), .val (.int v107s0), .val (.int x7_114), .val (.int v163s0)] []))
                refine A (XS.aload X18.here hx rfl (hb hby at_186) rfl rfl) ?_
                show D (T18.setTop (mkF m 188 #[.val (.int p1), .val (.int p2), .val (.int p3), .val (.int x3_4), .val (.int x4_14), .val (.ref b1), .val (.int v107s0), .val (.int x7_114), .val (.int v163s0)] [(.ref b1)]))
                refine Adv.callU A X18 hx hZ hown (hw _ (List.mem_of_getElem? (i := 34) rfl)) (hw _ (List.mem_of_getElem? (i := 35) rfl)) (hw _ (List.mem_of_getElem? (i := 36) rfl)) (hw _ (List.mem_of_getElem? (i := 38) rfl)) (hw _ (List.mem_of_getElem? (i := 37) rfl)) (hw _ (List.mem_of_getElem? (i := 10) rfl)) (hw _ (List.mem_of_getElem? (i := 39) rfl)) rfl E_b1_18 (rm6 l Z a0 hw [] b1 T18.heap n0 (1 : Int32) (0 : Int32) tg tk Z_18 g_b1 E_b1_18 F18_row F18_targets F18_size F18_takenInRow n fg65 V_tg_18) 0 (g := (mkF m 188 #[.val (.int p1), .val (.int p2), .val (.int p3), .val (.int x3_4), .val (.int x4_14), .val (.ref b1), .val (.int v107s0), .val (.int x7_114), .val (.int v163s0)] [(.ref b1)])) rfl (by rw [hml]; rfl) [] [] rfl (lenOf pd0_2 rfl) rfl (by show 2 * 0 + _ ≤ _; exact Nat.le_of_eq rfl) (hb hby at_188) (by decide) (by decide) (by decide) (by decide) (by decide) ?_
                rintro T21 L21 _ X21 ⟨rfl, N21_q, e21⟩
                have N21 := Fr.app N18 N21_q
                show D (T21.setTop (mkF m 191 #[.val (.int p1), .val (.int p2), .val (.int p3), .val (.int x3_4), .val (.int x4_14), .val (.ref b1), .val (.int v107s0), .val (.int x7_114), .val (.int v163s0)] [(.int (own_full (0 : Int32) n))]))
                refine A (XS.iload X21.here hx rfl (hb hby at_191) rfl) ?_
                show D (T21.setTop (mkF m 193 #[.val (.int p1), .val (.int p2), .val (.int p3), .val (.int x3_4), .val (.int x4_14), .val (.ref b1), .val (.int v107s0), .val (.int x7_114), .val (.int v163s0)] [(.int v163s0), (.int (own_full (0 : Int32) n))]))
                suffices Km201_22 : ∀ (v201s0a : Int32), v201s0a = (if (own_full (0 : Int32) n) = v163s0 then (1 : Int32) else (0 : Int32)) → D (T21.setTop (mkF m 201 #[.val (.int p1), .val (.int p2), .val (.int p3), .val (.int x3_4), .val (.int x4_14), .val (.ref b1), .val (.int v107s0), .val (.int x7_114), .val (.int v163s0)] [(.int v201s0a)])) by
                  by_cases c193_3 : (own_full (0 : Int32) n) = v163s0
                  · refine A (XS.icmpNo X21.here hx rfl (hb hby at_193) rfl (teq c193_3).2) ?_
                    show D (T21.setTop (mkF m 196 #[.val (.int p1), .val (.int p2), .val (.int p3), .val (.int x3_4), .val (.int x4_14), .val (.ref b1), .val (.int v107s0), .val (.int x7_114), .val (.int v163s0)] []))
                    refine A (XS.iconst X21.here hx rfl (hb hby at_196)) ?_
                    show D (T21.setTop (mkF m 197 #[.val (.int p1), .val (.int p2), .val (.int p3), .val (.int x3_4), .val (.int x4_14), .val (.ref b1), .val (.int v107s0), .val (.int x7_114), .val (.int v163s0)] [(.int (1 : Int32))]))
                    refine A (XS.goto X21.here hx rfl (pc0 := 197) (pc' := 201) rfl (hb hby at_197) (by decide) (by decide)) ?_
                    show D (T21.setTop (mkF m 201 #[.val (.int p1), .val (.int p2), .val (.int p3), .val (.int x3_4), .val (.int x4_14), .val (.ref b1), .val (.int v107s0), .val (.int x7_114), .val (.int v163s0)] [(.int (1 : Int32))]))
                    exact Km201_22 _ ((if_pos c193_3)).symm
                  · refine A (XS.icmpYes X21.here hx rfl (pc0 := 193) (pc' := 200) rfl (hb hby at_193) rfl (feq c193_3).2 (by decide) (by decide)) ?_
                    show D (T21.setTop (mkF m 200 #[.val (.int p1), .val (.int p2), .val (.int p3), .val (.int x3_4), .val (.int x4_14), .val (.ref b1), .val (.int v107s0), .val (.int x7_114), .val (.int v163s0)] []))
                    refine A (XS.iconst X21.here hx rfl (hb hby at_200)) ?_
                    show D (T21.setTop (mkF m 201 #[.val (.int p1), .val (.int p2), .val (.int p3), .val (.int x3_4), .val (.int x4_14), .val (.ref b1), .val (.int v107s0), .val (.int x7_114), .val (.int v163s0)] [(.int (0 : Int32))]))
                    exact Km201_22 _ ((if_neg c193_3)).symm
                intro v201s0a hv201s0a
                show D (T21.setTop (mkF m 201 #[.val (.int p1), .val (.int p2), .val (.int p3), .val (.int x3_4), .val (.int x4_14), .val (.ref b1), .val (.int v107s0), .val (.int x7_114), .val (.int v163s0)] [(.int v201s0a)]))
                obtain rfl : v201s0a = (1 : Int32) := by
                  rw [hv201s0a, if_pos (by rw [hv163s0]; exact own_f3 hn hn4)]
                show D (T21.setTop (mkF m 201 #[.val (.int p1), .val (.int p2), .val (.int p3), .val (.int x3_4), .val (.int x4_14), .val (.ref b1), .val (.int v107s0), .val (.int x7_114), .val (.int v163s0)] [(.int (1 : Int32))]))
                exact F _ (Jvm.JW.ret X21 hlk (v := some (.int (1 : Int32))) (fun h => by rw [hrt] at h; cases h) (fun fs hr => retOut X21 hx hrt rfl (Or.inl ⟨rfl, Or.inr (Or.inl rfl), _, rfl⟩) (hb hby at_201) hr) rfl ⟨rfl, N21⟩ (by decide) (by decide))
            · refine A (XS.icmpYes X8.here hx rfl (pc0 := 146) (pc' := 168) rfl (hb hby at_146) rfl (feq c146_17).2 (by decide) (by decide)) ?_
              show D (T8.setTop (mkF m 168 #[.val (.int p1), .val (.int p2), .val (.int p3), .val (.int x3_4), .val (.int x4_14), .val (.ref b1), .val (.int v107s0), .val (.int x7_114), .unset] []))
              refine A (XS.iload X8.here hx rfl (hb hby at_168) rfl) ?_
              show D (T8.setTop (mkF m 170 #[.val (.int p1), .val (.int p2), .val (.int p3), .val (.int x3_4), .val (.int x4_14), .val (.ref b1), .val (.int v107s0), .val (.int x7_114), .unset] [(.int x4_14)]))
              refine A (XS.iloadN X8.here hx rfl (hb hby at_170) rfl) ?_
              show D (T8.setTop (mkF m 171 #[.val (.int p1), .val (.int p2), .val (.int p3), .val (.int x3_4), .val (.int x4_14), .val (.ref b1), .val (.int v107s0), .val (.int x7_114), .unset] [(.int x3_4), (.int x4_14)]))
              suffices Km179_23 : ∀ (v179s0 : Int32), v179s0 = (if x4_14 = x3_4 then (1 : Int32) else (0 : Int32)) → D (T8.setTop (mkF m 179 #[.val (.int p1), .val (.int p2), .val (.int p3), .val (.int x3_4), .val (.int x4_14), .val (.ref b1), .val (.int v107s0), .val (.int x7_114), .unset] [(.int v179s0)])) by
                by_cases c171_2 : x4_14 = x3_4
                · refine A (XS.icmpNo X8.here hx rfl (hb hby at_171) rfl (teq c171_2).2) ?_
                  show D (T8.setTop (mkF m 174 #[.val (.int p1), .val (.int p2), .val (.int p3), .val (.int x3_4), .val (.int x4_14), .val (.ref b1), .val (.int v107s0), .val (.int x7_114), .unset] []))
                  refine A (XS.iconst X8.here hx rfl (hb hby at_174)) ?_
                  show D (T8.setTop (mkF m 175 #[.val (.int p1), .val (.int p2), .val (.int p3), .val (.int x3_4), .val (.int x4_14), .val (.ref b1), .val (.int v107s0), .val (.int x7_114), .unset] [(.int (1 : Int32))]))
                  refine A (XS.goto X8.here hx rfl (pc0 := 175) (pc' := 179) rfl (hb hby at_175) (by decide) (by decide)) ?_
                  show D (T8.setTop (mkF m 179 #[.val (.int p1), .val (.int p2), .val (.int p3), .val (.int x3_4), .val (.int x4_14), .val (.ref b1), .val (.int v107s0), .val (.int x7_114), .unset] [(.int (1 : Int32))]))
                  exact Km179_23 _ ((if_pos c171_2)).symm
                · refine A (XS.icmpYes X8.here hx rfl (pc0 := 171) (pc' := 178) rfl (hb hby at_171) rfl (feq c171_2).2 (by decide) (by decide)) ?_
                  show D (T8.setTop (mkF m 178 #[.val (.int p1), .val (.int p2), .val (.int p3), .val (.int x3_4), .val (.int x4_14), .val (.ref b1), .val (.int v107s0), .val (.int x7_114), .unset] []))
                  refine A (XS.iconst X8.here hx rfl (hb hby at_178)) ?_
                  show D (T8.setTop (mkF m 179 #[.val (.int p1), .val (.int p2), .val (.int p3), .val (.int x3_4), .val (.int x4_14), .val (.ref b1), .val (.int v107s0), .val (.int x7_114), .unset] [(.int (0 : Int32))]))
                  exact Km179_23 _ ((if_neg c171_2)).symm
              intro v179s0 hv179s0
              show D (T8.setTop (mkF m 179 #[.val (.int p1), .val (.int p2), .val (.int p3), .val (.int x3_4), .val (.int x4_14), .val (.ref b1), .val (.int v107s0), .val (.int x7_114), .unset] [(.int v179s0)]))
              refine A (XS.istore X8.here hx rfl (hb hby at_179) rfl (l' := #[.val (.int p1), .val (.int p2), .val (.int p3), .val (.int x3_4), .val (.int x4_14), .val (.ref b1), .val (.int v107s0), .val (.int x7_114), .val (.int v179s0)]) rfl) ?_
              show D (T8.setTop (mkF m 181 #[.val (.int p1), .val (.int p2), .val (.int p3), .val (.int x3_4), .val (.int x4_14), .val (.ref b1), .val (.int v107s0), .val (.int x7_114), .val (.int v179s0)] []))
              refine A (XS.iload X8.here hx rfl (hb hby at_181) rfl) ?_
              show D (T8.setTop (mkF m 183 #[.val (.int p1), .val (.int p2), .val (.int p3), .val (.int x3_4), .val (.int x4_14), .val (.ref b1), .val (.int v107s0), .val (.int x7_114), .val (.int v179s0)] [(.int v107s0)]))
              by_cases c183_24 : v107s0 = (0 : Int32)
              · refine A (XS.ifYes X8.here hx rfl (pc0 := 183) (pc' := 200) rfl (hb hby at_183) rfl ((if0 _ _).trans (teq c183_24).1) (by decide) (by decide)) ?_
                show D (T8.setTop (mkF m 200 #[.val (.int p1), .val (.int p2), .val (.int p3), .val (.int x3_4), .val (.int x4_14), .val (.ref b1), .val (.int v107s0), .val (.int x7_114), .val (.int v179s0)] []))
                refine A (XS.iconst X8.here hx rfl (hb hby at_200)) ?_
                show D (T8.setTop (mkF m 201 #[.val (.int p1), .val (.int p2), .val (.int p3), .val (.int x3_4), .val (.int x4_14), .val (.ref b1), .val (.int v107s0), .val (.int x7_114), .val (.int v179s0)] [(.int (0 : Int32))]))
                exfalso
                have hF : own_full sz65 n = v99s0 := by rw [hv99s0]; exact own_f1 (own_szk hs65 hkn hn4) hk4 hn hn4
                have h6 : v107s0 = 1 := by rw [hv107s0, if_pos hF]
                exact absurd c183_24 (by rw [h6]; decide)
              · refine A (XS.ifNo X8.here hx rfl (hb hby at_183) rfl ((if0 _ _).trans (feq c183_24).1)) ?_
                show D (T8.setTop (mkF m 186 #[.val (.int p1), .val (.int p2), .val (.int p3), .val (.int x3_4), .val (.int x4_14), .val (.ref b1), .val (.int v107s0), .val (.int x7_114), .val (.int v179s0)] []))
                refine A (XS.aload X8.here hx rfl (hb hby at_186) rfl rfl) ?_
                show D (T8.setTop (mkF m 188 #[.val (.int p1), .val (.int p2), .val (.int p3), .val (.int x3_4), .val (.int x4_14), .val (.ref b1), .val (.int v107s0), .val (.int x7_114), .val (.int v179s0)] [(.ref b1)]))
                refine Adv.callU A X8 hx hZ hown (hw _ (List.mem_of_getElem? (i := 34) rfl)) (hw _ (List.mem_of_getElem? (i := 35) rfl)) (hw _ (List.mem_of_getElem? (i := 36) rfl)) (hw _ (List.mem_of_getElem? (i := 38) rfl)) (hw _ (List.mem_of_getElem? (i := 37) rfl)) (hw _ (List.mem_of_getElem? (i := 10) rfl)) (hw _ (List.mem_of_getElem? (i := 39) rfl)) e8 E_b1_7 (rm6 l Z a0 hw [] b1 H7 n0 (0 : Int32) sz65 tg tk Zq7 g_b1 E_b1_7 F_row_b1_7 F_targets_b1_7 F_size_b1_7 F_takenInRow_b1_7 n fg65 V_tg_7) 0 (g := (mkF m 188 #[.val (.int p1), .val (.int p2), .val (.int p3), .val (.int x3_4), .val (.int x4_14), .val (.ref b1), .val (.int v107s0), .val (.int x7_114), .val (.int v179s0)] [(.ref b1)])) rfl (by rw [hml]; rfl) [] [] rfl (lenOf pd0_2 rfl) rfl (by show 2 * 0 + _ ≤ _; exact Nat.le_of_eq rfl) (hb hby at_188) (by decide) (by decide) (by decide) (by decide) (by decide) ?_
                rintro T25 L25 _ X25 ⟨rfl, N25_q, e25⟩
                have N25 := Fr.app N8 N25_q
                show D (T25.setTop (mkF m 191 #[.val (.int p1), .val (.int p2), .val (.int p3), .val (.int x3_4), .val (.int x4_14), .val (.ref b1), .val (.int v107s0), .val (.int x7_114), .val (.int v179s0)] [(.int (own_full sz65 n))]))
                refine A (XS.iload X25.here hx rfl (hb hby at_191) rfl) ?_
                show D (T25.setTop (mkF m 193 #[.val (.int p1), .val (.int p2), .val (.int p3), .val (.int x3_4), .val (.int x4_14), .val (.ref b1), .val (.int v107s0), .val (.int x7_114), .val (.int v179s0)] [(.int v179s0), (.int (own_full sz65 n))]))
                suffices Km201_26 : ∀ (v201s0aa : Int32), v201s0aa = (if (own_full sz65 n) = v179s0 then (1 : Int32) else (0 : Int32)) → D (T25.setTop (mkF m 201 #[.val (.int p1), .val (.int p2), .val (.int p3), .val (.int x3_4), .val (.int x4_14), .val (.ref b1), .val (.int v107s0), .val (.int x7_114), .val (.int v179s0)] [(.int v201s0aa)])) by
                  by_cases c193_3 : (own_full sz65 n) = v179s0
                  · refine A (XS.icmpNo X25.here hx rfl (hb hby at_193) rfl (teq c193_3).2) ?_
                    show D (T25.setTop (mkF m 196 #[.val (.int p1), .val (.int p2), .val (.int p3), .val (.int x3_4), .val (.int x4_14), .val (.ref b1), .val (.int v107s0), .val (.int x7_114), .val (.int v179s0)] []))
                    refine A (XS.iconst X25.here hx rfl (hb hby at_196)) ?_
                    show D (T25.setTop (mkF m 197 #[.val (.int p1), .val (.int p2), .val (.int p3), .val (.int x3_4), .val (.int x4_14), .val (.ref b1), .val (.int v107s0), .val (.int x7_114), .val (.int v179s0)] [(.int (1 : Int32))]))
                    refine A (XS.goto X25.here hx rfl (pc0 := 197) (pc' := 201) rfl (hb hby at_197) (by decide) (by decide)) ?_
                    show D (T25.setTop (mkF m 201 #[.val (.int p1), .val (.int p2), .val (.int p3), .val (.int x3_4), .val (.int x4_14), .val (.ref b1), .val (.int v107s0), .val (.int x7_114), .val (.int v179s0)] [(.int (1 : Int32))]))
                    exact Km201_26 _ ((if_pos c193_3)).symm
                  · refine A (XS.icmpYes X25.here hx rfl (pc0 := 193) (pc' := 200) rfl (hb hby at_193) rfl (feq c193_3).2 (by decide) (by decide)) ?_
                    show D (T25.setTop (mkF m 200 #[.val (.int p1), .val (.int p2), .val (.int p3), .val (.int x3_4), .val (.int x4_14), .val (.ref b1), .val (.int v107s0), .val (.int x7_114), .val (.int v179s0)] []))
                    refine A (XS.iconst X25.here hx rfl (hb hby at_200)) ?_
                    show D (T25.setTop (mkF m 201 #[.val (.int p1), .val (.int p2), .val (.int p3), .val (.int x3_4), .val (.int x4_14), .val (.ref b1), .val (.int v107s0), .val (.int x7_114), .val (.int v179s0)] [(.int (0 : Int32))]))
                    exact Km201_26 _ ((if_neg c193_3)).symm
                intro v201s0aa hv201s0aa
                show D (T25.setTop (mkF m 201 #[.val (.int p1), .val (.int p2), .val (.int p3), .val (.int x3_4), .val (.int x4_14), .val (.ref b1), .val (.int v107s0), .val (.int x7_114), .val (.int v179s0)] [(.int v201s0aa)]))
                obtain rfl : v201s0aa = (1 : Int32) := by
                  rw [hv201s0aa, if_pos (by rw [hv179s0]; exact own_f1 (own_szk hs65 hkn hn4) hk4 hn hn4)]
                show D (T25.setTop (mkF m 201 #[.val (.int p1), .val (.int p2), .val (.int p3), .val (.int x3_4), .val (.int x4_14), .val (.ref b1), .val (.int v107s0), .val (.int x7_114), .val (.int v179s0)] [(.int (1 : Int32))]))
                exact F _ (Jvm.JW.ret X25 hlk (v := some (.int (1 : Int32))) (fun h => by rw [hrt] at h; cases h) (fun fs hr => retOut X25 hx hrt rfl (Or.inl ⟨rfl, Or.inr (Or.inl rfl), _, rfl⟩) (hb hby at_201) hr) rfl ⟨rfl, N25⟩ (by decide) (by decide))
        by_cases c68_27 : (p3 &&& (4 : Int32)) = (0 : Int32)
        · refine A (XS.ifYes X6.here hx rfl (pc0 := 68) (pc' := 83) rfl (hb hby at_68) rfl ((if0 _ _).trans (teq c68_27).1) (by decide) (by decide)) ?_
          show D (T6.setTop (mkF m 83 #[.val (.int p1), .val (.int p2), .val (.int p3), .val (.int x3_4), .val (.int x4_14), .val (.ref b1), .unset, .unset, .unset] []))
          exact HJ7  _ _ _ X6 e6 N6 Zq6 E_b1_6 V_tg_6 EA_tg_6 V_tk_6 F_row_b1_6 F_targets_b1_6 F_size_b1_6 F_takenInRow_b1_6
        · refine A (XS.ifNo X6.here hx rfl (hb hby at_68) rfl ((if0 _ _).trans (feq c68_27).1)) ?_
          show D (T6.setTop (mkF m 71 #[.val (.int p1), .val (.int p2), .val (.int p3), .val (.int x3_4), .val (.int x4_14), .val (.ref b1), .unset, .unset, .unset] []))
          refine A (XS.iload X6.here hx rfl (hb hby at_71) rfl) ?_
          show D (T6.setTop (mkF m 73 #[.val (.int p1), .val (.int p2), .val (.int p3), .val (.int x3_4), .val (.int x4_14), .val (.ref b1), .unset, .unset, .unset] [(.int x4_14)]))
          refine A (XS.iconst X6.here hx rfl (hb hby at_73)) ?_
          show D (T6.setTop (mkF m 74 #[.val (.int p1), .val (.int p2), .val (.int p3), .val (.int x3_4), .val (.int x4_14), .val (.ref b1), .unset, .unset, .unset] [(.int (1 : Int32)), (.int x4_14)]))
          by_cases c74_28 : x4_14 < (1 : Int32)
          · refine A (XS.icmpYes X6.here hx rfl (pc0 := 74) (pc' := 83) rfl (hb hby at_74) rfl (tlt c74_28).1 (by decide) (by decide)) ?_
            show D (T6.setTop (mkF m 83 #[.val (.int p1), .val (.int p2), .val (.int p3), .val (.int x3_4), .val (.int x4_14), .val (.ref b1), .unset, .unset, .unset] []))
            exact HJ7  _ _ _ X6 e6 N6 Zq6 E_b1_6 V_tg_6 EA_tg_6 V_tk_6 F_row_b1_6 F_targets_b1_6 F_size_b1_6 F_takenInRow_b1_6
          · refine A (XS.icmpNo X6.here hx rfl (hb hby at_74) rfl (flt c74_28).1) ?_
            show D (T6.setTop (mkF m 77 #[.val (.int p1), .val (.int p2), .val (.int p3), .val (.int x3_4), .val (.int x4_14), .val (.ref b1), .unset, .unset, .unset] []))
            refine A (XS.aload X6.here hx rfl (hb hby at_77) rfl rfl) ?_
            show D (T6.setTop (mkF m 79 #[.val (.int p1), .val (.int p2), .val (.int p3), .val (.int x3_4), .val (.int x4_14), .val (.ref b1), .unset, .unset, .unset] [(.ref b1)]))
            refine A (XS.iconst X6.here hx rfl (hb hby at_79)) ?_
            show D (T6.setTop (mkF m 80 #[.val (.int p1), .val (.int p2), .val (.int p3), .val (.int x3_4), .val (.int x4_14), .val (.ref b1), .unset, .unset, .unset] [(.int (0 : Int32)), (.ref b1)]))
            refine Adv.callV A X6 hx hZ hown (hw _ (List.mem_of_getElem? (i := 57) rfl)) (hw _ (List.mem_of_getElem? (i := 58) rfl)) (notFace_of_selects (args := #[]) (mvT hZ (hw _ (List.mem_of_getElem? (i := 60) rfl)))) (hw _ (List.mem_of_getElem? (i := 60) rfl)) (hw _ (List.mem_of_getElem? (i := 59) rfl)) (hw _ (List.mem_of_getElem? (i := 3) rfl)) (hw _ (List.mem_of_getElem? (i := 61) rfl)) e6 E_b1_6 (rm10o l Z a0 hw [] b1 (0 : Int32) H6 n0 (0 : Int32) sz65 tg tk Zq6 g_b1 E_b1_6 F_row_b1_6 F_targets_b1_6 F_size_b1_6 F_takenInRow_b1_6 n fg65 g_tg V_tg_6 n ft65 0 (by decide) (own_kn c74_28 hk4 (by decide) hkn) g_tk V_tk_6 ne_tk_tg (hf65 (own_k1 c74_28 hk4))) 0 (g := (mkF m 80 #[.val (.int p1), .val (.int p2), .val (.int p3), .val (.int x3_4), .val (.int x4_14), .val (.ref b1), .unset, .unset, .unset] [(.int (0 : Int32)), (.ref b1)])) rfl (by rw [hml]; rfl) [(.int (0 : Int32))] [] rfl (lenOf pd0_0 rfl) rfl (by show 2 * 0 + _ ≤ _; exact Nat.le_of_eq rfl) (hb hby at_80) (by decide) (by decide) (by decide) (by decide) (by decide) ?_
            rintro T29 L29 _ X29 ⟨rfl, N29_q, e29⟩
            have N29 := Fr.app N6 N29_q
            show D (T29.setTop (mkF m 83 #[.val (.int p1), .val (.int p2), .val (.int p3), .val (.int x3_4), .val (.int x4_14), .val (.ref b1), .unset, .unset, .unset] []))
            exact HJ7  _ _ _ X29 e29 N29 Zq6 E_b1_6 V_tg_6 EA_tg_6 V_tk_6 F_row_b1_6 F_targets_b1_6 F_size_b1_6 F_takenInRow_b1_6
      by_cases c56_30 : x4_14 < (3 : Int32)
      · refine A (XS.icmpYes X5.here hx rfl (pc0 := 56) (pc' := 65) rfl (hb hby at_56) rfl (tlt c56_30).1 (by decide) (by decide)) ?_
        show D (T5.setTop (mkF m 65 #[.val (.int p1), .val (.int p2), .val (.int p3), .val (.int x3_4), .val (.int x4_14), .val (.ref b1), .unset, .unset, .unset] []))
        exact HJ6 ft53 fg53 sz53 _ _ _ (own_szs hs53 (own_klt 3 c56_30 hk4 (by decide))) hf53 (fun i hi => hr53 i (by omega)) X5 e5 N5 Zq5 E_b1_5 V_tg_5 EA_tg_5 V_tk_5 F_row_b1_5 F_targets_b1_5 F_size_b1_5 F_takenInRow_b1_5
      · refine A (XS.icmpNo X5.here hx rfl (hb hby at_56) rfl (flt c56_30).1) ?_
        show D (T5.setTop (mkF m 59 #[.val (.int p1), .val (.int p2), .val (.int p3), .val (.int x3_4), .val (.int x4_14), .val (.ref b1), .unset, .unset, .unset] []))
        refine A (XS.aload X5.here hx rfl (hb hby at_59) rfl rfl) ?_
        show D (T5.setTop (mkF m 61 #[.val (.int p1), .val (.int p2), .val (.int p3), .val (.int x3_4), .val (.int x4_14), .val (.ref b1), .unset, .unset, .unset] [(.ref b1)]))
        refine A (XS.iconst X5.here hx rfl (hb hby at_61)) ?_
        show D (T5.setTop (mkF m 62 #[.val (.int p1), .val (.int p2), .val (.int p3), .val (.int x3_4), .val (.int x4_14), .val (.ref b1), .unset, .unset, .unset] [(.int (2 : Int32)), (.ref b1)]))
        refine Adv.callV A X5 hx hZ hown (hw _ (List.mem_of_getElem? (i := 57) rfl)) (hw _ (List.mem_of_getElem? (i := 58) rfl)) (notFace_of_selects (args := #[]) (mvT hZ (hw _ (List.mem_of_getElem? (i := 60) rfl)))) (hw _ (List.mem_of_getElem? (i := 60) rfl)) (hw _ (List.mem_of_getElem? (i := 59) rfl)) (hw _ (List.mem_of_getElem? (i := 3) rfl)) (hw _ (List.mem_of_getElem? (i := 61) rfl)) e5 E_b1_5 (rm10n l Z a0 hw [] b1 (2 : Int32) H5 n0 (0 : Int32) sz53 tg tk Zq5 g_b1 E_b1_5 F_row_b1_5 F_targets_b1_5 F_size_b1_5 F_takenInRow_b1_5 n fg53 2 (hs53.2 (by have := own_kge 3 c56_30 hk4 (by decide); omega)) (own_kn c56_30 hk4 (by decide) hkn) g_tg V_tg_5 n ft53 2 (by decide) (own_kn c56_30 hk4 (by decide) hkn) g_tk V_tk_5 ne_tk_tg (by rw [hr53 2 (by omega)]; decide)) 0 (g := (mkF m 62 #[.val (.int p1), .val (.int p2), .val (.int p3), .val (.int x3_4), .val (.int x4_14), .val (.ref b1), .unset, .unset, .unset] [(.int (2 : Int32)), (.ref b1)])) rfl (by rw [hml]; rfl) [(.int (2 : Int32))] [] rfl (lenOf pd0_0 rfl) rfl (by show 2 * 0 + _ ≤ _; exact Nat.le_of_eq rfl) (hb hby at_62) (by decide) (by decide) (by decide) (by decide) (by decide) ?_
        rintro T31 L31 _ X31 ⟨rfl, N31_q, K31, -, F31_row, F31_targets, F31_size, F31_takenInRow, V31_q, Vk31_q⟩
        have N31 := Fr.app N5 N31_q
        have E_b1_31 := E_b1_5.keep K31
        have EA_tg_31 := EA_tg_5.keep K31
        have Z_31 : n0 ≤ T31.heap.size := Nat.le_trans Zq5 K31.1
        show D (T31.setTop (mkF m 65 #[.val (.int p1), .val (.int p2), .val (.int p3), .val (.int x3_4), .val (.int x4_14), .val (.ref b1), .unset, .unset, .unset] []))
        exact HJ6 (fun ix => if ix = 2 then (0 : Int32) else ft53 ix) (fun ix => if ix = 2 then (2 : Int32) else fg53 ix) (sz53 + (1 : Int32)) _ _ _ (own_sza hs53 (own_kge 3 c56_30 hk4 (by decide)) (by decide)) (fun q => by show (if 0 = 2 then _ else ft53 0) = _; rw [if_neg (by decide)]; exact hf53 q) (fun i hi => by show (if i = 2 then _ else _) = _; rw [if_neg (by omega)]; exact hr53 i (by omega)) X31 rfl N31 Z_31 E_b1_31 V31_q EA_tg_31 Vk31_q F31_row F31_targets F31_size F31_takenInRow
    by_cases c44_32 : x4_14 < (2 : Int32)
    · refine A (XS.icmpYes X4.here hx rfl (pc0 := 44) (pc' := 53) rfl (hb hby at_44) rfl (tlt c44_32).1 (by decide) (by decide)) ?_
      show D (T4.setTop (mkF m 53 #[.val (.int p1), .val (.int p2), .val (.int p3), .val (.int x3_4), .val (.int x4_14), .val (.ref b1), .unset, .unset, .unset] []))
      exact HJ5 ft41 fg41 sz41 _ _ _ (own_szs hs41 (own_klt 2 c44_32 hk4 (by decide))) hf41 (fun i hi => hr41 i (by omega)) X4 e4 N4 Zq4 E_b1_4 V_tg_4 EA_tg_4 V_tk_4 F_row_b1_4 F_targets_b1_4 F_size_b1_4 F_takenInRow_b1_4
    · refine A (XS.icmpNo X4.here hx rfl (hb hby at_44) rfl (flt c44_32).1) ?_
      show D (T4.setTop (mkF m 47 #[.val (.int p1), .val (.int p2), .val (.int p3), .val (.int x3_4), .val (.int x4_14), .val (.ref b1), .unset, .unset, .unset] []))
      refine A (XS.aload X4.here hx rfl (hb hby at_47) rfl rfl) ?_
      show D (T4.setTop (mkF m 49 #[.val (.int p1), .val (.int p2), .val (.int p3), .val (.int x3_4), .val (.int x4_14), .val (.ref b1), .unset, .unset, .unset] [(.ref b1)]))
      refine A (XS.iconst X4.here hx rfl (hb hby at_49)) ?_
      show D (T4.setTop (mkF m 50 #[.val (.int p1), .val (.int p2), .val (.int p3), .val (.int x3_4), .val (.int x4_14), .val (.ref b1), .unset, .unset, .unset] [(.int (1 : Int32)), (.ref b1)]))
      refine Adv.callV A X4 hx hZ hown (hw _ (List.mem_of_getElem? (i := 57) rfl)) (hw _ (List.mem_of_getElem? (i := 58) rfl)) (notFace_of_selects (args := #[]) (mvT hZ (hw _ (List.mem_of_getElem? (i := 60) rfl)))) (hw _ (List.mem_of_getElem? (i := 60) rfl)) (hw _ (List.mem_of_getElem? (i := 59) rfl)) (hw _ (List.mem_of_getElem? (i := 3) rfl)) (hw _ (List.mem_of_getElem? (i := 61) rfl)) e4 E_b1_4 (rm10n l Z a0 hw [] b1 (1 : Int32) H4 n0 (0 : Int32) sz41 tg tk Zq4 g_b1 E_b1_4 F_row_b1_4 F_targets_b1_4 F_size_b1_4 F_takenInRow_b1_4 n fg41 1 (hs41.2 (by have := own_kge 2 c44_32 hk4 (by decide); omega)) (own_kn c44_32 hk4 (by decide) hkn) g_tg V_tg_4 n ft41 1 (by decide) (own_kn c44_32 hk4 (by decide) hkn) g_tk V_tk_4 ne_tk_tg (by rw [hr41 1 (by omega)]; decide)) 0 (g := (mkF m 50 #[.val (.int p1), .val (.int p2), .val (.int p3), .val (.int x3_4), .val (.int x4_14), .val (.ref b1), .unset, .unset, .unset] [(.int (1 : Int32)), (.ref b1)])) rfl (by rw [hml]; rfl) [(.int (1 : Int32))] [] rfl (lenOf pd0_0 rfl) rfl (by show 2 * 0 + _ ≤ _; exact Nat.le_of_eq rfl) (hb hby at_50) (by decide) (by decide) (by decide) (by decide) (by decide) ?_
      rintro T33 L33 _ X33 ⟨rfl, N33_q, K33, -, F33_row, F33_targets, F33_size, F33_takenInRow, V33_q, Vk33_q⟩
      have N33 := Fr.app N4 N33_q
      have E_b1_33 := E_b1_4.keep K33
      have EA_tg_33 := EA_tg_4.keep K33
      have Z_33 : n0 ≤ T33.heap.size := Nat.le_trans Zq4 K33.1
      show D (T33.setTop (mkF m 53 #[.val (.int p1), .val (.int p2), .val (.int p3), .val (.int x3_4), .val (.int x4_14), .val (.ref b1), .unset, .unset, .unset] []))
      exact HJ5 (fun ix => if ix = 1 then (0 : Int32) else ft41 ix) (fun ix => if ix = 1 then (1 : Int32) else fg41 ix) (sz41 + (1 : Int32)) _ _ _ (own_sza hs41 (own_kge 2 c44_32 hk4 (by decide)) (by decide)) (fun q => by show (if 0 = 1 then _ else ft41 0) = _; rw [if_neg (by decide)]; exact hf41 q) (fun i hi => by show (if i = 1 then _ else _) = _; rw [if_neg (by omega)]; exact hr41 i (by omega)) X33 rfl N33 Z_33 E_b1_33 V33_q EA_tg_33 Vk33_q F33_row F33_targets F33_size F33_takenInRow
  by_cases c32_34 : x4_14 < (1 : Int32)
  · refine A (XS.icmpYes X3.here hx rfl (pc0 := 32) (pc' := 41) rfl (hb hby at_32) rfl (tlt c32_34).1 (by decide) (by decide)) ?_
    show D (T3.setTop (mkF m 41 #[.val (.int p1), .val (.int p2), .val (.int p3), .val (.int x3_4), .val (.int x4_14), .val (.ref b1), .unset, .unset, .unset] []))
    exact HJ4 (fun _ => (-1 : Int32)) (fun _ => 0) (0 : Int32) _ _ _ (own_szs (own_sz0 k) (own_klt 1 c32_34 hk4 (by decide))) (fun q => absurd q (by have := own_klt 1 c32_34 hk4 (by decide); omega)) (fun i hi => rfl) X3 rfl N3 Z_3 E_b1_3 V_tg_3 EA_tg_3 V_tk_3 F3_row F3_targets F3_size F3_takenInRow
  · refine A (XS.icmpNo X3.here hx rfl (hb hby at_32) rfl (flt c32_34).1) ?_
    show D (T3.setTop (mkF m 35 #[.val (.int p1), .val (.int p2), .val (.int p3), .val (.int x3_4), .val (.int x4_14), .val (.ref b1), .unset, .unset, .unset] []))
    refine A (XS.aload X3.here hx rfl (hb hby at_35) rfl rfl) ?_
    show D (T3.setTop (mkF m 37 #[.val (.int p1), .val (.int p2), .val (.int p3), .val (.int x3_4), .val (.int x4_14), .val (.ref b1), .unset, .unset, .unset] [(.ref b1)]))
    refine A (XS.iconst X3.here hx rfl (hb hby at_37)) ?_
    show D (T3.setTop (mkF m 38 #[.val (.int p1), .val (.int p2), .val (.int p3), .val (.int x3_4), .val (.int x4_14), .val (.ref b1), .unset, .unset, .unset] [(.int (0 : Int32)), (.ref b1)]))
    refine Adv.callV A X3 hx hZ hown (hw _ (List.mem_of_getElem? (i := 57) rfl)) (hw _ (List.mem_of_getElem? (i := 58) rfl)) (notFace_of_selects (args := #[]) (mvT hZ (hw _ (List.mem_of_getElem? (i := 60) rfl)))) (hw _ (List.mem_of_getElem? (i := 60) rfl)) (hw _ (List.mem_of_getElem? (i := 59) rfl)) (hw _ (List.mem_of_getElem? (i := 3) rfl)) (hw _ (List.mem_of_getElem? (i := 61) rfl)) rfl E_b1_3 (rm10n l Z a0 hw [] b1 (0 : Int32) T3.heap n0 (0 : Int32) (0 : Int32) tg tk Z_3 g_b1 E_b1_3 F3_row F3_targets F3_size F3_takenInRow n (fun _ => 0) 0 ((own_sz0 k).2 (by have := own_kge 1 c32_34 hk4 (by decide); omega)) (own_kn c32_34 hk4 (by decide) hkn) g_tg V_tg_3 n (fun _ => (-1 : Int32)) 0 (by decide) (own_kn c32_34 hk4 (by decide) hkn) g_tk V_tk_3 ne_tk_tg (by decide)) 0 (g := (mkF m 38 #[.val (.int p1), .val (.int p2), .val (.int p3), .val (.int x3_4), .val (.int x4_14), .val (.ref b1), .unset, .unset, .unset] [(.int (0 : Int32)), (.ref b1)])) rfl (by rw [hml]; rfl) [(.int (0 : Int32))] [] rfl (lenOf pd0_0 rfl) rfl (by show 2 * 0 + _ ≤ _; exact Nat.le_of_eq rfl) (hb hby at_38) (by decide) (by decide) (by decide) (by decide) (by decide) ?_
    rintro T35 L35 _ X35 ⟨rfl, N35_q, K35, -, F35_row, F35_targets, F35_size, F35_takenInRow, V35_q, Vk35_q⟩
    have N35 := Fr.app N3 N35_q
    have E_b1_35 := E_b1_3.keep K35
    have EA_tg_35 := EA_tg_3.keep K35
    have Z_35 : n0 ≤ T35.heap.size := Nat.le_trans Z_3 K35.1
    show D (T35.setTop (mkF m 41 #[.val (.int p1), .val (.int p2), .val (.int p3), .val (.int x3_4), .val (.int x4_14), .val (.ref b1), .unset, .unset, .unset] []))
    exact HJ4 (fun ix => if ix = 0 then (0 : Int32) else (fun _ => (-1 : Int32)) ix) (fun ix => if ix = 0 then (0 : Int32) else (fun _ => 0) ix) ((0 : Int32) + (1 : Int32)) _ _ _ (own_sza (own_sz0 k) (own_kge 1 c32_34 hk4 (by decide)) (by decide)) (fun _ => rfl) (fun i hi => by show (if i = 0 then _ else _) = _; rw [if_neg (by omega)]) X35 rfl N35 Z_35 E_b1_35 V35_q EA_tg_35 Vk35_q F35_row F35_targets F35_size F35_takenInRow
set_option maxRecDepth 65536 in
set_option maxHeartbeats 40000000 in
theorem comes_1 {Post : Tables → Env → Array Value → State → Outcome → State → Prop} (hpost : ∀ tb e args s v u, (limb_1_1.after args s (.returned v) u = true ∧ limb_1_2.after args s (.returned v) u = true ∧ True) → FrameEnd s (.returned v) u (Jvm.fieldLocs frame_1_writes args s ++ Jvm.arrayLocs frame_1_arrays args s ++ Jvm.staticLocs frame_1_statics s) 16 128 → Post tb e args s (.returned v) u) :
    ArmFor flags0 classFile x code maxLocals ret World_1 tables_1 room_1 Calls_1 rest_1 Pre_1 Post := by
  intro l hfl _ _ p e ha hc hk s m args below hf hA hF happ hP
  obtain ⟨hcalls, hrest, hpre⟩ := hP
  obtain ⟨-, -, -, hnamed, -, -, -, hat⟩ := (Spec.applies_iff hf).mp happ
  obtain ⟨hg, hn⟩ := and_e (Cond.before_iff.mp (show (Jvm.Cond.and given_1 narrow_1).before args s = true from hpre))
  obtain ⟨g0, g1⟩ := and_e hg
  obtain ⟨t1, g2⟩ := and_e g1
  obtain ⟨t2, g3⟩ := and_e g2
  obtain ⟨w0, w1, w2, rfl⟩ : ∃ w0 w1 w2 : Value, args = #[w0, w1, w2] := by
    have hs : args.size = 3 := by simpa [Cond.value, given_1] using g0
    obtain ⟨L⟩ := args
    match L, hs with
    | [w0, w1, w2], _ => exact ⟨w0, w1, w2, rfl⟩
  have hw := fun d (hd : d ∈ tables_1) => atoms_spec (ws := Jvm.Cond.code x code maxLocals ret :: tables_1) hat d (List.mem_cons_of_mem _ hd)
  obtain ⟨i0, q0⟩ := is_v t1
  obtain rfl : w0 = (.int i0) := Option.some.inj q0
  obtain ⟨i1, q1⟩ := is_v t2
  obtain rfl : w1 = (.int i1) := Option.some.inj q1
  obtain ⟨i2, q2⟩ := is_v g3
  obtain rfl : w2 = (.int i2) := Option.some.inj q2
  obtain ⟨n, o, h1, h2, h3, _, L, rfl, ⟨rfl, N⟩, hq⟩ := rm0 l s _ hw tables_1 i0 i1 i2 s.heap s.heap.size (Nat.le_refl _) p e ha hc hk s m _ below hf ((Spec.applies_iff_loose hf).mp happ).1 ⟨rfl, State.Warmed39.refl s, rfl⟩ trivial
  refine ⟨n, _, h1, h2, h3, hpost _ _ _ _ _ _ ⟨Cond.after_iff.mpr rfl, Cond.after_iff.mpr (eq_i res_at (Term.int_eval (1)) rfl), trivial⟩ ⟨hq.1, hq.2.1, (hq.2.2.sift fun y hy => Or.inr (N y hy)).mono (by decide) (by decide)⟩⟩
theorem main_1_1 : Claimed_1_1 := comes_1 fun _ _ _ _ _ _ h hF => ⟨h.1, hF⟩
theorem main_1_2 : Claimed_1_2 := comes_1 fun _ _ _ _ _ _ h hF => ⟨h.2.1, hF⟩
end Jvm.Pilot.@@N@@
namespace Jvm.Pilot.@@N@@
open Jvm Jvm.ClassFile Sem Op Lib Jvm.Free Jvm.Stand Jvm.Pilot.@@N@@.Jvm.D
/-! MADE BY PROGRAM (witnessworld.py) out of the Statement's table words and the real class files: 13 classes; the members and pool entries that the words name. The judged class is class 1, her method 1. -/
namespace start1
open Jvm.ClassFile
def u (s : String) : CpInfo := .utf8 (stringToUtf16 s)
/-- a pool by its gaps: so many unusable entries, then the entry; so many at the end -/
def gap : Nat → List CpInfo → List CpInfo
  | 0, r => r
  | n + 1, r => .unusable :: gap n r
def poolList (es : List (Nat × CpInfo)) (last : Nat) : List CpInfo := es.foldr (fun e r => gap e.1 (e.2 :: r)) (gap last [])
def pool (es : List (Nat × CpInfo)) (last : Nat) : Array CpInfo := ⟨poolList es last⟩
def fileOf (pool : Array CpInfo) (this : Nat) (attrs : Array Attribute := #[]) (ms : Array MethodInfo := #[]) (fl : Nat := 33) (sup : Nat := 0) (ifs : Array Nat := #[]) (fds : Array FieldInfo := #[]) : ClassFile where
  minorVersion := 0
  majorVersion := 65
  constantPool := pool
  accessFlags := fl
  thisClass := this
  superClass := sup
  interfaces := ifs
  fields := fds
  methods := ms
  attributes := attrs
def plain (name : String) (sup : Option ClassId) : Class where
  name := name
  kind := .ordinary
  loader := none
  accessFlags := 33
  super := sup
  interfaces := #[]
  cf := none
  fields := #[]
  methods := #[]
  instanceTypes := #[]
  staticTypes := #[]
  resolved := #[]
  callSites := []
  init := .initialized
  statics := none
  mirror := none

def pool0 : Array CpInfo := pool [(5, u "<init>"), (0, u "()V"), (1, .class_ 10), (1, u "java/lang/Object"), (85, u "clone"), (0, u "()Ljava/lang/Object;")] 26

def k0c0 : Code := { maxStack := 0, maxLocals := 1, code := object_method_1_code, exceptionTable := #[], attributes := #[] }
def k0m0 : Method := { name := "<init>", desc := "()V", sig := { parameters := [], returnType := none }, accessFlags := 1, code := some k0c0 }
def k0m1 : Method := { name := "clone", desc := "()Ljava/lang/Object;", sig := { parameters := [], returnType := some (.object "java/lang/Object") }, accessFlags := 260, code := none }
/-- java/lang/Object -/
def k0 : Class := { plain "java/lang/Object" none with
  accessFlags := 33
  interfaces := #[]
  cf := some (fileOf pool0 8 #[] #[{ accessFlags := 1, nameIndex := 5, descriptorIndex := 6, attributes := #[] }, { accessFlags := 260, nameIndex := 96, descriptorIndex := 97, attributes := #[] }] 33 0 #[] #[])
  fields := #[]
  methods := #[k0m0, k0m1]
  instanceTypes := #[]
  staticTypes := #[]
  resolved := Array.replicate 124 none
  statics := none }

def pool1 : Array CpInfo := pool [(2, .class_ 4), (1, u "java/lang/Object"), (0, u "<init>"), (0, u "()V"), (0, .integer 2147483647), (0, .class_ 9), (0, u "com/example/wayfare/wayfare/exec/RowTargets$Marked"), (0, .methodref 8 11), (0, .nameAndType 5 12), (0, u "(I)V"), (0, .methodref 8 14), (0, .nameAndType 15 6), (0, u "startRow"), (0, .methodref 8 17), (0, .nameAndType 18 12), (0, u "add"), (0, .methodref 8 20), (0, .nameAndType 21 22), (0, u "full"), (0, u "()Z"), (0, .methodref 8 24), (0, .nameAndType 25 6), (0, u "makeRoom"), (0, .class_ 27), (0, u "com/example/wayfare/wayfare/exec/RowTargetsFullPinLaw"), (2, u "law"), (0, u "(III)Z")] 7

def k1m0 : Method := { name := "<init>", desc := "()V", sig := { parameters := [], returnType := none }, accessFlags := 1, code := none }
def k1c1 : Code := { maxStack := 3, maxLocals := 9, code := code, exceptionTable := #[], attributes := #[] }
def k1m1 : Method := { name := "law", desc := "(III)Z", sig := { parameters := [.int, .int, .int], returnType := some .boolean }, accessFlags := 9, code := some k1c1 }
/-- com/example/wayfare/wayfare/exec/RowTargetsFullPinLaw -/
def k1 : Class := { plain "com/example/wayfare/wayfare/exec/RowTargetsFullPinLaw" (some 0) with
  accessFlags := 49
  interfaces := #[]
  cf := some (fileOf pool1 26 #[] #[{ accessFlags := 1, nameIndex := 5, descriptorIndex := 6, attributes := #[] }, { accessFlags := 9, nameIndex := 30, descriptorIndex := 31, attributes := #[] }] 49 2 #[] #[])
  fields := #[]
  methods := #[k1m0, k1m1]
  instanceTypes := #[]
  staticTypes := #[]
  resolved := Array.replicate 39 none
  statics := none }

def pool2 : Array CpInfo := pool [(1, .methodref 2 3), (0, .class_ 4), (0, .nameAndType 5 6), (0, u "java/lang/Object"), (0, u "<init>"), (0, u "()V"), (0, .fieldref 8 9), (0, .class_ 10), (0, .nameAndType 11 12), (0, u "com/example/wayfare/wayfare/exec/RowTargets"), (0, u "row"), (0, u "I"), (0, .fieldref 8 14), (0, .nameAndType 15 16), (0, u "targets"), (0, u "[I"), (0, .fieldref 8 18), (0, .nameAndType 19 12), (0, u "size"), (0, .methodref 21 22), (0, .class_ 23), (0, .nameAndType 24 25), (0, u "java/util/Arrays"), (0, u "copyOf"), (0, u "([II)[I"), (13, u "(I)V"), (2, u "startRow"), (0, u "()I"), (2, u "take"), (2, u "full"), (0, u "()Z"), (1, u "makeRoom"), (5, .class_ 59), (0, u "com/example/wayfare/wayfare/exec/RowTargets$Hashed"), (0, .class_ 61), (0, u "com/example/wayfare/wayfare/exec/RowTargets$Marked")] 7

def k2c0 : Code := { maxStack := 2, maxLocals := 2, code := prog_18_method_1_code, exceptionTable := #[], attributes := #[] }
def k2m0 : Method := { name := "<init>", desc := "(I)V", sig := { parameters := [.int], returnType := none }, accessFlags := 0, code := some k2c0 }
def k2c1 : Code := { maxStack := 3, maxLocals := 1, code := prog_18_method_2_code, exceptionTable := #[], attributes := #[] }
def k2m1 : Method := { name := "startRow", desc := "()V", sig := { parameters := [], returnType := none }, accessFlags := 16, code := some k2c1 }
def k2c2 : Code := { maxStack := 1, maxLocals := 1, code := prog_18_method_3_code, exceptionTable := #[], attributes := #[] }
def k2m2 : Method := { name := "row", desc := "()I", sig := { parameters := [], returnType := some .int }, accessFlags := 16, code := some k2c2 }
def k2c3 : Code := { maxStack := 5, maxLocals := 2, code := prog_18_method_6_code, exceptionTable := #[], attributes := #[] }
def k2m3 : Method := { name := "take", desc := "(I)V", sig := { parameters := [.int], returnType := none }, accessFlags := 16, code := some k2c3 }
def k2c4 : Code := { maxStack := 2, maxLocals := 1, code := prog_18_method_8_code, exceptionTable := #[], attributes := #[] }
def k2m4 : Method := { name := "full", desc := "()Z", sig := { parameters := [], returnType := some .boolean }, accessFlags := 16, code := some k2c4 }
def k2c5 : Code := { maxStack := 4, maxLocals := 1, code := prog_18_method_9_code, exceptionTable := #[], attributes := #[] }
def k2m5 : Method := { name := "makeRoom", desc := "()V", sig := { parameters := [], returnType := none }, accessFlags := 16, code := some k2c5 }
/-- com/example/wayfare/wayfare/exec/RowTargets -/
def k2 : Class := { plain "com/example/wayfare/wayfare/exec/RowTargets" (some 0) with
  accessFlags := 1056
  interfaces := #[]
  cf := some (fileOf pool2 8 #[.nestMembers #[58, 60]] #[{ accessFlags := 0, nameIndex := 5, descriptorIndex := 39, attributes := #[] }, { accessFlags := 16, nameIndex := 42, descriptorIndex := 6, attributes := #[] }, { accessFlags := 16, nameIndex := 11, descriptorIndex := 43, attributes := #[] }, { accessFlags := 16, nameIndex := 46, descriptorIndex := 39, attributes := #[] }, { accessFlags := 16, nameIndex := 49, descriptorIndex := 50, attributes := #[] }, { accessFlags := 16, nameIndex := 52, descriptorIndex := 6, attributes := #[] }] 1056 2 #[] #[{ accessFlags := 2, nameIndex := 15, descriptorIndex := 16, attributes := #[] }, { accessFlags := 2, nameIndex := 11, descriptorIndex := 12, attributes := #[] }, { accessFlags := 2, nameIndex := 19, descriptorIndex := 12, attributes := #[] }])
  fields := #[{ name := "targets", type := (.array .int), accessFlags := 2, slot := 0, constantValue := 0 }, { name := "row", type := .int, accessFlags := 2, slot := 1, constantValue := 0 }, { name := "size", type := .int, accessFlags := 2, slot := 2, constantValue := 0 }]
  methods := #[k2m0, k2m1, k2m2, k2m3, k2m4, k2m5]
  instanceTypes := #[(.array .int), .int, .int]
  staticTypes := #[]
  resolved := Array.replicate 69 none
  statics := none }

def pool3 : Array CpInfo := pool [(1, .methodref 2 3), (0, .class_ 4), (0, .nameAndType 5 6), (0, u "com/example/wayfare/wayfare/exec/RowTargets"), (0, u "<init>"), (0, u "(I)V"), (0, .fieldref 8 9), (0, .class_ 10), (0, .nameAndType 11 12), (0, u "com/example/wayfare/wayfare/exec/RowTargets$Marked"), (0, u "takenInRow"), (0, u "[I"), (0, .methodref 14 15), (0, .class_ 16), (0, .nameAndType 17 18), (0, u "java/util/Arrays"), (0, u "fill"), (0, u "([II)V"), (0, .methodref 8 20), (0, .nameAndType 21 22), (0, u "row"), (0, u "()I"), (0, .methodref 8 24), (0, .nameAndType 25 6), (0, u "take"), (14, u "add"), (11, u "DENSE_ROW_FRACTION"), (0, u "I")] 12

def k3c0 : Code := { maxStack := 2, maxLocals := 2, code := prog_20_method_1_code, exceptionTable := #[], attributes := #[] }
def k3m0 : Method := { name := "<init>", desc := "(I)V", sig := { parameters := [.int], returnType := none }, accessFlags := 0, code := some k3c0 }
def k3c1 : Code := { maxStack := 3, maxLocals := 2, code := prog_20_method_2_code, exceptionTable := #[], attributes := #[] }
def k3m1 : Method := { name := "add", desc := "(I)V", sig := { parameters := [.int], returnType := none }, accessFlags := 0, code := some k3c1 }
/-- com/example/wayfare/wayfare/exec/RowTargets$Marked -/
def k3 : Class := { plain "com/example/wayfare/wayfare/exec/RowTargets$Marked" (some 2) with
  accessFlags := 48
  interfaces := #[]
  cf := some (fileOf pool3 8 #[.nestHost 2] #[{ accessFlags := 0, nameIndex := 5, descriptorIndex := 6, attributes := #[] }, { accessFlags := 0, nameIndex := 40, descriptorIndex := 6, attributes := #[] }] 48 2 #[] #[{ accessFlags := 26, nameIndex := 52, descriptorIndex := 53, attributes := #[] }, { accessFlags := 18, nameIndex := 11, descriptorIndex := 12, attributes := #[] }])
  fields := #[{ name := "DENSE_ROW_FRACTION", type := .int, accessFlags := 26, slot := 0, constantValue := 0 }, { name := "takenInRow", type := (.array .int), accessFlags := 18, slot := 3, constantValue := 0 }]
  methods := #[k3m0, k3m1]
  instanceTypes := #[(.array .int), .int, .int, (.array .int)]
  staticTypes := #[.int]
  resolved := Array.replicate 66 none
  statics := none }

def pool4 : Array CpInfo := pool [(2, .class_ 4), (1, u "java/lang/Object"), (0, u "<init>"), (0, u "()V"), (7, .class_ 16), (1, u "java/util/Arrays"), (57, .class_ 76), (1, u "java/util/Arrays$NaturalOrder"), (32, u "()Ljava/lang/Object;"), (3, .class_ 115), (1, u "java/util/Arrays$LegacyMergeSort"), (1, u "Z"), (10, .nameAndType 129 109), (0, u "clone"), (20, .methodref 151 152), (0, .class_ 153), (0, .nameAndType 154 155), (0, u "java/lang/System"), (0, u "arraycopy"), (0, u "(Ljava/lang/Object;ILjava/lang/Object;II)V"), (146, u "copyOf"), (1, .methodref 305 306), (0, .class_ 307), (0, .nameAndType 308 309), (0, u "java/lang/Math"), (0, u "min"), (0, u "(II)I"), (6, .methodref 317 128), (0, .class_ 318), (0, u "[I"), (56, .class_ 376), (0, u "java/util/Arrays$ArrayList"), (68, u "$assertionsDisabled"), (269, u "MIN_ARRAY_SORT_GRAN"), (0, u "I"), (2, u "INSERTIONSORT_THRESHOLD"), (120, u "fill"), (4, u "([II)V"), (25, u "([II)[I"), (103, .class_ 976), (0, u "java/util/Arrays$ArrayItr")] 52

def k4m0 : Method := { name := "<init>", desc := "()V", sig := { parameters := [], returnType := none }, accessFlags := 2, code := none }
def k4c1 : Code := { maxStack := 3, maxLocals := 4, code := jdk_65_method_103_code, exceptionTable := #[], attributes := #[] }
def k4m1 : Method := { name := "fill", desc := "([II)V", sig := { parameters := [(.array .int), .int], returnType := none }, accessFlags := 9, code := some k4c1 }
def k4c2 : Code := { maxStack := 6, maxLocals := 3, code := jdk_65_method_123_code, exceptionTable := #[], attributes := #[] }
def k4m2 : Method := { name := "copyOf", desc := "([II)[I", sig := { parameters := [(.array .int), .int], returnType := some (.array .int) }, accessFlags := 9, code := some k4c2 }
/-- java/util/Arrays -/
def k4 : Class := { plain "java/util/Arrays" (some 0) with
  accessFlags := 49
  interfaces := #[]
  cf := some (fileOf pool4 14 #[.nestMembers #[975, 375, 113, 74]] #[{ accessFlags := 2, nameIndex := 5, descriptorIndex := 6, attributes := #[] }, { accessFlags := 9, nameIndex := 840, descriptorIndex := 845, attributes := #[] }, { accessFlags := 9, nameIndex := 302, descriptorIndex := 871, attributes := #[] }] 49 2 #[] #[{ accessFlags := 26, nameIndex := 715, descriptorIndex := 716, attributes := #[] }, { accessFlags := 26, nameIndex := 719, descriptorIndex := 716, attributes := #[] }, { accessFlags := 4120, nameIndex := 445, descriptorIndex := 117, attributes := #[] }])
  fields := #[{ name := "MIN_ARRAY_SORT_GRAN", type := .int, accessFlags := 26, slot := 0, constantValue := 0 }, { name := "INSERTIONSORT_THRESHOLD", type := .int, accessFlags := 26, slot := 1, constantValue := 0 }, { name := "$assertionsDisabled", type := .boolean, accessFlags := 4120, slot := 2, constantValue := 0 }]
  methods := #[k4m0, k4m1, k4m2]
  instanceTypes := #[]
  staticTypes := #[.int, .int, .boolean]
  resolved := Array.replicate 1029 none
  statics := none }

def pool5 : Array CpInfo := pool [(1, .class_ 2), (0, u "java/lang/Math"), (1, .class_ 6), (1, u "java/lang/Object"), (0, u "<init>"), (0, u "()V"), (89, .class_ 100), (1, u "java/lang/Math$RandomNumberGeneratorHolder"), (71, u "negativeZeroFloatBits"), (0, u "J"), (2, u "negativeZeroDoubleBits"), (24, u "min"), (43, u "$assertionsDisabled"), (0, u "Z"), (88, u "(II)I"), (2, u "twoToTheDoubleScaleDown"), (0, u "D"), (4, u "twoToTheDoubleScaleUp"), (9, u "E"), (3, u "PI"), (2, u "TAU"), (2, u "DEGREES_TO_RADIANS"), (0, u "RADIANS_TO_DEGREES")] 94

def k5m0 : Method := { name := "<init>", desc := "()V", sig := { parameters := [], returnType := none }, accessFlags := 2, code := none }
def k5c1 : Code := { maxStack := 2, maxLocals := 2, code := jdk_29_method_69_code, exceptionTable := #[], attributes := #[] }
def k5m1 : Method := { name := "min", desc := "(II)I", sig := { parameters := [.int, .int], returnType := some .int }, accessFlags := 9, code := some k5c1 }
/-- java/lang/Math -/
def k5 : Class := { plain "java/lang/Math" (some 0) with
  accessFlags := 49
  interfaces := #[]
  cf := some (fileOf pool5 1 #[.nestMembers #[98]] #[{ accessFlags := 2, nameIndex := 7, descriptorIndex := 8, attributes := #[] }, { accessFlags := 9, nameIndex := 201, descriptorIndex := 335, attributes := #[] }] 49 4 #[] #[{ accessFlags := 25, nameIndex := 354, descriptorIndex := 339, attributes := #[] }, { accessFlags := 25, nameIndex := 358, descriptorIndex := 339, attributes := #[] }, { accessFlags := 25, nameIndex := 361, descriptorIndex := 339, attributes := #[] }, { accessFlags := 26, nameIndex := 364, descriptorIndex := 339, attributes := #[] }, { accessFlags := 26, nameIndex := 365, descriptorIndex := 339, attributes := #[] }, { accessFlags := 26, nameIndex := 172, descriptorIndex := 173, attributes := #[] }, { accessFlags := 26, nameIndex := 176, descriptorIndex := 173, attributes := #[] }, { accessFlags := 8, nameIndex := 344, descriptorIndex := 339, attributes := #[] }, { accessFlags := 8, nameIndex := 338, descriptorIndex := 339, attributes := #[] }, { accessFlags := 4120, nameIndex := 245, descriptorIndex := 246, attributes := #[] }])
  fields := #[{ name := "E", type := .double, accessFlags := 25, slot := 0, constantValue := 0 }, { name := "PI", type := .double, accessFlags := 25, slot := 1, constantValue := 0 }, { name := "TAU", type := .double, accessFlags := 25, slot := 2, constantValue := 0 }, { name := "DEGREES_TO_RADIANS", type := .double, accessFlags := 26, slot := 3, constantValue := 0 }, { name := "RADIANS_TO_DEGREES", type := .double, accessFlags := 26, slot := 4, constantValue := 0 }, { name := "negativeZeroFloatBits", type := .long, accessFlags := 26, slot := 5, constantValue := 0 }, { name := "negativeZeroDoubleBits", type := .long, accessFlags := 26, slot := 6, constantValue := 0 }, { name := "twoToTheDoubleScaleUp", type := .double, accessFlags := 8, slot := 7, constantValue := 0 }, { name := "twoToTheDoubleScaleDown", type := .double, accessFlags := 8, slot := 8, constantValue := 0 }, { name := "$assertionsDisabled", type := .boolean, accessFlags := 4120, slot := 9, constantValue := 0 }]
  methods := #[k5m0, k5m1]
  instanceTypes := #[]
  staticTypes := #[.double, .double, .double, .double, .double, .long, .long, .double, .double, .boolean]
  resolved := Array.replicate 460 none
  statics := none }

def pool6 : Array CpInfo := pool [(2, .class_ 4), (1, u "java/lang/Object"), (0, u "<init>"), (0, u "()V"), (1, .class_ 10), (1, u "java/lang/System"), (0, u "allowSecurityManager"), (0, u "I"), (16, u "cons"), (0, u "Ljava/io/Console;"), (77, .class_ 110), (1, u "java/lang/System$CallersHolder"), (43, u "initialErrStream"), (0, u "Ljava/io/PrintStream;"), (19, u "security"), (0, u "Ljava/lang/SecurityManager;"), (31, .class_ 209), (0, u "java/lang/System$1"), (7, u "props"), (0, u "Ljava/util/Properties;"), (2, u "lineSeparator"), (0, u "Ljava/lang/String;"), (96, .class_ 321), (1, u "java/lang/System$LoggerFinder"), (5, .class_ 328), (0, u "java/lang/System$Logger"), (67, u "err"), (2, u "out"), (91, u "notSupportedJnuEncoding"), (15, u "in"), (17, u "initialIn"), (0, u "Ljava/io/InputStream;"), (35, u "bootLayer"), (0, u "Ljava/lang/ModuleLayer;"), (99, .class_ 664), (0, u "java/lang/System$2"), (9, u "NEVER"), (2, u "MAYBE"), (49, u "arraycopy"), (0, u "(Ljava/lang/Object;ILjava/lang/Object;II)V"), (72, .class_ 802), (0, u "java/lang/System$Logger$Level")] 31

def k6m0 : Method := { name := "<init>", desc := "()V", sig := { parameters := [], returnType := none }, accessFlags := 2, code := none }
def k6m1 : Method := { name := "arraycopy", desc := "(Ljava/lang/Object;ILjava/lang/Object;II)V", sig := { parameters := [(.object "java/lang/Object"), .int, (.object "java/lang/Object"), .int, .int], returnType := none }, accessFlags := 265, code := none }
/-- java/lang/System -/
def k6 : Class := { plain "java/lang/System" (some 0) with
  accessFlags := 49
  interfaces := #[]
  cf := some (fileOf pool6 8 #[.nestMembers #[319, 327, 801, 108, 663, 208]] #[{ accessFlags := 2, nameIndex := 5, descriptorIndex := 6, attributes := #[] }, { accessFlags := 265, nameIndex := 727, descriptorIndex := 728, attributes := #[] }] 49 2 #[] #[{ accessFlags := 25, nameIndex := 507, descriptorIndex := 526, attributes := #[] }, { accessFlags := 25, nameIndex := 399, descriptorIndex := 155, attributes := #[] }, { accessFlags := 25, nameIndex := 396, descriptorIndex := 155, attributes := #[] }, { accessFlags := 10, nameIndex := 525, descriptorIndex := 526, attributes := #[] }, { accessFlags := 26, nameIndex := 674, descriptorIndex := 12, attributes := #[] }, { accessFlags := 26, nameIndex := 677, descriptorIndex := 12, attributes := #[] }, { accessFlags := 10, nameIndex := 11, descriptorIndex := 12, attributes := #[] }, { accessFlags := 74, nameIndex := 175, descriptorIndex := 176, attributes := #[] }, { accessFlags := 10, nameIndex := 491, descriptorIndex := 222, attributes := #[] }, { accessFlags := 74, nameIndex := 29, descriptorIndex := 30, attributes := #[] }, { accessFlags := 74, nameIndex := 154, descriptorIndex := 155, attributes := #[] }, { accessFlags := 10, nameIndex := 217, descriptorIndex := 218, attributes := #[] }, { accessFlags := 10, nameIndex := 221, descriptorIndex := 222, attributes := #[] }, { accessFlags := 8, nameIndex := 562, descriptorIndex := 563, attributes := #[] }])
  fields := #[{ name := "in", type := (.object "java/io/InputStream"), accessFlags := 25, slot := 0, constantValue := 0 }, { name := "out", type := (.object "java/io/PrintStream"), accessFlags := 25, slot := 1, constantValue := 0 }, { name := "err", type := (.object "java/io/PrintStream"), accessFlags := 25, slot := 2, constantValue := 0 }, { name := "initialIn", type := (.object "java/io/InputStream"), accessFlags := 10, slot := 3, constantValue := 0 }, { name := "NEVER", type := .int, accessFlags := 26, slot := 4, constantValue := 0 }, { name := "MAYBE", type := .int, accessFlags := 26, slot := 5, constantValue := 0 }, { name := "allowSecurityManager", type := .int, accessFlags := 10, slot := 6, constantValue := 0 }, { name := "security", type := (.object "java/lang/SecurityManager"), accessFlags := 74, slot := 7, constantValue := 0 }, { name := "notSupportedJnuEncoding", type := (.object "java/lang/String"), accessFlags := 10, slot := 8, constantValue := 0 }, { name := "cons", type := (.object "java/io/Console"), accessFlags := 74, slot := 9, constantValue := 0 }, { name := "initialErrStream", type := (.object "java/io/PrintStream"), accessFlags := 74, slot := 10, constantValue := 0 }, { name := "props", type := (.object "java/util/Properties"), accessFlags := 10, slot := 11, constantValue := 0 }, { name := "lineSeparator", type := (.object "java/lang/String"), accessFlags := 10, slot := 12, constantValue := 0 }, { name := "bootLayer", type := (.object "java/lang/ModuleLayer"), accessFlags := 8, slot := 13, constantValue := 0 }]
  methods := #[k6m0, k6m1]
  instanceTypes := #[]
  staticTypes := #[(.object "java/io/InputStream"), (.object "java/io/PrintStream"), (.object "java/io/PrintStream"), (.object "java/io/InputStream"), .int, .int, .int, (.object "java/lang/SecurityManager"), (.object "java/lang/String"), (.object "java/io/Console"), (.object "java/io/PrintStream"), (.object "java/util/Properties"), (.object "java/lang/String"), (.object "java/lang/ModuleLayer")]
  resolved := Array.replicate 834 none
  statics := none }

def pool7 : Array CpInfo := pool [(1, .class_ 2), (0, u "java/lang/Cloneable"), (0, .class_ 4), (0, u "java/lang/Object")] 2

/-- java/lang/Cloneable -/
def k7 : Class := { plain "java/lang/Cloneable" (some 0) with
  accessFlags := 1537
  interfaces := #[]
  cf := some (fileOf pool7 1 #[] #[] 1537 3 #[] #[])
  fields := #[]
  methods := #[]
  instanceTypes := #[]
  staticTypes := #[]
  resolved := Array.replicate 7 none
  statics := none }

def pool8 : Array CpInfo := pool [(1, u "java/io/Serializable"), (0, .class_ 1), (0, u "java/lang/Object"), (0, .class_ 3)] 3

/-- java/io/Serializable -/
def k8 : Class := { plain "java/io/Serializable" (some 0) with
  accessFlags := 1537
  interfaces := #[]
  cf := some (fileOf pool8 2 #[] #[] 1537 4 #[] #[])
  fields := #[]
  methods := #[]
  instanceTypes := #[]
  staticTypes := #[]
  resolved := Array.replicate 8 none
  statics := none }

/-- the primitive byte -/
def k9 : Class := { plain "byte" none with kind := .primitive 'B', accessFlags := 0x411 }
/-- [B -/
def k10 : Class := { plain "[B" (some 0) with kind := .array 9 .byte, interfaces := #[7, 8], accessFlags := 1041 }

/-- the primitive int -/
def k11 : Class := { plain "int" none with kind := .primitive 'I', accessFlags := 0x411 }
/-- [I -/
def k12 : Class := { plain "[I" (some 0) with kind := .array 11 .int, interfaces := #[7, 8], accessFlags := 1041 }

def heap : Heap := #[]
def classes : Array Class := #[k0, k1, k2, k3, k4, k5, k6, k7, k8, k9, k10, k11, k12]
def interned : List (Array UInt16 × Addr) := []
def slotsUsed : Nat := 0
def theMethod : MethodId := ⟨1, 1⟩
def args0 : Array Value := #[.int 3, .int 4, .int 5]
def aboutOver (below : List Frame) : State where
  vm := { classes := classes, interned := interned.toArray }
  heap := heap
  slotsUsed := slotsUsed
  threads := #[{ frames := .invoking theMethod args0 :: below }]
def below0 : List Frame := [.native { method := ⟨0, 0⟩, args := #[] }]
def about1 : State := aboutOver below0
def p0 : Program := .bare "" "" ""
def e0 : Env := launch0.env 0 0 0
theorem w_frames : about1.frames = Frame.invoking theMethod args0 :: below0 := rfl
set_option maxRecDepth 65536 in
theorem w_args : argsFit about1.vm theMethod args0 = true := by decide +kernel
set_option maxRecDepth 65536 in
theorem w_heap : heapFits about1 = true := by decide +kernel
set_option maxRecDepth 65536 in
theorem w_runnable : about1.curStatus? = some .runnable := by decide +kernel
set_option maxRecDepth 65536 in
theorem w_alone : about1.alone = true := by decide +kernel
set_option maxRecDepth 65536 in
theorem w_named : about1.methodNamed? x = some theMethod := by decide +kernel
set_option maxRecDepth 65536 in
theorem w_hears : about1.hears theMethod below0 = true := by decide +kernel
set_option maxRecDepth 65536 in
theorem w_ripe : about1.ripe theMethod args0 below0 = true := by decide +kernel
theorem w_running : about1.status = .running := rfl
set_option maxRecDepth 65536 in
theorem w_room : about1.hasRoom e0.platform room_1 = true :=
  launch0.hasRoom_least _ room_1 (by decide +kernel) (by decide +kernel) (by decide +kernel) (by decide +kernel) (by decide +kernel) (by decide +kernel)
theorem allAtoms_all (ts : List Jvm.Cond) (a : Array Jvm.Value) (st : Jvm.State) : (allAtoms ts).before a st = ts.all (fun c => c.before a st) := by
  induction ts with
  | nil => rfl
  | cons c t ih =>
    show (Jvm.Cond.and c (allAtoms t)).before a st = _
    rw [Jvm.Cond.before_and, ih, List.all_cons]
def words1 : List Jvm.Cond := Jvm.Cond.code x code maxLocals ret :: tables_1
/-- a 'code' word, met by the world's own term for the bytes: nothing is compared byte by byte -/
theorem code_word {y : MethodName} {bytes : ByteArray} {mx : Nat} {rt : Option FieldType} {a : Array Value} {s : State} {m : MethodId} {meth : Method} {c : Code} (h1 : s.methodNamed? y = some m) (h2 : s.vm.method? m = some meth) (h3 : meth.code = some c) (h4 : c.code = bytes)
    (h5 : (c.maxLocals == mx && c.exceptionTable.isEmpty && decide (c.maxStack ≤ mostOperands) && decide (meth.sig.returnType = rt) && !meth.locks && decide (parseMethodDescriptor y.desc = some meth.sig)) = true) : (Jvm.Cond.code y bytes mx rt).before a s = true := by
  simp only [Bool.and_eq_true, beq_iff_eq, Bool.not_eq_true', decide_eq_true_eq] at h5
  obtain ⟨⟨⟨⟨⟨g1, g2⟩, g3⟩, g4⟩, g5⟩, g6⟩ := h5
  simp [Cond.before, Cond.holds, Cond.value, h1, h2, h3, h4, g1, g2, g3, g4, g5, g6]
def isCode : Jvm.Cond → Bool
  | .code _ _ _ _ => true
  | _ => false
theorem all_split {L : List Jvm.Cond} {P : Jvm.Cond → Bool} (h1 : L.all (fun c => isCode c || P c) = true) (h2 : ∀ c ∈ L.filter isCode, P c = true) : L.all P = true := by
  refine List.all_eq_true.mpr fun c hc => ?_
  have h := List.all_eq_true.mp h1 c hc
  rcases Bool.eq_false_or_eq_true (isCode c) with hi | hi
  · exact h2 c (List.mem_filter.mpr ⟨hc, hi⟩)
  · simpa [hi] using h
set_option maxRecDepth 65536 in
theorem w_c0 : (Jvm.Cond.code x code maxLocals ret).before args0 about1 = true := code_word (m := ⟨1, 1⟩) (meth := k1m1) (c := k1c1) (by decide +kernel) rfl rfl rfl (by decide +kernel)
set_option maxRecDepth 65536 in
theorem w_c1 : (Jvm.Cond.code ({ cls := "com/example/wayfare/wayfare/exec/RowTargets$Marked", name := "<init>", desc := "(I)V" } : Jvm.MethodName) prog_20_method_1_code (2 : Nat) (Option.none : Option Jvm.ClassFile.FieldType)).before args0 about1 = true := code_word (m := ⟨3, 0⟩) (meth := k3m0) (c := k3c0) (by decide +kernel) rfl rfl rfl (by decide +kernel)
set_option maxRecDepth 65536 in
theorem w_c2 : (Jvm.Cond.code ({ cls := "com/example/wayfare/wayfare/exec/RowTargets", name := "<init>", desc := "(I)V" } : Jvm.MethodName) prog_18_method_1_code (2 : Nat) (Option.none : Option Jvm.ClassFile.FieldType)).before args0 about1 = true := code_word (m := ⟨2, 0⟩) (meth := k2m0) (c := k2c0) (by decide +kernel) rfl rfl rfl (by decide +kernel)
set_option maxRecDepth 65536 in
theorem w_c3 : (Jvm.Cond.code ({ cls := "java/lang/Object", name := "<init>", desc := "()V" } : Jvm.MethodName) object_method_1_code (1 : Nat) (Option.none : Option Jvm.ClassFile.FieldType)).before args0 about1 = true := code_word (m := ⟨0, 0⟩) (meth := k0m0) (c := k0c0) (by decide +kernel) rfl rfl rfl (by decide +kernel)
set_option maxRecDepth 65536 in
theorem w_c4 : (Jvm.Cond.code ({ cls := "java/util/Arrays", name := "fill", desc := "([II)V" } : Jvm.MethodName) jdk_65_method_103_code (4 : Nat) (Option.none : Option Jvm.ClassFile.FieldType)).before args0 about1 = true := code_word (m := ⟨4, 1⟩) (meth := k4m1) (c := k4c1) (by decide +kernel) rfl rfl rfl (by decide +kernel)
set_option maxRecDepth 65536 in
theorem w_c5 : (Jvm.Cond.code ({ cls := "com/example/wayfare/wayfare/exec/RowTargets", name := "startRow", desc := "()V" } : Jvm.MethodName) prog_18_method_2_code (1 : Nat) (Option.none : Option Jvm.ClassFile.FieldType)).before args0 about1 = true := code_word (m := ⟨2, 1⟩) (meth := k2m1) (c := k2c1) (by decide +kernel) rfl rfl rfl (by decide +kernel)
set_option maxRecDepth 65536 in
theorem w_c6 : (Jvm.Cond.code ({ cls := "com/example/wayfare/wayfare/exec/RowTargets", name := "full", desc := "()Z" } : Jvm.MethodName) prog_18_method_8_code (1 : Nat) (Option.some Jvm.ClassFile.FieldType.boolean)).before args0 about1 = true := code_word (m := ⟨2, 4⟩) (meth := k2m4) (c := k2c4) (by decide +kernel) rfl rfl rfl (by decide +kernel)
set_option maxRecDepth 65536 in
theorem w_c7 : (Jvm.Cond.code ({ cls := "com/example/wayfare/wayfare/exec/RowTargets", name := "makeRoom", desc := "()V" } : Jvm.MethodName) prog_18_method_9_code (1 : Nat) (Option.none : Option Jvm.ClassFile.FieldType)).before args0 about1 = true := code_word (m := ⟨2, 5⟩) (meth := k2m5) (c := k2c5) (by decide +kernel) rfl rfl rfl (by decide +kernel)
set_option maxRecDepth 65536 in
theorem w_c8 : (Jvm.Cond.code ({ cls := "java/util/Arrays", name := "copyOf", desc := "([II)[I" } : Jvm.MethodName) jdk_65_method_123_code (3 : Nat) (Option.some (Jvm.ClassFile.FieldType.array Jvm.ClassFile.FieldType.int))).before args0 about1 = true := code_word (m := ⟨4, 2⟩) (meth := k4m2) (c := k4c2) (by decide +kernel) rfl rfl rfl (by decide +kernel)
set_option maxRecDepth 65536 in
theorem w_c9 : (Jvm.Cond.code ({ cls := "java/lang/Math", name := "min", desc := "(II)I" } : Jvm.MethodName) jdk_29_method_69_code (2 : Nat) (Option.some Jvm.ClassFile.FieldType.int)).before args0 about1 = true := code_word (m := ⟨5, 1⟩) (meth := k5m1) (c := k5c1) (by decide +kernel) rfl rfl rfl (by decide +kernel)
set_option maxRecDepth 65536 in
theorem w_c10 : (Jvm.Cond.code ({ cls := "com/example/wayfare/wayfare/exec/RowTargets$Marked", name := "add", desc := "(I)V" } : Jvm.MethodName) prog_20_method_2_code (2 : Nat) (Option.none : Option Jvm.ClassFile.FieldType)).before args0 about1 = true := code_word (m := ⟨3, 1⟩) (meth := k3m1) (c := k3c1) (by decide +kernel) rfl rfl rfl (by decide +kernel)
set_option maxRecDepth 65536 in
theorem w_c11 : (Jvm.Cond.code ({ cls := "com/example/wayfare/wayfare/exec/RowTargets", name := "row", desc := "()I" } : Jvm.MethodName) prog_18_method_3_code (1 : Nat) (Option.some Jvm.ClassFile.FieldType.int)).before args0 about1 = true := code_word (m := ⟨2, 2⟩) (meth := k2m2) (c := k2c2) (by decide +kernel) rfl rfl rfl (by decide +kernel)
set_option maxRecDepth 65536 in
theorem w_c12 : (Jvm.Cond.code ({ cls := "com/example/wayfare/wayfare/exec/RowTargets", name := "take", desc := "(I)V" } : Jvm.MethodName) prog_18_method_6_code (2 : Nat) (Option.none : Option Jvm.ClassFile.FieldType)).before args0 about1 = true := code_word (m := ⟨2, 3⟩) (meth := k2m3) (c := k2c3) (by decide +kernel) rfl rfl rfl (by decide +kernel)
def codes1 : List Jvm.Cond := [Jvm.Cond.code x code maxLocals ret, Jvm.Cond.code ({ cls := "com/example/wayfare/wayfare/exec/RowTargets$Marked", name := "<init>", desc := "(I)V" } : Jvm.MethodName) prog_20_method_1_code (2 : Nat) (Option.none : Option Jvm.ClassFile.FieldType), Jvm.Cond.code ({ cls := "com/example/wayfare/wayfare/exec/RowTargets", name := "<init>", desc := "(I)V" } : Jvm.MethodName) prog_18_method_1_code (2 : Nat) (Option.none : Option Jvm.ClassFile.FieldType), Jvm.Cond.code ({ cls := "java/lang/Object", name := "<init>", desc := "()V" } : Jvm.MethodName) object_method_1_code (1 : Nat) (Option.none : Option Jvm.ClassFile.FieldType), Jvm.Cond.code ({ cls := "java/util/Arrays", name := "fill", desc := "([II)V" } : Jvm.MethodName) jdk_65_method_103_code (4 : Nat) (Option.none : Option Jvm.ClassFile.FieldType), Jvm.Cond.code ({ cls := "com/example/wayfare/wayfare/exec/RowTargets", name := "startRow", desc := "()V" } : Jvm.MethodName) prog_18_method_2_code (1 : Nat) (Option.none : Option Jvm.ClassFile.FieldType), Jvm.Cond.code ({ cls := "com/example/wayfare/wayfare/exec/RowTargets", name := "full", desc := "()Z" } : Jvm.MethodName) prog_18_method_8_code (1 : Nat) (Option.some Jvm.ClassFile.FieldType.boolean), Jvm.Cond.code ({ cls := "com/example/wayfare/wayfare/exec/RowTargets", name := "makeRoom", desc := "()V" } : Jvm.MethodName) prog_18_method_9_code (1 : Nat) (Option.none : Option Jvm.ClassFile.FieldType), Jvm.Cond.code ({ cls := "java/util/Arrays", name := "copyOf", desc := "([II)[I" } : Jvm.MethodName) jdk_65_method_123_code (3 : Nat) (Option.some (Jvm.ClassFile.FieldType.array Jvm.ClassFile.FieldType.int)), Jvm.Cond.code ({ cls := "java/lang/Math", name := "min", desc := "(II)I" } : Jvm.MethodName) jdk_29_method_69_code (2 : Nat) (Option.some Jvm.ClassFile.FieldType.int), Jvm.Cond.code ({ cls := "com/example/wayfare/wayfare/exec/RowTargets$Marked", name := "add", desc := "(I)V" } : Jvm.MethodName) prog_20_method_2_code (2 : Nat) (Option.none : Option Jvm.ClassFile.FieldType), Jvm.Cond.code ({ cls := "com/example/wayfare/wayfare/exec/RowTargets", name := "row", desc := "()I" } : Jvm.MethodName) prog_18_method_3_code (1 : Nat) (Option.some Jvm.ClassFile.FieldType.int), Jvm.Cond.code ({ cls := "com/example/wayfare/wayfare/exec/RowTargets", name := "take", desc := "(I)V" } : Jvm.MethodName) prog_18_method_6_code (2 : Nat) (Option.none : Option Jvm.ClassFile.FieldType)]
set_option maxRecDepth 65536 in
theorem codes_eq : words1.filter isCode = codes1 := rfl
theorem w_codes : ∀ c ∈ words1.filter isCode, c.before args0 about1 = true := by
  rw [codes_eq]
  intro c hc
  simp only [codes1, List.mem_cons, List.not_mem_nil, or_false] at hc
  rcases hc with rfl | rfl | rfl | rfl | rfl | rfl | rfl | rfl | rfl | rfl | rfl | rfl | rfl
  · exact w_c0
  · exact w_c1
  · exact w_c2
  · exact w_c3
  · exact w_c4
  · exact w_c5
  · exact w_c6
  · exact w_c7
  · exact w_c8
  · exact w_c9
  · exact w_c10
  · exact w_c11
  · exact w_c12
set_option maxRecDepth 65536 in
theorem w_t1 : (words1.take 24).all (fun c => isCode c || c.before args0 about1) = true := by decide +kernel
set_option maxRecDepth 65536 in
theorem w_t2 : ((words1.drop 24).take 24).all (fun c => isCode c || c.before args0 about1) = true := by decide +kernel
set_option maxRecDepth 65536 in
theorem w_t3 : (((words1.drop 24).drop 24).take 24).all (fun c => isCode c || c.before args0 about1) = true := by decide +kernel
set_option maxRecDepth 65536 in
theorem w_t4 : (((words1.drop 24).drop 24).drop 24).all (fun c => isCode c || c.before args0 about1) = true := by decide +kernel
theorem w_tables : (allAtoms (Jvm.Cond.code x code maxLocals ret :: tables_1)).before args0 about1 = true := by
  rw [allAtoms_all]
  show words1.all (fun c => c.before args0 about1) = true
  refine all_split ?_ w_codes
  rw [← List.take_append_drop 24 words1, List.all_append, w_t1, ← List.take_append_drop 24 (words1.drop 24), List.all_append, w_t2, ← List.take_append_drop 24 ((words1.drop 24).drop 24), List.all_append, w_t3, w_t4]
  rfl
set_option maxRecDepth 65536 in
theorem w_case : (Jvm.Cond.and given_1 narrow_1).before args0 about1 = true := by decide +kernel
theorem w_applies : (headSpec (Jvm.Cond.code x code maxLocals ret :: tables_1) room_1).applies x e0.platform about1 = true :=
  (Spec.applies_iff w_frames).mpr ⟨w_running, w_runnable, w_alone, w_named, w_hears, w_ripe, w_room, w_tables⟩
theorem atStart : AtStart classFile x code maxLocals ret World_1 tables_1 room_1 Calls_1 rest_1 Pre_1 launch0 p0 e0 about1 theMethod args0 below0 :=
  ⟨lists_1, trivial, launch0.admits_env _ _ _, launch0.least_env, fairChoices_fair.cas, fairChoices_fair.clock, w_frames, w_args, w_heap, w_applies, trivial, trivial, w_case⟩
end start1
theorem witness_1 : WitnessClaimed_1 := ⟨start1.p0, start1.e0, start1.about1, start1.theMethod, start1.args0, start1.below0, start1.atStart⟩
end Jvm.Pilot.@@N@@
