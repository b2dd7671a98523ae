import JvmDerived
import JvmDerived.Pilot.@@N@@Statement
import JvmDerived.Pilot.@@N@@Code
set_option linter.unusedVariables false
set_option linter.unusedSimpArgs false
namespace Jvm.JW
open Sem ClassFile Op Lib Jvm.Stand Jvm.Free Jvm.LawKit Jvm.RoadKit
/-! The walk in continuation form: D holds of a machine state if the run from it ends as the contract says. -/
def Dn (p : Program) (e : Env) (below : List Frame) (s : State) (Q : Option Value → Heap → List Loc → Prop) (k n : Nat) (S : State) : Prop :=
  ∃ s₂ o, Steps p.tables e below S s₂ ∧ s₂.status = .running ∧ Ended s₂ below o ∧ ∃ v L, o = .returned v ∧ Q v s₂.heap L ∧ FrameEnd s o s₂ L k n
def Adv (p : Program) (e : Env) (below : List Frame) (D : State → Prop) : Prop :=
  ∀ {S S' : State}, (∀ {t : State}, Steps p.tables e below S' t → Steps p.tables e below S t) → D S' → D S
theorem Adv.dn {p : Program} {e : Env} {below : List Frame} {s : State} {Q : Option Value → Heap → List Loc → Prop} {k n : Nat} : Adv p e below (Dn p e below s Q k n) := by
  intro S S' h d
  obtain ⟨s2, o, h1, h2⟩ := d
  exact ⟨s2, o, h h1, h2⟩
theorem Adv.tr {p : Program} {e : Env} {below : List Frame} {D : State → Prop} (A : Adv p e below D) {S S' : State} (h : Steps p.tables e below S S') (d : D S') : D S := A (fun k => h.trans k) d
abbrev JMet (l : Launch) (Z : State) (y : MethodName) (bytes : ByteArray) (maxL : Nat) (ret : Option FieldType) (ws : List Cond) (rm : Room) (as' : Array Value) (h0 : Heap) (Q : Option Value → Heap → List Loc → Prop) : Prop :=
  MetFree l y (head1 (Cond.code y bytes maxL ret :: ws) rm) (fun a U => a = as' ∧ Z.Warmed39 U.vm ∧ U.heap = h0) (fun _ _ _ _ _ => True) (fun _ U o U' => ∃ v L, o = .returned v ∧ Q v U'.heap L ∧ FrameEnd U o U' L rm.cells rm.slots)
/-- a body that returns r and leaves the heap as it was -/
def QP (r : Value) (h0 : Heap) (n0 : Nat) (v : Option Value) (h : Heap) (L : List Loc) : Prop := v = some r ∧ Fr n0 L ∧ h = h0
/-- the law: it returns 1; nothing that stood at the start is written -/
def QL (n0 : Nat) (v : Option Value) (h : Heap) (L : List Loc) : Prop := v = some (.int 1) ∧ Fr n0 L
section Kit
variable {p : Program} {l : Launch} {e : Env} {R : Room} {s : State} {m : MethodId} {args : Array Value} {below : List Frame} {meth : Method} {c : Code} {T : State} {locs : List Loc} {cells slots : Nat} {Z : State} {a0 : Array Value} {h : Heap} {D : State → Prop}
theorem ret (X : Stand p l e R s m args below meth c T locs cells slots) (hlk : meth.locks = false) {Q : Option Value → Heap → List Loc → Prop} {k n : Nat} {S : State} {v : Option Value} (hv : meth.sig.returnType = none → v = none)
    (hst : ∀ fs, (∀ (f : JFrame) (acts : List Action), f.method = m → f.locked = none → f.entered = [] → (doReturn e (T.setTop f) acts v).1 = T.setFrames fs) → Steps p.tables e below S (T.setFrames fs))
    {hh : Heap} (eT : T.heap = hh) (hq : Q v hh locs) (hk : cells ≤ k) (hn : slots ≤ n) : Dn p e below s Q k n S := by
  subst eT
  obtain ⟨fs, hr, hrun, hended, hW, hsame⟩ := X.leave (v := v) hv hlk
  exact ⟨_, _, hst fs hr, hrun, hended, _, _, rfl, hq, ⟨_, rfl⟩, hW, hsame.mono hk hn⟩
theorem body {y : MethodName} {bytes : ByteArray} {maxL : Nat} {rt : Option FieldType} {ws : List Cond} {rm : Room} {as' : Array Value} {h0 : Heap} {Q : Option Value → Heap → List Loc → Prop} (Ls : Array Slot) (hpl : plainFor y = true) (hef : ∀ m, entryFrame m as' maxL = mkF m 0 Ls [])
    (bd : ∀ (p : Program) (e : Env) (s : State) (m : MethodId) (below : List Frame) (meth : Method) (c : Code) (T0 : State) (D : State → Prop), Adv p e below D → (∀ S, Dn p e below s Q rm.cells rm.slots S → D S) → Stand p l e rm s m as' below meth c T0 [] 0 0 → p.tables.exec = Jvm.exec → Z.Warmed39 s.vm → c.code = bytes → c.maxLocals = maxL → s.vm.findClass y.cls = some m.cls → meth.name = y.name → meth.sig.returnType = rt → meth.locks = false → T0.heap = h0 → D (T0.setTop (mkF m 0 Ls []))) :
    JMet l Z y bytes maxL rt ws rm as' h0 Q := by
  refine MetFree.of_bodySF hpl hisR ?_
  intro p e s m args below meth c s₁ Bd hml hP hK
  obtain ⟨rfl, hZ, hh⟩ := hP
  have q := bd p e s m below meth c s₁ (Dn p e below s Q rm.cells rm.slots) Adv.dn (fun _ d => d) (Stand.of_body Bd) Bd.exec hZ Bd.bytes hml (findClass_of_methodNamed Bd.named) (name_of_methodNamed Bd.named Bd.method).1 Bd.returns Bd.notSynchronized (by rw [← hh, Bd.state]; rfl)
  rw [← hef m] at q
  exact q
theorem Adv.callS (A : Adv p e below D) (X : Stand p l e R s m args below meth c T locs cells slots) (hx : p.tables.exec = Jvm.exec) (hZ : Z.Warmed39 s.vm) {own : String} {index : Nat} {y : MethodName} {bytes : ByteArray} {maxL : Nat} {rt : Option FieldType} {rm : Room} {as' : Array Value} {Q : Option Value → Heap → List Loc → Prop}
    (hown : s.vm.findClass own = some m.cls) (w1 : (Cond.methodLink own index y).before a0 Z = true) (w2 : (Cond.static y).before a0 Z = true) (w3 : (Cond.initialized y.cls).before a0 Z = true) (w4 : (Cond.code y bytes maxL rt).before a0 Z = true) (eT : T.heap = h)
    (hM : JMet l Z y bytes maxL rt [] rm as' h Q) (W : Nat) {g : JFrame} (hg : g.method = m) (hsz : g.locals.size = c.maxLocals) (argsL rest : List Value) (has : as' = argsL.toArray)
    (hlen : ∀ sig, parseMethodDescriptor y.desc = some sig → argsL.length = sig.parameters.length) (hstack : g.stack = argsL.reverse ++ rest) (hW : 2 * g.monitorRoom + (rest.map fun v => v.category).sum ≤ W)
    (hd : decode c.code g.pc = .ok (.invokestatic index, 3)) (hy : y.cls ≠ "java/lang/invoke/MethodHandle" ∧ y.cls ≠ "java/lang/invoke/VarHandle") (hf : rm.frames + 1 ≤ R.frames) (hl : W + (maxL + 11) + rm.locals ≤ R.locals) (hc : cells + rm.cells ≤ R.cells) (hs : slots + rm.slots ≤ R.slots)
    (k : ∀ (T' : State) (L' : List Loc) (v : Option Value), Stand p l e R s m args below meth c T' (locs ++ L') (cells + rm.cells) (slots + rm.slots) → Q v T'.heap L' → D (T'.setTop { g with pc := g.pc + 3, stack := v.toList ++ rest })) : D (T.setTop g) := by
  subst has
  obtain ⟨v, _, ⟨T', L, k', n'⟩, -, X', ⟨Lc, hQ, l', y', z'⟩, st⟩ := Jvm.LawKit.callS X hx (y := y) hown (mvT hZ w1) (mvT hZ w2) (mvT hZ w3) (mvT hZ w4) hy (backOf (W := W) hM hZ w4 w3 hf hl) (g := g) hg hsz (argsL := argsL) (rest := rest) hlen hstack hW hd (fun _ _ => ⟨rfl, eT, hc, hs⟩)
  dsimp only [Pt.U, Pt.locs, Pt.cells, Pt.slots] at X' l' y' z' st hQ
  subst l' y' z'
  exact A (fun q => st _ q) (k T' Lc v X' hQ)
theorem Adv.callI (A : Adv p e below D) (X : Stand p l e R s m args below meth c T locs cells slots) (hx : p.tables.exec = Jvm.exec) (hZ : Z.Warmed39 s.vm) {own : String} {index : Nat} {y : MethodName} {bytes : ByteArray} {maxL : Nat} {rm : Room} {as' : Array Value} {Q : Option Value → Heap → List Loc → Prop}
    (hown : s.vm.findClass own = some m.cls) (hi : y.name = "<init>") (w1 : (Cond.methodLink own index y).before a0 Z = true) (w2 : (Cond.instanceMethod y).before a0 Z = true) (w3 : (Cond.initialized y.cls).before a0 Z = true) (w4 : (Cond.code y bytes maxL none).before a0 Z = true) (eT : T.heap = h)
    (hM : JMet l Z y bytes maxL none [] rm as' h Q) (W : Nat) {g : JFrame} (hg : g.method = m) (hsz : g.locals.size = c.maxLocals) (a : Addr) (argsL rest : List Value) (has : as' = (.ref a :: argsL).toArray)
    (hlen : ∀ sig, parseMethodDescriptor y.desc = some sig → argsL.length = sig.parameters.length) (hstack : g.stack = argsL.reverse ++ .ref a :: rest) (hW : 2 * g.monitorRoom + (rest.map fun v => v.category).sum ≤ W)
    (hd : decode c.code g.pc = .ok (.invokespecial index, 3)) (hy : y.cls ≠ "java/lang/invoke/MethodHandle" ∧ y.cls ≠ "java/lang/invoke/VarHandle") (hf : rm.frames + 1 ≤ R.frames) (hl : W + (maxL + 11) + rm.locals ≤ R.locals) (hc : cells + rm.cells ≤ R.cells) (hs : slots + rm.slots ≤ R.slots)
    (k : ∀ (T' : State) (L' : List Loc) (v : Option Value), Stand p l e R s m args below meth c T' (locs ++ L') (cells + rm.cells) (slots + rm.slots) → Q v T'.heap L' → D (T'.setTop { g with pc := g.pc + 3, stack := v.toList ++ rest })) : D (T.setTop g) := by
  subst has
  obtain ⟨v, _, ⟨T', L, k', n'⟩, -, X', ⟨Lc, hQ, l', y', z'⟩, st⟩ := X.specialBack hx (y := y) hi hown (mvT hZ w1) (mvT hZ w2) (mvT hZ w4) hy (backOf (W := W) hM hZ w4 w3 hf hl) (g := g) hg hsz (Steps.refl _) (a := a) (argsL := argsL) (rest := rest) hlen hstack hW hd (fun _ _ => ⟨rfl, eT, hc, hs⟩)
  dsimp only [Pt.U, Pt.locs, Pt.cells, Pt.slots] at X' l' y' z' st hQ
  subst l' y' z'
  exact A.tr st (k T' Lc v X' hQ)
theorem Adv.callV (A : Adv p e below D) (X : Stand p l e R s m args below meth c T locs cells slots) (hx : p.tables.exec = Jvm.exec) (hZ : Z.Warmed39 s.vm) {own C : String} {index : Nat} {y z : MethodName} {bytes : ByteArray} {maxL : Nat} {rt : Option FieldType} {rm : Room} {as' : Array Value} {Q : Option Value → Heap → List Loc → Prop} {a : Addr}
    (hown : s.vm.findClass own = some m.cls) (w1 : (Cond.methodLink own index y).before a0 Z = true) (w2 : (Cond.declares y).before a0 Z = true) (nf : NotFace s y) (w5 : (Cond.selects C y z).before a0 Z = true) (w6 : (Cond.instanceMethod z).before a0 Z = true) (w3 : (Cond.initialized z.cls).before a0 Z = true) (w4 : (Cond.code z bytes maxL rt).before a0 Z = true) (eT : T.heap = h) (E : Exa Z h a C)
    (hM : JMet l Z z bytes maxL rt [] rm as' h Q) (W : Nat) {g : JFrame} (hg : g.method = m) (hsz : g.locals.size = c.maxLocals) (argsL rest : List Value) (has : as' = (.ref a :: argsL).toArray)
    (hlen : ∀ sig, parseMethodDescriptor y.desc = some sig → argsL.length = sig.parameters.length) (hstack : g.stack = argsL.reverse ++ .ref a :: rest) (hW : 2 * g.monitorRoom + (rest.map fun v => v.category).sum ≤ W)
    (hd : decode c.code g.pc = .ok (.invokevirtual index, 3)) (hy : y.cls ≠ "java/lang/invoke/MethodHandle" ∧ y.cls ≠ "java/lang/invoke/VarHandle") (hf : rm.frames + 1 ≤ R.frames) (hl : W + (maxL + 11) + rm.locals ≤ R.locals) (hc : cells + rm.cells ≤ R.cells) (hs : slots + rm.slots ≤ R.slots)
    (k : ∀ (T' : State) (L' : List Loc) (v : Option Value), Stand p l e R s m args below meth c T' (locs ++ L') (cells + rm.cells) (slots + rm.slots) → Q v T'.heap L' → D (T'.setTop { g with pc := g.pc + 3, stack := v.toList ++ rest })) : D (T.setTop g) := by
  subst has
  obtain ⟨cq, kq, qa, qb, qc⟩ := isOf hZ eT E
  obtain ⟨v, _, ⟨T', L, k', n'⟩, -, X', ⟨Lc, hQ, l', y', z'⟩, st⟩ := X.virtualBack hx (y := y) (z := z) hown (mvT hZ w1) (mvT hZ w2) nf (mvT hZ w5) (mvT hZ w6) hy (backOf (W := W) hM hZ w4 w3 hf hl) qa qc (g := g) hg hsz (Steps.refl _) (argsL := argsL) (rest := rest) hlen hstack hW hd (fun _ _ => ⟨rfl, eT, hc, hs⟩)
  dsimp only [Pt.U, Pt.locs, Pt.cells, Pt.slots] at X' l' y' z' st hQ
  subst l' y' z'
  exact A.tr st (k T' Lc v X' hQ)
theorem Adv.callU (A : Adv p e below D) (X : Stand p l e R s m args below meth c T locs cells slots) (hx : p.tables.exec = Jvm.exec) (hZ : Z.Warmed39 s.vm) {own C owner : String} {index : Nat} {y z : MethodName} {bytes : ByteArray} {maxL : Nat} {rt : Option FieldType} {rm : Room} {as' : Array Value} {Q : Option Value → Heap → List Loc → Prop} {a : Addr}
    (hown : s.vm.findClass own = some m.cls) (w1 : (Cond.methodLink own index y).before a0 Z = true) (w7 : (Cond.sameMethod y.cls owner y.name y.desc).before a0 Z = true) (w2 : (Cond.declares ⟨owner, y.name, y.desc⟩).before a0 Z = true) (w5 : (Cond.selects C y z).before a0 Z = true) (w6 : (Cond.instanceMethod z).before a0 Z = true) (w3 : (Cond.initialized z.cls).before a0 Z = true) (w4 : (Cond.code z bytes maxL rt).before a0 Z = true) (eT : T.heap = h) (E : Exa Z h a C)
    (hM : JMet l Z z bytes maxL rt [] rm as' h Q) (W : Nat) {g : JFrame} (hg : g.method = m) (hsz : g.locals.size = c.maxLocals) (argsL rest : List Value) (has : as' = (.ref a :: argsL).toArray)
    (hlen : ∀ sig, parseMethodDescriptor y.desc = some sig → argsL.length = sig.parameters.length) (hstack : g.stack = argsL.reverse ++ .ref a :: rest) (hW : 2 * g.monitorRoom + (rest.map fun v => v.category).sum ≤ W)
    (hd : decode c.code g.pc = .ok (.invokevirtual index, 3)) (hy : owner ≠ "java/lang/invoke/MethodHandle" ∧ owner ≠ "java/lang/invoke/VarHandle") (hf : rm.frames + 1 ≤ R.frames) (hl : W + (maxL + 11) + rm.locals ≤ R.locals) (hc : cells + rm.cells ≤ R.cells) (hs : slots + rm.slots ≤ R.slots)
    (k : ∀ (T' : State) (L' : List Loc) (v : Option Value), Stand p l e R s m args below meth c T' (locs ++ L') (cells + rm.cells) (slots + rm.slots) → Q v T'.heap L' → D (T'.setTop { g with pc := g.pc + 3, stack := v.toList ++ rest })) : D (T.setTop g) := by
  subst has
  obtain ⟨cq, kq, qa, qb, qc⟩ := isOf hZ eT E
  obtain ⟨v, _, ⟨T', L, k', n'⟩, -, X', ⟨Lc, hQ, l', y', z'⟩, st⟩ := X.virtualBackUp hx (x := y) (y := z) (owner := owner) hown (mvT hZ w1) (mvT hZ w7) (mvT hZ w2) hy (mvT hZ w5) (mvT hZ w6) (backOf (W := W) hM hZ w4 w3 hf hl) qa qc (g := g) hg hsz (Steps.refl _) (argsL := argsL) (rest := rest) hlen hstack hW hd (fun _ _ => ⟨rfl, eT, hc, hs⟩)
  dsimp only [Pt.U, Pt.locs, Pt.cells, Pt.slots] at X' l' y' z' st hQ
  subst l' y' z'
  exact A.tr st (k T' Lc v X' hQ)
theorem Adv.callP (A : Adv p e below D) (X : Stand p l e R s m args below meth c T locs cells slots) (hx : p.tables.exec = Jvm.exec) (hZ : Z.Warmed39 s.vm) {own C : String} {index kn : Nat} {y : MethodName} {bytes : ByteArray} {maxL : Nat} {rt : Option FieldType} {rm : Room} {as' : Array Value} {Q : Option Value → Heap → List Loc → Prop} {a : Addr}
    (hown : s.vm.findClass own = some m.cls) (w1 : (Cond.methodLink own index y).before a0 Z = true) (w2 : (Cond.instanceMethod y).before a0 Z = true) (wi : (Cond.instantiable y.cls kn).before a0 Z = true) (w5 : (Cond.privateMethod y).before a0 Z = true) (w3 : (Cond.initialized y.cls).before a0 Z = true) (w4 : (Cond.code y bytes maxL rt).before a0 Z = true) (eT : T.heap = h) (E : Exa Z h a C)
    (hM : JMet l Z y bytes maxL rt [] rm as' h Q) (W : Nat) {g : JFrame} (hg : g.method = m) (hsz : g.locals.size = c.maxLocals) (argsL rest : List Value) (has : as' = (.ref a :: argsL).toArray)
    (hlen : ∀ sig, parseMethodDescriptor y.desc = some sig → argsL.length = sig.parameters.length) (hstack : g.stack = argsL.reverse ++ .ref a :: rest) (hW : 2 * g.monitorRoom + (rest.map fun v => v.category).sum ≤ W)
    (hd : decode c.code g.pc = .ok (.invokevirtual index, 3)) (hy : y.cls ≠ "java/lang/invoke/MethodHandle" ∧ y.cls ≠ "java/lang/invoke/VarHandle") (hf : rm.frames + 1 ≤ R.frames) (hl : W + (maxL + 11) + rm.locals ≤ R.locals) (hc : cells + rm.cells ≤ R.cells) (hs : slots + rm.slots ≤ R.slots)
    (k : ∀ (T' : State) (L' : List Loc) (v : Option Value), Stand p l e R s m args below meth c T' (locs ++ L') (cells + rm.cells) (slots + rm.slots) → Q v T'.heap L' → D (T'.setTop { g with pc := g.pc + 3, stack := v.toList ++ rest })) : D (T.setTop g) := by
  subst has
  obtain ⟨ce, hce, hob⟩ := E.cell
  have hpriv : s.PrivateAt y := Cond.privateMethod_at (mvP hZ w5 (args := #[]))
  have hins : (Cond.instanceMethod y).before args s = true := mvT hZ w2
  have hwi : (Cond.instantiable y.cls kn).before args s = true := mvT hZ wi
  obtain ⟨ck, kk, c1, c2, -, c4, -⟩ := Cond.instantiable_spec hwi
  have hsel := selects_self_of_private c1 c2 (Bool.or_eq_false_iff.mp c4).1 hpriv hins hy
  obtain ⟨v, _, ⟨T', L, k', n'⟩, -, X', ⟨Lc, hQ, l', y', z'⟩, st⟩ := X.privateBack hx (y := y) hown (mvT hZ w1) hins hsel hpriv (mvT hZ w4) hy (backOf (W := W) hM hZ w4 w3 hf hl) (g := g) hg hsz (Steps.refl _) (a := a) (cell := ce) (by rw [eT]; exact hce) hob (argsL := argsL) (rest := rest) hlen hstack hW hd (fun _ _ => ⟨rfl, eT, hc, hs⟩)
  dsimp only [Pt.U, Pt.locs, Pt.cells, Pt.slots] at X' l' y' z' st hQ
  subst l' y' z'
  exact A.tr st (k T' Lc v X' hQ)
end Kit
/-! ### arrays by a function of the place -/
section Arrays
variable {p : Program} {l : Launch} {e : Env} {R : Room} {s : State} {m : MethodId} {args : Array Value} {below : List Frame} {meth : Method} {c : Code} {T : State} {locs : List Loc} {cells slots : Nat} {Z : State} {a0 : Array Value} {h h' : Heap} {D : State → Prop} {a b : Addr} {ty : FieldType} {n : Nat} {f : Nat → Int32} {fJ : Nat → Int64} {sl : Nat} {v : Value} {ws : List Addr}
def ArI (Z : State) (h : Heap) (a : Addr) (ty : FieldType) (n : Nat) (f : Nat → Int32) : Prop :=
  n < 2147483648 ∧ ∃ c : Cell, Arr Z h a c ty ∧ c.slots.size = n ∧ ∀ i, i < n → c.slots[i]? = some (.int (f i))
def ArJ (Z : State) (h : Heap) (a : Addr) (n : Nat) (f : Nat → Int64) : Prop :=
  n < 2147483648 ∧ ∃ c : Cell, Arr Z h a c .long ∧ c.slots.size = n ∧ ∀ i, i < n → c.slots[i]? = some (.long (f i))
theorem ArI.lt (F : ArI Z h a ty n f) : a < h.size := by obtain ⟨-, c, A, -⟩ := F; exact A.lt
theorem ArI.ext (F : ArI Z h a ty n f) (E : Ext h h') : ArI Z h' a ty n f := by obtain ⟨q, c, A, r⟩ := F; exact ⟨q, c, A.ext E, r⟩
theorem ArI.other (F : ArI Z h b ty n f) (W : Wr h h' a sl v) (q : b ≠ a) : ArI Z h' b ty n f := by obtain ⟨z, c, A, r⟩ := F; exact ⟨z, c, A.other W q, r⟩
theorem ArI.keep (F : ArI Z h a ty n f) (K : Keep h h' ws) (q : a ∉ ws) : ArI Z h' a ty n f := by obtain ⟨z, c, A, r⟩ := F; exact ⟨z, c, ⟨K.2.1 a c A.1 q, A.2⟩, r⟩
theorem ArI.eqf {g : Nat → Int32} (F : ArI Z h a ty n f) (q : ∀ i, i < n → f i = g i) : ArI Z h a ty n g := by
  obtain ⟨z, c, A, r, H⟩ := F; exact ⟨z, c, A, r, fun i hi => by rw [← q i hi]; exact H i hi⟩
theorem ArJ.lt (F : ArJ Z h a n fJ) : a < h.size := by obtain ⟨-, c, A, -⟩ := F; exact A.lt
theorem ArJ.ext (F : ArJ Z h a n fJ) (E : Ext h h') : ArJ Z h' a n fJ := by obtain ⟨q, c, A, r⟩ := F; exact ⟨q, c, A.ext E, r⟩
theorem ArJ.other (F : ArJ Z h b n fJ) (W : Wr h h' a sl v) (q : b ≠ a) : ArJ Z h' b n fJ := by obtain ⟨z, c, A, r⟩ := F; exact ⟨z, c, A.other W q, r⟩
theorem ArJ.keep (F : ArJ Z h a n fJ) (K : Keep h h' ws) (q : a ∉ ws) : ArJ Z h' a n fJ := by obtain ⟨z, c, A, r⟩ := F; exact ⟨z, c, ⟨K.2.1 a c A.1 q, A.2⟩, r⟩
theorem ArJ.eqf {g : Nat → Int64} (F : ArJ Z h a n fJ) (q : ∀ i, i < n → fJ i = g i) : ArJ Z h a n g := by
  obtain ⟨z, c, A, r, H⟩ := F; exact ⟨z, c, A, r, fun i hi => by rw [← q i hi]; exact H i hi⟩
theorem ne_ari {C : String} {k : Nat} (F : Exa Z h a C) (wi : (Cond.instantiable C k).before a0 Z = true) (G : ArI Z h b ty n f) : a ≠ b := by obtain ⟨-, c, A, -⟩ := G; exact ne_arr F wi A
theorem ne_arj {C : String} {k : Nat} (F : Exa Z h a C) (wi : (Cond.instantiable C k).before a0 Z = true) (G : ArJ Z h b n fJ) : a ≠ b := by obtain ⟨-, c, A, -⟩ := G; exact ne_arr F wi A
theorem ne_arr2 {c1 c2 : Cell} {t1 t2 : FieldType} (F : Arr Z h a c1 t1) (G : Arr Z h b c2 t2) (hn : t1 ≠ t2) : a ≠ b := fun q => by
  subst q
  cases F.1.symm.trans G.1
  obtain ⟨-, k1, j1, comp1, j2⟩ := F.2.1
  obtain ⟨-, k2, i1, comp2, i2⟩ := G.2.1
  cases j1.symm.trans i1
  rw [j2] at i2
  injection i2 with _ q2
  exact hn q2
theorem ne_aij {n' : Nat} (F : ArI Z h a ty n f) (G : ArJ Z h b n' fJ) (hn : ty ≠ .long) : a ≠ b := by obtain ⟨-, c, A, -⟩ := F; obtain ⟨-, c', A', -⟩ := G; exact ne_arr2 A A' hn
theorem to_nat {j : Int32} {k : Nat} (hk : j.toInt = k) : j.toNatClampNeg = k := by simp only [Int32.toNatClampNeg, hk, Int.toNat_natCast]
theorem inb {cl : Cell} {j : Int32} {k : Nat} (hk : j.toInt = k) (hkn : k < n) (hs : cl.slots.size = n) : ¬ (j < 0 ∨ cl.slots.size ≤ j.toNatClampNeg) := by
  rw [to_nat hk, hs, Int32.lt_iff_toInt_lt, hk, show (0 : Int32).toInt = 0 from rfl]; omega
theorem ixadd {x d : Int32} {k j : Nat} (hx : x.toInt = k) (hd : d.toInt = j) (h : k + j < 2147483648) : (x + d).toInt = ((k + j : Nat) : Int) := by
  have h2 := c_iadd x d
  have h3 := rng32 (x + d)
  omega
theorem ArI.mk {k : ClassId} {z : Int32} (A : Arr Z h a (newA k ty z) ty) (hn : z.toInt = n) (hd : defaultValue ty = .int 0) : ArI Z h a ty n (fun _ => 0) := by
  have hz := to_nat hn
  refine ⟨?_, _, A, by rw [sz_new, hz], fun i hi => ?_⟩
  · have := Int32.toInt_lt z; omega
  · simp [newA, hz, hi, hd]
theorem ArJ.mk {k : ClassId} {z : Int32} (A : Arr Z h a (newA k .long z) .long) (hn : z.toInt = n) : ArJ Z h a n (fun _ => 0) := by
  have hz := to_nat hn
  refine ⟨?_, _, A, by rw [sz_new, hz], fun i hi => ?_⟩
  · have := Int32.toInt_lt z; omega
  · simp [newA, hz, hi, defaultValue]
theorem set_at {cl : Cell} {i k : Nat} (hk : k < cl.slots.size) : (cl.setSlot k v).slots[i]? = if i = k then some v else cl.slots[i]? := by
  simp only [Cell.setSlot, Array.getElem?_setIfInBounds]
  by_cases q : i = k
  · subst q; simp [hk]
  · simp [q, Ne.symm q]
theorem ArI.set {x : Int32} {k : Nat} (F : ArI Z h a ty n f) (W : Wr h h' a k (.int x)) (hk : k < n) : ArI Z h' a ty n (fun i => if i = k then x else f i) := by
  obtain ⟨z, c, A, r, H⟩ := F
  refine ⟨z, _, A.same W, by rw [sz_set, r], fun i hi => ?_⟩
  rw [set_at (by omega)]
  by_cases q : i = k
  · simp [q]
  · simp [q, H i hi]
theorem ArJ.set {x : Int64} {k : Nat} (F : ArJ Z h a n fJ) (W : Wr h h' a k (.long x)) (hk : k < n) : ArJ Z h' a n (fun i => if i = k then x else fJ i) := by
  obtain ⟨z, c, A, r, H⟩ := F
  refine ⟨z, _, A.same W, by rw [sz_set, r], fun i hi => ?_⟩
  rw [set_at (by omega)]
  by_cases q : i = k
  · simp [q]
  · simp [q, H i hi]
theorem Adv.ldI (A : Adv p e below D) (X : Stand p l e R s m args below meth c T locs cells slots) (hx : p.tables.exec = Jvm.exec) (hZ : Z.Warmed39 s.vm) (eT : T.heap = h) (F : ArI Z h a .int n f) {j : Int32} {k : Nat} (hk : j.toInt = k) (hkn : k < n) {g : JFrame} (hg : g.method = m) {rest : List Value} (hs : g.stack = .int j :: .ref a :: rest) (hd : decode c.code g.pc = .ok (.iaload, 1))
    (kk : D (T.setTop { g with pc := g.pc + 1, stack := .int (f k) :: rest })) : D (T.setTop g) := by
  obtain ⟨-, cl, Ar, r, H⟩ := F
  exact A (X.iaload hx (j := j) (v := .int (f k)) (by rw [eT]; exact Ar.1) (State.isArrayOf_alike hZ.alike Ar.2.1) Ar.2.2 (inb hk hkn r) (by rw [to_nat hk]; exact H k hkn) (g := g) hg hs hd _) kk
theorem Adv.ldB (A : Adv p e below D) (X : Stand p l e R s m args below meth c T locs cells slots) (hx : p.tables.exec = Jvm.exec) (hZ : Z.Warmed39 s.vm) (eT : T.heap = h) (F : ArI Z h a .byte n f) {j : Int32} {k : Nat} (hk : j.toInt = k) (hkn : k < n) {g : JFrame} (hg : g.method = m) {rest : List Value} (hs : g.stack = .int j :: .ref a :: rest) (hd : decode c.code g.pc = .ok (.baload, 1))
    (kk : D (T.setTop { g with pc := g.pc + 1, stack := .int (f k) :: rest })) : D (T.setTop g) := by
  obtain ⟨-, cl, Ar, r, H⟩ := F
  exact A (X.baloadBytes hx (j := j) (v := .int (f k)) (by rw [eT]; exact Ar.1) (State.isArrayOf_alike hZ.alike Ar.2.1) Ar.2.2 (inb hk hkn r) (by rw [to_nat hk]; exact H k hkn) (g := g) hg hs hd _) kk
theorem Adv.ldJ (A : Adv p e below D) (X : Stand p l e R s m args below meth c T locs cells slots) (hx : p.tables.exec = Jvm.exec) (hZ : Z.Warmed39 s.vm) (eT : T.heap = h) (F : ArJ Z h a n fJ) {j : Int32} {k : Nat} (hk : j.toInt = k) (hkn : k < n) {g : JFrame} (hg : g.method = m) {rest : List Value} (hs : g.stack = .int j :: .ref a :: rest) (hd : decode c.code g.pc = .ok (.laload, 1))
    (kk : D (T.setTop { g with pc := g.pc + 1, stack := .long (fJ k) :: rest })) : D (T.setTop g) := by
  obtain ⟨-, cl, Ar, r, H⟩ := F
  exact A (X.laload hx (j := j) (v := .long (fJ k)) (by rw [eT]; exact Ar.1) (State.isArrayOf_alike hZ.alike Ar.2.1) Ar.2.2 (inb hk hkn r) (by rw [to_nat hk]; exact H k hkn) (g := g) hg hs hd _) kk
theorem len32 {cl : Cell} (z : n < 2147483648) (r : cl.slots.size = n) : cl.slots.size.toInt32 = Int32.ofNat n   := by rw [r]
theorem Adv.lenI (A : Adv p e below D) (X : Stand p l e R s m args below meth c T locs cells slots) (hx : p.tables.exec = Jvm.exec) (hZ : Z.Warmed39 s.vm) (eT : T.heap = h) (F : ArI Z h a ty n f) {g : JFrame} (hg : g.method = m) {rest : List Value} (hs : g.stack = .ref a :: rest) (hd : decode c.code g.pc = .ok (.arraylength, 1))
    (kk : D (T.setTop { g with pc := g.pc + 1, stack := .int (Int32.ofNat n) :: rest })) : D (T.setTop g) := by
  obtain ⟨z, cl, Ar, r, H⟩ := F
  rw [← len32 z r] at kk
  exact A (X.arraylength hx (by rw [eT]; exact Ar.1) (State.isArrayOf_alike hZ.alike Ar.2.1) (g := g) hg hs hd _) kk
theorem Adv.lenJ (A : Adv p e below D) (X : Stand p l e R s m args below meth c T locs cells slots) (hx : p.tables.exec = Jvm.exec) (hZ : Z.Warmed39 s.vm) (eT : T.heap = h) (F : ArJ Z h a n fJ) {g : JFrame} (hg : g.method = m) {rest : List Value} (hs : g.stack = .ref a :: rest) (hd : decode c.code g.pc = .ok (.arraylength, 1))
    (kk : D (T.setTop { g with pc := g.pc + 1, stack := .int (Int32.ofNat n) :: rest })) : D (T.setTop g) := by
  obtain ⟨z, cl, Ar, r, H⟩ := F
  rw [← len32 z r] at kk
  exact A (X.arraylength hx (by rw [eT]; exact Ar.1) (State.isArrayOf_alike hZ.alike Ar.2.1) (g := g) hg hs hd _) kk
theorem Adv.stI (A : Adv p e below D) (X : Stand p l e R s m args below meth c T locs cells slots) (hx : p.tables.exec = Jvm.exec) (hZ : Z.Warmed39 s.vm) (eT : T.heap = h) (F : ArI Z h a .int n f) {j x : Int32} {k : Nat} (hk : j.toInt = k) (hkn : k < n) {g : JFrame} (hg : g.method = m) {rest : List Value} (hs : g.stack = .int x :: .int j :: .ref a :: rest) (hd : decode c.code g.pc = .ok (.iastore, 1))
    (kk : ∀ T' h', Stand p l e R s m args below meth c T' (locs ++ [⟨a, k⟩]) cells slots → T'.heap = h' → Wr h h' a k (.int x) → ArI Z h' a .int n (fun i => if i = k then x else f i) → D (T'.setTop { g with pc := g.pc + 1, stack := rest })) : D (T.setTop g) := by
  obtain ⟨cl, Ar, r, H⟩ := F.2
  obtain ⟨T', h', X', e', W, st⟩ := Jvm.RoadKit.stI X hx hZ eT Ar (j := j) (x := x) (inb hk hkn r) hg hs hd
  rw [to_nat hk] at X' W
  exact A (fun q => st _ q) (kk T' h' X' e' W (F.set W hkn))
theorem Adv.stB (A : Adv p e below D) (X : Stand p l e R s m args below meth c T locs cells slots) (hx : p.tables.exec = Jvm.exec) (hZ : Z.Warmed39 s.vm) (eT : T.heap = h) (F : ArI Z h a .byte n f) {j x : Int32} {k : Nat} (hk : j.toInt = k) (hkn : k < n) {g : JFrame} (hg : g.method = m) {rest : List Value} (hs : g.stack = .int x :: .int j :: .ref a :: rest) (hd : decode c.code g.pc = .ok (.bastore, 1))
    (kk : ∀ T' h', Stand p l e R s m args below meth c T' (locs ++ [⟨a, k⟩]) cells slots → T'.heap = h' → Wr h h' a k (.int x.toInt8.toInt32) → ArI Z h' a .byte n (fun i => if i = k then x.toInt8.toInt32 else f i) → D (T'.setTop { g with pc := g.pc + 1, stack := rest })) : D (T.setTop g) := by
  obtain ⟨cl, Ar, r, H⟩ := F.2
  obtain ⟨T', h', X', e', W, st⟩ := Jvm.RoadKit.stB X hx hZ eT Ar (j := j) (x := x) (inb hk hkn r) hg hs hd
  rw [to_nat hk] at X' W
  exact A (fun q => st _ q) (kk T' h' X' e' W (F.set W hkn))
theorem Adv.stJ (A : Adv p e below D) (X : Stand p l e R s m args below meth c T locs cells slots) (hx : p.tables.exec = Jvm.exec) (hZ : Z.Warmed39 s.vm) (eT : T.heap = h) (F : ArJ Z h a n fJ) {j : Int32} {x : Int64} {k : Nat} (hk : j.toInt = k) (hkn : k < n) {g : JFrame} (hg : g.method = m) {rest : List Value} (hs : g.stack = .long x :: .int j :: .ref a :: rest) (hd : decode c.code g.pc = .ok (.lastore, 1))
    (kk : ∀ T' h', Stand p l e R s m args below meth c T' (locs ++ [⟨a, k⟩]) cells slots → T'.heap = h' → Wr h h' a k (.long x) → ArJ Z h' a n (fun i => if i = k then x else fJ i) → D (T'.setTop { g with pc := g.pc + 1, stack := rest })) : D (T.setTop g) := by
  obtain ⟨cl, Ar, r, H⟩ := F.2
  obtain ⟨T', h', X', e', W, st⟩ := Jvm.RoadKit.stJ X hx hZ eT Ar (j := j) (x := x) (inb hk hkn r) hg hs hd
  rw [to_nat hk] at X' W
  exact A (fun q => st _ q) (kk T' h' X' e' W (F.set W hkn))
theorem Adv.newI (A : Adv p e below D) (X : Stand p l e R s m args below meth c T locs cells slots) (hx : p.tables.exec = Jvm.exec) (hZ : Z.Warmed39 s.vm) {aty : ArrayType} (w : (Cond.arrayClass (newarray.typeOf aty)).before a0 Z = true) (eT : T.heap = h) {z : Int32} (hz : z.toInt = n) (cap : Nat) (hcap : n ≤ cap) (hb : cap * 8 ≤ 536870912) (hdv : defaultValue (newarray.typeOf aty) = .int 0) {ad : String} (had : "[" ++ (newarray.typeOf aty).toString = ad) (hc : cells + 1 ≤ R.cells) (hl : slots + cap ≤ R.slots) {g : JFrame} (hg : g.method = m) {rest : List Value} (hs : g.stack = .int z :: rest) (hd : decode c.code g.pc = .ok (.newarray aty, 2))
    (kk : ∀ T' h' a, a = h.size → Stand p l e R s m args below meth c T' locs (cells + 1) (slots + cap) → T'.heap = h' → Ext h h' → ArI Z h' a (newarray.typeOf aty) n (fun _ => 0) → Exa Z h' a ad → D (T'.setTop { g with pc := g.pc + 2, stack := .ref a :: rest })) : D (T.setTop g) := by
  have q0 : ¬ z < 0 := by rw [Int32.lt_iff_toInt_lt, hz, show (0 : Int32).toInt = 0 from rfl]; omega
  obtain ⟨T', h', k, X', e', E, Ar, Ex, st⟩ := newPE X hx hZ w eT hg hd hs q0 (cap := cap) (by rw [to_nat hz]; exact hcap) hb hc hl had
  exact A (fun q => st _ q) (kk T' h' _ rfl X' e' E (ArI.mk Ar hz hdv) Ex)
theorem Adv.newJ (A : Adv p e below D) (X : Stand p l e R s m args below meth c T locs cells slots) (hx : p.tables.exec = Jvm.exec) (hZ : Z.Warmed39 s.vm) (w : (Cond.arrayClass .long).before a0 Z = true) (eT : T.heap = h) {z : Int32} (hz : z.toInt = n) (cap : Nat) (hcap : n ≤ cap) (hb : cap * 8 ≤ 536870912) (hc : cells + 1 ≤ R.cells) (hl : slots + cap ≤ R.slots) {g : JFrame} (hg : g.method = m) {rest : List Value} (hs : g.stack = .int z :: rest) (hd : decode c.code g.pc = .ok (.newarray .long, 2))
    (kk : ∀ T' h' a, a = h.size → Stand p l e R s m args below meth c T' locs (cells + 1) (slots + cap) → T'.heap = h' → Ext h h' → ArJ Z h' a n (fun _ => 0) → D (T'.setTop { g with pc := g.pc + 2, stack := .ref a :: rest })) : D (T.setTop g) := by
  have q0 : ¬ z < 0 := by rw [Int32.lt_iff_toInt_lt, hz, show (0 : Int32).toInt = 0 from rfl]; omega
  obtain ⟨T', h', k, X', e', E, Ar, st⟩   := newP (aty := .long) X hx hZ w eT hg hd hs q0 (cap := cap) (by rw [to_nat hz]; exact hcap) hb hc hl
  exact A (fun q => st _ q) (kk T' h' _ rfl X' e' E (ArJ.mk Ar hz))
theorem Adv.cloneI (A : Adv p e below D) (X : Stand p l e R s m args below meth c T locs cells slots) (hx : p.tables.exec = Jvm.exec) (hZ : Z.Warmed39 s.vm) {own ad : String} {index : Nat} (hown : s.vm.findClass own = some m.cls)
    (w1 : (Cond.methodLink own index ⟨ad, "clone", "()Ljava/lang/Object;"⟩).before a0 Z = true) (w2 : (Cond.sameMethod ad "java/lang/Object" "clone" "()Ljava/lang/Object;").before a0 Z = true) (w3 : (Cond.native ⟨"java/lang/Object", "clone", "()Ljava/lang/Object;"⟩).before a0 Z = true)
    (w4 : (Cond.instanceMethod ⟨"java/lang/Object", "clone", "()Ljava/lang/Object;"⟩).before a0 Z = true) (w5 : (Cond.selects ad ⟨ad, "clone", "()Ljava/lang/Object;"⟩ ⟨"java/lang/Object", "clone", "()Ljava/lang/Object;"⟩).before a0 Z = true) (w6 : (Cond.castable ad "java/lang/Cloneable").before a0 Z = true)
    (eT : T.heap = h) (F : ArI Z h a ty n f) (hfit : ∀ i, i < n → fits ty (.int (f i)) = true) (E : Exa Z h a ad) (W cap : Nat) (hcap : n ≤ cap) {g : JFrame} (hg : g.method = m) (hsz : g.locals.size = c.maxLocals) {rest : List Value} (hs : g.stack = .ref a :: rest) (hd : decode c.code g.pc = .ok (.invokevirtual index, 3))
    (hW : 2 * g.monitorRoom + (rest.map fun v => v.category).sum ≤ W) (hf : 1 ≤ R.frames) (hl : W + 14 ≤ R.locals) (hc : cells + 1 ≤ R.cells) (hsl : slots + cap ≤ R.slots)
    (kk : ∀ T' h' b, b = h.size → Stand p l e R s m args below meth c T' locs (cells + 1) (slots + cap) → T'.heap = h' → Ext h h' → ArI Z h' b ty n f → Exa Z h' b ad → D (T'.setTop { g with pc := g.pc + 3, stack := .ref b :: rest })) : D (T.setTop g) := by
  obtain ⟨z, cl, Ar, r, H⟩ := F
  have FC : FitC Z cl := fitC_of Ar fun i hi v hv => by rw [H i (by omega)] at hv; cases hv; exact hfit i (by omega)
  obtain ⟨T', h', X', e', Ex, Ar', E', st⟩ := cloneA X hx hZ hown w1 w2 w3 w4 w5 w6 eT Ar E FC hg hsz hs hd hf hW hl (by rw [r]; exact hcap) hc hsl
  exact A (fun q => st _ q) (kk T' h' _ rfl X' e' Ex ⟨z, _, Ar', r, H⟩ E')
end Arrays
end Jvm.JW
namespace Jvm.Pilot.@@N@@
open Jvm Jvm.ClassFile Sem Op Lib Jvm.Free Jvm.Stand Jvm.LawKit Jvm.RoadKit Bundle Jvm.JW Jvm.Pilot.@@N@@.Jvm.D
theorem d3_0 : decode method_2_code 0 = .ok (.iload_n 0, 1) := by decide +kernel
theorem d3_1 : decode method_2_code 1 = .ok (.iload_n 1, 1) := by decide +kernel
theorem d3_2 : decode method_2_code 2 = .ok (.if_icmp .ne 5, 3) := by decide +kernel
theorem d3_5 : decode method_2_code 5 = .ok (.iconst 1, 1) := by decide +kernel
theorem d3_6 : decode method_2_code 6 = .ok (.ireturn, 1) := by decide +kernel
theorem d3_7 : decode method_2_code 7 = .ok (.iconst 0, 1) := by decide +kernel
theorem d3_8 : decode method_2_code 8 = .ok (.ireturn, 1) := by decide +kernel
theorem pn3 : plainFor (⟨"com/example/enklave/enklave/measure/RowGroupsSizePinLaw", "hit", "(II)I"⟩ : MethodName) = true := by decide +kernel
theorem ef3 (p1 : Int32) (p2 : Int32) (m : MethodId) : entryFrame m #[(.int p1), (.int p2)] 2 = mkF m 0 #[.val (.int p1), .val (.int p2)] [] := by first | (simp [entryFrame, mkF, argsToLocals, Value.category]; done) | rfl
def f3 (p1 : Int32) (p2 : Int32) : Int32 := if p1 = p2 then ((1 : Int32)) else ((0 : Int32))
set_option maxRecDepth 65536 in
set_option maxHeartbeats 40000000 in
theorem rm3 (l : Launch) (Z : State) (a0 : Array Value) (hw : ∀ d ∈ tables_1, d.before a0 Z = true) (ws : List Jvm.Cond) (p1 : Int32) (p2 : Int32) (h0 : Heap) (n0 : Nat) :
    JMet l Z (⟨"com/example/enklave/enklave/measure/RowGroupsSizePinLaw", "hit", "(II)I"⟩ : MethodName) method_2_code 2 (some .int) ws ({ frames := 0, cells := 0, slots := 0, locals := 0 } : Room) #[(.int p1), (.int p2)] h0 (QP (.int (f3 p1 p2)) h0 n0) := by
  refine Jvm.JW.body #[.val (.int p1), .val (.int p2)] pn3 (ef3 p1 p2) ?_
  intro p e s m below meth c T0 D A F X0 hx hZ hby hml hown hnm hrt hlk e0
  refine A (XS.iloadN X0.here hx rfl (hb hby d3_0) rfl) ?_
  show D (T0.setTop (mkF m 1 #[.val (.int p1), .val (.int p2)] [(.int p1)]))
  refine A (XS.iloadN X0.here hx rfl (hb hby d3_1) rfl) ?_
  show D (T0.setTop (mkF m 2 #[.val (.int p1), .val (.int p2)] [(.int p2), (.int p1)]))
  by_cases c2_1 : p1 = p2
  · refine A (XS.icmpNo X0.here hx rfl (hb hby d3_2) rfl (teq c2_1).2) ?_
    show D (T0.setTop (mkF m 5 #[.val (.int p1), .val (.int p2)] []))
    refine A (XS.iconst X0.here hx rfl (hb hby d3_5)) ?_
    show D (T0.setTop (mkF m 6 #[.val (.int p1), .val (.int p2)] [(.int (1 : Int32))]))
    refine F _ (Jvm.JW.ret X0 hlk (v := some (.int (1 : Int32))) (fun h => by rw [hrt] at h; cases h) (fun fs hr => retOut X0 hx hrt rfl (Or.inl ⟨rfl, Or.inl rfl, _, rfl⟩) (hb hby d3_6) hr) rfl ?_ (by decide) (by decide))
    exact ⟨congrArg (fun z => some (Value.int z)) (by exact (if_pos c2_1).symm), (Fr.nil n0), e0⟩
  · refine A (XS.icmpYes X0.here hx rfl (pc0 := 2) (pc' := 7) rfl (hb hby d3_2) rfl (feq c2_1).2 (by decide) (by decide)) ?_
    show D (T0.setTop (mkF m 7 #[.val (.int p1), .val (.int p2)] []))
    refine A (XS.iconst X0.here hx rfl (hb hby d3_7)) ?_
    show D (T0.setTop (mkF m 8 #[.val (.int p1), .val (.int p2)] [(.int (0 : Int32))]))
    refine F _ (Jvm.JW.ret X0 hlk (v := some (.int (0 : Int32))) (fun h => by rw [hrt] at h; cases h) (fun fs hr => retOut X0 hx hrt rfl (Or.inl ⟨rfl, Or.inl rfl, _, rfl⟩) (hb hby d3_8) hr) rfl ?_ (by decide) (by decide))
    exact ⟨congrArg (fun z => some (Value.int z)) (by exact (if_neg c2_1).symm), (Fr.nil n0), e0⟩
def own_b (p : Bool) : Nat := cond p 1 0
def own_ka (k0 k1 k2 k3 : Nat) (i : Nat) : Int32 := Int32.ofNat (if i = 0 then k0 else if i = 1 then k1 else if i = 2 then k2 else k3)
def own_n2 (k0 k1 k2 k3 i : Nat) : Nat := own_b (decide (k0 < i)) + own_b (decide (k1 < i)) + own_b (decide (k2 < i)) + own_b (decide (k3 < i))
def own_m0 (k0 k1 k2 k3 i : Nat) : Nat := 0
def own_m1 (k0 k1 k2 k3 i : Nat) : Nat := 0 + own_b (k0 + 1 == i)
def own_m2 (k0 k1 k2 k3 i : Nat) : Nat := 0 + own_b (k0 + 1 == i) + own_b (k1 + 1 == i)
def own_m3 (k0 k1 k2 k3 i : Nat) : Nat := 0 + own_b (k0 + 1 == i) + own_b (k1 + 1 == i) + own_b (k2 + 1 == i)
def own_m4 (k0 k1 k2 k3 i : Nat) : Nat := 0 + own_b (k0 + 1 == i) + own_b (k1 + 1 == i) + own_b (k2 + 1 == i) + own_b (k3 + 1 == i)
def own_p0 (k0 k1 k2 k3 i : Nat) : Nat := if i ≤ 0 then own_n2 k0 k1 k2 k3 i else own_m4 k0 k1 k2 k3 i
def own_p1 (k0 k1 k2 k3 i : Nat) : Nat := if i ≤ 1 then own_n2 k0 k1 k2 k3 i else own_m4 k0 k1 k2 k3 i
def own_p2 (k0 k1 k2 k3 i : Nat) : Nat := if i ≤ 2 then own_n2 k0 k1 k2 k3 i else own_m4 k0 k1 k2 k3 i
def own_p3 (k0 k1 k2 k3 i : Nat) : Nat := if i ≤ 3 then own_n2 k0 k1 k2 k3 i else own_m4 k0 k1 k2 k3 i
def own_p4 (k0 k1 k2 k3 i : Nat) : Nat := if i ≤ 4 then own_n2 k0 k1 k2 k3 i else own_m4 k0 k1 k2 k3 i
def own_c0 (k0 k1 k2 k3 i : Nat) : Nat := own_n2 k0 k1 k2 k3 i
def own_c1 (k0 k1 k2 k3 i : Nat) : Nat := own_n2 k0 k1 k2 k3 i + own_b (k0 == i)
def own_c2 (k0 k1 k2 k3 i : Nat) : Nat := own_n2 k0 k1 k2 k3 i + own_b (k0 == i) + own_b (k1 == i)
def own_c3 (k0 k1 k2 k3 i : Nat) : Nat := own_n2 k0 k1 k2 k3 i + own_b (k0 == i) + own_b (k1 == i) + own_b (k2 == i)
def own_c4 (k0 k1 k2 k3 i : Nat) : Nat := own_n2 k0 k1 k2 k3 i + own_b (k0 == i) + own_b (k1 == i) + own_b (k2 == i) + own_b (k3 == i)
theorem own_l1_0 : ∀ k0, k0 < 4 → ∀ k1, k1 < 4 → ∀ k2, k2 < 4 → ∀ k3, k3 < 4 → ∀ i, i < 5 → (if i = (k0 + 1) then (Int32.ofNat (own_m0 k0 k1 k2 k3 (k0 + 1)) + (1 : Int32)) else Int32.ofNat (own_m0 k0 k1 k2 k3 i)) = Int32.ofNat (own_m1 k0 k1 k2 k3 i) := by decide +kernel
theorem own_l2_0 : ∀ k0, k0 < 4 → ∀ k1, k1 < 4 → ∀ k2, k2 < 4 → ∀ k3, k3 < 4 → ∀ i, i < 5 → (if i = 1 then (Int32.ofNat (own_p0 k0 k1 k2 k3 1) + Int32.ofNat (own_p0 k0 k1 k2 k3 0)) else Int32.ofNat (own_p0 k0 k1 k2 k3 i)) = Int32.ofNat (own_p1 k0 k1 k2 k3 i) := by decide +kernel
theorem own_l3_0 : ∀ k0, k0 < 4 → ∀ k1, k1 < 4 → ∀ k2, k2 < 4 → ∀ k3, k3 < 4 → ∀ i, i < 5 → (if i = k0 then (Int32.ofNat (own_c0 k0 k1 k2 k3 k0) + (1 : Int32)) else Int32.ofNat (own_c0 k0 k1 k2 k3 i)) = Int32.ofNat (own_c1 k0 k1 k2 k3 i) := by decide +kernel
theorem own_b3_0 : ∀ k0, k0 < 4 → ∀ k1, k1 < 4 → ∀ k2, k2 < 4 → ∀ k3, k3 < 4 →  own_c0 k0 k1 k2 k3 k0 < 4 := by decide +kernel
theorem own_l1_1 : ∀ k0, k0 < 4 → ∀ k1, k1 < 4 → ∀ k2, k2 < 4 → ∀ k3, k3 < 4 → ∀ i, i < 5 → (if i = (k1 + 1) then (Int32.ofNat (own_m1 k0 k1 k2 k3 (k1 + 1)) + (1 : Int32)) else Int32.ofNat (own_m1 k0 k1 k2 k3 i)) = Int32.ofNat (own_m2 k0 k1 k2 k3 i) := by decide +kernel
theorem own_l2_1 : ∀ k0, k0 < 4 → ∀ k1, k1 < 4 → ∀ k2, k2 < 4 → ∀ k3, k3 < 4 → ∀ i, i < 5 → (if i = 2 then (Int32.ofNat (own_p1 k0 k1 k2 k3 2) + Int32.ofNat (own_p1 k0 k1 k2 k3 1)) else Int32.ofNat (own_p1 k0 k1 k2 k3 i)) = Int32.ofNat (own_p2 k0 k1 k2 k3 i) := by decide +kernel
theorem own_l3_1 : ∀ k0, k0 < 4 → ∀ k1, k1 < 4 → ∀ k2, k2 < 4 → ∀ k3, k3 < 4 → ∀ i, i < 5 → (if i = k1 then (Int32.ofNat (own_c1 k0 k1 k2 k3 k1) + (1 : Int32)) else Int32.ofNat (own_c1 k0 k1 k2 k3 i)) = Int32.ofNat (own_c2 k0 k1 k2 k3 i) := by decide +kernel
theorem own_b3_1 : ∀ k0, k0 < 4 → ∀ k1, k1 < 4 → ∀ k2, k2 < 4 → ∀ k3, k3 < 4 →  own_c1 k0 k1 k2 k3 k1 < 4 := by decide +kernel
theorem own_l1_2 : ∀ k0, k0 < 4 → ∀ k1, k1 < 4 → ∀ k2, k2 < 4 → ∀ k3, k3 < 4 → ∀ i, i < 5 → (if i = (k2 + 1) then (Int32.ofNat (own_m2 k0 k1 k2 k3 (k2 + 1)) + (1 : Int32)) else Int32.ofNat (own_m2 k0 k1 k2 k3 i)) = Int32.ofNat (own_m3 k0 k1 k2 k3 i) := by decide +kernel
theorem own_l2_2 : ∀ k0, k0 < 4 → ∀ k1, k1 < 4 → ∀ k2, k2 < 4 → ∀ k3, k3 < 4 → ∀ i, i < 5 → (if i = 3 then (Int32.ofNat (own_p2 k0 k1 k2 k3 3) + Int32.ofNat (own_p2 k0 k1 k2 k3 2)) else Int32.ofNat (own_p2 k0 k1 k2 k3 i)) = Int32.ofNat (own_p3 k0 k1 k2 k3 i) := by decide +kernel
theorem own_l3_2 : ∀ k0, k0 < 4 → ∀ k1, k1 < 4 → ∀ k2, k2 < 4 → ∀ k3, k3 < 4 → ∀ i, i < 5 → (if i = k2 then (Int32.ofNat (own_c2 k0 k1 k2 k3 k2) + (1 : Int32)) else Int32.ofNat (own_c2 k0 k1 k2 k3 i)) = Int32.ofNat (own_c3 k0 k1 k2 k3 i) := by decide +kernel
theorem own_b3_2 : ∀ k0, k0 < 4 → ∀ k1, k1 < 4 → ∀ k2, k2 < 4 → ∀ k3, k3 < 4 →  own_c2 k0 k1 k2 k3 k2 < 4 := by decide +kernel
theorem own_l1_3 : ∀ k0, k0 < 4 → ∀ k1, k1 < 4 → ∀ k2, k2 < 4 → ∀ k3, k3 < 4 → ∀ i, i < 5 → (if i = (k3 + 1) then (Int32.ofNat (own_m3 k0 k1 k2 k3 (k3 + 1)) + (1 : Int32)) else Int32.ofNat (own_m3 k0 k1 k2 k3 i)) = Int32.ofNat (own_m4 k0 k1 k2 k3 i) := by decide +kernel
theorem own_l2_3 : ∀ k0, k0 < 4 → ∀ k1, k1 < 4 → ∀ k2, k2 < 4 → ∀ k3, k3 < 4 → ∀ i, i < 5 → (if i = 4 then (Int32.ofNat (own_p3 k0 k1 k2 k3 4) + Int32.ofNat (own_p3 k0 k1 k2 k3 3)) else Int32.ofNat (own_p3 k0 k1 k2 k3 i)) = Int32.ofNat (own_p4 k0 k1 k2 k3 i) := by decide +kernel
theorem own_l3_3 : ∀ k0, k0 < 4 → ∀ k1, k1 < 4 → ∀ k2, k2 < 4 → ∀ k3, k3 < 4 → ∀ i, i < 5 → (if i = k3 then (Int32.ofNat (own_c3 k0 k1 k2 k3 k3) + (1 : Int32)) else Int32.ofNat (own_c3 k0 k1 k2 k3 i)) = Int32.ofNat (own_c4 k0 k1 k2 k3 i) := by decide +kernel
theorem own_b3_3 : ∀ k0, k0 < 4 → ∀ k1, k1 < 4 → ∀ k2, k2 < 4 → ∀ k3, k3 < 4 →  own_c3 k0 k1 k2 k3 k3 < 4 := by decide +kernel
theorem own_l0 : ∀ k0, k0 < 4 → ∀ k1, k1 < 4 → ∀ k2, k2 < 4 → ∀ k3, k3 < 4 → ∀ i, i < 5 → (0 : Int32) = Int32.ofNat (own_m0 k0 k1 k2 k3 i) := by decide +kernel
theorem own_l12 : ∀ k0, k0 < 4 → ∀ k1, k1 < 4 → ∀ k2, k2 < 4 → ∀ k3, k3 < 4 → ∀ i, i < 5 → Int32.ofNat (own_m4 k0 k1 k2 k3 i) = Int32.ofNat (own_p0 k0 k1 k2 k3 i) := by decide +kernel
theorem own_fin : ∀ k0, k0 < 4 → ∀ k1, k1 < 4 → ∀ k2, k2 < 4 → ∀ k3, k3 < 4 → ∀ q, q < 4 → (Int32.ofNat (own_n2 k0 k1 k2 k3 (q + 1)) - Int32.ofNat (own_n2 k0 k1 k2 k3 q)) = (((f3 (Int32.ofNat k0) (Int32.ofNat q) + f3 (Int32.ofNat k1) (Int32.ofNat q)) + f3 (Int32.ofNat k2) (Int32.ofNat q)) + f3 (Int32.ofNat k3) (Int32.ofNat q)) := by decide +kernel
theorem own_l23_1 : ∀ k0, k0 < 4 → ∀ k1, k1 < 4 → ∀ k2, k2 < 4 → ∀ k3, k3 < 4 → ∀ i, i < 2 → Int32.ofNat (own_p1 k0 k1 k2 k3 i) = Int32.ofNat (own_n2 k0 k1 k2 k3 i) := by decide +kernel
theorem own_l23_2 : ∀ k0, k0 < 4 → ∀ k1, k1 < 4 → ∀ k2, k2 < 4 → ∀ k3, k3 < 4 → ∀ i, i < 3 → Int32.ofNat (own_p2 k0 k1 k2 k3 i) = Int32.ofNat (own_n2 k0 k1 k2 k3 i) := by decide +kernel
theorem own_l23_3 : ∀ k0, k0 < 4 → ∀ k1, k1 < 4 → ∀ k2, k2 < 4 → ∀ k3, k3 < 4 → ∀ i, i < 4 → Int32.ofNat (own_p3 k0 k1 k2 k3 i) = Int32.ofNat (own_n2 k0 k1 k2 k3 i) := by decide +kernel
theorem own_l23_4 : ∀ k0, k0 < 4 → ∀ k1, k1 < 4 → ∀ k2, k2 < 4 → ∀ k3, k3 < 4 → ∀ i, i < 5 → Int32.ofNat (own_p4 k0 k1 k2 k3 i) = Int32.ofNat (own_n2 k0 k1 k2 k3 i) := by decide +kernel
theorem own_of {k : Nat} (h : k < 4) : (Int32.ofNat k).toInt = (k : Int) := by
  rcases (by omega : k = 0 ∨ k = 1 ∨ k = 2 ∨ k = 3) with rfl | rfl | rfl | rfl <;> rfl
theorem own_of1 {k : Nat} (h : k < 4) : (Int32.ofNat k + (1 : Int32)).toInt = ((k + 1 : Nat) : Int) := ixadd (own_of h) (by decide) (by omega)
theorem d1_0 : decode prog_41_method_1_code 0 = .ok (.aload_n 0, 1) := by decide +kernel
theorem d1_1 : decode prog_41_method_1_code 1 = .ok (.invokespecial 1, 3) := by decide +kernel
theorem d1_4 : decode prog_41_method_1_code 4 = .ok (.aload_n 0, 1) := by decide +kernel
theorem d1_5 : decode prog_41_method_1_code 5 = .ok (.iload_n 2, 1) := by decide +kernel
theorem d1_6 : decode prog_41_method_1_code 6 = .ok (.iconst 1, 1) := by decide +kernel
theorem d1_7 : decode prog_41_method_1_code 7 = .ok (.iadd, 1) := by decide +kernel
theorem d1_8 : decode prog_41_method_1_code 8 = .ok (.newarray .int, 2) := by decide +kernel
theorem d1_10 : decode prog_41_method_1_code 10 = .ok (.putfield 7, 3) := by decide +kernel
theorem d1_13 : decode prog_41_method_1_code 13 = .ok (.iconst 0, 1) := by decide +kernel
theorem d1_14 : decode prog_41_method_1_code 14 = .ok (.istore_n 3, 1) := by decide +kernel
theorem d1_15 : decode prog_41_method_1_code 15 = .ok (.iload_n 3, 1) := by decide +kernel
theorem d1_16 : decode prog_41_method_1_code 16 = .ok (.aload_n 1, 1) := by decide +kernel
theorem d1_17 : decode prog_41_method_1_code 17 = .ok (.arraylength, 1) := by decide +kernel
theorem d1_18 : decode prog_41_method_1_code 18 = .ok (.if_icmp .ge 23, 3) := by decide +kernel
theorem d1_21 : decode prog_41_method_1_code 21 = .ok (.aload_n 0, 1) := by decide +kernel
theorem d1_22 : decode prog_41_method_1_code 22 = .ok (.getfield 7, 3) := by decide +kernel
theorem d1_25 : decode prog_41_method_1_code 25 = .ok (.aload_n 1, 1) := by decide +kernel
theorem d1_26 : decode prog_41_method_1_code 26 = .ok (.iload_n 3, 1) := by decide +kernel
theorem d1_27 : decode prog_41_method_1_code 27 = .ok (.iaload, 1) := by decide +kernel
theorem d1_28 : decode prog_41_method_1_code 28 = .ok (.iconst 1, 1) := by decide +kernel
theorem d1_29 : decode prog_41_method_1_code 29 = .ok (.iadd, 1) := by decide +kernel
theorem d1_30 : decode prog_41_method_1_code 30 = .ok (.dup2, 1) := by decide +kernel
theorem d1_31 : decode prog_41_method_1_code 31 = .ok (.iaload, 1) := by decide +kernel
theorem d1_32 : decode prog_41_method_1_code 32 = .ok (.iconst 1, 1) := by decide +kernel
theorem d1_33 : decode prog_41_method_1_code 33 = .ok (.iadd, 1) := by decide +kernel
theorem d1_34 : decode prog_41_method_1_code 34 = .ok (.iastore, 1) := by decide +kernel
theorem d1_35 : decode prog_41_method_1_code 35 = .ok (.iinc 3 1, 3) := by decide +kernel
theorem d1_38 : decode prog_41_method_1_code 38 = .ok (.goto (-23), 3) := by decide +kernel
theorem d1_41 : decode prog_41_method_1_code 41 = .ok (.iconst 0, 1) := by decide +kernel
theorem d1_42 : decode prog_41_method_1_code 42 = .ok (.istore_n 3, 1) := by decide +kernel
theorem d1_43 : decode prog_41_method_1_code 43 = .ok (.iload_n 3, 1) := by decide +kernel
theorem d1_44 : decode prog_41_method_1_code 44 = .ok (.iload_n 2, 1) := by decide +kernel
theorem d1_45 : decode prog_41_method_1_code 45 = .ok (.if_icmp .ge 26, 3) := by decide +kernel
theorem d1_48 : decode prog_41_method_1_code 48 = .ok (.aload_n 0, 1) := by decide +kernel
theorem d1_49 : decode prog_41_method_1_code 49 = .ok (.getfield 7, 3) := by decide +kernel
theorem d1_52 : decode prog_41_method_1_code 52 = .ok (.iload_n 3, 1) := by decide +kernel
theorem d1_53 : decode prog_41_method_1_code 53 = .ok (.iconst 1, 1) := by decide +kernel
theorem d1_54 : decode prog_41_method_1_code 54 = .ok (.iadd, 1) := by decide +kernel
theorem d1_55 : decode prog_41_method_1_code 55 = .ok (.dup2, 1) := by decide +kernel
theorem d1_56 : decode prog_41_method_1_code 56 = .ok (.iaload, 1) := by decide +kernel
theorem d1_57 : decode prog_41_method_1_code 57 = .ok (.aload_n 0, 1) := by decide +kernel
theorem d1_58 : decode prog_41_method_1_code 58 = .ok (.getfield 7, 3) := by decide +kernel
theorem d1_61 : decode prog_41_method_1_code 61 = .ok (.iload_n 3, 1) := by decide +kernel
theorem d1_62 : decode prog_41_method_1_code 62 = .ok (.iaload, 1) := by decide +kernel
theorem d1_63 : decode prog_41_method_1_code 63 = .ok (.iadd, 1) := by decide +kernel
theorem d1_64 : decode prog_41_method_1_code 64 = .ok (.iastore, 1) := by decide +kernel
theorem d1_65 : decode prog_41_method_1_code 65 = .ok (.iinc 3 1, 3) := by decide +kernel
theorem d1_68 : decode prog_41_method_1_code 68 = .ok (.goto (-25), 3) := by decide +kernel
theorem d1_71 : decode prog_41_method_1_code 71 = .ok (.aload_n 0, 1) := by decide +kernel
theorem d1_72 : decode prog_41_method_1_code 72 = .ok (.aload_n 1, 1) := by decide +kernel
theorem d1_73 : decode prog_41_method_1_code 73 = .ok (.arraylength, 1) := by decide +kernel
theorem d1_74 : decode prog_41_method_1_code 74 = .ok (.newarray .int, 2) := by decide +kernel
theorem d1_76 : decode prog_41_method_1_code 76 = .ok (.putfield 13, 3) := by decide +kernel
theorem d1_79 : decode prog_41_method_1_code 79 = .ok (.aload_n 0, 1) := by decide +kernel
theorem d1_80 : decode prog_41_method_1_code 80 = .ok (.getfield 7, 3) := by decide +kernel
theorem d1_83 : decode prog_41_method_1_code 83 = .ok (.invokevirtual 16, 3) := by decide +kernel
theorem d1_86 : decode prog_41_method_1_code 86 = .ok (.checkcast 17, 3) := by decide +kernel
theorem d1_89 : decode prog_41_method_1_code 89 = .ok (.astore_n 3, 1) := by decide +kernel
theorem d1_90 : decode prog_41_method_1_code 90 = .ok (.iconst 0, 1) := by decide +kernel
theorem d1_91 : decode prog_41_method_1_code 91 = .ok (.istore 4, 2) := by decide +kernel
theorem d1_93 : decode prog_41_method_1_code 93 = .ok (.iload 4, 2) := by decide +kernel
theorem d1_95 : decode prog_41_method_1_code 95 = .ok (.aload_n 1, 1) := by decide +kernel
theorem d1_96 : decode prog_41_method_1_code 96 = .ok (.arraylength, 1) := by decide +kernel
theorem d1_97 : decode prog_41_method_1_code 97 = .ok (.if_icmp .ge 32, 3) := by decide +kernel
theorem d1_100 : decode prog_41_method_1_code 100 = .ok (.aload_n 0, 1) := by decide +kernel
theorem d1_101 : decode prog_41_method_1_code 101 = .ok (.getfield 13, 3) := by decide +kernel
theorem d1_104 : decode prog_41_method_1_code 104 = .ok (.aload_n 3, 1) := by decide +kernel
theorem d1_105 : decode prog_41_method_1_code 105 = .ok (.aload_n 1, 1) := by decide +kernel
theorem d1_106 : decode prog_41_method_1_code 106 = .ok (.iload 4, 2) := by decide +kernel
theorem d1_108 : decode prog_41_method_1_code 108 = .ok (.iaload, 1) := by decide +kernel
theorem d1_109 : decode prog_41_method_1_code 109 = .ok (.iaload, 1) := by decide +kernel
theorem d1_110 : decode prog_41_method_1_code 110 = .ok (.iload 4, 2) := by decide +kernel
theorem d1_112 : decode prog_41_method_1_code 112 = .ok (.iastore, 1) := by decide +kernel
theorem d1_113 : decode prog_41_method_1_code 113 = .ok (.aload_n 3, 1) := by decide +kernel
theorem d1_114 : decode prog_41_method_1_code 114 = .ok (.aload_n 1, 1) := by decide +kernel
theorem d1_115 : decode prog_41_method_1_code 115 = .ok (.iload 4, 2) := by decide +kernel
theorem d1_117 : decode prog_41_method_1_code 117 = .ok (.iaload, 1) := by decide +kernel
theorem d1_118 : decode prog_41_method_1_code 118 = .ok (.dup2, 1) := by decide +kernel
theorem d1_119 : decode prog_41_method_1_code 119 = .ok (.iaload, 1) := by decide +kernel
theorem d1_120 : decode prog_41_method_1_code 120 = .ok (.iconst 1, 1) := by decide +kernel
theorem d1_121 : decode prog_41_method_1_code 121 = .ok (.iadd, 1) := by decide +kernel
theorem d1_122 : decode prog_41_method_1_code 122 = .ok (.iastore, 1) := by decide +kernel
theorem d1_123 : decode prog_41_method_1_code 123 = .ok (.iinc 4 1, 3) := by decide +kernel
theorem d1_126 : decode prog_41_method_1_code 126 = .ok (.goto (-33), 3) := by decide +kernel
theorem d1_129 : decode prog_41_method_1_code 129 = .ok (.return_, 1) := by decide +kernel
theorem pn1 : plainFor (⟨"com/example/enklave/enklave/measure/RowGroups", "<init>", "([II)V"⟩ : MethodName) = true := by decide +kernel
theorem ef1_1 (self : Addr) (p1 : Addr) (m : MethodId) : entryFrame m #[(.ref self), (.ref p1), (.int (1 : Int32))] 5 = mkF m 0 #[.val (.ref self), .val (.ref p1), .val (.int (1 : Int32)), .unset, .unset] [] := by first | (simp [entryFrame, mkF, argsToLocals, Value.category]; done) | rfl
set_option maxRecDepth 65536 in
set_option maxHeartbeats 40000000 in
theorem rm1_1 (l : Launch) (Z : State) (a0 : Array Value) (hw : ∀ d ∈ tables_1, d.before a0 Z = true) (ws : List Jvm.Cond) (self : Addr) (p1 : Addr) (h0 : Heap) (n0 : Nat) (Z0 : n0 ≤ h0.size) (g_self : n0 ≤ self) (k0 k1 k2 k3 : Nat) (hk0 : k0 < 1) (hk1 : k1 < 1) (hk2 : k2 < 1) (hk3 : k3 < 1) (E_self : Exa Z h0 self "com/example/enklave/enklave/measure/RowGroups") (F_start : Fld Z h0 self "com/example/enklave/enklave/measure/RowGroups" "start" "[I" .null) (F_rows : Fld Z h0 self "com/example/enklave/enklave/measure/RowGroups" "rows" "[I" .null) (V_p1 : ArI Z h0 p1 .int 4 (own_ka k0 k1 k2 k3)) :
    JMet l Z (⟨"com/example/enklave/enklave/measure/RowGroups", "<init>", "([II)V"⟩ : MethodName) prog_41_method_1_code 5 none ws ({ frames := 1, cells := 3, slots := 8, locals := 14 } : Room) #[(.ref self), (.ref p1), (.int (1 : Int32))] h0 (fun v h L => v = none ∧ ∃ b : Addr, Fr n0 L ∧ Keep h0 h [self] ∧ Exa Z h self "com/example/enklave/enklave/measure/RowGroups" ∧ Fld Z h self "com/example/enklave/enklave/measure/RowGroups" "start" "[I" (.ref b) ∧ ArI Z h b .int 2 (fun i => Int32.ofNat (own_c0 k0 k1 k2 k3 i))) := by
  refine Jvm.JW.body #[.val (.ref self), .val (.ref p1), .val (.int (1 : Int32)), .unset, .unset] pn1 (ef1_1 self p1) ?_
  intro p e s m below meth c T0 D A F X0 hx hZ hby hml hown hnm hrt hlk e0
  refine A (XS.aloadN X0.here hx rfl (hb hby d1_0) rfl rfl) ?_
  show D (T0.setTop (mkF m 1 #[.val (.ref self), .val (.ref p1), .val (.int (1 : Int32)), .unset, .unset] [(.ref self)]))
  obtain ⟨T1, X1, e1, st1⟩ := initO X0 hx hZ hown (hw _ (List.mem_of_getElem? (i := 8) rfl)) (hw _ (List.mem_of_getElem? (i := 9) rfl)) (hw _ (List.mem_of_getElem? (i := 10) rfl)) e0 (g := (mkF m 1 #[.val (.ref self), .val (.ref p1), .val (.int (1 : Int32)), .unset, .unset] [(.ref self)])) rfl (by rw [hml]; rfl) rfl (hb hby d1_1) (by decide) (W := 0) (by show 2 * 0 + _ ≤ _; exact Nat.le_of_eq rfl) (by decide)
  refine A (st1 _) ?_
  show D (T1.setTop (mkF m 4 #[.val (.ref self), .val (.ref p1), .val (.int (1 : Int32)), .unset, .unset] []))
  refine A (XS.aloadN X1.here hx rfl (hb hby d1_4) rfl rfl) ?_
  show D (T1.setTop (mkF m 5 #[.val (.ref self), .val (.ref p1), .val (.int (1 : Int32)), .unset, .unset] [(.ref self)]))
  refine A (XS.iloadN X1.here hx rfl (hb hby d1_5) rfl) ?_
  show D (T1.setTop (mkF m 6 #[.val (.ref self), .val (.ref p1), .val (.int (1 : Int32)), .unset, .unset] [(.int (1 : Int32)), (.ref self)]))
  refine A (XS.iconst X1.here hx rfl (hb hby d1_6)) ?_
  show D (T1.setTop (mkF m 7 #[.val (.ref self), .val (.ref p1), .val (.int (1 : Int32)), .unset, .unset] [(.int (1 : Int32)), (.int (1 : Int32)), (.ref self)]))
  refine A (XS.iadd X1.here hx rfl (hb hby d1_7) rfl) ?_
  show D (T1.setTop (mkF m 8 #[.val (.ref self), .val (.ref p1), .val (.int (1 : Int32)), .unset, .unset] [(.int ((1 : Int32) + (1 : Int32))), (.ref self)]))
  suffices Kq2 : ∀ q2 : Int32, q2 = (2 : Int32) → D (T1.setTop (mkF m 8 #[.val (.ref self), .val (.ref p1), .val (.int (1 : Int32)), .unset, .unset] [(.int q2), (.ref self)])) from Kq2 _ (by decide)
  rintro _ rfl
  show D (T1.setTop (mkF m 8 #[.val (.ref self), .val (.ref p1), .val (.int (1 : Int32)), .unset, .unset] [(.int (2 : Int32)), (.ref self)]))
  refine Adv.newI A X1 hx hZ (aty := .int) (hw _ (List.mem_of_getElem? (i := 1) rfl)) e1 (n := 2) (by decide) 2 (by decide) (by decide) rfl (ad := "[I") (by decide) (by decide) (by decide) (g := (mkF m 8 #[.val (.ref self), .val (.ref p1), .val (.int (1 : Int32)), .unset, .unset] [(.int (2 : Int32)), (.ref self)])) rfl rfl (hb hby d1_8) ?_
  intro T3 h3 b3 q_b3 X3 e3 E3 V_b3 EA_b3
  have ne_self_b3 : self ≠ b3 := Nat.ne_of_lt (Nat.lt_of_lt_of_le E_self.lt (Nat.le_of_eq q_b3.symm))
  have ne_p1_b3 : p1 ≠ b3 := Nat.ne_of_lt (Nat.lt_of_lt_of_le V_p1.lt (Nat.le_of_eq q_b3.symm))
  have g_b3 : n0 ≤ b3 := Nat.le_trans Z0 (Nat.le_of_eq q_b3.symm)
  have sz_b3 : h0.size ≤ b3 := Nat.le_trans (Keep.refl h0 [self]).1 (Nat.le_of_eq q_b3.symm)
  have E_self_3 := E_self.ext E3
  have F_start_3 := F_start.ext E3
  have F_rows_3 := F_rows.ext E3
  have V_p1_3 := V_p1.ext E3
  have Z_3 : n0 ≤ h3.size := Nat.le_trans Z0 E3.1
  have KK_3 : Keep h0 h3 [self] := (Keep.refl h0 [self]).ext E3
  show D (T3.setTop (mkF m 10 #[.val (.ref self), .val (.ref p1), .val (.int (1 : Int32)), .unset, .unset] [(.ref b3), (.ref self)]))
  obtain ⟨T4, h4, X4, e4, W4, st4⟩ := putF X3 hx hZ hown (host := "") (Or.inl (hw _ (List.mem_of_getElem? (i := 11) rfl))) Via.refl e3 F_start_3 E_self_3 (Or.inr ⟨(hw _ (List.mem_of_getElem? (i := 12) rfl)), rfl, hnm⟩) (hw _ (List.mem_of_getElem? (i := 3) rfl)) (ty := (.array .int)) (by decide) rfl rfl (g := (mkF m 10 #[.val (.ref self), .val (.ref p1), .val (.int (1 : Int32)), .unset, .unset] [(.ref b3), (.ref self)])) rfl rfl (hb hby d1_10)
  have N4 := Fr.snoc X4 (Fr.nil n0) g_self
  have F_start_4 := F_start_3.same W4
  have E_self_4 := E_self_3.wr W4
  have F_rows_4 := F_rows_3.other W4 (Or.inr (slot_ne (Or.inr (hw _ (List.mem_of_getElem? (i := 14) rfl))) (Or.inr (hw _ (List.mem_of_getElem? (i := 12) rfl))) (by decide) (t := (.array .int)) (t' := (.array .int)) (by decide) (by decide)))
  have V_p1_4 := V_p1_3.other W4 (Ne.symm (ne_ari E_self_3 (hw _ (List.mem_of_getElem? (i := 3) rfl)) V_p1_3))
  have V_b3_4 := V_b3.other W4 (Ne.symm ne_self_b3)
  have EA_b3_4 := EA_b3.wr W4
  have Z_4 : n0 ≤ h4.size := Nat.le_trans Z_3 (Nat.le_of_eq W4.size.symm)
  have KK_4 : Keep h0 h4 [self] := KK_3.wr W4 (Or.inl (List.mem_of_getElem? (i := 0) rfl))
  refine A (st4 _) ?_
  show D (T4.setTop (mkF m 13 #[.val (.ref self), .val (.ref p1), .val (.int (1 : Int32)), .unset, .unset] []))
  have Vc5 : ArI Z h4 b3 .int 2 (fun i => Int32.ofNat (own_m0 k0 k1 k2 k3 i)) := V_b3_4.eqf (fun i hi => own_l0 k0 (by omega) k1 (by omega) k2 (by omega) k3 (by omega) i (by omega))
  refine A (XS.iconst X4.here hx rfl (hb hby d1_13)) ?_
  show D (T4.setTop (mkF m 14 #[.val (.ref self), .val (.ref p1), .val (.int (1 : Int32)), .unset, .unset] [(.int (0 : Int32))]))
  refine A (XS.istoreN X4.here hx rfl (hb hby d1_14) rfl (l' := #[.val (.ref self), .val (.ref p1), .val (.int (1 : Int32)), .val (.int (0 : Int32)), .unset]) rfl) ?_
  show D (T4.setTop (mkF m 15 #[.val (.ref self), .val (.ref p1), .val (.int (1 : Int32)), .val (.int (0 : Int32)), .unset] []))
  refine A (XS.iloadN X4.here hx rfl (hb hby d1_15) rfl) ?_
  show D (T4.setTop (mkF m 16 #[.val (.ref self), .val (.ref p1), .val (.int (1 : Int32)), .val (.int (0 : Int32)), .unset] [(.int (0 : Int32))]))
  refine A (XS.aloadN X4.here hx rfl (hb hby d1_16) rfl rfl) ?_
  show D (T4.setTop (mkF m 17 #[.val (.ref self), .val (.ref p1), .val (.int (1 : Int32)), .val (.int (0 : Int32)), .unset] [(.ref p1), (.int (0 : Int32))]))
  refine Adv.lenI A X4 hx hZ e4 V_p1_4 (g := (mkF m 17 #[.val (.ref self), .val (.ref p1), .val (.int (1 : Int32)), .val (.int (0 : Int32)), .unset] [(.ref p1), (.int (0 : Int32))])) rfl rfl (hb hby d1_17) ?_
  show D (T4.setTop (mkF m 18 #[.val (.ref self), .val (.ref p1), .val (.int (1 : Int32)), .val (.int (0 : Int32)), .unset] [(.int (4 : Int32)), (.int (0 : Int32))]))
  refine A (XS.icmpNo X4.here hx rfl (hb hby d1_18) rfl (tlt (by decide : (0 : Int32) < (4 : Int32))).2.1) ?_
  show D (T4.setTop (mkF m 21 #[.val (.ref self), .val (.ref p1), .val (.int (1 : Int32)), .val (.int (0 : Int32)), .unset] []))
  refine A (XS.aloadN X4.here hx rfl (hb hby d1_21) rfl rfl) ?_
  show D (T4.setTop (mkF m 22 #[.val (.ref self), .val (.ref p1), .val (.int (1 : Int32)), .val (.int (0 : Int32)), .unset] [(.ref self)]))
  obtain ⟨T6, X6, e6, st6⟩ := getF X4 hx hZ hown (host := "") (Or.inl (hw _ (List.mem_of_getElem? (i := 11) rfl))) Via.refl e4 F_start_4 (g := (mkF m 22 #[.val (.ref self), .val (.ref p1), .val (.int (1 : Int32)), .val (.int (0 : Int32)), .unset] [(.ref self)])) rfl rfl (hb hby d1_22)
  refine A (st6 _) ?_
  show D (T6.setTop (mkF m 25 #[.val (.ref self), .val (.ref p1), .val (.int (1 : Int32)), .val (.int (0 : Int32)), .unset] [(.ref b3)]))
  refine A (XS.aloadN X6.here hx rfl (hb hby d1_25) rfl rfl) ?_
  show D (T6.setTop (mkF m 26 #[.val (.ref self), .val (.ref p1), .val (.int (1 : Int32)), .val (.int (0 : Int32)), .unset] [(.ref p1), (.ref b3)]))
  refine A (XS.iloadN X6.here hx rfl (hb hby d1_26) rfl) ?_
  show D (T6.setTop (mkF m 27 #[.val (.ref self), .val (.ref p1), .val (.int (1 : Int32)), .val (.int (0 : Int32)), .unset] [(.int (0 : Int32)), (.ref p1), (.ref b3)]))
  refine Adv.ldI A X6 hx hZ e6 V_p1_4 (k := 0) (by decide) (by decide) (g := (mkF m 27 #[.val (.ref self), .val (.ref p1), .val (.int (1 : Int32)), .val (.int (0 : Int32)), .unset] [(.int (0 : Int32)), (.ref p1), (.ref b3)])) rfl rfl (hb hby d1_27) ?_
  show D (T6.setTop (mkF m 28 #[.val (.ref self), .val (.ref p1), .val (.int (1 : Int32)), .val (.int (0 : Int32)), .unset] [(.int (Int32.ofNat k0)), (.ref b3)]))
  refine A (XS.iconst X6.here hx rfl (hb hby d1_28)) ?_
  show D (T6.setTop (mkF m 29 #[.val (.ref self), .val (.ref p1), .val (.int (1 : Int32)), .val (.int (0 : Int32)), .unset] [(.int (1 : Int32)), (.int (Int32.ofNat k0)), (.ref b3)]))
  refine A (XS.iadd X6.here hx rfl (hb hby d1_29) rfl) ?_
  show D (T6.setTop (mkF m 30 #[.val (.ref self), .val (.ref p1), .val (.int (1 : Int32)), .val (.int (0 : Int32)), .unset] [(.int ((Int32.ofNat k0) + (1 : Int32))), (.ref b3)]))
  refine A (S' := T6.setTop (mkF m 31 #[.val (.ref self), .val (.ref p1), .val (.int (1 : Int32)), .val (.int (0 : Int32)), .unset] [(.int ((Int32.ofNat k0) + (1 : Int32))), (.ref b3), (.int ((Int32.ofNat k0) + (1 : Int32))), (.ref b3)])) (fun {t} kt => ?_) ?_
  · jvm_step X6.here [X6.here.top, hx, (hb hby d1_30), Value.category]
    exact kt
  show D (T6.setTop (mkF m 31 #[.val (.ref self), .val (.ref p1), .val (.int (1 : Int32)), .val (.int (0 : Int32)), .unset] [(.int ((Int32.ofNat k0) + (1 : Int32))), (.ref b3), (.int ((Int32.ofNat k0) + (1 : Int32))), (.ref b3)]))
  refine Adv.ldI A X6 hx hZ e6 Vc5 (k := (k0 + 1)) (own_of1 (by omega)) (by omega) (g := (mkF m 31 #[.val (.ref self), .val (.ref p1), .val (.int (1 : Int32)), .val (.int (0 : Int32)), .unset] [(.int ((Int32.ofNat k0) + (1 : Int32))), (.ref b3), (.int ((Int32.ofNat k0) + (1 : Int32))), (.ref b3)])) rfl rfl (hb hby d1_31) ?_
  show D (T6.setTop (mkF m 32 #[.val (.ref self), .val (.ref p1), .val (.int (1 : Int32)), .val (.int (0 : Int32)), .unset] [(.int (Int32.ofNat (own_m0 k0 k1 k2 k3 (k0 + 1)))), (.int ((Int32.ofNat k0) + (1 : Int32))), (.ref b3)]))
  refine A (XS.iconst X6.here hx rfl (hb hby d1_32)) ?_
  show D (T6.setTop (mkF m 33 #[.val (.ref self), .val (.ref p1), .val (.int (1 : Int32)), .val (.int (0 : Int32)), .unset] [(.int (1 : Int32)), (.int (Int32.ofNat (own_m0 k0 k1 k2 k3 (k0 + 1)))), (.int ((Int32.ofNat k0) + (1 : Int32))), (.ref b3)]))
  refine A (XS.iadd X6.here hx rfl (hb hby d1_33) rfl) ?_
  show D (T6.setTop (mkF m 34 #[.val (.ref self), .val (.ref p1), .val (.int (1 : Int32)), .val (.int (0 : Int32)), .unset] [(.int ((Int32.ofNat (own_m0 k0 k1 k2 k3 (k0 + 1))) + (1 : Int32))), (.int ((Int32.ofNat k0) + (1 : Int32))), (.ref b3)]))
  refine Adv.stI A X6 hx hZ e6 Vc5 (k := (k0 + 1)) (own_of1 (by omega)) (by omega) (g := (mkF m 34 #[.val (.ref self), .val (.ref p1), .val (.int (1 : Int32)), .val (.int (0 : Int32)), .unset] [(.int ((Int32.ofNat (own_m0 k0 k1 k2 k3 (k0 + 1))) + (1 : Int32))), (.int ((Int32.ofNat k0) + (1 : Int32))), (.ref b3)])) rfl rfl (hb hby d1_34) ?_
  intro T7 h7 X7 e7 W7 Vb3_7
  have N7 := Fr.snoc X7 N4 g_b3
  have E_self_7 := E_self_4.wr W7
  have F_start_7 := F_start_4.other W7 (Or.inl ne_self_b3)
  have F_rows_7 := F_rows_4.other W7 (Or.inl ne_self_b3)
  have V_p1_7 := V_p1_4.other W7 ne_p1_b3
  have EA_b3_7 := EA_b3_4.wr W7
  have Z_7 : n0 ≤ h7.size := Nat.le_trans Z_4 (Nat.le_of_eq W7.size.symm)
  have KK_7 : Keep h0 h7 [self] := KK_4.wr W7 (Or.inr sz_b3)
  show D (T7.setTop (mkF m 35 #[.val (.ref self), .val (.ref p1), .val (.int (1 : Int32)), .val (.int (0 : Int32)), .unset] []))
  have Vc8 : ArI Z h7 b3 .int 2 (fun i => Int32.ofNat (own_m1 k0 k1 k2 k3 i)) := Vb3_7.eqf (fun i hi => own_l1_0 k0 (by omega) k1 (by omega) k2 (by omega) k3 (by omega) i (by omega))
  refine A (XS.iinc X7.here hx rfl (hb hby d1_35) rfl (l' := #[.val (.ref self), .val (.ref p1), .val (.int (1 : Int32)), .val (.int ((0 : Int32) + (1 : Int32))), .unset]) rfl) ?_
  show D (T7.setTop (mkF m 38 #[.val (.ref self), .val (.ref p1), .val (.int (1 : Int32)), .val (.int ((0 : Int32) + (1 : Int32))), .unset] []))
  suffices Kq9 : ∀ q9 : Int32, q9 = (1 : Int32) → D (T7.setTop (mkF m 38 #[.val (.ref self), .val (.ref p1), .val (.int (1 : Int32)), .val (.int q9), .unset] [])) from Kq9 _ (by decide)
  rintro _ rfl
  show D (T7.setTop (mkF m 38 #[.val (.ref self), .val (.ref p1), .val (.int (1 : Int32)), .val (.int (1 : Int32)), .unset] []))
  refine A (XS.goto X7.here hx rfl (pc0 := 38) (pc' := 15) rfl (hb hby d1_38) (by decide) (by decide)) ?_
  show D (T7.setTop (mkF m 15 #[.val (.ref self), .val (.ref p1), .val (.int (1 : Int32)), .val (.int (1 : Int32)), .unset] []))
  refine A (XS.iloadN X7.here hx rfl (hb hby d1_15) rfl) ?_
  show D (T7.setTop (mkF m 16 #[.val (.ref self), .val (.ref p1), .val (.int (1 : Int32)), .val (.int (1 : Int32)), .unset] [(.int (1 : Int32))]))
  refine A (XS.aloadN X7.here hx rfl (hb hby d1_16) rfl rfl) ?_
  show D (T7.setTop (mkF m 17 #[.val (.ref self), .val (.ref p1), .val (.int (1 : Int32)), .val (.int (1 : Int32)), .unset] [(.ref p1), (.int (1 : Int32))]))
  refine Adv.lenI A X7 hx hZ e7 V_p1_7 (g := (mkF m 17 #[.val (.ref self), .val (.ref p1), .val (.int (1 : Int32)), .val (.int (1 : Int32)), .unset] [(.ref p1), (.int (1 : Int32))])) rfl rfl (hb hby d1_17) ?_
  show D (T7.setTop (mkF m 18 #[.val (.ref self), .val (.ref p1), .val (.int (1 : Int32)), .val (.int (1 : Int32)), .unset] [(.int (4 : Int32)), (.int (1 : Int32))]))
  refine A (XS.icmpNo X7.here hx rfl (hb hby d1_18) rfl (tlt (by decide : (1 : Int32) < (4 : Int32))).2.1) ?_
  show D (T7.setTop (mkF m 21 #[.val (.ref self), .val (.ref p1), .val (.int (1 : Int32)), .val (.int (1 : Int32)), .unset] []))
  refine A (XS.aloadN X7.here hx rfl (hb hby d1_21) rfl rfl) ?_
  show D (T7.setTop (mkF m 22 #[.val (.ref self), .val (.ref p1), .val (.int (1 : Int32)), .val (.int (1 : Int32)), .unset] [(.ref self)]))
  obtain ⟨T10, X10, e10, st10⟩ := getF X7 hx hZ hown (host := "") (Or.inl (hw _ (List.mem_of_getElem? (i := 11) rfl))) Via.refl e7 F_start_7 (g := (mkF m 22 #[.val (.ref self), .val (.ref p1), .val (.int (1 : Int32)), .val (.int (1 : Int32)), .unset] [(.ref self)])) rfl rfl (hb hby d1_22)
  refine A (st10 _) ?_
  show D (T10.setTop (mkF m 25 #[.val (.ref self), .val (.ref p1), .val (.int (1 : Int32)), .val (.int (1 : Int32)), .unset] [(.ref b3)]))
  refine A (XS.aloadN X10.here hx rfl (hb hby d1_25) rfl rfl) ?_
  show D (T10.setTop (mkF m 26 #[.val (.ref self), .val (.ref p1), .val (.int (1 : Int32)), .val (.int (1 : Int32)), .unset] [(.ref p1), (.ref b3)]))
  refine A (XS.iloadN X10.here hx rfl (hb hby d1_26) rfl) ?_
  show D (T10.setTop (mkF m 27 #[.val (.ref self), .val (.ref p1), .val (.int (1 : Int32)), .val (.int (1 : Int32)), .unset] [(.int (1 : Int32)), (.ref p1), (.ref b3)]))
  refine Adv.ldI A X10 hx hZ e10 V_p1_7 (k := 1) (by decide) (by decide) (g := (mkF m 27 #[.val (.ref self), .val (.ref p1), .val (.int (1 : Int32)), .val (.int (1 : Int32)), .unset] [(.int (1 : Int32)), (.ref p1), (.ref b3)])) rfl rfl (hb hby d1_27) ?_
  show D (T10.setTop (mkF m 28 #[.val (.ref self), .val (.ref p1), .val (.int (1 : Int32)), .val (.int (1 : Int32)), .unset] [(.int (Int32.ofNat k1)), (.ref b3)]))
  refine A (XS.iconst X10.here hx rfl (hb hby d1_28)) ?_
  show D (T10.setTop (mkF m 29 #[.val (.ref self), .val (.ref p1), .val (.int (1 : Int32)), .val (.int (1 : Int32)), .unset] [(.int (1 : Int32)), (.int (Int32.ofNat k1)), (.ref b3)]))
  refine A (XS.iadd X10.here hx rfl (hb hby d1_29) rfl) ?_
  show D (T10.setTop (mkF m 30 #[.val (.ref self), .val (.ref p1), .val (.int (1 : Int32)), .val (.int (1 : Int32)), .unset] [(.int ((Int32.ofNat k1) + (1 : Int32))), (.ref b3)]))
  refine A (S' := T10.setTop (mkF m 31 #[.val (.ref self), .val (.ref p1), .val (.int (1 : Int32)), .val (.int (1 : Int32)), .unset] [(.int ((Int32.ofNat k1) + (1 : Int32))), (.ref b3), (.int ((Int32.ofNat k1) + (1 : Int32))), (.ref b3)])) (fun {t} kt => ?_) ?_
  · jvm_step X10.here [X10.here.top, hx, (hb hby d1_30), Value.category]
    exact kt
  show D (T10.setTop (mkF m 31 #[.val (.ref self), .val (.ref p1), .val (.int (1 : Int32)), .val (.int (1 : Int32)), .unset] [(.int ((Int32.ofNat k1) + (1 : Int32))), (.ref b3), (.int ((Int32.ofNat k1) + (1 : Int32))), (.ref b3)]))
  refine Adv.ldI A X10 hx hZ e10 Vc8 (k := (k1 + 1)) (own_of1 (by omega)) (by omega) (g := (mkF m 31 #[.val (.ref self), .val (.ref p1), .val (.int (1 : Int32)), .val (.int (1 : Int32)), .unset] [(.int ((Int32.ofNat k1) + (1 : Int32))), (.ref b3), (.int ((Int32.ofNat k1) + (1 : Int32))), (.ref b3)])) rfl rfl (hb hby d1_31) ?_
  show D (T10.setTop (mkF m 32 #[.val (.ref self), .val (.ref p1), .val (.int (1 : Int32)), .val (.int (1 : Int32)), .unset] [(.int (Int32.ofNat (own_m1 k0 k1 k2 k3 (k1 + 1)))), (.int ((Int32.ofNat k1) + (1 : Int32))), (.ref b3)]))
  refine A (XS.iconst X10.here hx rfl (hb hby d1_32)) ?_
  show D (T10.setTop (mkF m 33 #[.val (.ref self), .val (.ref p1), .val (.int (1 : Int32)), .val (.int (1 : Int32)), .unset] [(.int (1 : Int32)), (.int (Int32.ofNat (own_m1 k0 k1 k2 k3 (k1 + 1)))), (.int ((Int32.ofNat k1) + (1 : Int32))), (.ref b3)]))
  refine A (XS.iadd X10.here hx rfl (hb hby d1_33) rfl) ?_
  show D (T10.setTop (mkF m 34 #[.val (.ref self), .val (.ref p1), .val (.int (1 : Int32)), .val (.int (1 : Int32)), .unset] [(.int ((Int32.ofNat (own_m1 k0 k1 k2 k3 (k1 + 1))) + (1 : Int32))), (.int ((Int32.ofNat k1) + (1 : Int32))), (.ref b3)]))
  refine Adv.stI A X10 hx hZ e10 Vc8 (k := (k1 + 1)) (own_of1 (by omega)) (by omega) (g := (mkF m 34 #[.val (.ref self), .val (.ref p1), .val (.int (1 : Int32)), .val (.int (1 : Int32)), .unset] [(.int ((Int32.ofNat (own_m1 k0 k1 k2 k3 (k1 + 1))) + (1 : Int32))), (.int ((Int32.ofNat k1) + (1 : Int32))), (.ref b3)])) rfl rfl (hb hby d1_34) ?_
  intro T11 h11 X11 e11 W11 Vb3_11
  have N11 := Fr.snoc X11 N7 g_b3
  have E_self_11 := E_self_7.wr W11
  have F_start_11 := F_start_7.other W11 (Or.inl ne_self_b3)
  have F_rows_11 := F_rows_7.other W11 (Or.inl ne_self_b3)
  have V_p1_11 := V_p1_7.other W11 ne_p1_b3
  have EA_b3_11 := EA_b3_7.wr W11
  have Z_11 : n0 ≤ h11.size := Nat.le_trans Z_7 (Nat.le_of_eq W11.size.symm)
  have KK_11 : Keep h0 h11 [self] := KK_7.wr W11 (Or.inr sz_b3)
  show D (T11.setTop (mkF m 35 #[.val (.ref self), .val (.ref p1), .val (.int (1 : Int32)), .val (.int (1 : Int32)), .unset] []))
  have Vc12 : ArI Z h11 b3 .int 2 (fun i => Int32.ofNat (own_m2 k0 k1 k2 k3 i)) := Vb3_11.eqf (fun i hi => own_l1_1 k0 (by omega) k1 (by omega) k2 (by omega) k3 (by omega) i (by omega))
  refine A (XS.iinc X11.here hx rfl (hb hby d1_35) rfl (l' := #[.val (.ref self), .val (.ref p1), .val (.int (1 : Int32)), .val (.int ((1 : Int32) + (1 : Int32))), .unset]) rfl) ?_
  show D (T11.setTop (mkF m 38 #[.val (.ref self), .val (.ref p1), .val (.int (1 : Int32)), .val (.int ((1 : Int32) + (1 : Int32))), .unset] []))
  suffices Kq13 : ∀ q13 : Int32, q13 = (2 : Int32) → D (T11.setTop (mkF m 38 #[.val (.ref self), .val (.ref p1), .val (.int (1 : Int32)), .val (.int q13), .unset] [])) from Kq13 _ (by decide)
  rintro _ rfl
  show D (T11.setTop (mkF m 38 #[.val (.ref self), .val (.ref p1), .val (.int (1 : Int32)), .val (.int (2 : Int32)), .unset] []))
  refine A (XS.goto X11.here hx rfl (pc0 := 38) (pc' := 15) rfl (hb hby d1_38) (by decide) (by decide)) ?_
  show D (T11.setTop (mkF m 15 #[.val (.ref self), .val (.ref p1), .val (.int (1 : Int32)), .val (.int (2 : Int32)), .unset] []))
  refine A (XS.iloadN X11.here hx rfl (hb hby d1_15) rfl) ?_
  show D (T11.setTop (mkF m 16 #[.val (.ref self), .val (.ref p1), .val (.int (1 : Int32)), .val (.int (2 : Int32)), .unset] [(.int (2 : Int32))]))
  refine A (XS.aloadN X11.here hx rfl (hb hby d1_16) rfl rfl) ?_
  show D (T11.setTop (mkF m 17 #[.val (.ref self), .val (.ref p1), .val (.int (1 : Int32)), .val (.int (2 : Int32)), .unset] [(.ref p1), (.int (2 : Int32))]))
  refine Adv.lenI A X11 hx hZ e11 V_p1_11 (g := (mkF m 17 #[.val (.ref self), .val (.ref p1), .val (.int (1 : Int32)), .val (.int (2 : Int32)), .unset] [(.ref p1), (.int (2 : Int32))])) rfl rfl (hb hby d1_17) ?_
  show D (T11.setTop (mkF m 18 #[.val (.ref self), .val (.ref p1), .val (.int (1 : Int32)), .val (.int (2 : Int32)), .unset] [(.int (4 : Int32)), (.int (2 : Int32))]))
  refine A (XS.icmpNo X11.here hx rfl (hb hby d1_18) rfl (tlt (by decide : (2 : Int32) < (4 : Int32))).2.1) ?_
  show D (T11.setTop (mkF m 21 #[.val (.ref self), .val (.ref p1), .val (.int (1 : Int32)), .val (.int (2 : Int32)), .unset] []))
  refine A (XS.aloadN X11.here hx rfl (hb hby d1_21) rfl rfl) ?_
  show D (T11.setTop (mkF m 22 #[.val (.ref self), .val (.ref p1), .val (.int (1 : Int32)), .val (.int (2 : Int32)), .unset] [(.ref self)]))
  obtain ⟨T14, X14, e14, st14⟩ := getF X11 hx hZ hown (host := "") (Or.inl (hw _ (List.mem_of_getElem? (i := 11) rfl))) Via.refl e11 F_start_11 (g := (mkF m 22 #[.val (.ref self), .val (.ref p1), .val (.int (1 : Int32)), .val (.int (2 : Int32)), .unset] [(.ref self)])) rfl rfl (hb hby d1_22)
  refine A (st14 _) ?_
  show D (T14.setTop (mkF m 25 #[.val (.ref self), .val (.ref p1), .val (.int (1 : Int32)), .val (.int (2 : Int32)), .unset] [(.ref b3)]))
  refine A (XS.aloadN X14.here hx rfl (hb hby d1_25) rfl rfl) ?_
  show D (T14.setTop (mkF m 26 #[.val (.ref self), .val (.ref p1), .val (.int (1 : Int32)), .val (.int (2 : Int32)), .unset] [(.ref p1), (.ref b3)]))
  refine A (XS.iloadN X14.here hx rfl (hb hby d1_26) rfl) ?_
  show D (T14.setTop (mkF m 27 #[.val (.ref self), .val (.ref p1), .val (.int (1 : Int32)), .val (.int (2 : Int32)), .unset] [(.int (2 : Int32)), (.ref p1), (.ref b3)]))
  refine Adv.ldI A X14 hx hZ e14 V_p1_11 (k := 2) (by decide) (by decide) (g := (mkF m 27 #[.val (.ref self), .val (.ref p1), .val (.int (1 : Int32)), .val (.int (2 : Int32)), .unset] [(.int (2 : Int32)), (.ref p1), (.ref b3)])) rfl rfl (hb hby d1_27) ?_
  show D (T14.setTop (mkF m 28 #[.val (.ref self), .val (.ref p1), .val (.int (1 : Int32)), .val (.int (2 : Int32)), .unset] [(.int (Int32.ofNat k2)), (.ref b3)]))
  refine A (XS.iconst X14.here hx rfl (hb hby d1_28)) ?_
  show D (T14.setTop (mkF m 29 #[.val (.ref self), .val (.ref p1), .val (.int (1 : Int32)), .val (.int (2 : Int32)), .unset] [(.int (1 : Int32)), (.int (Int32.ofNat k2)), (.ref b3)]))
  refine A (XS.iadd X14.here hx rfl (hb hby d1_29) rfl) ?_
  show D (T14.setTop (mkF m 30 #[.val (.ref self), .val (.ref p1), .val (.int (1 : Int32)), .val (.int (2 : Int32)), .unset] [(.int ((Int32.ofNat k2) + (1 : Int32))), (.ref b3)]))
  refine A (S' := T14.setTop (mkF m 31 #[.val (.ref self), .val (.ref p1), .val (.int (1 : Int32)), .val (.int (2 : Int32)), .unset] [(.int ((Int32.ofNat k2) + (1 : Int32))), (.ref b3), (.int ((Int32.ofNat k2) + (1 : Int32))), (.ref b3)])) (fun {t} kt => ?_) ?_
  · jvm_step X14.here [X14.here.top, hx, (hb hby d1_30), Value.category]
    exact kt
  show D (T14.setTop (mkF m 31 #[.val (.ref self), .val (.ref p1), .val (.int (1 : Int32)), .val (.int (2 : Int32)), .unset] [(.int ((Int32.ofNat k2) + (1 : Int32))), (.ref b3), (.int ((Int32.ofNat k2) + (1 : Int32))), (.ref b3)]))
  refine Adv.ldI A X14 hx hZ e14 Vc12 (k := (k2 + 1)) (own_of1 (by omega)) (by omega) (g := (mkF m 31 #[.val (.ref self), .val (.ref p1), .val (.int (1 : Int32)), .val (.int (2 : Int32)), .unset] [(.int ((Int32.ofNat k2) + (1 : Int32))), (.ref b3), (.int ((Int32.ofNat k2) + (1 : Int32))), (.ref b3)])) rfl rfl (hb hby d1_31) ?_
  show D (T14.setTop (mkF m 32 #[.val (.ref self), .val (.ref p1), .val (.int (1 : Int32)), .val (.int (2 : Int32)), .unset] [(.int (Int32.ofNat (own_m2 k0 k1 k2 k3 (k2 + 1)))), (.int ((Int32.ofNat k2) + (1 : Int32))), (.ref b3)]))
  refine A (XS.iconst X14.here hx rfl (hb hby d1_32)) ?_
  show D (T14.setTop (mkF m 33 #[.val (.ref self), .val (.ref p1), .val (.int (1 : Int32)), .val (.int (2 : Int32)), .unset] [(.int (1 : Int32)), (.int (Int32.ofNat (own_m2 k0 k1 k2 k3 (k2 + 1)))), (.int ((Int32.ofNat k2) + (1 : Int32))), (.ref b3)]))
  refine A (XS.iadd X14.here hx rfl (hb hby d1_33) rfl) ?_
  show D (T14.setTop (mkF m 34 #[.val (.ref self), .val (.ref p1), .val (.int (1 : Int32)), .val (.int (2 : Int32)), .unset] [(.int ((Int32.ofNat (own_m2 k0 k1 k2 k3 (k2 + 1))) + (1 : Int32))), (.int ((Int32.ofNat k2) + (1 : Int32))), (.ref b3)]))
  refine Adv.stI A X14 hx hZ e14 Vc12 (k := (k2 + 1)) (own_of1 (by omega)) (by omega) (g := (mkF m 34 #[.val (.ref self), .val (.ref p1), .val (.int (1 : Int32)), .val (.int (2 : Int32)), .unset] [(.int ((Int32.ofNat (own_m2 k0 k1 k2 k3 (k2 + 1))) + (1 : Int32))), (.int ((Int32.ofNat k2) + (1 : Int32))), (.ref b3)])) rfl rfl (hb hby d1_34) ?_
  intro T15 h15 X15 e15 W15 Vb3_15
  have N15 := Fr.snoc X15 N11 g_b3
  have E_self_15 := E_self_11.wr W15
  have F_start_15 := F_start_11.other W15 (Or.inl ne_self_b3)
  have F_rows_15 := F_rows_11.other W15 (Or.inl ne_self_b3)
  have V_p1_15 := V_p1_11.other W15 ne_p1_b3
  have EA_b3_15 := EA_b3_11.wr W15
  have Z_15 : n0 ≤ h15.size := Nat.le_trans Z_11 (Nat.le_of_eq W15.size.symm)
  have KK_15 : Keep h0 h15 [self] := KK_11.wr W15 (Or.inr sz_b3)
  show D (T15.setTop (mkF m 35 #[.val (.ref self), .val (.ref p1), .val (.int (1 : Int32)), .val (.int (2 : Int32)), .unset] []))
  have Vc16 : ArI Z h15 b3 .int 2 (fun i => Int32.ofNat (own_m3 k0 k1 k2 k3 i)) := Vb3_15.eqf (fun i hi => own_l1_2 k0 (by omega) k1 (by omega) k2 (by omega) k3 (by omega) i (by omega))
  refine A (XS.iinc X15.here hx rfl (hb hby d1_35) rfl (l' := #[.val (.ref self), .val (.ref p1), .val (.int (1 : Int32)), .val (.int ((2 : Int32) + (1 : Int32))), .unset]) rfl) ?_
  show D (T15.setTop (mkF m 38 #[.val (.ref self), .val (.ref p1), .val (.int (1 : Int32)), .val (.int ((2 : Int32) + (1 : Int32))), .unset] []))
  suffices Kq17 : ∀ q17 : Int32, q17 = (3 : Int32) → D (T15.setTop (mkF m 38 #[.val (.ref self), .val (.ref p1), .val (.int (1 : Int32)), .val (.int q17), .unset] [])) from Kq17 _ (by decide)
  rintro _ rfl
  show D (T15.setTop (mkF m 38 #[.val (.ref self), .val (.ref p1), .val (.int (1 : Int32)), .val (.int (3 : Int32)), .unset] []))
  refine A (XS.goto X15.here hx rfl (pc0 := 38) (pc' := 15) rfl (hb hby d1_38) (by decide) (by decide)) ?_
  show D (T15.setTop (mkF m 15 #[.val (.ref self), .val (.ref p1), .val (.int (1 : Int32)), .val (.int (3 : Int32)), .unset] []))
  refine A (XS.iloadN X15.here hx rfl (hb hby d1_15) rfl) ?_
  show D (T15.setTop (mkF m 16 #[.val (.ref self), .val (.ref p1), .val (.int (1 : Int32)), .val (.int (3 : Int32)), .unset] [(.int (3 : Int32))]))
  refine A (XS.aloadN X15.here hx rfl (hb hby d1_16) rfl rfl) ?_
  show D (T15.setTop (mkF m 17 #[.val (.ref self), .val (.ref p1), .val (.int (1 : Int32)), .val (.int (3 : Int32)), .unset] [(.ref p1), (.int (3 : Int32))]))
  refine Adv.lenI A X15 hx hZ e15 V_p1_15 (g := (mkF m 17 #[.val (.ref self), .val (.ref p1), .val (.int (1 : Int32)), .val (.int (3 : Int32)), .unset] [(.ref p1), (.int (3 : Int32))])) rfl rfl (hb hby d1_17) ?_
  show D (T15.setTop (mkF m 18 #[.val (.ref self), .val (.ref p1), .val (.int (1 : Int32)), .val (.int (3 : Int32)), .unset] [(.int (4 : Int32)), (.int (3 : Int32))]))
  refine A (XS.icmpNo X15.here hx rfl (hb hby d1_18) rfl (tlt (by decide : (3 : Int32) < (4 : Int32))).2.1) ?_
  show D (T15.setTop (mkF m 21 #[.val (.ref self), .val (.ref p1), .val (.int (1 : Int32)), .val (.int (3 : Int32)), .unset] []))
  refine A (XS.aloadN X15.here hx rfl (hb hby d1_21) rfl rfl) ?_
  show D (T15.setTop (mkF m 22 #[.val (.ref self), .val (.ref p1), .val (.int (1 : Int32)), .val (.int (3 : Int32)), .unset] [(.ref self)]))
  obtain ⟨T18, X18, e18, st18⟩ := getF X15 hx hZ hown (host := "") (Or.inl (hw _ (List.mem_of_getElem? (i := 11) rfl))) Via.refl e15 F_start_15 (g := (mkF m 22 #[.val (.ref self), .val (.ref p1), .val (.int (1 : Int32)), .val (.int (3 : Int32)), .unset] [(.ref self)])) rfl rfl (hb hby d1_22)
  refine A (st18 _) ?_
  show D (T18.setTop (mkF m 25 #[.val (.ref self), .val (.ref p1), .val (.int (1 : Int32)), .val (.int (3 : Int32)), .unset] [(.ref b3)]))
  refine A (XS.aloadN X18.here hx rfl (hb hby d1_25) rfl rfl) ?_
  show D (T18.setTop (mkF m 26 #[.val (.ref self), .val (.ref p1), .val (.int (1 : Int32)), .val (.int (3 : Int32)), .unset] [(.ref p1), (.ref b3)]))
  refine A (XS.iloadN X18.here hx rfl (hb hby d1_26) rfl) ?_
  show D (T18.setTop (mkF m 27 #[.val (.ref self), .val (.ref p1), .val (.int (1 : Int32)), .val (.int (3 : Int32)), .unset] [(.int (3 : Int32)), (.ref p1), (.ref b3)]))
  refine Adv.ldI A X18 hx hZ e18 V_p1_15 (k := 3) (by decide) (by decide) (g := (mkF m 27 #[.val (.ref self), .val (.ref p1), .val (.int (1 : Int32)), .val (.int (3 : Int32)), .unset] [(.int (3 : Int32)), (.ref p1), (.ref b3)])) rfl rfl (hb hby d1_27) ?_
  show D (T18.setTop (mkF m 28 #[.val (.ref self), .val (.ref p1), .val (.int (1 : Int32)), .val (.int (3 : Int32)), .unset] [(.int (Int32.ofNat k3)), (.ref b3)]))
  refine A (XS.iconst X18.here hx rfl (hb hby d1_28)) ?_
  show D (T18.setTop (mkF m 29 #[.val (.ref self), .val (.ref p1), .val (.int (1 : Int32)), .val (.int (3 : Int32)), .unset] [(.int (1 : Int32)), (.int (Int32.ofNat k3)), (.ref b3)]))
  refine A (XS.iadd X18.here hx rfl (hb hby d1_29) rfl) ?_
  show D (T18.setTop (mkF m 30 #[.val (.ref self), .val (.ref p1), .val (.int (1 : Int32)), .val (.int (3 : Int32)), .unset] [(.int ((Int32.ofNat k3) + (1 : Int32))), (.ref b3)]))
  refine A (S' := T18.setTop (mkF m 31 #[.val (.ref self), .val (.ref p1), .val (.int (1 : Int32)), .val (.int (3 : Int32)), .unset] [(.int ((Int32.ofNat k3) + (1 : Int32))), (.ref b3), (.int ((Int32.ofNat k3) + (1 : Int32))), (.ref b3)])) (fun {t} kt => ?_) ?_
  · jvm_step X18.here [X18.here.top, hx, (hb hby d1_30), Value.category]
    exact kt
  show D (T18.setTop (mkF m 31 #[.val (.ref self), .val (.ref p1), .val (.int (1 : Int32)), .val (.int (3 : Int32)), .unset] [(.int ((Int32.ofNat k3) + (1 : Int32))), (.ref b3), (.int ((Int32.ofNat k3) + (1 : Int32))), (.ref b3)]))
  refine Adv.ldI A X18 hx hZ e18 Vc16 (k := (k3 + 1)) (own_of1 (by omega)) (by omega) (g := (mkF m 31 #[.val (.ref self), .val (.ref p1), .val (.int (1 : Int32)), .val (.int (3 : Int32)), .unset] [(.int ((Int32.ofNat k3) + (1 : Int32))), (.ref b3), (.int ((Int32.ofNat k3) + (1 : Int32))), (.ref b3)])) rfl rfl (hb hby d1_31) ?_
  show D (T18.setTop (mkF m 32 #[.val (.ref self), .val (.ref p1), .val (.int (1 : Int32)), .val (.int (3 : Int32)), .unset] [(.int (Int32.ofNat (own_m3 k0 k1 k2 k3 (k3 + 1)))), (.int ((Int32.ofNat k3) + (1 : Int32))), (.ref b3)]))
  refine A (XS.iconst X18.here hx rfl (hb hby d1_32)) ?_
  show D (T18.setTop (mkF m 33 #[.val (.ref self), .val (.ref p1), .val (.int (1 : Int32)), .val (.int (3 : Int32)), .unset] [(.int (1 : Int32)), (.int (Int32.ofNat (own_m3 k0 k1 k2 k3 (k3 + 1)))), (.int ((Int32.ofNat k3) + (1 : Int32))), (.ref b3)]))
  refine A (XS.iadd X18.here hx rfl (hb hby d1_33) rfl) ?_
  show D (T18.setTop (mkF m 34 #[.val (.ref self), .val (.ref p1), .val (.int (1 : Int32)), .val (.int (3 : Int32)), .unset] [(.int ((Int32.ofNat (own_m3 k0 k1 k2 k3 (k3 + 1))) + (1 : Int32))), (.int ((Int32.ofNat k3) + (1 : Int32))), (.ref b3)]))
  refine Adv.stI A X18 hx hZ e18 Vc16 (k := (k3 + 1)) (own_of1 (by omega)) (by omega) (g := (mkF m 34 #[.val (.ref self), .val (.ref p1), .val (.int (1 : Int32)), .val (.int (3 : Int32)), .unset] [(.int ((Int32.ofNat (own_m3 k0 k1 k2 k3 (k3 + 1))) + (1 : Int32))), (.int ((Int32.ofNat k3) + (1 : Int32))), (.ref b3)])) rfl rfl (hb hby d1_34) ?_
  intro T19 h19 X19 e19 W19 Vb3_19
  have N19 := Fr.snoc X19 N15 g_b3
  have E_self_19 := E_self_15.wr W19
  have F_start_19 := F_start_15.other W19 (Or.inl ne_self_b3)
  have F_rows_19 := F_rows_15.other W19 (Or.inl ne_self_b3)
  have V_p1_19 := V_p1_15.other W19 ne_p1_b3
  have EA_b3_19 := EA_b3_15.wr W19
  have Z_19 : n0 ≤ h19.size := Nat.le_trans Z_15 (Nat.le_of_eq W19.size.symm)
  have KK_19 : Keep h0 h19 [self] := KK_15.wr W19 (Or.inr sz_b3)
  show D (T19.setTop (mkF m 35 #[.val (.ref self), .val (.ref p1), .val (.int (1 : Int32)), .val (.int (3 : Int32)), .unset] []))
  have Vc20 : ArI Z h19 b3 .int 2 (fun i => Int32.ofNat (own_m4 k0 k1 k2 k3 i)) := Vb3_19.eqf (fun i hi => own_l1_3 k0 (by omega) k1 (by omega) k2 (by omega) k3 (by omega) i (by omega))
  refine A (XS.iinc X19.here hx rfl (hb hby d1_35) rfl (l' := #[.val (.ref self), .val (.ref p1), .val (.int (1 : Int32)), .val (.int ((3 : Int32) + (1 : Int32))), .unset]) rfl) ?_
  show D (T19.setTop (mkF m 38 #[.val (.ref self), .val (.ref p1), .val (.int (1 : Int32)), .val (.int ((3 : Int32) + (1 : Int32))), .unset] []))
  suffices Kq21 : ∀ q21 : Int32, q21 = (4 : Int32) → D (T19.setTop (mkF m 38 #[.val (.ref self), .val (.ref p1), .val (.int (1 : Int32)), .val (.int q21), .unset] [])) from Kq21 _ (by decide)
  rintro _ rfl
  show D (T19.setTop (mkF m 38 #[.val (.ref self), .val (.ref p1), .val (.int (1 : Int32)), .val (.int (4 : Int32)), .unset] []))
  refine A (XS.goto X19.here hx rfl (pc0 := 38) (pc' := 15) rfl (hb hby d1_38) (by decide) (by decide)) ?_
  show D (T19.setTop (mkF m 15 #[.val (.ref self), .val (.ref p1), .val (.int (1 : Int32)), .val (.int (4 : Int32)), .unset] []))
  refine A (XS.iloadN X19.here hx rfl (hb hby d1_15) rfl) ?_
  show D (T19.setTop (mkF m 16 #[.val (.ref self), .val (.ref p1), .val (.int (1 : Int32)), .val (.int (4 : Int32)), .unset] [(.int (4 : Int32))]))
  refine A (XS.aloadN X19.here hx rfl (hb hby d1_16) rfl rfl) ?_
  show D (T19.setTop (mkF m 17 #[.val (.ref self), .val (.ref p1), .val (.int (1 : Int32)), .val (.int (4 : Int32)), .unset] [(.ref p1), (.int (4 : Int32))]))
  refine Adv.lenI A X19 hx hZ e19 V_p1_19 (g := (mkF m 17 #[.val (.ref self), .val (.ref p1), .val (.int (1 : Int32)), .val (.int (4 : Int32)), .unset] [(.ref p1), (.int (4 : Int32))])) rfl rfl (hb hby d1_17) ?_
  show D (T19.setTop (mkF m 18 #[.val (.ref self), .val (.ref p1), .val (.int (1 : Int32)), .val (.int (4 : Int32)), .unset] [(.int (4 : Int32)), (.int (4 : Int32))]))
  refine A (XS.icmpYes X19.here hx rfl (pc0 := 18) (pc' := 41) rfl (hb hby d1_18) rfl (flt (by decide : ¬ ((4 : Int32) < (4 : Int32)))).2.1 (by decide) (by decide)) ?_
  show D (T19.setTop (mkF m 41 #[.val (.ref self), .val (.ref p1), .val (.int (1 : Int32)), .val (.int (4 : Int32)), .unset] []))
  have Vc22 : ArI Z h19 b3 .int 2 (fun i => Int32.ofNat (own_p0 k0 k1 k2 k3 i)) := Vc20.eqf (fun i hi => own_l12 k0 (by omega) k1 (by omega) k2 (by omega) k3 (by omega) i (by omega))
  refine A (XS.iconst X19.here hx rfl (hb hby d1_41)) ?_
  show D (T19.setTop (mkF m 42 #[.val (.ref self), .val (.ref p1), .val (.int (1 : Int32)), .val (.int (4 : Int32)), .unset] [(.int (0 : Int32))]))
  refine A (XS.istoreN X19.here hx rfl (hb hby d1_42) rfl (l' := #[.val (.ref self), .val (.ref p1), .val (.int (1 : Int32)), .val (.int (0 : Int32)), .unset]) rfl) ?_
  show D (T19.setTop (mkF m 43 #[.val (.ref self), .val (.ref p1), .val (.int (1 : Int32)), .val (.int (0 : Int32)), .unset] []))
  refine A (XS.iloadN X19.here hx rfl (hb hby d1_43) rfl) ?_
  show D (T19.setTop (mkF m 44 #[.val (.ref self), .val (.ref p1), .val (.int (1 : Int32)), .val (.int (0 : Int32)), .unset] [(.int (0 : Int32))]))
  refine A (XS.iloadN X19.here hx rfl (hb hby d1_44) rfl) ?_
  show D (T19.setTop (mkF m 45 #[.val (.ref self), .val (.ref p1), .val (.int (1 : Int32)), .val (.int (0 : Int32)), .unset] [(.int (1 : Int32)), (.int (0 : Int32))]))
  refine A (XS.icmpNo X19.here hx rfl (hb hby d1_45) rfl (tlt (by decide : (0 : Int32) < (1 : Int32))).2.1) ?_
  show D (T19.setTop (mkF m 48 #[.val (.ref self), .val (.ref p1), .val (.int (1 : Int32)), .val (.int (0 : Int32)), .unset] []))
  refine A (XS.aloadN X19.here hx rfl (hb hby d1_48) rfl rfl) ?_
  show D (T19.setTop (mkF m 49 #[.val (.ref self), .val (.ref p1), .val (.int (1 : Int32)), .val (.int (0 : Int32)), .unset] [(.ref self)]))
  obtain ⟨T23, X23, e23, st23⟩ := getF X19 hx hZ hown (host := "") (Or.inl (hw _ (List.mem_of_getElem? (i := 11) rfl))) Via.refl e19 F_start_19 (g := (mkF m 49 #[.val (.ref self), .val (.ref p1), .val (.int (1 : Int32)), .val (.int (0 : Int32)), .unset] [(.ref self)])) rfl rfl (hb hby d1_49)
  refine A (st23 _) ?_
  show D (T23.setTop (mkF m 52 #[.val (.ref self), .val (.ref p1), .val (.int (1 : Int32)), .val (.int (0 : Int32)), .unset] [(.ref b3)]))
  refine A (XS.iloadN X23.here hx rfl (hb hby d1_52) rfl) ?_
  show D (T23.setTop (mkF m 53 #[.val (.ref self), .val (.ref p1), .val (.int (1 : Int32)), .val (.int (0 : Int32)), .unset] [(.int (0 : Int32)), (.ref b3)]))
  refine A (XS.iconst X23.here hx rfl (hb hby d1_53)) ?_
  show D (T23.setTop (mkF m 54 #[.val (.ref self), .val (.ref p1), .val (.int (1 : Int32)), .val (.int (0 : Int32)), .unset] [(.int (1 : Int32)), (.int (0 : Int32)), (.ref b3)]))
  refine A (XS.iadd X23.here hx rfl (hb hby d1_54) rfl) ?_
  show D (T23.setTop (mkF m 55 #[.val (.ref self), .val (.ref p1), .val (.int (1 : Int32)), .val (.int (0 : Int32)), .unset] [(.int ((0 : Int32) + (1 : Int32))), (.ref b3)]))
  suffices Kq24 : ∀ q24 : Int32, q24 = (1 : Int32) → D (T23.setTop (mkF m 55 #[.val (.ref self), .val (.ref p1), .val (.int (1 : Int32)), .val (.int (0 : Int32)), .unset] [(.int q24), (.ref b3)])) from Kq24 _ (by decide)
  rintro _ rfl
  show D (T23.setTop (mkF m 55 #[.val (.ref self), .val (.ref p1), .val (.int (1 : Int32)), .val (.int (0 : Int32)), .unset] [(.int (1 : Int32)), (.ref b3)]))
  refine A (S' := T23.setTop (mkF m 56 #[.val (.ref self), .val (.ref p1), .val (.int (1 : Int32)), .val (.int (0 : Int32)), .unset] [(.int (1 : Int32)), (.ref b3), (.int (1 : Int32)), (.ref b3)])) (fun {t} kt => ?_) ?_
  · jvm_step X23.here [X23.here.top, hx, (hb hby d1_55), Value.category]
    exact kt
  show D (T23.setTop (mkF m 56 #[.val (.ref self), .val (.ref p1), .val (.int (1 : Int32)), .val (.int (0 : Int32)), .unset] [(.int (1 : Int32)), (.ref b3), (.int (1 : Int32)), (.ref b3)]))
  refine Adv.ldI A X23 hx hZ e23 Vc22 (k := 1) (by decide) (by decide) (g := (mkF m 56 #[.val (.ref self), .val (.ref p1), .val (.int (1 : Int32)), .val (.int (0 : Int32)), .unset] [(.int (1 : Int32)), (.ref b3), (.int (1 : Int32)), (.ref b3)])) rfl rfl (hb hby d1_56) ?_
  show D (T23.setTop (mkF m 57 #[.val (.ref self), .val (.ref p1), .val (.int (1 : Int32)), .val (.int (0 : Int32)), .unset] [(.int (Int32.ofNat (own_p0 k0 k1 k2 k3 1))), (.int (1 : Int32)), (.ref b3)]))
  refine A (XS.aloadN X23.here hx rfl (hb hby d1_57) rfl rfl) ?_
  show D (T23.setTop (mkF m 58 #[.val (.ref self), .val (.ref p1), .val (.int (1 : Int32)), .val (.int (0 : Int32)), .unset] [(.ref self), (.int (Int32.ofNat (own_p0 k0 k1 k2 k3 1))), (.int (1 : Int32)), (.ref b3)]))
  obtain ⟨T25, X25, e25, st25⟩ := getF X23 hx hZ hown (host := "") (Or.inl (hw _ (List.mem_of_getElem? (i := 11) rfl))) Via.refl e23 F_start_19 (g := (mkF m 58 #[.val (.ref self), .val (.ref p1), .val (.int (1 : Int32)), .val (.int (0 : Int32)), .unset] [(.ref self), (.int (Int32.ofNat (own_p0 k0 k1 k2 k3 1))), (.int (1 : Int32)), (.ref b3)])) rfl rfl (hb hby d1_58)
  refine A (st25 _) ?_
  show D (T25.setTop (mkF m 61 #[.val (.ref self), .val (.ref p1), .val (.int (1 : Int32)), .val (.int (0 : Int32)), .unset] [(.ref b3), (.int (Int32.ofNat (own_p0 k0 k1 k2 k3 1))), (.int (1 : Int32)), (.ref b3)]))
  refine A (XS.iloadN X25.here hx rfl (hb hby d1_61) rfl) ?_
  show D (T25.setTop (mkF m 62 #[.val (.ref self), .val (.ref p1), .val (.int (1 : Int32)), .val (.int (0 : Int32)), .unset] [(.int (0 : Int32)), (.ref b3), (.int (Int32.ofNat (own_p0 k0 k1 k2 k3 1))), (.int (1 : Int32)), (.ref b3)]))
  refine Adv.ldI A X25 hx hZ e25 Vc22 (k := 0) (by decide) (by decide) (g := (mkF m 62 #[.val (.ref self), .val (.ref p1), .val (.int (1 : Int32)), .val (.int (0 : Int32)), .unset] [(.int (0 : Int32)), (.ref b3), (.int (Int32.ofNat (own_p0 k0 k1 k2 k3 1))), (.int (1 : Int32)), (.ref b3)])) rfl rfl (hb hby d1_62) ?_
  show D (T25.setTop (mkF m 63 #[.val (.ref self), .val (.ref p1), .val (.int (1 : Int32)), .val (.int (0 : Int32)), .unset] [(.int (Int32.ofNat (own_p0 k0 k1 k2 k3 0))), (.int (Int32.ofNat (own_p0 k0 k1 k2 k3 1))), (.int (1 : Int32)), (.ref b3)]))
  refine A (XS.iadd X25.here hx rfl (hb hby d1_63) rfl) ?_
  show D (T25.setTop (mkF m 64 #[.val (.ref self), .val (.ref p1), .val (.int (1 : Int32)), .val (.int (0 : Int32)), .unset] [(.int ((Int32.ofNat (own_p0 k0 k1 k2 k3 1)) + (Int32.ofNat (own_p0 k0 k1 k2 k3 0)))), (.int (1 : Int32)), (.ref b3)]))
  refine Adv.stI A X25 hx hZ e25 Vc22 (k := 1) (by decide) (by decide) (g := (mkF m 64 #[.val (.ref self), .val (.ref p1), .val (.int (1 : Int32)), .val (.int (0 : Int32)), .unset] [(.int ((Int32.ofNat (own_p0 k0 k1 k2 k3 1)) + (Int32.ofNat (own_p0 k0 k1 k2 k3 0)))), (.int (1 : Int32)), (.ref b3)])) rfl rfl (hb hby d1_64) ?_
  intro T26 h26 X26 e26 W26 Vb3_26
  have N26 := Fr.snoc X26 N19 g_b3
  have E_self_26 := E_self_19.wr W26
  have F_start_26 := F_start_19.other W26 (Or.inl ne_self_b3)
  have F_rows_26 := F_rows_19.other W26 (Or.inl ne_self_b3)
  have V_p1_26 := V_p1_19.other W26 ne_p1_b3
  have EA_b3_26 := EA_b3_19.wr W26
  have Z_26 : n0 ≤ h26.size := Nat.le_trans Z_19 (Nat.le_of_eq W26.size.symm)
  have KK_26 : Keep h0 h26 [self] := KK_19.wr W26 (Or.inr sz_b3)
  show D (T26.setTop (mkF m 65 #[.val (.ref self), .val (.ref p1), .val (.int (1 : Int32)), .val (.int (0 : Int32)), .unset] []))
  have Vc27 : ArI Z h26 b3 .int 2 (fun i => Int32.ofNat (own_p1 k0 k1 k2 k3 i)) := Vb3_26.eqf (fun i hi => own_l2_0 k0 (by omega) k1 (by omega) k2 (by omega) k3 (by omega) i (by omega))
  refine A (XS.iinc X26.here hx rfl (hb hby d1_65) rfl (l' := #[.val (.ref self), .val (.ref p1), .val (.int (1 : Int32)), .val (.int ((0 : Int32) + (1 : Int32))), .unset]) rfl) ?_
  show D (T26.setTop (mkF m 68 #[.val (.ref self), .val (.ref p1), .val (.int (1 : Int32)), .val (.int ((0 : Int32) + (1 : Int32))), .unset] []))
  suffices Kq28 : ∀ q28 : Int32, q28 = (1 : Int32) → D (T26.setTop (mkF m 68 #[.val (.ref self), .val (.ref p1), .val (.int (1 : Int32)), .val (.int q28), .unset] [])) from Kq28 _ (by decide)
  rintro _ rfl
  show D (T26.setTop (mkF m 68 #[.val (.ref self), .val (.ref p1), .val (.int (1 : Int32)), .val (.int (1 : Int32)), .unset] []))
  refine A (XS.goto X26.here hx rfl (pc0 := 68) (pc' := 43) rfl (hb hby d1_68) (by decide) (by decide)) ?_
  show D (T26.setTop (mkF m 43 #[.val (.ref self), .val (.ref p1), .val (.int (1 : Int32)), .val (.int (1 : Int32)), .unset] []))
  refine A (XS.iloadN X26.here hx rfl (hb hby d1_43) rfl) ?_
  show D (T26.setTop (mkF m 44 #[.val (.ref self), .val (.ref p1), .val (.int (1 : Int32)), .val (.int (1 : Int32)), .unset] [(.int (1 : Int32))]))
  refine A (XS.iloadN X26.here hx rfl (hb hby d1_44) rfl) ?_
  show D (T26.setTop (mkF m 45 #[.val (.ref self), .val (.ref p1), .val (.int (1 : Int32)), .val (.int (1 : Int32)), .unset] [(.int (1 : Int32)), (.int (1 : Int32))]))
  refine A (XS.icmpYes X26.here hx rfl (pc0 := 45) (pc' := 71) rfl (hb hby d1_45) rfl (flt (by decide : ¬ ((1 : Int32) < (1 : Int32)))).2.1 (by decide) (by decide)) ?_
  show D (T26.setTop (mkF m 71 #[.val (.ref self), .val (.ref p1), .val (.int (1 : Int32)), .val (.int (1 : Int32)), .unset] []))
  have Vc29 : ArI Z h26 b3 .int 2 (fun i => Int32.ofNat (own_c0 k0 k1 k2 k3 i)) := Vc27.eqf (fun i hi => own_l23_1 k0 (by omega) k1 (by omega) k2 (by omega) k3 (by omega) i hi)
  refine A (XS.aloadN X26.here hx rfl (hb hby d1_71) rfl rfl) ?_
  show D (T26.setTop (mkF m 72 #[.val (.ref self), .val (.ref p1), .val (.int (1 : Int32)), .val (.int (1 : Int32)), .unset] [(.ref self)]))
  refine A (XS.aloadN X26.here hx rfl (hb hby d1_72) rfl rfl) ?_
  show D (T26.setTop (mkF m 73 #[.val (.ref self), .val (.ref p1), .val (.int (1 : Int32)), .val (.int (1 : Int32)), .unset] [(.ref p1), (.ref self)]))
  refine Adv.lenI A X26 hx hZ e26 V_p1_26 (g := (mkF m 73 #[.val (.ref self), .val (.ref p1), .val (.int (1 : Int32)), .val (.int (1 : Int32)), .unset] [(.ref p1), (.ref self)])) rfl rfl (hb hby d1_73) ?_
  show D (T26.setTop (mkF m 74 #[.val (.ref self), .val (.ref p1), .val (.int (1 : Int32)), .val (.int (1 : Int32)), .unset] [(.int (4 : Int32)), (.ref self)]))
  refine Adv.newI A X26 hx hZ (aty := .int) (hw _ (List.mem_of_getElem? (i := 1) rfl)) e26 (n := 4) (by decide) 4 (by decide) (by decide) rfl (ad := "[I") (by decide) (by decide) (by decide) (g := (mkF m 74 #[.val (.ref self), .val (.ref p1), .val (.int (1 : Int32)), .val (.int (1 : Int32)), .unset] [(.int (4 : Int32)), (.ref self)])) rfl rfl (hb hby d1_74) ?_
  intro T30 h30 b30 q_b30 X30 e30 E30 V_b30 EA_b30
  have ne_self_b30 : self ≠ b30 := Nat.ne_of_lt (Nat.lt_of_lt_of_le E_self_26.lt (Nat.le_of_eq q_b30.symm))
  have ne_p1_b30 : p1 ≠ b30 := Nat.ne_of_lt (Nat.lt_of_lt_of_le V_p1_26.lt (Nat.le_of_eq q_b30.symm))
  have ne_b3_b30 : b3 ≠ b30 := Nat.ne_of_lt (Nat.lt_of_lt_of_le Vc29.lt (Nat.le_of_eq q_b30.symm))
  have g_b30 : n0 ≤ b30 := Nat.le_trans Z_26 (Nat.le_of_eq q_b30.symm)
  have sz_b30 : h0.size ≤ b30 := Nat.le_trans KK_26.1 (Nat.le_of_eq q_b30.symm)
  have E_self_30 := E_self_26.ext E30
  have F_start_30 := F_start_26.ext E30
  have F_rows_30 := F_rows_26.ext E30
  have V_p1_30 := V_p1_26.ext E30
  have V_b3_30 := Vc29.ext E30
  have EA_b3_30 := EA_b3_26.ext E30
  have Z_30 : n0 ≤ h30.size := Nat.le_trans Z_26 E30.1
  have KK_30 : Keep h0 h30 [self] := KK_26.ext E30
  show D (T30.setTop (mkF m 76 #[.val (.ref self), .val (.ref p1), .val (.int (1 : Int32)), .val (.int (1 : Int32)), .unset] [(.ref b30), (.ref self)]))
  obtain ⟨T31, h31, X31, e31, W31, st31⟩ := putF X30 hx hZ hown (host := "") (Or.inl (hw _ (List.mem_of_getElem? (i := 13) rfl))) Via.refl e30 F_rows_30 E_self_30 (Or.inr ⟨(hw _ (List.mem_of_getElem? (i := 14) rfl)), rfl, hnm⟩) (hw _ (List.mem_of_getElem? (i := 3) rfl)) (ty := (.array .int)) (by decide) rfl rfl (g := (mkF m 76 #[.val (.ref self), .val (.ref p1), .val (.int (1 : Int32)), .val (.int (1 : Int32)), .unset] [(.ref b30), (.ref self)])) rfl rfl (hb hby d1_76)
  have N31 := Fr.snoc X31 N26 g_self
  have F_rows_31 := F_rows_30.same W31
  have E_self_31 := E_self_30.wr W31
  have F_start_31 := F_start_30.other W31 (Or.inr (slot_ne (Or.inr (hw _ (List.mem_of_getElem? (i := 12) rfl))) (Or.inr (hw _ (List.mem_of_getElem? (i := 14) rfl))) (by decide) (t := (.array .int)) (t' := (.array .int)) (by decide) (by decide)))
  have V_p1_31 := V_p1_30.other W31 (Ne.symm (ne_ari E_self_30 (hw _ (List.mem_of_getElem? (i := 3) rfl)) V_p1_30))
  have V_b3_31 := V_b3_30.other W31 (Ne.symm ne_self_b3)
  have EA_b3_31 := EA_b3_30.wr W31
  have V_b30_31 := V_b30.other W31 (Ne.symm ne_self_b30)
  have EA_b30_31 := EA_b30.wr W31
  have Z_31 : n0 ≤ h31.size := Nat.le_trans Z_30 (Nat.le_of_eq W31.size.symm)
  have KK_31 : Keep h0 h31 [self] := KK_30.wr W31 (Or.inl (List.mem_of_getElem? (i := 0) rfl))
  refine A (st31 _) ?_
  show D (T31.setTop (mkF m 79 #[.val (.ref self), .val (.ref p1), .val (.int (1 : Int32)), .val (.int (1 : Int32)), .unset] []))
  refine A (XS.aloadN X31.here hx rfl (hb hby d1_79) rfl rfl) ?_
  show D (T31.setTop (mkF m 80 #[.val (.ref self), .val (.ref p1), .val (.int (1 : Int32)), .val (.int (1 : Int32)), .unset] [(.ref self)]))
  obtain ⟨T32, X32, e32, st32⟩ := getF X31 hx hZ hown (host := "") (Or.inl (hw _ (List.mem_of_getElem? (i := 11) rfl))) Via.refl e31 F_start_31 (g := (mkF m 80 #[.val (.ref self), .val (.ref p1), .val (.int (1 : Int32)), .val (.int (1 : Int32)), .unset] [(.ref self)])) rfl rfl (hb hby d1_80)
  refine A (st32 _) ?_
  show D (T32.setTop (mkF m 83 #[.val (.ref self), .val (.ref p1), .val (.int (1 : Int32)), .val (.int (1 : Int32)), .unset] [(.ref b3)]))
  refine Adv.cloneI A X32 hx hZ hown (hw _ (List.mem_of_getElem? (i := 15) rfl)) (hw _ (List.mem_of_getElem? (i := 16) rfl)) (hw _ (List.mem_of_getElem? (i := 20) rfl)) (hw _ (List.mem_of_getElem? (i := 18) rfl)) (hw _ (List.mem_of_getElem? (i := 19) rfl)) (hw _ (List.mem_of_getElem? (i := 21) rfl)) e32 V_b3_31 (fun _ _ => rfl) EA_b3_31 0 2 (by decide) (g := (mkF m 83 #[.val (.ref self), .val (.ref p1), .val (.int (1 : Int32)), .val (.int (1 : Int32)), .unset] [(.ref b3)])) rfl (by rw [hml]; rfl) rfl (hb hby d1_83) (by show 2 * 0 + _ ≤ _; exact Nat.le_of_eq rfl) (by decide) (by decide) (by decide) (by decide) ?_
  intro T33 h33 b33 q_b33 X33 e33 E33 V_b33 EA_b33
  have ne_self_b33 : self ≠ b33 := Nat.ne_of_lt (Nat.lt_of_lt_of_le E_self_31.lt (Nat.le_of_eq q_b33.symm))
  have ne_p1_b33 : p1 ≠ b33 := Nat.ne_of_lt (Nat.lt_of_lt_of_le V_p1_31.lt (Nat.le_of_eq q_b33.symm))
  have ne_b3_b33 : b3 ≠ b33 := Nat.ne_of_lt (Nat.lt_of_lt_of_le V_b3_31.lt (Nat.le_of_eq q_b33.symm))
  have ne_b30_b33 : b30 ≠ b33 := Nat.ne_of_lt (Nat.lt_of_lt_of_le V_b30_31.lt (Nat.le_of_eq q_b33.symm))
  have g_b33 : n0 ≤ b33 := Nat.le_trans Z_31 (Nat.le_of_eq q_b33.symm)
  have sz_b33 : h0.size ≤ b33 := Nat.le_trans KK_31.1 (Nat.le_of_eq q_b33.symm)
  have E_self_33 := E_self_31.ext E33
  have F_start_33 := F_start_31.ext E33
  have F_rows_33 := F_rows_31.ext E33
  have V_p1_33 := V_p1_31.ext E33
  have V_b3_33 := V_b3_31.ext E33
  have EA_b3_33 := EA_b3_31.ext E33
  have V_b30_33 := V_b30_31.ext E33
  have EA_b30_33 := EA_b30_31.ext E33
  have Z_33 : n0 ≤ h33.size := Nat.le_trans Z_31 E33.1
  have KK_33 : Keep h0 h33 [self] := KK_31.ext E33
  show D (T33.setTop (mkF m 86 #[.val (.ref self), .val (.ref p1), .val (.int (1 : Int32)), .val (.int (1 : Int32)), .unset] [(.ref b33)]))
  obtain ⟨T34, X34, e34, st34⟩ := castY X33 hx hZ hown (hw _ (List.mem_of_getElem? (i := 22) rfl)) e33 (Ins.self EA_b33) (g := (mkF m 86 #[.val (.ref self), .val (.ref p1), .val (.int (1 : Int32)), .val (.int (1 : Int32)), .unset] [(.ref b33)])) rfl rfl (hb hby d1_86)
  refine A (st34 _) ?_
  show D (T34.setTop (mkF m 89 #[.val (.ref self), .val (.ref p1), .val (.int (1 : Int32)), .val (.int (1 : Int32)), .unset] [(.ref b33)]))
  refine A (XS.astoreN X34.here hx rfl (hb hby d1_89) rfl rfl (l' := #[.val (.ref self), .val (.ref p1), .val (.int (1 : Int32)), .val (.ref b33), .unset]) rfl) ?_
  show D (T34.setTop (mkF m 90 #[.val (.ref self), .val (.ref p1), .val (.int (1 : Int32)), .val (.ref b33), .unset] []))
  refine A (XS.iconst X34.here hx rfl (hb hby d1_90)) ?_
  show D (T34.setTop (mkF m 91 #[.val (.ref self), .val (.ref p1), .val (.int (1 : Int32)), .val (.ref b33), .unset] [(.int (0 : Int32))]))
  refine A (XS.istore X34.here hx rfl (hb hby d1_91) rfl (l' := #[.val (.ref self), .val (.ref p1), .val (.int (1 : Int32)), .val (.ref b33), .val (.int (0 : Int32))]) rfl) ?_
  show D (T34.setTop (mkF m 93 #[.val (.ref self), .val (.ref p1), .val (.int (1 : Int32)), .val (.ref b33), .val (.int (0 : Int32))] []))
  refine A (XS.iload X34.here hx rfl (hb hby d1_93) rfl) ?_
  show D (T34.setTop (mkF m 95 #[.val (.ref self), .val (.ref p1), .val (.int (1 : Int32)), .val (.ref b33), .val (.int (0 : Int32))] [(.int (0 : Int32))]))
  refine A (XS.aloadN X34.here hx rfl (hb hby d1_95) rfl rfl) ?_
  show D (T34.setTop (mkF m 96 #[.val (.ref self), .val (.ref p1), .val (.int (1 : Int32)), .val (.ref b33), .val (.int (0 : Int32))] [(.ref p1), (.int (0 : Int32))]))
  refine Adv.lenI A X34 hx hZ e34 V_p1_33 (g := (mkF m 96 #[.val (.ref self), .val (.ref p1), .val (.int (1 : Int32)), .val (.ref b33), .val (.int (0 : Int32))] [(.ref p1), (.int (0 : Int32))])) rfl rfl (hb hby d1_96) ?_
  show D (T34.setTop (mkF m 97 #[.val (.ref self), .val (.ref p1), .val (.int (1 : Int32)), .val (.ref b33), .val (.int (0 : Int32))] [(.int (4 : Int32)), (.int (0 : Int32))]))
  refine A (XS.icmpNo X34.here hx rfl (hb hby d1_97) rfl (tlt (by decide : (0 : Int32) < (4 : Int32))).2.1) ?_
  show D (T34.setTop (mkF m 100 #[.val (.ref self), .val (.ref p1), .val (.int (1 : Int32)), .val (.ref b33), .val (.int (0 : Int32))] []))
  refine A (XS.aloadN X34.here hx rfl (hb hby d1_100) rfl rfl) ?_
  show D (T34.setTop (mkF m 101 #[.val (.ref self), .val (.ref p1), .val (.int (1 : Int32)), .val (.ref b33), .val (.int (0 : Int32))] [(.ref self)]))
  obtain ⟨T35, X35, e35, st35⟩ := getF X34 hx hZ hown (host := "") (Or.inl (hw _ (List.mem_of_getElem? (i := 13) rfl))) Via.refl e34 F_rows_33 (g := (mkF m 101 #[.val (.ref self), .val (.ref p1), .val (.int (1 : Int32)), .val (.ref b33), .val (.int (0 : Int32))] [(.ref self)])) rfl rfl (hb hby d1_101)
  refine A (st35 _) ?_
  show D (T35.setTop (mkF m 104 #[.val (.ref self), .val (.ref p1), .val (.int (1 : Int32)), .val (.ref b33), .val (.int (0 : Int32))] [(.ref b30)]))
  refine A (XS.aloadN X35.here hx rfl (hb hby d1_104) rfl rfl) ?_
  show D (T35.setTop (mkF m 105 #[.val (.ref self), .val (.ref p1), .val (.int (1 : Int32)), .val (.ref b33), .val (.int (0 : Int32))] [(.ref b33), (.ref b30)]))
  refine A (XS.aloadN X35.here hx rfl (hb hby d1_105) rfl rfl) ?_
  show D (T35.setTop (mkF m 106 #[.val (.ref self), .val (.ref p1), .val (.int (1 : Int32)), .val (.ref b33), .val (.int (0 : Int32))] [(.ref p1), (.ref b33), (.ref b30)]))
  refine A (XS.iload X35.here hx rfl (hb hby d1_106) rfl) ?_
  show D (T35.setTop (mkF m 108 #[.val (.ref self), .val (.ref p1), .val (.int (1 : Int32)), .val (.ref b33), .val (.int (0 : Int32))] [(.int (0 : Int32)), (.ref p1), (.ref b33), (.ref b30)]))
  refine Adv.ldI A X35 hx hZ e35 V_p1_33 (k := 0) (by decide) (by decide) (g := (mkF m 108 #[.val (.ref self), .val (.ref p1), .val (.int (1 : Int32)), .val (.ref b33), .val (.int (0 : Int32))] [(.int (0 : Int32)), (.ref p1), (.ref b33), (.ref b30)])) rfl rfl (hb hby d1_108) ?_
  show D (T35.setTop (mkF m 109 #[.val (.ref self), .val (.ref p1), .val (.int (1 : Int32)), .val (.ref b33), .val (.int (0 : Int32))] [(.int (Int32.ofNat k0)), (.ref b33), (.ref b30)]))
  refine Adv.ldI A X35 hx hZ e35 V_b33 (k := k0) (own_of (by omega)) (by omega) (g := (mkF m 109 #[.val (.ref self), .val (.ref p1), .val (.int (1 : Int32)), .val (.ref b33), .val (.int (0 : Int32))] [(.int (Int32.ofNat k0)), (.ref b33), (.ref b30)])) rfl rfl (hb hby d1_109) ?_
  show D (T35.setTop (mkF m 110 #[.val (.ref self), .val (.ref p1), .val (.int (1 : Int32)), .val (.ref b33), .val (.int (0 : Int32))] [(.int (Int32.ofNat (own_c0 k0 k1 k2 k3 k0))), (.ref b30)]))
  refine A (XS.iload X35.here hx rfl (hb hby d1_110) rfl) ?_
  show D (T35.setTop (mkF m 112 #[.val (.ref self), .val (.ref p1), .val (.int (1 : Int32)), .val (.ref b33), .val (.int (0 : Int32))] [(.int (0 : Int32)), (.int (Int32.ofNat (own_c0 k0 k1 k2 k3 k0))), (.ref b30)]))
  refine Adv.stI A X35 hx hZ e35 V_b30_33 (k := (own_c0 k0 k1 k2 k3 k0)) (own_of (own_b3_0 k0 (by omega) k1 (by omega) k2 (by omega) k3 (by omega))) (own_b3_0 k0 (by omega) k1 (by omega) k2 (by omega) k3 (by omega)) (g := (mkF m 112 #[.val (.ref self), .val (.ref p1), .val (.int (1 : Int32)), .val (.ref b33), .val (.int (0 : Int32))] [(.int (0 : Int32)), (.int (Int32.ofNat (own_c0 k0 k1 k2 k3 k0))), (.ref b30)])) rfl rfl (hb hby d1_112) ?_
  intro T36 h36 X36 e36 W36 Vb30_36
  have N36 := Fr.snoc X36 N31 g_b30
  have E_self_36 := E_self_33.wr W36
  have F_start_36 := F_start_33.other W36 (Or.inl ne_self_b30)
  have F_rows_36 := F_rows_33.other W36 (Or.inl ne_self_b30)
  have V_p1_36 := V_p1_33.other W36 ne_p1_b30
  have V_b3_36 := V_b3_33.other W36 ne_b3_b30
  have EA_b3_36 := EA_b3_33.wr W36
  have EA_b30_36 := EA_b30_33.wr W36
  have V_b33_36 := V_b33.other W36 (Ne.symm ne_b30_b33)
  have EA_b33_36 := EA_b33.wr W36
  have Z_36 : n0 ≤ h36.size := Nat.le_trans Z_33 (Nat.le_of_eq W36.size.symm)
  have KK_36 : Keep h0 h36 [self] := KK_33.wr W36 (Or.inr sz_b30)
  show D (T36.setTop (mkF m 113 #[.val (.ref self), .val (.ref p1), .val (.int (1 : Int32)), .val (.ref b33), .val (.int (0 : Int32))] []))
  obtain ⟨fn37, hfn37⟩ : ∃ z : Nat → Int32, z = (fun ix => if ix = (own_c0 k0 k1 k2 k3 k0) then (0 : Int32) else (fun _ => 0) ix) := ⟨_, rfl⟩
  rw [← hfn37] at Vb30_36
  refine A (XS.aloadN X36.here hx rfl (hb hby d1_113) rfl rfl) ?_
  show D (T36.setTop (mkF m 114 #[.val (.ref self), .val (.ref p1), .val (.int (1 : Int32)), .val (.ref b33), .val (.int (0 : Int32))] [(.ref b33)]))
  refine A (XS.aloadN X36.here hx rfl (hb hby d1_114) rfl rfl) ?_
  show D (T36.setTop (mkF m 115 #[.val (.ref self), .val (.ref p1), .val (.int (1 : Int32)), .val (.ref b33), .val (.int (0 : Int32))] [(.ref p1), (.ref b33)]))
  refine A (XS.iload X36.here hx rfl (hb hby d1_115) rfl) ?_
  show D (T36.setTop (mkF m 117 #[.val (.ref self), .val (.ref p1), .val (.int (1 : Int32)), .val (.ref b33), .val (.int (0 : Int32))] [(.int (0 : Int32)), (.ref p1), (.ref b33)]))
  refine Adv.ldI A X36 hx hZ e36 V_p1_36 (k := 0) (by decide) (by decide) (g := (mkF m 117 #[.val (.ref self), .val (.ref p1), .val (.int (1 : Int32)), .val (.ref b33), .val (.int (0 : Int32))] [(.int (0 : Int32)), (.ref p1), (.ref b33)])) rfl rfl (hb hby d1_117) ?_
  show D (T36.setTop (mkF m 118 #[.val (.ref self), .val (.ref p1), .val (.int (1 : Int32)), .val (.ref b33), .val (.int (0 : Int32))] [(.int (Int32.ofNat k0)), (.ref b33)]))
  refine A (S' := T36.setTop (mkF m 119 #[.val (.ref self), .val (.ref p1), .val (.int (1 : Int32)), .val (.ref b33), .val (.int (0 : Int32))] [(.int (Int32.ofNat k0)), (.ref b33), (.int (Int32.ofNat k0)), (.ref b33)])) (fun {t} kt => ?_) ?_
  · jvm_step X36.here [X36.here.top, hx, (hb hby d1_118), Value.category]
    exact kt
  show D (T36.setTop (mkF m 119 #[.val (.ref self), .val (.ref p1), .val (.int (1 : Int32)), .val (.ref b33), .val (.int (0 : Int32))] [(.int (Int32.ofNat k0)), (.ref b33), (.int (Int32.ofNat k0)), (.ref b33)]))
  refine Adv.ldI A X36 hx hZ e36 V_b33_36 (k := k0) (own_of (by omega)) (by omega) (g := (mkF m 119 #[.val (.ref self), .val (.ref p1), .val (.int (1 : Int32)), .val (.ref b33), .val (.int (0 : Int32))] [(.int (Int32.ofNat k0)), (.ref b33), (.int (Int32.ofNat k0)), (.ref b33)])) rfl rfl (hb hby d1_119) ?_
  show D (T36.setTop (mkF m 120 #[.val (.ref self), .val (.ref p1), .val (.int (1 : Int32)), .val (.ref b33), .val (.int (0 : Int32))] [(.int (Int32.ofNat (own_c0 k0 k1 k2 k3 k0))), (.int (Int32.ofNat k0)), (.ref b33)]))
  refine A (XS.iconst X36.here hx rfl (hb hby d1_120)) ?_
  show D (T36.setTop (mkF m 121 #[.val (.ref self), .val (.ref p1), .val (.int (1 : Int32)), .val (.ref b33), .val (.int (0 : Int32))] [(.int (1 : Int32)), (.int (Int32.ofNat (own_c0 k0 k1 k2 k3 k0))), (.int (Int32.ofNat k0)), (.ref b33)]))
  refine A (XS.iadd X36.here hx rfl (hb hby d1_121) rfl) ?_
  show D (T36.setTop (mkF m 122 #[.val (.ref self), .val (.ref p1), .val (.int (1 : Int32)), .val (.ref b33), .val (.int (0 : Int32))] [(.int ((Int32.ofNat (own_c0 k0 k1 k2 k3 k0)) + (1 : Int32))), (.int (Int32.ofNat k0)), (.ref b33)]))
  refine Adv.stI A X36 hx hZ e36 V_b33_36 (k := k0) (own_of (by omega)) (by omega) (g := (mkF m 122 #[.val (.ref self), .val (.ref p1), .val (.int (1 : Int32)), .val (.ref b33), .val (.int (0 : Int32))] [(.int ((Int32.ofNat (own_c0 k0 k1 k2 k3 k0)) + (1 : Int32))), (.int (Int32.ofNat k0)), (.ref b33)])) rfl rfl (hb hby d1_122) ?_
  intro T38 h38 X38 e38 W38 Vb33_38
  have N38 := Fr.snoc X38 N36 g_b33
  have E_self_38 := E_self_36.wr W38
  have F_start_38 := F_start_36.other W38 (Or.inl ne_self_b33)
  have F_rows_38 := F_rows_36.other W38 (Or.inl ne_self_b33)
  have V_p1_38 := V_p1_36.other W38 ne_p1_b33
  have V_b3_38 := V_b3_36.other W38 ne_b3_b33
  have EA_b3_38 := EA_b3_36.wr W38
  have V_b30_38 := Vb30_36.other W38 ne_b30_b33
  have EA_b30_38 := EA_b30_36.wr W38
  have EA_b33_38 := EA_b33_36.wr W38
  have Z_38 : n0 ≤ h38.size := Nat.le_trans Z_36 (Nat.le_of_eq W38.size.symm)
  have KK_38 : Keep h0 h38 [self] := KK_36.wr W38 (Or.inr sz_b33)
  show D (T38.setTop (mkF m 123 #[.val (.ref self), .val (.ref p1), .val (.int (1 : Int32)), .val (.ref b33), .val (.int (0 : Int32))] []))
  have Vc39 : ArI Z h38 b33 .int 2 (fun i => Int32.ofNat (own_c1 k0 k1 k2 k3 i)) := Vb33_38.eqf (fun i hi => own_l3_0 k0 (by omega) k1 (by omega) k2 (by omega) k3 (by omega) i (by omega))
  refine A (XS.iinc X38.here hx rfl (hb hby d1_123) rfl (l' := #[.val (.ref self), .val (.ref p1), .val (.int (1 : Int32)), .val (.ref b33), .val (.int ((0 : Int32) + (1 : Int32)))]) rfl) ?_
  show D (T38.setTop (mkF m 126 #[.val (.ref self), .val (.ref p1), .val (.int (1 : Int32)), .val (.ref b33), .val (.int ((0 : Int32) + (1 : Int32)))] []))
  suffices Kq40 : ∀ q40 : Int32, q40 = (1 : Int32) → D (T38.setTop (mkF m 126 #[.val (.ref self), .val (.ref p1), .val (.int (1 : Int32)), .val (.ref b33), .val (.int q40)] [])) from Kq40 _ (by decide)
  rintro _ rfl
  show D (T38.setTop (mkF m 126 #[.val (.ref self), .val (.ref p1), .val (.int (1 : Int32)), .val (.ref b33), .val (.int (1 : Int32))] []))
  refine A (XS.goto X38.here hx rfl (pc0 := 126) (pc' := 93) rfl (hb hby d1_126) (by decide) (by decide)) ?_
  show D (T38.setTop (mkF m 93 #[.val (.ref self), .val (.ref p1), .val (.int (1 : Int32)), .val (.ref b33), .val (.int (1 : Int32))] []))
  refine A (XS.iload X38.here hx rfl (hb hby d1_93) rfl) ?_
  show D (T38.setTop (mkF m 95 #[.val (.ref self), .val (.ref p1), .val (.int (1 : Int32)), .val (.ref b33), .val (.int (1 : Int32))] [(.int (1 : Int32))]))
  refine A (XS.aloadN X38.here hx rfl (hb hby d1_95) rfl rfl) ?_
  show D (T38.setTop (mkF m 96 #[.val (.ref self), .val (.ref p1), .val (.int (1 : Int32)), .val (.ref b33), .val (.int (1 : Int32))] [(.ref p1), (.int (1 : Int32))]))
  refine Adv.lenI A X38 hx hZ e38 V_p1_38 (g := (mkF m 96 #[.val (.ref self), .val (.ref p1), .val (.int (1 : Int32)), .val (.ref b33), .val (.int (1 : Int32))] [(.ref p1), (.int (1 : Int32))])) rfl rfl (hb hby d1_96) ?_
  show D (T38.setTop (mkF m 97 #[.val (.ref self), .val (.ref p1), .val (.int (1 : Int32)), .val (.ref b33), .val (.int (1 : Int32))] [(.int (4 : Int32)), (.int (1 : Int32))]))
  refine A (XS.icmpNo X38.here hx rfl (hb hby d1_97) rfl (tlt (by decide : (1 : Int32) < (4 : Int32))).2.1) ?_
  show D (T38.setTop (mkF m 100 #[.val (.ref self), .val (.ref p1), .val (.int (1 : Int32)), .val (.ref b33), .val (.int (1 : Int32))] []))
  refine A (XS.aloadN X38.here hx rfl (hb hby d1_100) rfl rfl) ?_
  show D (T38.setTop (mkF m 101 #[.val (.ref self), .val (.ref p1), .val (.int (1 : Int32)), .val (.ref b33), .val (.int (1 : Int32))] [(.ref self)]))
  obtain ⟨T41, X41, e41, st41⟩ := getF X38 hx hZ hown (host := "") (Or.inl (hw _ (List.mem_of_getElem? (i := 13) rfl))) Via.refl e38 F_rows_38 (g := (mkF m 101 #[.val (.ref self), .val (.ref p1), .val (.int (1 : Int32)), .val (.ref b33), .val (.int (1 : Int32))] [(.ref self)])) rfl rfl (hb hby d1_101)
  refine A (st41 _) ?_
  show D (T41.setTop (mkF m 104 #[.val (.ref self), .val (.ref p1), .val (.int (1 : Int32)), .val (.ref b33), .val (.int (1 : Int32))] [(.ref b30)]))
  refine A (XS.aloadN X41.here hx rfl (hb hby d1_104) rfl rfl) ?_
  show D (T41.setTop (mkF m 105 #[.val (.ref self), .val (.ref p1), .val (.int (1 : Int32)), .val (.ref b33), .val (.int (1 : Int32))] [(.ref b33), (.ref b30)]))
  refine A (XS.aloadN X41.here hx rfl (hb hby d1_105) rfl rfl) ?_
  show D (T41.setTop (mkF m 106 #[.val (.ref self), .val (.ref p1), .val (.int (1 : Int32)), .val (.ref b33), .val (.int (1 : Int32))] [(.ref p1), (.ref b33), (.ref b30)]))
  refine A (XS.iload X41.here hx rfl (hb hby d1_106) rfl) ?_
  show D (T41.setTop (mkF m 108 #[.val (.ref self), .val (.ref p1), .val (.int (1 : Int32)), .val (.ref b33), .val (.int (1 : Int32))] [(.int (1 : Int32)), (.ref p1), (.ref b33), (.ref b30)]))
  refine Adv.ldI A X41 hx hZ e41 V_p1_38 (k := 1) (by decide) (by decide) (g := (mkF m 108 #[.val (.ref self), .val (.ref p1), .val (.int (1 : Int32)), .val (.ref b33), .val (.int (1 : Int32))] [(.int (1 : Int32)), (.ref p1), (.ref b33), (.ref b30)])) rfl rfl (hb hby d1_108) ?_
  show D (T41.setTop (mkF m 109 #[.val (.ref self), .val (.ref p1), .val (.int (1 : Int32)), .val (.ref b33), .val (.int (1 : Int32))] [(.int (Int32.ofNat k1)), (.ref b33), (.ref b30)]))
  refine Adv.ldI A X41 hx hZ e41 Vc39 (k := k1) (own_of (by omega)) (by omega) (g := (mkF m 109 #[.val (.ref self), .val (.ref p1), .val (.int (1 : Int32)), .val (.ref b33), .val (.int (1 : Int32))] [(.int (Int32.ofNat k1)), (.ref b33), (.ref b30)])) rfl rfl (hb hby d1_109) ?_
  show D (T41.setTop (mkF m 110 #[.val (.ref self), .val (.ref p1), .val (.int (1 : Int32)), .val (.ref b33), .val (.int (1 : Int32))] [(.int (Int32.ofNat (own_c1 k0 k1 k2 k3 k1))), (.ref b30)]))
  refine A (XS.iload X41.here hx rfl (hb hby d1_110) rfl) ?_
  show D (T41.setTop (mkF m 112 #[.val (.ref self), .val (.ref p1), .val (.int (1 : Int32)), .val (.ref b33), .val (.int (1 : Int32))] [(.int (1 : Int32)), (.int (Int32.ofNat (own_c1 k0 k1 k2 k3 k1))), (.ref b30)]))
  refine Adv.stI A X41 hx hZ e41 V_b30_38 (k := (own_c1 k0 k1 k2 k3 k1)) (own_of (own_b3_1 k0 (by omega) k1 (by omega) k2 (by omega) k3 (by omega))) (own_b3_1 k0 (by omega) k1 (by omega) k2 (by omega) k3 (by omega)) (g := (mkF m 112 #[.val (.ref self), .val (.ref p1), .val (.int (1 : Int32)), .val (.ref b33), .val (.int (1 : Int32))] [(.int (1 : Int32)), (.int (Int32.ofNat (own_c1 k0 k1 k2 k3 k1))), (.ref b30)])) rfl rfl (hb hby d1_112) ?_
  intro T42 h42 X42 e42 W42 Vb30_42
  have N42 := Fr.snoc X42 N38 g_b30
  have E_self_42 := E_self_38.wr W42
  have F_start_42 := F_start_38.other W42 (Or.inl ne_self_b30)
  have F_rows_42 := F_rows_38.other W42 (Or.inl ne_self_b30)
  have V_p1_42 := V_p1_38.other W42 ne_p1_b30
  have V_b3_42 := V_b3_38.other W42 ne_b3_b30
  have EA_b3_42 := EA_b3_38.wr W42
  have EA_b30_42 := EA_b30_38.wr W42
  have V_b33_42 := Vc39.other W42 (Ne.symm ne_b30_b33)
  have EA_b33_42 := EA_b33_38.wr W42
  have Z_42 : n0 ≤ h42.size := Nat.le_trans Z_38 (Nat.le_of_eq W42.size.symm)
  have KK_42 : Keep h0 h42 [self] := KK_38.wr W42 (Or.inr sz_b30)
  show D (T42.setTop (mkF m 113 #[.val (.ref self), .val (.ref p1), .val (.int (1 : Int32)), .val (.ref b33), .val (.int (1 : Int32))] []))
  obtain ⟨fn43, hfn43⟩ : ∃ z : Nat → Int32, z = (fun ix => if ix = (own_c1 k0 k1 k2 k3 k1) then (1 : Int32) else fn37 ix) := ⟨_, rfl⟩
  rw [← hfn43] at Vb30_42
  refine A (XS.aloadN X42.here hx rfl (hb hby d1_113) rfl rfl) ?_
  show D (T42.setTop (mkF m 114 #[.val (.ref self), .val (.ref p1), .val (.int (1 : Int32)), .val (.ref b33), .val (.int (1 : Int32))] [(.ref b33)]))
  refine A (XS.aloadN X42.here hx rfl (hb hby d1_114) rfl rfl) ?_
  show D (T42.setTop (mkF m 115 #[.val (.ref self), .val (.ref p1), .val (.int (1 : Int32)), .val (.ref b33), .val (.int (1 : Int32))] [(.ref p1), (.ref b33)]))
  refine A (XS.iload X42.here hx rfl (hb hby d1_115) rfl) ?_
  show D (T42.setTop (mkF m 117 #[.val (.ref self), .val (.ref p1), .val (.int (1 : Int32)), .val (.ref b33), .val (.int (1 : Int32))] [(.int (1 : Int32)), (.ref p1), (.ref b33)]))
  refine Adv.ldI A X42 hx hZ e42 V_p1_42 (k := 1) (by decide) (by decide) (g := (mkF m 117 #[.val (.ref self), .val (.ref p1), .val (.int (1 : Int32)), .val (.ref b33), .val (.int (1 : Int32))] [(.int (1 : Int32)), (.ref p1), (.ref b33)])) rfl rfl (hb hby d1_117) ?_
  show D (T42.setTop (mkF m 118 #[.val (.ref self), .val (.ref p1), .val (.int (1 : Int32)), .val (.ref b33), .val (.int (1 : Int32))] [(.int (Int32.ofNat k1)), (.ref b33)]))
  refine A (S' := T42.setTop (mkF m 119 #[.val (.ref self), .val (.ref p1), .val (.int (1 : Int32)), .val (.ref b33), .val (.int (1 : Int32))] [(.int (Int32.ofNat k1)), (.ref b33), (.int (Int32.ofNat k1)), (.ref b33)])) (fun {t} kt => ?_) ?_
  · jvm_step X42.here [X42.here.top, hx, (hb hby d1_118), Value.category]
    exact kt
  show D (T42.setTop (mkF m 119 #[.val (.ref self), .val (.ref p1), .val (.int (1 : Int32)), .val (.ref b33), .val (.int (1 : Int32))] [(.int (Int32.ofNat k1)), (.ref b33), (.int (Int32.ofNat k1)), (.ref b33)]))
  refine Adv.ldI A X42 hx hZ e42 V_b33_42 (k := k1) (own_of (by omega)) (by omega) (g := (mkF m 119 #[.val (.ref self), .val (.ref p1), .val (.int (1 : Int32)), .val (.ref b33), .val (.int (1 : Int32))] [(.int (Int32.ofNat k1)), (.ref b33), (.int (Int32.ofNat k1)), (.ref b33)])) rfl rfl (hb hby d1_119) ?_
  show D (T42.setTop (mkF m 120 #[.val (.ref self), .val (.ref p1), .val (.int (1 : Int32)), .val (.ref b33), .val (.int (1 : Int32))] [(.int (Int32.ofNat (own_c1 k0 k1 k2 k3 k1))), (.int (Int32.ofNat k1)), (.ref b33)]))
  refine A (XS.iconst X42.here hx rfl (hb hby d1_120)) ?_
  show D (T42.setTop (mkF m 121 #[.val (.ref self), .val (.ref p1), .val (.int (1 : Int32)), .val (.ref b33), .val (.int (1 : Int32))] [(.int (1 : Int32)), (.int (Int32.ofNat (own_c1 k0 k1 k2 k3 k1))), (.int (Int32.ofNat k1)), (.ref b33)]))
  refine A (XS.iadd X42.here hx rfl (hb hby d1_121) rfl) ?_
  show D (T42.setTop (mkF m 122 #[.val (.ref self), .val (.ref p1), .val (.int (1 : Int32)), .val (.ref b33), .val (.int (1 : Int32))] [(.int ((Int32.ofNat (own_c1 k0 k1 k2 k3 k1)) + (1 : Int32))), (.int (Int32.ofNat k1)), (.ref b33)]))
  refine Adv.stI A X42 hx hZ e42 V_b33_42 (k := k1) (own_of (by omega)) (by omega) (g := (mkF m 122 #[.val (.ref self), .val (.ref p1), .val (.int (1 : Int32)), .val (.ref b33), .val (.int (1 : Int32))] [(.int ((Int32.ofNat (own_c1 k0 k1 k2 k3 k1)) + (1 : Int32))), (.int (Int32.ofNat k1)), (.ref b33)])) rfl rfl (hb hby d1_122) ?_
  intro T44 h44 X44 e44 W44 Vb33_44
  have N44 := Fr.snoc X44 N42 g_b33
  have E_self_44 := E_self_42.wr W44
  have F_start_44 := F_start_42.other W44 (Or.inl ne_self_b33)
  have F_rows_44 := F_rows_42.other W44 (Or.inl ne_self_b33)
  have V_p1_44 := V_p1_42.other W44 ne_p1_b33
  have V_b3_44 := V_b3_42.other W44 ne_b3_b33
  have EA_b3_44 := EA_b3_42.wr W44
  have V_b30_44 := Vb30_42.other W44 ne_b30_b33
  have EA_b30_44 := EA_b30_42.wr W44
  have EA_b33_44 := EA_b33_42.wr W44
  have Z_44 : n0 ≤ h44.size := Nat.le_trans Z_42 (Nat.le_of_eq W44.size.symm)
  have KK_44 : Keep h0 h44 [self] := KK_42.wr W44 (Or.inr sz_b33)
  show D (T44.setTop (mkF m 123 #[.val (.ref self), .val (.ref p1), .val (.int (1 : Int32)), .val (.ref b33), .val (.int (1 : Int32))] []))
  have Vc45 : ArI Z h44 b33 .int 2 (fun i => Int32.ofNat (own_c2 k0 k1 k2 k3 i)) := Vb33_44.eqf (fun i hi => own_l3_1 k0 (by omega) k1 (by omega) k2 (by omega) k3 (by omega) i (by omega))
  refine A (XS.iinc X44.here hx rfl (hb hby d1_123) rfl (l' := #[.val (.ref self), .val (.ref p1), .val (.int (1 : Int32)), .val (.ref b33), .val (.int ((1 : Int32) + (1 : Int32)))]) rfl) ?_
  show D (T44.setTop (mkF m 126 #[.val (.ref self), .val (.ref p1), .val (.int (1 : Int32)), .val (.ref b33), .val (.int ((1 : Int32) + (1 : Int32)))] []))
  suffices Kq46 : ∀ q46 : Int32, q46 = (2 : Int32) → D (T44.setTop (mkF m 126 #[.val (.ref self), .val (.ref p1), .val (.int (1 : Int32)), .val (.ref b33), .val (.int q46)] [])) from Kq46 _ (by decide)
  rintro _ rfl
  show D (T44.setTop (mkF m 126 #[.val (.ref self), .val (.ref p1), .val (.int (1 : Int32)), .val (.ref b33), .val (.int (2 : Int32))] []))
  refine A (XS.goto X44.here hx rfl (pc0 := 126) (pc' := 93) rfl (hb hby d1_126) (by decide) (by decide)) ?_
  show D (T44.setTop (mkF m 93 #[.val (.ref self), .val (.ref p1), .val (.int (1 : Int32)), .val (.ref b33), .val (.int (2 : Int32))] []))
  refine A (XS.iload X44.here hx rfl (hb hby d1_93) rfl) ?_
  show D (T44.setTop (mkF m 95 #[.val (.ref self), .val (.ref p1), .val (.int (1 : Int32)), .val (.ref b33), .val (.int (2 : Int32))] [(.int (2 : Int32))]))
  refine A (XS.aloadN X44.here hx rfl (hb hby d1_95) rfl rfl) ?_
  show D (T44.setTop (mkF m 96 #[.val (.ref self), .val (.ref p1), .val (.int (1 : Int32)), .val (.ref b33), .val (.int (2 : Int32))] [(.ref p1), (.int (2 : Int32))]))
  refine Adv.lenI A X44 hx hZ e44 V_p1_44 (g := (mkF m 96 #[.val (.ref self), .val (.ref p1), .val (.int (1 : Int32)), .val (.ref b33), .val (.int (2 : Int32))] [(.ref p1), (.int (2 : Int32))])) rfl rfl (hb hby d1_96) ?_
  show D (T44.setTop (mkF m 97 #[.val (.ref self), .val (.ref p1), .val (.int (1 : Int32)), .val (.ref b33), .val (.int (2 : Int32))] [(.int (4 : Int32)), (.int (2 : Int32))]))
  refine A (XS.icmpNo X44.here hx rfl (hb hby d1_97) rfl (tlt (by decide : (2 : Int32) < (4 : Int32))).2.1) ?_
  show D (T44.setTop (mkF m 100 #[.val (.ref self), .val (.ref p1), .val (.int (1 : Int32)), .val (.ref b33), .val (.int (2 : Int32))] []))
  refine A (XS.aloadN X44.here hx rfl (hb hby d1_100) rfl rfl) ?_
  show D (T44.setTop (mkF m 101 #[.val (.ref self), .val (.ref p1), .val (.int (1 : Int32)), .val (.ref b33), .val (.int (2 : Int32))] [(.ref self)]))
  obtain ⟨T47, X47, e47, st47⟩ := getF X44 hx hZ hown (host := "") (Or.inl (hw _ (List.mem_of_getElem? (i := 13) rfl))) Via.refl e44 F_rows_44 (g := (mkF m 101 #[.val (.ref self), .val (.ref p1), .val (.int (1 : Int32)), .val (.ref b33), .val (.int (2 : Int32))] [(.ref self)])) rfl rfl (hb hby d1_101)
  refine A (st47 _) ?_
  show D (T47.setTop (mkF m 104 #[.val (.ref self), .val (.ref p1), .val (.int (1 : Int32)), .val (.ref b33), .val (.int (2 : Int32))] [(.ref b30)]))
  refine A (XS.aloadN X47.here hx rfl (hb hby d1_104) rfl rfl) ?_
  show D (T47.setTop (mkF m 105 #[.val (.ref self), .val (.ref p1), .val (.int (1 : Int32)), .val (.ref b33), .val (.int (2 : Int32))] [(.ref b33), (.ref b30)]))
  refine A (XS.aloadN X47.here hx rfl (hb hby d1_105) rfl rfl) ?_
  show D (T47.setTop (mkF m 106 #[.val (.ref self), .val (.ref p1), .val (.int (1 : Int32)), .val (.ref b33), .val (.int (2 : Int32))] [(.ref p1), (.ref b33), (.ref b30)]))
  refine A (XS.iload X47.here hx rfl (hb hby d1_106) rfl) ?_
  show D (T47.setTop (mkF m 108 #[.val (.ref self), .val (.ref p1), .val (.int (1 : Int32)), .val (.ref b33), .val (.int (2 : Int32))] [(.int (2 : Int32)), (.ref p1), (.ref b33), (.ref b30)]))
  refine Adv.ldI A X47 hx hZ e47 V_p1_44 (k := 2) (by decide) (by decide) (g := (mkF m 108 #[.val (.ref self), .val (.ref p1), .val (.int (1 : Int32)), .val (.ref b33), .val (.int (2 : Int32))] [(.int (2 : Int32)), (.ref p1), (.ref b33), (.ref b30)])) rfl rfl (hb hby d1_108) ?_
  show D (T47.setTop (mkF m 109 #[.val (.ref self), .val (.ref p1), .val (.int (1 : Int32)), .val (.ref b33), .val (.int (2 : Int32))] [(.int (Int32.ofNat k2)), (.ref b33), (.ref b30)]))
  refine Adv.ldI A X47 hx hZ e47 Vc45 (k := k2) (own_of (by omega)) (by omega) (g := (mkF m 109 #[.val (.ref self), .val (.ref p1), .val (.int (1 : Int32)), .val (.ref b33), .val (.int (2 : Int32))] [(.int (Int32.ofNat k2)), (.ref b33), (.ref b30)])) rfl rfl (hb hby d1_109) ?_
  show D (T47.setTop (mkF m 110 #[.val (.ref self), .val (.ref p1), .val (.int (1 : Int32)), .val (.ref b33), .val (.int (2 : Int32))] [(.int (Int32.ofNat (own_c2 k0 k1 k2 k3 k2))), (.ref b30)]))
  refine A (XS.iload X47.here hx rfl (hb hby d1_110) rfl) ?_
  show D (T47.setTop (mkF m 112 #[.val (.ref self), .val (.ref p1), .val (.int (1 : Int32)), .val (.ref b33), .val (.int (2 : Int32))] [(.int (2 : Int32)), (.int (Int32.ofNat (own_c2 k0 k1 k2 k3 k2))), (.ref b30)]))
  refine Adv.stI A X47 hx hZ e47 V_b30_44 (k := (own_c2 k0 k1 k2 k3 k2)) (own_of (own_b3_2 k0 (by omega) k1 (by omega) k2 (by omega) k3 (by omega))) (own_b3_2 k0 (by omega) k1 (by omega) k2 (by omega) k3 (by omega)) (g := (mkF m 112 #[.val (.ref self), .val (.ref p1), .val (.int (1 : Int32)), .val (.ref b33), .val (.int (2 : Int32))] [(.int (2 : Int32)), (.int (Int32.ofNat (own_c2 k0 k1 k2 k3 k2))), (.ref b30)])) rfl rfl (hb hby d1_112) ?_
  intro T48 h48 X48 e48 W48 Vb30_48
  have N48 := Fr.snoc X48 N44 g_b30
  have E_self_48 := E_self_44.wr W48
  have F_start_48 := F_start_44.other W48 (Or.inl ne_self_b30)
  have F_rows_48 := F_rows_44.other W48 (Or.inl ne_self_b30)
  have V_p1_48 := V_p1_44.other W48 ne_p1_b30
  have V_b3_48 := V_b3_44.other W48 ne_b3_b30
  have EA_b3_48 := EA_b3_44.wr W48
  have EA_b30_48 := EA_b30_44.wr W48
  have V_b33_48 := Vc45.other W48 (Ne.symm ne_b30_b33)
  have EA_b33_48 := EA_b33_44.wr W48
  have Z_48 : n0 ≤ h48.size := Nat.le_trans Z_44 (Nat.le_of_eq W48.size.symm)
  have KK_48 : Keep h0 h48 [self] := KK_44.wr W48 (Or.inr sz_b30)
  show D (T48.setTop (mkF m 113 #[.val (.ref self), .val (.ref p1), .val (.int (1 : Int32)), .val (.ref b33), .val (.int (2 : Int32))] []))
  obtain ⟨fn49, hfn49⟩ : ∃ z : Nat → Int32, z = (fun ix => if ix = (own_c2 k0 k1 k2 k3 k2) then (2 : Int32) else fn43 ix) := ⟨_, rfl⟩
  rw [← hfn49] at Vb30_48
  refine A (XS.aloadN X48.here hx rfl (hb hby d1_113) rfl rfl) ?_
  show D (T48.setTop (mkF m 114 #[.val (.ref self), .val (.ref p1), .val (.int (1 : Int32)), .val (.ref b33), .val (.int (2 : Int32))] [(.ref b33)]))
  refine A (XS.aloadN X48.here hx rfl (hb hby d1_114) rfl rfl) ?_
  show D (T48.setTop (mkF m 115 #[.val (.ref self), .val (.ref p1), .val (.int (1 : Int32)), .val (.ref b33), .val (.int (2 : Int32))] [(.ref p1), (.ref b33)]))
  refine A (XS.iload X48.here hx rfl (hb hby d1_115) rfl) ?_
  show D (T48.setTop (mkF m 117 #[.val (.ref self), .val (.ref p1), .val (.int (1 : Int32)), .val (.ref b33), .val (.int (2 : Int32))] [(.int (2 : Int32)), (.ref p1), (.ref b33)]))
  refine Adv.ldI A X48 hx hZ e48 V_p1_48 (k := 2) (by decide) (by decide) (g := (mkF m 117 #[.val (.ref self), .val (.ref p1), .val (.int (1 : Int32)), .val (.ref b33), .val (.int (2 : Int32))] [(.int (2 : Int32)), (.ref p1), (.ref b33)])) rfl rfl (hb hby d1_117) ?_
  show D (T48.setTop (mkF m 118 #[.val (.ref self), .val (.ref p1), .val (.int (1 : Int32)), .val (.ref b33), .val (.int (2 : Int32))] [(.int (Int32.ofNat k2)), (.ref b33)]))
  refine A (S' := T48.setTop (mkF m 119 #[.val (.ref self), .val (.ref p1), .val (.int (1 : Int32)), .val (.ref b33), .val (.int (2 : Int32))] [(.int (Int32.ofNat k2)), (.ref b33), (.int (Int32.ofNat k2)), (.ref b33)])) (fun {t} kt => ?_) ?_
  · jvm_step X48.here [X48.here.top, hx, (hb hby d1_118), Value.category]
    exact kt
  show D (T48.setTop (mkF m 119 #[.val (.ref self), .val (.ref p1), .val (.int (1 : Int32)), .val (.ref b33), .val (.int (2 : Int32))] [(.int (Int32.ofNat k2)), (.ref b33), (.int (Int32.ofNat k2)), (.ref b33)]))
  refine Adv.ldI A X48 hx hZ e48 V_b33_48 (k := k2) (own_of (by omega)) (by omega) (g := (mkF m 119 #[.val (.ref self), .val (.ref p1), .val (.int (1 : Int32)), .val (.ref b33), .val (.int (2 : Int32))] [(.int (Int32.ofNat k2)), (.ref b33), (.int (Int32.ofNat k2)), (.ref b33)])) rfl rfl (hb hby d1_119) ?_
  show D (T48.setTop (mkF m 120 #[.val (.ref self), .val (.ref p1), .val (.int (1 : Int32)), .val (.ref b33), .val (.int (2 : Int32))] [(.int (Int32.ofNat (own_c2 k0 k1 k2 k3 k2))), (.int (Int32.ofNat k2)), (.ref b33)]))
  refine A (XS.iconst X48.here hx rfl (hb hby d1_120)) ?_
  show D (T48.setTop (mkF m 121 #[.val (.ref self), .val (.ref p1), .val (.int (1 : Int32)), .val (.ref b33), .val (.int (2 : Int32))] [(.int (1 : Int32)), (.int (Int32.ofNat (own_c2 k0 k1 k2 k3 k2))), (.int (Int32.ofNat k2)), (.ref b33)]))
  refine A (XS.iadd X48.here hx rfl (hb hby d1_121) rfl) ?_
  show D (T48.setTop (mkF m 122 #[.val (.ref self), .val (.ref p1), .val (.int (1 : Int32)), .val (.ref b33), .val (.int (2 : Int32))] [(.int ((Int32.ofNat (own_c2 k0 k1 k2 k3 k2)) + (1 : Int32))), (.int (Int32.ofNat k2)), (.ref b33)]))
  refine Adv.stI A X48 hx hZ e48 V_b33_48 (k := k2) (own_of (by omega)) (by omega) (g := (mkF m 122 #[.val (.ref self), .val (.ref p1), .val (.int (1 : Int32)), .val (.ref b33), .val (.int (2 : Int32))] [(.int ((Int32.ofNat (own_c2 k0 k1 k2 k3 k2)) + (1 : Int32))), (.int (Int32.ofNat k2)), (.ref b33)])) rfl rfl (hb hby d1_122) ?_
  intro T50 h50 X50 e50 W50 Vb33_50
  have N50 := Fr.snoc X50 N48 g_b33
  have E_self_50 := E_self_48.wr W50
  have F_start_50 := F_start_48.other W50 (Or.inl ne_self_b33)
  have F_rows_50 := F_rows_48.other W50 (Or.inl ne_self_b33)
  have V_p1_50 := V_p1_48.other W50 ne_p1_b33
  have V_b3_50 := V_b3_48.other W50 ne_b3_b33
  have EA_b3_50 := EA_b3_48.wr W50
  have V_b30_50 := Vb30_48.other W50 ne_b30_b33
  have EA_b30_50 := EA_b30_48.wr W50
  have EA_b33_50 := EA_b33_48.wr W50
  have Z_50 : n0 ≤ h50.size := Nat.le_trans Z_48 (Nat.le_of_eq W50.size.symm)
  have KK_50 : Keep h0 h50 [self] := KK_48.wr W50 (Or.inr sz_b33)
  show D (T50.setTop (mkF m 123 #[.val (.ref self), .val (.ref p1), .val (.int (1 : Int32)), .val (.ref b33), .val (.int (2 : Int32))] []))
  have Vc51 : ArI Z h50 b33 .int 2 (fun i => Int32.ofNat (own_c3 k0 k1 k2 k3 i)) := Vb33_50.eqf (fun i hi => own_l3_2 k0 (by omega) k1 (by omega) k2 (by omega) k3 (by omega) i (by omega))
  refine A (XS.iinc X50.here hx rfl (hb hby d1_123) rfl (l' := #[.val (.ref self), .val (.ref p1), .val (.int (1 : Int32)), .val (.ref b33), .val (.int ((2 : Int32) + (1 : Int32)))]) rfl) ?_
  show D (T50.setTop (mkF m 126 #[.val (.ref self), .val (.ref p1), .val (.int (1 : Int32)), .val (.ref b33), .val (.int ((2 : Int32) + (1 : Int32)))] []))
  suffices Kq52 : ∀ q52 : Int32, q52 = (3 : Int32) → D (T50.setTop (mkF m 126 #[.val (.ref self), .val (.ref p1), .val (.int (1 : Int32)), .val (.ref b33), .val (.int q52)] [])) from Kq52 _ (by decide)
  rintro _ rfl
  show D (T50.setTop (mkF m 126 #[.val (.ref self), .val (.ref p1), .val (.int (1 : Int32)), .val (.ref b33), .val (.int (3 : Int32))] []))
  refine A (XS.goto X50.here hx rfl (pc0 := 126) (pc' := 93) rfl (hb hby d1_126) (by decide) (by decide)) ?_
  show D (T50.setTop (mkF m 93 #[.val (.ref self), .val (.ref p1), .val (.int (1 : Int32)), .val (.ref b33), .val (.int (3 : Int32))] []))
  refine A (XS.iload X50.here hx rfl (hb hby d1_93) rfl) ?_
  show D (T50.setTop (mkF m 95 #[.val (.ref self), .val (.ref p1), .val (.int (1 : Int32)), .val (.ref b33), .val (.int (3 : Int32))] [(.int (3 : Int32))]))
  refine A (XS.aloadN X50.here hx rfl (hb hby d1_95) rfl rfl) ?_
  show D (T50.setTop (mkF m 96 #[.val (.ref self), .val (.ref p1), .val (.int (1 : Int32)), .val (.ref b33), .val (.int (3 : Int32))] [(.ref p1), (.int (3 : Int32))]))
  refine Adv.lenI A X50 hx hZ e50 V_p1_50 (g := (mkF m 96 #[.val (.ref self), .val (.ref p1), .val (.int (1 : Int32)), .val (.ref b33), .val (.int (3 : Int32))] [(.ref p1), (.int (3 : Int32))])) rfl rfl (hb hby d1_96) ?_
  show D (T50.setTop (mkF m 97 #[.val (.ref self), .val (.ref p1), .val (.int (1 : Int32)), .val (.ref b33), .val (.int (3 : Int32))] [(.int (4 : Int32)), (.int (3 : Int32))]))
  refine A (XS.icmpNo X50.here hx rfl (hb hby d1_97) rfl (tlt (by decide : (3 : Int32) < (4 : Int32))).2.1) ?_
  show D (T50.setTop (mkF m 100 #[.val (.ref self), .val (.ref p1), .val (.int (1 : Int32)), .val (.ref b33), .val (.int (3 : Int32))] []))
  refine A (XS.aloadN X50.here hx rfl (hb hby d1_100) rfl rfl) ?_
  show D (T50.setTop (mkF m 101 #[.val (.ref self), .val (.ref p1), .val (.int (1 : Int32)), .val (.ref b33), .val (.int (3 : Int32))] [(.ref self)]))
  obtain ⟨T53, X53, e53, st53⟩ := getF X50 hx hZ hown (host := "") (Or.inl (hw _ (List.mem_of_getElem? (i := 13) rfl))) Via.refl e50 F_rows_50 (g := (mkF m 101 #[.val (.ref self), .val (.ref p1), .val (.int (1 : Int32)), .val (.ref b33), .val (.int (3 : Int32))] [(.ref self)])) rfl rfl (hb hby d1_101)
  refine A (st53 _) ?_
  show D (T53.setTop (mkF m 104 #[.val (.ref self), .val (.ref p1), .val (.int (1 : Int32)), .val (.ref b33), .val (.int (3 : Int32))] [(.ref b30)]))
  refine A (XS.aloadN X53.here hx rfl (hb hby d1_104) rfl rfl) ?_
  show D (T53.setTop (mkF m 105 #[.val (.ref self), .val (.ref p1), .val (.int (1 : Int32)), .val (.ref b33), .val (.int (3 : Int32))] [(.ref b33), (.ref b30)]))
  refine A (XS.aloadN X53.here hx rfl (hb hby d1_105) rfl rfl) ?_
  show D (T53.setTop (mkF m 106 #[.val (.ref self), .val (.ref p1), .val (.int (1 : Int32)), .val (.ref b33), .val (.int (3 : Int32))] [(.ref p1), (.ref b33), (.ref b30)]))
  refine A (XS.iload X53.here hx rfl (hb hby d1_106) rfl) ?_
  show D (T53.setTop (mkF m 108 #[.val (.ref self), .val (.ref p1), .val (.int (1 : Int32)), .val (.ref b33), .val (.int (3 : Int32))] [(.int (3 : Int32)), (.ref p1), (.ref b33), (.ref b30)]))
  refine Adv.ldI A X53 hx hZ e53 V_p1_50 (k := 3) (by decide) (by decide) (g := (mkF m 108 #[.val (.ref self), .val (.ref p1), .val (.int (1 : Int32)), .val (.ref b33), .val (.int (3 : Int32))] [(.int (3 : Int32)), (.ref p1), (.ref b33), (.ref b30)])) rfl rfl (hb hby d1_108) ?_
  show D (T53.setTop (mkF m 109 #[.val (.ref self), .val (.ref p1), .val (.int (1 : Int32)), .val (.ref b33), .val (.int (3 : Int32))] [(.int (Int32.ofNat k3)), (.ref b33), (.ref b30)]))
  refine Adv.ldI A X53 hx hZ e53 Vc51 (k := k3) (own_of (by omega)) (by omega) (g := (mkF m 109 #[.val (.ref self), .val (.ref p1), .val (.int (1 : Int32)), .val (.ref b33), .val (.int (3 : Int32))] [(.int (Int32.ofNat k3)), (.ref b33), (.ref b30)])) rfl rfl (hb hby d1_109) ?_
  show D (T53.setTop (mkF m 110 #[.val (.ref self), .val (.ref p1), .val (.int (1 : Int32)), .val (.ref b33), .val (.int (3 : Int32))] [(.int (Int32.ofNat (own_c3 k0 k1 k2 k3 k3))), (.ref b30)]))
  refine A (XS.iload X53.here hx rfl (hb hby d1_110) rfl) ?_
  show D (T53.setTop (mkF m 112 #[.val (.ref self), .val (.ref p1), .val (.int (1 : Int32)), .val (.ref b33), .val (.int (3 : Int32))] [(.int (3 : Int32)), (.int (Int32.ofNat (own_c3 k0 k1 k2 k3 k3))), (.ref b30)]))
  refine Adv.stI A X53 hx hZ e53 V_b30_50 (k := (own_c3 k0 k1 k2 k3 k3)) (own_of (own_b3_3 k0 (by omega) k1 (by omega) k2 (by omega) k3 (by omega))) (own_b3_3 k0 (by omega) k1 (by omega) k2 (by omega) k3 (by omega)) (g := (mkF m 112 #[.val (.ref self), .val (.ref p1), .val (.int (1 : Int32)), .val (.ref b33), .val (.int (3 : Int32))] [(.int (3 : Int32)), (.int (Int32.ofNat (own_c3 k0 k1 k2 k3 k3))), (.ref b30)])) rfl rfl (hb hby d1_112) ?_
  intro T54 h54 X54 e54 W54 Vb30_54
  have N54 := Fr.snoc X54 N50 g_b30
  have E_self_54 := E_self_50.wr W54
  have F_start_54 := F_start_50.other W54 (Or.inl ne_self_b30)
  have F_rows_54 := F_rows_50.other W54 (Or.inl ne_self_b30)
  have V_p1_54 := V_p1_50.other W54 ne_p1_b30
  have V_b3_54 := V_b3_50.other W54 ne_b3_b30
  have EA_b3_54 := EA_b3_50.wr W54
  have EA_b30_54 := EA_b30_50.wr W54
  have V_b33_54 := Vc51.other W54 (Ne.symm ne_b30_b33)
  have EA_b33_54 := EA_b33_50.wr W54
  have Z_54 : n0 ≤ h54.size := Nat.le_trans Z_50 (Nat.le_of_eq W54.size.symm)
  have KK_54 : Keep h0 h54 [self] := KK_50.wr W54 (Or.inr sz_b30)
  show D (T54.setTop (mkF m 113 #[.val (.ref self), .val (.ref p1), .val (.int (1 : Int32)), .val (.ref b33), .val (.int (3 : Int32))] []))
  obtain ⟨fn55, hfn55⟩ : ∃ z : Nat → Int32, z = (fun ix => if ix = (own_c3 k0 k1 k2 k3 k3) then (3 : Int32) else fn49 ix) := ⟨_, rfl⟩
  rw [← hfn55] at Vb30_54
  refine A (XS.aloadN X54.here hx rfl (hb hby d1_113) rfl rfl) ?_
  show D (T54.setTop (mkF m 114 #[.val (.ref self), .val (.ref p1), .val (.int (1 : Int32)), .val (.ref b33), .val (.int (3 : Int32))] [(.ref b33)]))
  refine A (XS.aloadN X54.here hx rfl (hb hby d1_114) rfl rfl) ?_
  show D (T54.setTop (mkF m 115 #[.val (.ref self), .val (.ref p1), .val (.int (1 : Int32)), .val (.ref b33), .val (.int (3 : Int32))] [(.ref p1), (.ref b33)]))
  refine A (XS.iload X54.here hx rfl (hb hby d1_115) rfl) ?_
  show D (T54.setTop (mkF m 117 #[.val (.ref self), .val (.ref p1), .val (.int (1 : Int32)), .val (.ref b33), .val (.int (3 : Int32))] [(.int (3 : Int32)), (.ref p1), (.ref b33)]))
  refine Adv.ldI A X54 hx hZ e54 V_p1_54 (k := 3) (by decide) (by decide) (g := (mkF m 117 #[.val (.ref self), .val (.ref p1), .val (.int (1 : Int32)), .val (.ref b33), .val (.int (3 : Int32))] [(.int (3 : Int32)), (.ref p1), (.ref b33)])) rfl rfl (hb hby d1_117) ?_
  show D (T54.setTop (mkF m 118 #[.val (.ref self), .val (.ref p1), .val (.int (1 : Int32)), .val (.ref b33), .val (.int (3 : Int32))] [(.int (Int32.ofNat k3)), (.ref b33)]))
  refine A (S' := T54.setTop (mkF m 119 #[.val (.ref self), .val (.ref p1), .val (.int (1 : Int32)), .val (.ref b33), .val (.int (3 : Int32))] [(.int (Int32.ofNat k3)), (.ref b33), (.int (Int32.ofNat k3)), (.ref b33)])) (fun {t} kt => ?_) ?_
  · jvm_step X54.here [X54.here.top, hx, (hb hby d1_118), Value.category]
    exact kt
  show D (T54.setTop (mkF m 119 #[.val (.ref self), .val (.ref p1), .val (.int (1 : Int32)), .val (.ref b33), .val (.int (3 : Int32))] [(.int (Int32.ofNat k3)), (.ref b33), (.int (Int32.ofNat k3)), (.ref b33)]))
  refine Adv.ldI A X54 hx hZ e54 V_b33_54 (k := k3) (own_of (by omega)) (by omega) (g := (mkF m 119 #[.val (.ref self), .val (.ref p1), .val (.int (1 : Int32)), .val (.ref b33), .val (.int (3 : Int32))] [(.int (Int32.ofNat k3)), (.ref b33), (.int (Int32.ofNat k3)), (.ref b33)])) rfl rfl (hb hby d1_119) ?_
  show D (T54.setTop (mkF m 120 #[.val (.ref self), .val (.ref p1), .val (.int (1 : Int32)), .val (.ref b33), .val (.int (3 : Int32))] [(.int (Int32.ofNat (own_c3 k0 k1 k2 k3 k3))), (.int (Int32.ofNat k3)), (.ref b33)]))
  refine A (XS.iconst X54.here hx rfl (hb hby d1_120)) ?_
  show D (T54.setTop (mkF m 121 #[.val (.ref self), .val (.ref p1), .val (.int (1 : Int32)), .val (.ref b33), .val (.int (3 : Int32))] [(.int (1 : Int32)), (.int (Int32.ofNat (own_c3 k0 k1 k2 k3 k3))), (.int (Int32.ofNat k3)), (.ref b33)]))
  refine A (XS.iadd X54.here hx rfl (hb hby d1_121) rfl) ?_
  show D (T54.setTop (mkF m 122 #[.val (.ref self), .val (.ref p1), .val (.int (1 : Int32)), .val (.ref b33), .val (.int (3 : Int32))] [(.int ((Int32.ofNat (own_c3 k0 k1 k2 k3 k3)) + (1 : Int32))), (.int (Int32.ofNat k3)), (.ref b33)]))
  refine Adv.stI A X54 hx hZ e54 V_b33_54 (k := k3) (own_of (by omega)) (by omega) (g := (mkF m 122 #[.val (.ref self), .val (.ref p1), .val (.int (1 : Int32)), .val (.ref b33), .val (.int (3 : Int32))] [(.int ((Int32.ofNat (own_c3 k0 k1 k2 k3 k3)) + (1 : Int32))), (.int (Int32.ofNat k3)), (.ref b33)])) rfl rfl (hb hby d1_122) ?_
  intro T56 h56 X56 e56 W56 Vb33_56
  have N56 := Fr.snoc X56 N54 g_b33
  have E_self_56 := E_self_54.wr W56
  have F_start_56 := F_start_54.other W56 (Or.inl ne_self_b33)
  have F_rows_56 := F_rows_54.other W56 (Or.inl ne_self_b33)
  have V_p1_56 := V_p1_54.other W56 ne_p1_b33
  have V_b3_56 := V_b3_54.other W56 ne_b3_b33
  have EA_b3_56 := EA_b3_54.wr W56
  have V_b30_56 := Vb30_54.other W56 ne_b30_b33
  have EA_b30_56 := EA_b30_54.wr W56
  have EA_b33_56 := EA_b33_54.wr W56
  have Z_56 : n0 ≤ h56.size := Nat.le_trans Z_54 (Nat.le_of_eq W56.size.symm)
  have KK_56 : Keep h0 h56 [self] := KK_54.wr W56 (Or.inr sz_b33)
  show D (T56.setTop (mkF m 123 #[.val (.ref self), .val (.ref p1), .val (.int (1 : Int32)), .val (.ref b33), .val (.int (3 : Int32))] []))
  have Vc57 : ArI Z h56 b33 .int 2 (fun i => Int32.ofNat (own_c4 k0 k1 k2 k3 i)) := Vb33_56.eqf (fun i hi => own_l3_3 k0 (by omega) k1 (by omega) k2 (by omega) k3 (by omega) i (by omega))
  refine A (XS.iinc X56.here hx rfl (hb hby d1_123) rfl (l' := #[.val (.ref self), .val (.ref p1), .val (.int (1 : Int32)), .val (.ref b33), .val (.int ((3 : Int32) + (1 : Int32)))]) rfl) ?_
  show D (T56.setTop (mkF m 126 #[.val (.ref self), .val (.ref p1), .val (.int (1 : Int32)), .val (.ref b33), .val (.int ((3 : Int32) + (1 : Int32)))] []))
  suffices Kq58 : ∀ q58 : Int32, q58 = (4 : Int32) → D (T56.setTop (mkF m 126 #[.val (.ref self), .val (.ref p1), .val (.int (1 : Int32)), .val (.ref b33), .val (.int q58)] [])) from Kq58 _ (by decide)
  rintro _ rfl
  show D (T56.setTop (mkF m 126 #[.val (.ref self), .val (.ref p1), .val (.int (1 : Int32)), .val (.ref b33), .val (.int (4 : Int32))] []))
  refine A (XS.goto X56.here hx rfl (pc0 := 126) (pc' := 93) rfl (hb hby d1_126) (by decide) (by decide)) ?_
  show D (T56.setTop (mkF m 93 #[.val (.ref self), .val (.ref p1), .val (.int (1 : Int32)), .val (.ref b33), .val (.int (4 : Int32))] []))
  refine A (XS.iload X56.here hx rfl (hb hby d1_93) rfl) ?_
  show D (T56.setTop (mkF m 95 #[.val (.ref self), .val (.ref p1), .val (.int (1 : Int32)), .val (.ref b33), .val (.int (4 : Int32))] [(.int (4 : Int32))]))
  refine A (XS.aloadN X56.here hx rfl (hb hby d1_95) rfl rfl) ?_
  show D (T56.setTop (mkF m 96 #[.val (.ref self), .val (.ref p1), .val (.int (1 : Int32)), .val (.ref b33), .val (.int (4 : Int32))] [(.ref p1), (.int (4 : Int32))]))
  refine Adv.lenI A X56 hx hZ e56 V_p1_56 (g := (mkF m 96 #[.val (.ref self), .val (.ref p1), .val (.int (1 : Int32)), .val (.ref b33), .val (.int (4 : Int32))] [(.ref p1), (.int (4 : Int32))])) rfl rfl (hb hby d1_96) ?_
  show D (T56.setTop (mkF m 97 #[.val (.ref self), .val (.ref p1), .val (.int (1 : Int32)), .val (.ref b33), .val (.int (4 : Int32))] [(.int (4 : Int32)), (.int (4 : Int32))]))
  refine A (XS.icmpYes X56.here hx rfl (pc0 := 97) (pc' := 129) rfl (hb hby d1_97) rfl (flt (by decide : ¬ ((4 : Int32) < (4 : Int32)))).2.1 (by decide) (by decide)) ?_
  show D (T56.setTop (mkF m 129 #[.val (.ref self), .val (.ref p1), .val (.int (1 : Int32)), .val (.ref b33), .val (.int (4 : Int32))] []))
  exact F _ (Jvm.JW.ret X56 hlk (v := none) (fun _ => rfl) (fun fs hr => X56.returnOut hx hrt (hb hby d1_129) hr) e56 ⟨rfl, b3, N56, KK_56, E_self_56, F_start_56, V_b3_56⟩ (by decide) (by decide))
theorem ef1_2 (self : Addr) (p1 : Addr) (m : MethodId) : entryFrame m #[(.ref self), (.ref p1), (.int (2 : Int32))] 5 = mkF m 0 #[.val (.ref self), .val (.ref p1), .val (.int (2 : Int32)), .unset, .unset] [] := by first | (simp [entryFrame, mkF, argsToLocals, Value.category]; done) | rfl
set_option maxRecDepth 65536 in
set_option maxHeartbeats 40000000 in
theorem rm1_2 (l : Launch) (Z : State) (a0 : Array Value) (hw : ∀ d ∈ tables_1, d.before a0 Z = true) (ws : List Jvm.Cond) (self : Addr) (p1 : Addr) (h0 : Heap) (n0 : Nat) (Z0 : n0 ≤ h0.size) (g_self : n0 ≤ self) (k0 k1 k2 k3 : Nat) (hk0 : k0 < 2) (hk1 : k1 < 2) (hk2 : k2 < 2) (hk3 : k3 < 2) (E_self : Exa Z h0 self "com/example/enklave/enklave/measure/RowGroups") (F_start : Fld Z h0 self "com/example/enklave/enklave/measure/RowGroups" "start" "[I" .null) (F_rows : Fld Z h0 self "com/example/enklave/enklave/measure/RowGroups" "rows" "[I" .null) (V_p1 : ArI Z h0 p1 .int 4 (own_ka k0 k1 k2 k3)) :
    JMet l Z (⟨"com/example/enklave/enklave/measure/RowGroups", "<init>", "([II)V"⟩ : MethodName) prog_41_method_1_code 5 none ws ({ frames := 1, cells := 3, slots := 10, locals := 14 } : Room) #[(.ref self), (.ref p1), (.int (2 : Int32))] h0 (fun v h L => v = none ∧ ∃ b : Addr, Fr n0 L ∧ Keep h0 h [self] ∧ Exa Z h self "com/example/enklave/enklave/measure/RowGroups" ∧ Fld Z h self "com/example/enklave/enklave/measure/RowGroups" "start" "[I" (.ref b) ∧ ArI Z h b .int 3 (fun i => Int32.ofNat (own_c0 k0 k1 k2 k3 i))) := by
  refine Jvm.JW.body #[.val (.ref self), .val (.ref p1), .val (.int (2 : Int32)), .unset, .unset] pn1 (ef1_2 self p1) ?_
  intro p e s m below meth c T0 D A F X0 hx hZ hby hml hown hnm hrt hlk e0
  refine A (XS.aloadN X0.here hx rfl (hb hby d1_0) rfl rfl) ?_
  show D (T0.setTop (mkF m 1 #[.val (.ref self), .val (.ref p1), .val (.int (2 : Int32)), .unset, .unset] [(.ref self)]))
  obtain ⟨T1, X1, e1, st1⟩ := initO X0 hx hZ hown (hw _ (List.mem_of_getElem? (i := 8) rfl)) (hw _ (List.mem_of_getElem? (i := 9) rfl)) (hw _ (List.mem_of_getElem? (i := 10) rfl)) e0 (g := (mkF m 1 #[.val (.ref self), .val (.ref p1), .val (.int (2 : Int32)), .unset, .unset] [(.ref self)])) rfl (by rw [hml]; rfl) rfl (hb hby d1_1) (by decide) (W := 0) (by show 2 * 0 + _ ≤ _; exact Nat.le_of_eq rfl) (by decide)
  refine A (st1 _) ?_
  show D (T1.setTop (mkF m 4 #[.val (.ref self), .val (.ref p1), .val (.int (2 : Int32)), .unset, .unset] []))
  refine A (XS.aloadN X1.here hx rfl (hb hby d1_4) rfl rfl) ?_
  show D (T1.setTop (mkF m 5 #[.val (.ref self), .val (.ref p1), .val (.int (2 : Int32)), .unset, .unset] [(.ref self)]))
  refine A (XS.iloadN X1.here hx rfl (hb hby d1_5) rfl) ?_
  show D (T1.setTop (mkF m 6 #[.val (.ref self), .val (.ref p1), .val (.int (2 : Int32)), .unset, .unset] [(.int (2 : Int32)), (.ref self)]))
  refine A (XS.iconst X1.here hx rfl (hb hby d1_6)) ?_
  show D (T1.setTop (mkF m 7 #[.val (.ref self), .val (.ref p1), .val (.int (2 : Int32)), .unset, .unset] [(.int (1 : Int32)), (.int (2 : Int32)), (.ref self)]))
  refine A (XS.iadd X1.here hx rfl (hb hby d1_7) rfl) ?_
  show D (T1.setTop (mkF m 8 #[.val (.ref self), .val (.ref p1), .val (.int (2 : Int32)), .unset, .unset] [(.int ((2 : Int32) + (1 : Int32))), (.ref self)]))
  suffices Kq2 : ∀ q2 : Int32, q2 = (3 : Int32) → D (T1.setTop (mkF m 8 #[.val (.ref self), .val (.ref p1), .val (.int (2 : Int32)), .unset, .unset] [(.int q2), (.ref self)])) from Kq2 _ (by decide)
  rintro _ rfl
  show D (T1.setTop (mkF m 8 #[.val (.ref self), .val (.ref p1), .val (.int (2 : Int32)), .unset, .unset] [(.int (3 : Int32)), (.ref self)]))
  refine Adv.newI A X1 hx hZ (aty := .int) (hw _ (List.mem_of_getElem? (i := 1) rfl)) e1 (n := 3) (by decide) 3 (by decide) (by decide) rfl (ad := "[I") (by decide) (by decide) (by decide) (g := (mkF m 8 #[.val (.ref self), .val (.ref p1), .val (.int (2 : Int32)), .unset, .unset] [(.int (3 : Int32)), (.ref self)])) rfl rfl (hb hby d1_8) ?_
  intro T3 h3 b3 q_b3 X3 e3 E3 V_b3 EA_b3
  have ne_self_b3 : self ≠ b3 := Nat.ne_of_lt (Nat.lt_of_lt_of_le E_self.lt (Nat.le_of_eq q_b3.symm))
  have ne_p1_b3 : p1 ≠ b3 := Nat.ne_of_lt (Nat.lt_of_lt_of_le V_p1.lt (Nat.le_of_eq q_b3.symm))
  have g_b3 : n0 ≤ b3 := Nat.le_trans Z0 (Nat.le_of_eq q_b3.symm)
  have sz_b3 : h0.size ≤ b3 := Nat.le_trans (Keep.refl h0 [self]).1 (Nat.le_of_eq q_b3.symm)
  have E_self_3 := E_self.ext E3
  have F_start_3 := F_start.ext E3
  have F_rows_3 := F_rows.ext E3
  have V_p1_3 := V_p1.ext E3
  have Z_3 : n0 ≤ h3.size := Nat.le_trans Z0 E3.1
  have KK_3 : Keep h0 h3 [self] := (Keep.refl h0 [self]).ext E3
  show D (T3.setTop (mkF m 10 #[.val (.ref self), .val (.ref p1), .val (.int (2 : Int32)), .unset, .unset] [(.ref b3), (.ref self)]))
  obtain ⟨T4, h4, X4, e4, W4, st4⟩ := putF X3 hx hZ hown (host := "") (Or.inl (hw _ (List.mem_of_getElem? (i := 11) rfl))) Via.refl e3 F_start_3 E_self_3 (Or.inr ⟨(hw _ (List.mem_of_getElem? (i := 12) rfl)), rfl, hnm⟩) (hw _ (List.mem_of_getElem? (i := 3) rfl)) (ty := (.array .int)) (by decide) rfl rfl (g := (mkF m 10 #[.val (.ref self), .val (.ref p1), .val (.int (2 : Int32)), .unset, .unset] [(.ref b3), (.ref self)])) rfl rfl (hb hby d1_10)
  have N4 := Fr.snoc X4 (Fr.nil n0) g_self
  have F_start_4 := F_start_3.same W4
  have E_self_4 := E_self_3.wr W4
  have F_rows_4 := F_rows_3.other W4 (Or.inr (slot_ne (Or.inr (hw _ (List.mem_of_getElem? (i := 14) rfl))) (Or.inr (hw _ (List.mem_of_getElem? (i := 12) rfl))) (by decide) (t := (.array .int)) (t' := (.array .int)) (by decide) (by decide)))
  have V_p1_4 := V_p1_3.other W4 (Ne.symm (ne_ari E_self_3 (hw _ (List.mem_of_getElem? (i := 3) rfl)) V_p1_3))
  have V_b3_4 := V_b3.other W4 (Ne.symm ne_self_b3)
  have EA_b3_4 := EA_b3.wr W4
  have Z_4 : n0 ≤ h4.size := Nat.le_trans Z_3 (Nat.le_of_eq W4.size.symm)
  have KK_4 : Keep h0 h4 [self] := KK_3.wr W4 (Or.inl (List.mem_of_getElem? (i := 0) rfl))
  refine A (st4 _) ?_
  show D (T4.setTop (mkF m 13 #[.val (.ref self), .val (.ref p1), .val (.int (2 : Int32)), .unset, .unset] []))
  have Vc5 : ArI Z h4 b3 .int 3 (fun i => Int32.ofNat (own_m0 k0 k1 k2 k3 i)) := V_b3_4.eqf (fun i hi => own_l0 k0 (by omega) k1 (by omega) k2 (by omega) k3 (by omega) i (by omega))
  refine A (XS.iconst X4.here hx rfl (hb hby d1_13)) ?_
  show D (T4.setTop (mkF m 14 #[.val (.ref self), .val (.ref p1), .val (.int (2 : Int32)), .unset, .unset] [(.int (0 : Int32))]))
  refine A (XS.istoreN X4.here hx rfl (hb hby d1_14) rfl (l' := #[.val (.ref self), .val (.ref p1), .val (.int (2 : Int32)), .val (.int (0 : Int32)), .unset]) rfl) ?_
  show D (T4.setTop (mkF m 15 #[.val (.ref self), .val (.ref p1), .val (.int (2 : Int32)), .val (.int (0 : Int32)), .unset] []))
  refine A (XS.iloadN X4.here hx rfl (hb hby d1_15) rfl) ?_
  show D (T4.setTop (mkF m 16 #[.val (.ref self), .val (.ref p1), .val (.int (2 : Int32)), .val (.int (0 : Int32)), .unset] [(.int (0 : Int32))]))
  refine A (XS.aloadN X4.here hx rfl (hb hby d1_16) rfl rfl) ?_
  show D (T4.setTop (mkF m 17 #[.val (.ref self), .val (.ref p1), .val (.int (2 : Int32)), .val (.int (0 : Int32)), .unset] [(.ref p1), (.int (0 : Int32))]))
  refine Adv.lenI A X4 hx hZ e4 V_p1_4 (g := (mkF m 17 #[.val (.ref self), .val (.ref p1), .val (.int (2 : Int32)), .val (.int (0 : Int32)), .unset] [(.ref p1), (.int (0 : Int32))])) rfl rfl (hb hby d1_17) ?_
  show D (T4.setTop (mkF m 18 #[.val (.ref self), .val (.ref p1), .val (.int (2 : Int32)), .val (.int (0 : Int32)), .unset] [(.int (4 : Int32)), (.int (0 : Int32))]))
  refine A (XS.icmpNo X4.here hx rfl (hb hby d1_18) rfl (tlt (by decide : (0 : Int32) < (4 : Int32))).2.1) ?_
  show D (T4.setTop (mkF m 21 #[.val (.ref self), .val (.ref p1), .val (.int (2 : Int32)), .val (.int (0 : Int32)), .unset] []))
  refine A (XS.aloadN X4.here hx rfl (hb hby d1_21) rfl rfl) ?_
  show D (T4.setTop (mkF m 22 #[.val (.ref self), .val (.ref p1), .val (.int (2 : Int32)), .val (.int (0 : Int32)), .unset] [(.ref self)]))
  obtain ⟨T6, X6, e6, st6⟩ := getF X4 hx hZ hown (host := "") (Or.inl (hw _ (List.mem_of_getElem? (i := 11) rfl))) Via.refl e4 F_start_4 (g := (mkF m 22 #[.val (.ref self), .val (.ref p1), .val (.int (2 : Int32)), .val (.int (0 : Int32)), .unset] [(.ref self)])) rfl rfl (hb hby d1_22)
  refine A (st6 _) ?_
  show D (T6.setTop (mkF m 25 #[.val (.ref self), .val (.ref p1), .val (.int (2 : Int32)), .val (.int (0 : Int32)), .unset] [(.ref b3)]))
  refine A (XS.aloadN X6.here hx rfl (hb hby d1_25) rfl rfl) ?_
  show D (T6.setTop (mkF m 26 #[.val (.ref self), .val (.ref p1), .val (.int (2 : Int32)), .val (.int (0 : Int32)), .unset] [(.ref p1), (.ref b3)]))
  refine A (XS.iloadN X6.here hx rfl (hb hby d1_26) rfl) ?_
  show D (T6.setTop (mkF m 27 #[.val (.ref self), .val (.ref p1), .val (.int (2 : Int32)), .val (.int (0 : Int32)), .unset] [(.int (0 : Int32)), (.ref p1), (.ref b3)]))
  refine Adv.ldI A X6 hx hZ e6 V_p1_4 (k := 0) (by decide) (by decide) (g := (mkF m 27 #[.val (.ref self), .val (.ref p1), .val (.int (2 : Int32)), .val (.int (0 : Int32)), .unset] [(.int (0 : Int32)), (.ref p1), (.ref b3)])) rfl rfl (hb hby d1_27) ?_
  show D (T6.setTop (mkF m 28 #[.val (.ref self), .val (.ref p1), .val (.int (2 : Int32)), .val (.int (0 : Int32)), .unset] [(.int (Int32.ofNat k0)), (.ref b3)]))
  refine A (XS.iconst X6.here hx rfl (hb hby d1_28)) ?_
  show D (T6.setTop (mkF m 29 #[.val (.ref self), .val (.ref p1), .val (.int (2 : Int32)), .val (.int (0 : Int32)), .unset] [(.int (1 : Int32)), (.int (Int32.ofNat k0)), (.ref b3)]))
  refine A (XS.iadd X6.here hx rfl (hb hby d1_29) rfl) ?_
  show D (T6.setTop (mkF m 30 #[.val (.ref self), .val (.ref p1), .val (.int (2 : Int32)), .val (.int (0 : Int32)), .unset] [(.int ((Int32.ofNat k0) + (1 : Int32))), (.ref b3)]))
  refine A (S' := T6.setTop (mkF m 31 #[.val (.ref self), .val (.ref p1), .val (.int (2 : Int32)), .val (.int (0 : Int32)), .unset] [(.int ((Int32.ofNat k0) + (1 : Int32))), (.ref b3), (.int ((Int32.ofNat k0) + (1 : Int32))), (.ref b3)])) (fun {t} kt => ?_) ?_
  · jvm_step X6.here [X6.here.top, hx, (hb hby d1_30), Value.category]
    exact kt
  show D (T6.setTop (mkF m 31 #[.val (.ref self), .val (.ref p1), .val (.int (2 : Int32)), .val (.int (0 : Int32)), .unset] [(.int ((Int32.ofNat k0) + (1 : Int32))), (.ref b3), (.int ((Int32.ofNat k0) + (1 : Int32))), (.ref b3)]))
  refine Adv.ldI A X6 hx hZ e6 Vc5 (k := (k0 + 1)) (own_of1 (by omega)) (by omega) (g := (mkF m 31 #[.val (.ref self), .val (.ref p1), .val (.int (2 : Int32)), .val (.int (0 : Int32)), .unset] [(.int ((Int32.ofNat k0) + (1 : Int32))), (.ref b3), (.int ((Int32.ofNat k0) + (1 : Int32))), (.ref b3)])) rfl rfl (hb hby d1_31) ?_
  show D (T6.setTop (mkF m 32 #[.val (.ref self), .val (.ref p1), .val (.int (2 : Int32)), .val (.int (0 : Int32)), .unset] [(.int (Int32.ofNat (own_m0 k0 k1 k2 k3 (k0 + 1)))), (.int ((Int32.ofNat k0) + (1 : Int32))), (.ref b3)]))
  refine A (XS.iconst X6.here hx rfl (hb hby d1_32)) ?_
  show D (T6.setTop (mkF m 33 #[.val (.ref self), .val (.ref p1), .val (.int (2 : Int32)), .val (.int (0 : Int32)), .unset] [(.int (1 : Int32)), (.int (Int32.ofNat (own_m0 k0 k1 k2 k3 (k0 + 1)))), (.int ((Int32.ofNat k0) + (1 : Int32))), (.ref b3)]))
  refine A (XS.iadd X6.here hx rfl (hb hby d1_33) rfl) ?_
  show D (T6.setTop (mkF m 34 #[.val (.ref self), .val (.ref p1), .val (.int (2 : Int32)), .val (.int (0 : Int32)), .unset] [(.int ((Int32.ofNat (own_m0 k0 k1 k2 k3 (k0 + 1))) + (1 : Int32))), (.int ((Int32.ofNat k0) + (1 : Int32))), (.ref b3)]))
  refine Adv.stI A X6 hx hZ e6 Vc5 (k := (k0 + 1)) (own_of1 (by omega)) (by omega) (g := (mkF m 34 #[.val (.ref self), .val (.ref p1), .val (.int (2 : Int32)), .val (.int (0 : Int32)), .unset] [(.int ((Int32.ofNat (own_m0 k0 k1 k2 k3 (k0 + 1))) + (1 : Int32))), (.int ((Int32.ofNat k0) + (1 : Int32))), (.ref b3)])) rfl rfl (hb hby d1_34) ?_
  intro T7 h7 X7 e7 W7 Vb3_7
  have N7 := Fr.snoc X7 N4 g_b3
  have E_self_7 := E_self_4.wr W7
  have F_start_7 := F_start_4.other W7 (Or.inl ne_self_b3)
  have F_rows_7 := F_rows_4.other W7 (Or.inl ne_self_b3)
  have V_p1_7 := V_p1_4.other W7 ne_p1_b3
  have EA_b3_7 := EA_b3_4.wr W7
  have Z_7 : n0 ≤ h7.size := Nat.le_trans Z_4 (Nat.le_of_eq W7.size.symm)
  have KK_7 : Keep h0 h7 [self] := KK_4.wr W7 (Or.inr sz_b3)
  show D (T7.setTop (mkF m 35 #[.val (.ref self), .val (.ref p1), .val (.int (2 : Int32)), .val (.int (0 : Int32)), .unset] []))
  have Vc8 : ArI Z h7 b3 .int 3 (fun i => Int32.ofNat (own_m1 k0 k1 k2 k3 i)) := Vb3_7.eqf (fun i hi => own_l1_0 k0 (by omega) k1 (by omega) k2 (by omega) k3 (by omega) i (by omega))
  refine A (XS.iinc X7.here hx rfl (hb hby d1_35) rfl (l' := #[.val (.ref self), .val (.ref p1), .val (.int (2 : Int32)), .val (.int ((0 : Int32) + (1 : Int32))), .unset]) rfl) ?_
  show D (T7.setTop (mkF m 38 #[.val (.ref self), .val (.ref p1), .val (.int (2 : Int32)), .val (.int ((0 : Int32) + (1 : Int32))), .unset] []))
  suffices Kq9 : ∀ q9 : Int32, q9 = (1 : Int32) → D (T7.setTop (mkF m 38 #[.val (.ref self), .val (.ref p1), .val (.int (2 : Int32)), .val (.int q9), .unset] [])) from Kq9 _ (by decide)
  rintro _ rfl
  show D (T7.setTop (mkF m 38 #[.val (.ref self), .val (.ref p1), .val (.int (2 : Int32)), .val (.int (1 : Int32)), .unset] []))
  refine A (XS.goto X7.here hx rfl (pc0 := 38) (pc' := 15) rfl (hb hby d1_38) (by decide) (by decide)) ?_
  show D (T7.setTop (mkF m 15 #[.val (.ref self), .val (.ref p1), .val (.int (2 : Int32)), .val (.int (1 : Int32)), .unset] []))
  refine A (XS.iloadN X7.here hx rfl (hb hby d1_15) rfl) ?_
  show D (T7.setTop (mkF m 16 #[.val (.ref self), .val (.ref p1), .val (.int (2 : Int32)), .val (.int (1 : Int32)), .unset] [(.int (1 : Int32))]))
  refine A (XS.aloadN X7.here hx rfl (hb hby d1_16) rfl rfl) ?_
  show D (T7.setTop (mkF m 17 #[.val (.ref self), .val (.ref p1), .val (.int (2 : Int32)), .val (.int (1 : Int32)), .unset] [(.ref p1), (.int (1 : Int32))]))
  refine Adv.lenI A X7 hx hZ e7 V_p1_7 (g := (mkF m 17 #[.val (.ref self), .val (.ref p1), .val (.int (2 : Int32)), .val (.int (1 : Int32)), .unset] [(.ref p1), (.int (1 : Int32))])) rfl rfl (hb hby d1_17) ?_
  show D (T7.setTop (mkF m 18 #[.val (.ref self), .val (.ref p1), .val (.int (2 : Int32)), .val (.int (1 : Int32)), .unset] [(.int (4 : Int32)), (.int (1 : Int32))]))
  refine A (XS.icmpNo X7.here hx rfl (hb hby d1_18) rfl (tlt (by decide : (1 : Int32) < (4 : Int32))).2.1) ?_
  show D (T7.setTop (mkF m 21 #[.val (.ref self), .val (.ref p1), .val (.int (2 : Int32)), .val (.int (1 : Int32)), .unset] []))
  refine A (XS.aloadN X7.here hx rfl (hb hby d1_21) rfl rfl) ?_
  show D (T7.setTop (mkF m 22 #[.val (.ref self), .val (.ref p1), .val (.int (2 : Int32)), .val (.int (1 : Int32)), .unset] [(.ref self)]))
  obtain ⟨T10, X10, e10, st10⟩ := getF X7 hx hZ hown (host := "") (Or.inl (hw _ (List.mem_of_getElem? (i := 11) rfl))) Via.refl e7 F_start_7 (g := (mkF m 22 #[.val (.ref self), .val (.ref p1), .val (.int (2 : Int32)), .val (.int (1 : Int32)), .unset] [(.ref self)])) rfl rfl (hb hby d1_22)
  refine A (st10 _) ?_
  show D (T10.setTop (mkF m 25 #[.val (.ref self), .val (.ref p1), .val (.int (2 : Int32)), .val (.int (1 : Int32)), .unset] [(.ref b3)]))
  refine A (XS.aloadN X10.here hx rfl (hb hby d1_25) rfl rfl) ?_
  show D (T10.setTop (mkF m 26 #[.val (.ref self), .val (.ref p1), .val (.int (2 : Int32)), .val (.int (1 : Int32)), .unset] [(.ref p1), (.ref b3)]))
  refine A (XS.iloadN X10.here hx rfl (hb hby d1_26) rfl) ?_
  show D (T10.setTop (mkF m 27 #[.val (.ref self), .val (.ref p1), .val (.int (2 : Int32)), .val (.int (1 : Int32)), .unset] [(.int (1 : Int32)), (.ref p1), (.ref b3)]))
  refine Adv.ldI A X10 hx hZ e10 V_p1_7 (k := 1) (by decide) (by decide) (g := (mkF m 27 #[.val (.ref self), .val (.ref p1), .val (.int (2 : Int32)), .val (.int (1 : Int32)), .unset] [(.int (1 : Int32)), (.ref p1), (.ref b3)])) rfl rfl (hb hby d1_27) ?_
  show D (T10.setTop (mkF m 28 #[.val (.ref self), .val (.ref p1), .val (.int (2 : Int32)), .val (.int (1 : Int32)), .unset] [(.int (Int32.ofNat k1)), (.ref b3)]))
  refine A (XS.iconst X10.here hx rfl (hb hby d1_28)) ?_
  show D (T10.setTop (mkF m 29 #[.val (.ref self), .val (.ref p1), .val (.int (2 : Int32)), .val (.int (1 : Int32)), .unset] [(.int (1 : Int32)), (.int (Int32.ofNat k1)), (.ref b3)]))
  refine A (XS.iadd X10.here hx rfl (hb hby d1_29) rfl) ?_
  show D (T10.setTop (mkF m 30 #[.val (.ref self), .val (.ref p1), .val (.int (2 : Int32)), .val (.int (1 : Int32)), .unset] [(.int ((Int32.ofNat k1) + (1 : Int32))), (.ref b3)]))
  refine A (S' := T10.setTop (mkF m 31 #[.val (.ref self), .val (.ref p1), .val (.int (2 : Int32)), .val (.int (1 : Int32)), .unset] [(.int ((Int32.ofNat k1) + (1 : Int32))), (.ref b3), (.int ((Int32.ofNat k1) + (1 : Int32))), (.ref b3)])) (fun {t} kt => ?_) ?_
  · jvm_step X10.here [X10.here.top, hx, (hb hby d1_30), Value.category]
    exact kt
  show D (T10.setTop (mkF m 31 #[.val (.ref self), .val (.ref p1), .val (.int (2 : Int32)), .val (.int (1 : Int32)), .unset] [(.int ((Int32.ofNat k1) + (1 : Int32))), (.ref b3), (.int ((Int32.ofNat k1) + (1 : Int32))), (.ref b3)]))
  refine Adv.ldI A X10 hx hZ e10 Vc8 (k := (k1 + 1)) (own_of1 (by omega)) (by omega) (g := (mkF m 31 #[.val (.ref self), .val (.ref p1), .val (.int (2 : Int32)), .val (.int (1 : Int32)), .unset] [(.int ((Int32.ofNat k1) + (1 : Int32))), (.ref b3), (.int ((Int32.ofNat k1) + (1 : Int32))), (.ref b3)])) rfl rfl (hb hby d1_31) ?_
  show D (T10.setTop (mkF m 32 #[.val (.ref self), .val (.ref p1), .val (.int (2 : Int32)), .val (.int (1 : Int32)), .unset] [(.int (Int32.ofNat (own_m1 k0 k1 k2 k3 (k1 + 1)))), (.int ((Int32.ofNat k1) + (1 : Int32))), (.ref b3)]))
  refine A (XS.iconst X10.here hx rfl (hb hby d1_32)) ?_
  show D (T10.setTop (mkF m 33 #[.val (.ref self), .val (.ref p1), .val (.int (2 : Int32)), .val (.int (1 : Int32)), .unset] [(.int (1 : Int32)), (.int (Int32.ofNat (own_m1 k0 k1 k2 k3 (k1 + 1)))), (.int ((Int32.ofNat k1) + (1 : Int32))), (.ref b3)]))
  refine A (XS.iadd X10.here hx rfl (hb hby d1_33) rfl) ?_
  show D (T10.setTop (mkF m 34 #[.val (.ref self), .val (.ref p1), .val (.int (2 : Int32)), .val (.int (1 : Int32)), .unset] [(.int ((Int32.ofNat (own_m1 k0 k1 k2 k3 (k1 + 1))) + (1 : Int32))), (.int ((Int32.ofNat k1) + (1 : Int32))), (.ref b3)]))
  refine Adv.stI A X10 hx hZ e10 Vc8 (k := (k1 + 1)) (own_of1 (by omega)) (by omega) (g := (mkF m 34 #[.val (.ref self), .val (.ref p1), .val (.int (2 : Int32)), .val (.int (1 : Int32)), .unset] [(.int ((Int32.ofNat (own_m1 k0 k1 k2 k3 (k1 + 1))) + (1 : Int32))), (.int ((Int32.ofNat k1) + (1 : Int32))), (.ref b3)])) rfl rfl (hb hby d1_34) ?_
  intro T11 h11 X11 e11 W11 Vb3_11
  have N11 := Fr.snoc X11 N7 g_b3
  have E_self_11 := E_self_7.wr W11
  have F_start_11 := F_start_7.other W11 (Or.inl ne_self_b3)
  have F_rows_11 := F_rows_7.other W11 (Or.inl ne_self_b3)
  have V_p1_11 := V_p1_7.other W11 ne_p1_b3
  have EA_b3_11 := EA_b3_7.wr W11
  have Z_11 : n0 ≤ h11.size := Nat.le_trans Z_7 (Nat.le_of_eq W11.size.symm)
  have KK_11 : Keep h0 h11 [self] := KK_7.wr W11 (Or.inr sz_b3)
  show D (T11.setTop (mkF m 35 #[.val (.ref self), .val (.ref p1), .val (.int (2 : Int32)), .val (.int (1 : Int32)), .unset] []))
  have Vc12 : ArI Z h11 b3 .int 3 (fun i => Int32.ofNat (own_m2 k0 k1 k2 k3 i)) := Vb3_11.eqf (fun i hi => own_l1_1 k0 (by omega) k1 (by omega) k2 (by omega) k3 (by omega) i (by omega))
  refine A (XS.iinc X11.here hx rfl (hb hby d1_35) rfl (l' := #[.val (.ref self), .val (.ref p1), .val (.int (2 : Int32)), .val (.int ((1 : Int32) + (1 : Int32))), .unset]) rfl) ?_
  show D (T11.setTop (mkF m 38 #[.val (.ref self), .val (.ref p1), .val (.int (2 : Int32)), .val (.int ((1 : Int32) + (1 : Int32))), .unset] []))
  suffices Kq13 : ∀ q13 : Int32, q13 = (2 : Int32) → D (T11.setTop (mkF m 38 #[.val (.ref self), .val (.ref p1), .val (.int (2 : Int32)), .val (.int q13), .unset] [])) from Kq13 _ (by decide)
  rintro _ rfl
  show D (T11.setTop (mkF m 38 #[.val (.ref self), .val (.ref p1), .val (.int (2 : Int32)), .val (.int (2 : Int32)), .unset] []))
  refine A (XS.goto X11.here hx rfl (pc0 := 38) (pc' := 15) rfl (hb hby d1_38) (by decide) (by decide)) ?_
  show D (T11.setTop (mkF m 15 #[.val (.ref self), .val (.ref p1), .val (.int (2 : Int32)), .val (.int (2 : Int32)), .unset] []))
  refine A (XS.iloadN X11.here hx rfl (hb hby d1_15) rfl) ?_
  show D (T11.setTop (mkF m 16 #[.val (.ref self), .val (.ref p1), .val (.int (2 : Int32)), .val (.int (2 : Int32)), .unset] [(.int (2 : Int32))]))
  refine A (XS.aloadN X11.here hx rfl (hb hby d1_16) rfl rfl) ?_
  show D (T11.setTop (mkF m 17 #[.val (.ref self), .val (.ref p1), .val (.int (2 : Int32)), .val (.int (2 : Int32)), .unset] [(.ref p1), (.int (2 : Int32))]))
  refine Adv.lenI A X11 hx hZ e11 V_p1_11 (g := (mkF m 17 #[.val (.ref self), .val (.ref p1), .val (.int (2 : Int32)), .val (.int (2 : Int32)), .unset] [(.ref p1), (.int (2 : Int32))])) rfl rfl (hb hby d1_17) ?_
  show D (T11.setTop (mkF m 18 #[.val (.ref self), .val (.ref p1), .val (.int (2 : Int32)), .val (.int (2 : Int32)), .unset] [(.int (4 : Int32)), (.int (2 : Int32))]))
  refine A (XS.icmpNo X11.here hx rfl (hb hby d1_18) rfl (tlt (by decide : (2 : Int32) < (4 : Int32))).2.1) ?_
  show D (T11.setTop (mkF m 21 #[.val (.ref self), .val (.ref p1), .val (.int (2 : Int32)), .val (.int (2 : Int32)), .unset] []))
  refine A (XS.aloadN X11.here hx rfl (hb hby d1_21) rfl rfl) ?_
  show D (T11.setTop (mkF m 22 #[.val (.ref self), .val (.ref p1), .val (.int (2 : Int32)), .val (.int (2 : Int32)), .unset] [(.ref self)]))
  obtain ⟨T14, X14, e14, st14⟩ := getF X11 hx hZ hown (host := "") (Or.inl (hw _ (List.mem_of_getElem? (i := 11) rfl))) Via.refl e11 F_start_11 (g := (mkF m 22 #[.val (.ref self), .val (.ref p1), .val (.int (2 : Int32)), .val (.int (2 : Int32)), .unset] [(.ref self)])) rfl rfl (hb hby d1_22)
  refine A (st14 _) ?_
  show D (T14.setTop (mkF m 25 #[.val (.ref self), .val (.ref p1), .val (.int (2 : Int32)), .val (.int (2 : Int32)), .unset] [(.ref b3)]))
  refine A (XS.aloadN X14.here hx rfl (hb hby d1_25) rfl rfl) ?_
  show D (T14.setTop (mkF m 26 #[.val (.ref self), .val (.ref p1), .val (.int (2 : Int32)), .val (.int (2 : Int32)), .unset] [(.ref p1), (.ref b3)]))
  refine A (XS.iloadN X14.here hx rfl (hb hby d1_26) rfl) ?_
  show D (T14.setTop (mkF m 27 #[.val (.ref self), .val (.ref p1), .val (.int (2 : Int32)), .val (.int (2 : Int32)), .unset] [(.int (2 : Int32)), (.ref p1), (.ref b3)]))
  refine Adv.ldI A X14 hx hZ e14 V_p1_11 (k := 2) (by decide) (by decide) (g := (mkF m 27 #[.val (.ref self), .val (.ref p1), .val (.int (2 : Int32)), .val (.int (2 : Int32)), .unset] [(.int (2 : Int32)), (.ref p1), (.ref b3)])) rfl rfl (hb hby d1_27) ?_
  show D (T14.setTop (mkF m 28 #[.val (.ref self), .val (.ref p1), .val (.int (2 : Int32)), .val (.int (2 : Int32)), .unset] [(.int (Int32.ofNat k2)), (.ref b3)]))
  refine A (XS.iconst X14.here hx rfl (hb hby d1_28)) ?_
  show D (T14.setTop (mkF m 29 #[.val (.ref self), .val (.ref p1), .val (.int (2 : Int32)), .val (.int (2 : Int32)), .unset] [(.int (1 : Int32)), (.int (Int32.ofNat k2)), (.ref b3)]))
  refine A (XS.iadd X14.here hx rfl (hb hby d1_29) rfl) ?_
  show D (T14.setTop (mkF m 30 #[.val (.ref self), .val (.ref p1), .val (.int (2 : Int32)), .val (.int (2 : Int32)), .unset] [(.int ((Int32.ofNat k2) + (1 : Int32))), (.ref b3)]))
  refine A (S' := T14.setTop (mkF m 31 #[.val (.ref self), .val (.ref p1), .val (.int (2 : Int32)), .val (.int (2 : Int32)), .unset] [(.int ((Int32.ofNat k2) + (1 : Int32))), (.ref b3), (.int ((Int32.ofNat k2) + (1 : Int32))), (.ref b3)])) (fun {t} kt => ?_) ?_
  · jvm_step X14.here [X14.here.top, hx, (hb hby d1_30), Value.category]
    exact kt
  show D (T14.setTop (mkF m 31 #[.val (.ref self), .val (.ref p1), .val (.int (2 : Int32)), .val (.int (2 : Int32)), .unset] [(.int ((Int32.ofNat k2) + (1 : Int32))), (.ref b3), (.int ((Int32.ofNat k2) + (1 : Int32))), (.ref b3)]))
  refine Adv.ldI A X14 hx hZ e14 Vc12 (k := (k2 + 1)) (own_of1 (by omega)) (by omega) (g := (mkF m 31 #[.val (.ref self), .val (.ref p1), .val (.int (2 : Int32)), .val (.int (2 : Int32)), .unset] [(.int ((Int32.ofNat k2) + (1 : Int32))), (.ref b3), (.int ((Int32.ofNat k2) + (1 : Int32))), (.ref b3)])) rfl rfl (hb hby d1_31) ?_
  show D (T14.setTop (mkF m 32 #[.val (.ref self), .val (.ref p1), .val (.int (2 : Int32)), .val (.int (2 : Int32)), .unset] [(.int (Int32.ofNat (own_m2 k0 k1 k2 k3 (k2 + 1)))), (.int ((Int32.ofNat k2) + (1 : Int32))), (.ref b3)]))
  refine A (XS.iconst X14.here hx rfl (hb hby d1_32)) ?_
  show D (T14.setTop (mkF m 33 #[.val (.ref self), .val (.ref p1), .val (.int (2 : Int32)), .val (.int (2 : Int32)), .unset] [(.int (1 : Int32)), (.int (Int32.ofNat (own_m2 k0 k1 k2 k3 (k2 + 1)))), (.int ((Int32.ofNat k2) + (1 : Int32))), (.ref b3)]))
  refine A (XS.iadd X14.here hx rfl (hb hby d1_33) rfl) ?_
  show D (T14.setTop (mkF m 34 #[.val (.ref self), .val (.ref p1), .val (.int (2 : Int32)), .val (.int (2 : Int32)), .unset] [(.int ((Int32.ofNat (own_m2 k0 k1 k2 k3 (k2 + 1))) + (1 : Int32))), (.int ((Int32.ofNat k2) + (1 : Int32))), (.ref b3)]))
  refine Adv.stI A X14 hx hZ e14 Vc12 (k := (k2 + 1)) (own_of1 (by omega)) (by omega) (g := (mkF m 34 #[.val (.ref self), .val (.ref p1), .val (.int (2 : Int32)), .val (.int (2 : Int32)), .unset] [(.int ((Int32.ofNat (own_m2 k0 k1 k2 k3 (k2 + 1))) + (1 : Int32))), (.int ((Int32.ofNat k2) + (1 : Int32))), (.ref b3)])) rfl rfl (hb hby d1_34) ?_
  intro T15 h15 X15 e15 W15 Vb3_15
  have N15 := Fr.snoc X15 N11 g_b3
  have E_self_15 := E_self_11.wr W15
  have F_start_15 := F_start_11.other W15 (Or.inl ne_self_b3)
  have F_rows_15 := F_rows_11.other W15 (Or.inl ne_self_b3)
  have V_p1_15 := V_p1_11.other W15 ne_p1_b3
  have EA_b3_15 := EA_b3_11.wr W15
  have Z_15 : n0 ≤ h15.size := Nat.le_trans Z_11 (Nat.le_of_eq W15.size.symm)
  have KK_15 : Keep h0 h15 [self] := KK_11.wr W15 (Or.inr sz_b3)
  show D (T15.setTop (mkF m 35 #[.val (.ref self), .val (.ref p1), .val (.int (2 : Int32)), .val (.int (2 : Int32)), .unset] []))
  have Vc16 : ArI Z h15 b3 .int 3 (fun i => Int32.ofNat (own_m3 k0 k1 k2 k3 i)) := Vb3_15.eqf (fun i hi => own_l1_2 k0 (by omega) k1 (by omega) k2 (by omega) k3 (by omega) i (by omega))
  refine A (XS.iinc X15.here hx rfl (hb hby d1_35) rfl (l' := #[.val (.ref self), .val (.ref p1), .val (.int (2 : Int32)), .val (.int ((2 : Int32) + (1 : Int32))), .unset]) rfl) ?_
  show D (T15.setTop (mkF m 38 #[.val (.ref self), .val (.ref p1), .val (.int (2 : Int32)), .val (.int ((2 : Int32) + (1 : Int32))), .unset] []))
  suffices Kq17 : ∀ q17 : Int32, q17 = (3 : Int32) → D (T15.setTop (mkF m 38 #[.val (.ref self), .val (.ref p1), .val (.int (2 : Int32)), .val (.int q17), .unset] [])) from Kq17 _ (by decide)
  rintro _ rfl
  show D (T15.setTop (mkF m 38 #[.val (.ref self), .val (.ref p1), .val (.int (2 : Int32)), .val (.int (3 : Int32)), .unset] []))
  refine A (XS.goto X15.here hx rfl (pc0 := 38) (pc' := 15) rfl (hb hby d1_38) (by decide) (by decide)) ?_
  show D (T15.setTop (mkF m 15 #[.val (.ref self), .val (.ref p1), .val (.int (2 : Int32)), .val (.int (3 : Int32)), .unset] []))
  refine A (XS.iloadN X15.here hx rfl (hb hby d1_15) rfl) ?_
  show D (T15.setTop (mkF m 16 #[.val (.ref self), .val (.ref p1), .val (.int (2 : Int32)), .val (.int (3 : Int32)), .unset] [(.int (3 : Int32))]))
  refine A (XS.aloadN X15.here hx rfl (hb hby d1_16) rfl rfl) ?_
  show D (T15.setTop (mkF m 17 #[.val (.ref self), .val (.ref p1), .val (.int (2 : Int32)), .val (.int (3 : Int32)), .unset] [(.ref p1), (.int (3 : Int32))]))
  refine Adv.lenI A X15 hx hZ e15 V_p1_15 (g := (mkF m 17 #[.val (.ref self), .val (.ref p1), .val (.int (2 : Int32)), .val (.int (3 : Int32)), .unset] [(.ref p1), (.int (3 : Int32))])) rfl rfl (hb hby d1_17) ?_
  show D (T15.setTop (mkF m 18 #[.val (.ref self), .val (.ref p1), .val (.int (2 : Int32)), .val (.int (3 : Int32)), .unset] [(.int (4 : Int32)), (.int (3 : Int32))]))
  refine A (XS.icmpNo X15.here hx rfl (hb hby d1_18) rfl (tlt (by decide : (3 : Int32) < (4 : Int32))).2.1) ?_
  show D (T15.setTop (mkF m 21 #[.val (.ref self), .val (.ref p1), .val (.int (2 : Int32)), .val (.int (3 : Int32)), .unset] []))
  refine A (XS.aloadN X15.here hx rfl (hb hby d1_21) rfl rfl) ?_
  show D (T15.setTop (mkF m 22 #[.val (.ref self), .val (.ref p1), .val (.int (2 : Int32)), .val (.int (3 : Int32)), .unset] [(.ref self)]))
  obtain ⟨T18, X18, e18, st18⟩ := getF X15 hx hZ hown (host := "") (Or.inl (hw _ (List.mem_of_getElem? (i := 11) rfl))) Via.refl e15 F_start_15 (g := (mkF m 22 #[.val (.ref self), .val (.ref p1), .val (.int (2 : Int32)), .val (.int (3 : Int32)), .unset] [(.ref self)])) rfl rfl (hb hby d1_22)
  refine A (st18 _) ?_
  show D (T18.setTop (mkF m 25 #[.val (.ref self), .val (.ref p1), .val (.int (2 : Int32)), .val (.int (3 : Int32)), .unset] [(.ref b3)]))
  refine A (XS.aloadN X18.here hx rfl (hb hby d1_25) rfl rfl) ?_
  show D (T18.setTop (mkF m 26 #[.val (.ref self), .val (.ref p1), .val (.int (2 : Int32)), .val (.int (3 : Int32)), .unset] [(.ref p1), (.ref b3)]))
  refine A (XS.iloadN X18.here hx rfl (hb hby d1_26) rfl) ?_
  show D (T18.setTop (mkF m 27 #[.val (.ref self), .val (.ref p1), .val (.int (2 : Int32)), .val (.int (3 : Int32)), .unset] [(.int (3 : Int32)), (.ref p1), (.ref b3)]))
  refine Adv.ldI A X18 hx hZ e18 V_p1_15 (k := 3) (by decide) (by decide) (g := (mkF m 27 #[.val (.ref self), .val (.ref p1), .val (.int (2 : Int32)), .val (.int (3 : Int32)), .unset] [(.int (3 : Int32)), (.ref p1), (.ref b3)])) rfl rfl (hb hby d1_27) ?_
  show D (T18.setTop (mkF m 28 #[.val (.ref self), .val (.ref p1), .val (.int (2 : Int32)), .val (.int (3 : Int32)), .unset] [(.int (Int32.ofNat k3)), (.ref b3)]))
  refine A (XS.iconst X18.here hx rfl (hb hby d1_28)) ?_
  show D (T18.setTop (mkF m 29 #[.val (.ref self), .val (.ref p1), .val (.int (2 : Int32)), .val (.int (3 : Int32)), .unset] [(.int (1 : Int32)), (.int (Int32.ofNat k3)), (.ref b3)]))
  refine A (XS.iadd X18.here hx rfl (hb hby d1_29) rfl) ?_
  show D (T18.setTop (mkF m 30 #[.val (.ref self), .val (.ref p1), .val (.int (2 : Int32)), .val (.int (3 : Int32)), .unset] [(.int ((Int32.ofNat k3) + (1 : Int32))), (.ref b3)]))
  refine A (S' := T18.setTop (mkF m 31 #[.val (.ref self), .val (.ref p1), .val (.int (2 : Int32)), .val (.int (3 : Int32)), .unset] [(.int ((Int32.ofNat k3) + (1 : Int32))), (.ref b3), (.int ((Int32.ofNat k3) + (1 : Int32))), (.ref b3)])) (fun {t} kt => ?_) ?_
  · jvm_step X18.here [X18.here.top, hx, (hb hby d1_30), Value.category]
    exact kt
  show D (T18.setTop (mkF m 31 #[.val (.ref self), .val (.ref p1), .val (.int (2 : Int32)), .val (.int (3 : Int32)), .unset] [(.int ((Int32.ofNat k3) + (1 : Int32))), (.ref b3), (.int ((Int32.ofNat k3) + (1 : Int32))), (.ref b3)]))
  refine Adv.ldI A X18 hx hZ e18 Vc16 (k := (k3 + 1)) (own_of1 (by omega)) (by omega) (g := (mkF m 31 #[.val (.ref self), .val (.ref p1), .val (.int (2 : Int32)), .val (.int (3 : Int32)), .unset] [(.int ((Int32.ofNat k3) + (1 : Int32))), (.ref b3), (.int ((Int32.ofNat k3) + (1 : Int32))), (.ref b3)])) rfl rfl (hb hby d1_31) ?_
  show D (T18.setTop (mkF m 32 #[.val (.ref self), .val (.ref p1), .val (.int (2 : Int32)), .val (.int (3 : Int32)), .unset] [(.int (Int32.ofNat (own_m3 k0 k1 k2 k3 (k3 + 1)))), (.int ((Int32.ofNat k3) + (1 : Int32))), (.ref b3)]))
  refine A (XS.iconst X18.here hx rfl (hb hby d1_32)) ?_
  show D (T18.setTop (mkF m 33 #[.val (.ref self), .val (.ref p1), .val (.int (2 : Int32)), .val (.int (3 : Int32)), .unset] [(.int (1 : Int32)), (.int (Int32.ofNat (own_m3 k0 k1 k2 k3 (k3 + 1)))), (.int ((Int32.ofNat k3) + (1 : Int32))), (.ref b3)]))
  refine A (XS.iadd X18.here hx rfl (hb hby d1_33) rfl) ?_
  show D (T18.setTop (mkF m 34 #[.val (.ref self), .val (.ref p1), .val (.int (2 : Int32)), .val (.int (3 : Int32)), .unset] [(.int ((Int32.ofNat (own_m3 k0 k1 k2 k3 (k3 + 1))) + (1 : Int32))), (.int ((Int32.ofNat k3) + (1 : Int32))), (.ref b3)]))
  refine Adv.stI A X18 hx hZ e18 Vc16 (k := (k3 + 1)) (own_of1 (by omega)) (by omega) (g := (mkF m 34 #[.val (.ref self), .val (.ref p1), .val (.int (2 : Int32)), .val (.int (3 : Int32)), .unset] [(.int ((Int32.ofNat (own_m3 k0 k1 k2 k3 (k3 + 1))) + (1 : Int32))), (.int ((Int32.ofNat k3) + (1 : Int32))), (.ref b3)])) rfl rfl (hb hby d1_34) ?_
  intro T19 h19 X19 e19 W19 Vb3_19
  have N19 := Fr.snoc X19 N15 g_b3
  have E_self_19 := E_self_15.wr W19
  have F_start_19 := F_start_15.other W19 (Or.inl ne_self_b3)
  have F_rows_19 := F_rows_15.other W19 (Or.inl ne_self_b3)
  have V_p1_19 := V_p1_15.other W19 ne_p1_b3
  have EA_b3_19 := EA_b3_15.wr W19
  have Z_19 : n0 ≤ h19.size := Nat.le_trans Z_15 (Nat.le_of_eq W19.size.symm)
  have KK_19 : Keep h0 h19 [self] := KK_15.wr W19 (Or.inr sz_b3)
  show D (T19.setTop (mkF m 35 #[.val (.ref self), .val (.ref p1), .val (.int (2 : Int32)), .val (.int (3 : Int32)), .unset] []))
  have Vc20 : ArI Z h19 b3 .int 3 (fun i => Int32.ofNat (own_m4 k0 k1 k2 k3 i)) := Vb3_19.eqf (fun i hi => own_l1_3 k0 (by omega) k1 (by omega) k2 (by omega) k3 (by omega) i (by omega))
  refine A (XS.iinc X19.here hx rfl (hb hby d1_35) rfl (l' := #[.val (.ref self), .val (.ref p1), .val (.int (2 : Int32)), .val (.int ((3 : Int32) + (1 : Int32))), .unset]) rfl) ?_
  show D (T19.setTop (mkF m 38 #[.val (.ref self), .val (.ref p1), .val (.int (2 : Int32)), .val (.int ((3 : Int32) + (1 : Int32))), .unset] []))
  suffices Kq21 : ∀ q21 : Int32, q21 = (4 : Int32) → D (T19.setTop (mkF m 38 #[.val (.ref self), .val (.ref p1), .val (.int (2 : Int32)), .val (.int q21), .unset] [])) from Kq21 _ (by decide)
  rintro _ rfl
  show D (T19.setTop (mkF m 38 #[.val (.ref self), .val (.ref p1), .val (.int (2 : Int32)), .val (.int (4 : Int32)), .unset] []))
  refine A (XS.goto X19.here hx rfl (pc0 := 38) (pc' := 15) rfl (hb hby d1_38) (by decide) (by decide)) ?_
  show D (T19.setTop (mkF m 15 #[.val (.ref self), .val (.ref p1), .val (.int (2 : Int32)), .val (.int (4 : Int32)), .unset] []))
  refine A (XS.iloadN X19.here hx rfl (hb hby d1_15) rfl) ?_
  show D (T19.setTop (mkF m 16 #[.val (.ref self), .val (.ref p1), .val (.int (2 : Int32)), .val (.int (4 : Int32)), .unset] [(.int (4 : Int32))]))
  refine A (XS.aloadN X19.here hx rfl (hb hby d1_16) rfl rfl) ?_
  show D (T19.setTop (mkF m 17 #[.val (.ref self), .val (.ref p1), .val (.int (2 : Int32)), .val (.int (4 : Int32)), .unset] [(.ref p1), (.int (4 : Int32))]))
  refine Adv.lenI A X19 hx hZ e19 V_p1_19 (g := (mkF m 17 #[.val (.ref self), .val (.ref p1), .val (.int (2 : Int32)), .val (.int (4 : Int32)), .unset] [(.ref p1), (.int (4 : Int32))])) rfl rfl (hb hby d1_17) ?_
  show D (T19.setTop (mkF m 18 #[.val (.ref self), .val (.ref p1), .val (.int (2 : Int32)), .val (.int (4 : Int32)), .unset] [(.int (4 : Int32)), (.int (4 : Int32))]))
  refine A (XS.icmpYes X19.here hx rfl (pc0 := 18) (pc' := 41) rfl (hb hby d1_18) rfl (flt (by decide : ¬ ((4 : Int32) < (4 : Int32)))).2.1 (by decide) (by decide)) ?_
  show D (T19.setTop (mkF m 41 #[.val (.ref self), .val (.ref p1), .val (.int (2 : Int32)), .val (.int (4 : Int32)), .unset] []))
  have Vc22 : ArI Z h19 b3 .int 3 (fun i => Int32.ofNat (own_p0 k0 k1 k2 k3 i)) := Vc20.eqf (fun i hi => own_l12 k0 (by omega) k1 (by omega) k2 (by omega) k3 (by omega) i (by omega))
  refine A (XS.iconst X19.here hx rfl (hb hby d1_41)) ?_
  show D (T19.setTop (mkF m 42 #[.val (.ref self), .val (.ref p1), .val (.int (2 : Int32)), .val (.int (4 : Int32)), .unset] [(.int (0 : Int32))]))
  refine A (XS.istoreN X19.here hx rfl (hb hby d1_42) rfl (l' := #[.val (.ref self), .val (.ref p1), .val (.int (2 : Int32)), .val (.int (0 : Int32)), .unset]) rfl) ?_
  show D (T19.setTop (mkF m 43 #[.val (.ref self), .val (.ref p1), .val (.int (2 : Int32)), .val (.int (0 : Int32)), .unset] []))
  refine A (XS.iloadN X19.here hx rfl (hb hby d1_43) rfl) ?_
  show D (T19.setTop (mkF m 44 #[.val (.ref self), .val (.ref p1), .val (.int (2 : Int32)), .val (.int (0 : Int32)), .unset] [(.int (0 : Int32))]))
  refine A (XS.iloadN X19.here hx rfl (hb hby d1_44) rfl) ?_
  show D (T19.setTop (mkF m 45 #[.val (.ref self), .val (.ref p1), .val (.int (2 : Int32)), .val (.int (0 : Int32)), .unset] [(.int (2 : Int32)), (.int (0 : Int32))]))
  refine A (XS.icmpNo X19.here hx rfl (hb hby d1_45) rfl (tlt (by decide : (0 : Int32) < (2 : Int32))).2.1) ?_
  show D (T19.setTop (mkF m 48 #[.val (.ref self), .val (.ref p1), .val (.int (2 : Int32)), .val (.int (0 : Int32)), .unset] []))
  refine A (XS.aloadN X19.here hx rfl (hb hby d1_48) rfl rfl) ?_
  show D (T19.setTop (mkF m 49 #[.val (.ref self), .val (.ref p1), .val (.int (2 : Int32)), .val (.int (0 : Int32)), .unset] [(.ref self)]))
  obtain ⟨T23, X23, e23, st23⟩ := getF X19 hx hZ hown (host := "") (Or.inl (hw _ (List.mem_of_getElem? (i := 11) rfl))) Via.refl e19 F_start_19 (g := (mkF m 49 #[.val (.ref self), .val (.ref p1), .val (.int (2 : Int32)), .val (.int (0 : Int32)), .unset] [(.ref self)])) rfl rfl (hb hby d1_49)
  refine A (st23 _) ?_
  show D (T23.setTop (mkF m 52 #[.val (.ref self), .val (.ref p1), .val (.int (2 : Int32)), .val (.int (0 : Int32)), .unset] [(.ref b3)]))
  refine A (XS.iloadN X23.here hx rfl (hb hby d1_52) rfl) ?_
  show D (T23.setTop (mkF m 53 #[.val (.ref self), .val (.ref p1), .val (.int (2 : Int32)), .val (.int (0 : Int32)), .unset] [(.int (0 : Int32)), (.ref b3)]))
  refine A (XS.iconst X23.here hx rfl (hb hby d1_53)) ?_
  show D (T23.setTop (mkF m 54 #[.val (.ref self), .val (.ref p1), .val (.int (2 : Int32)), .val (.int (0 : Int32)), .unset] [(.int (1 : Int32)), (.int (0 : Int32)), (.ref b3)]))
  refine A (XS.iadd X23.here hx rfl (hb hby d1_54) rfl) ?_
  show D (T23.setTop (mkF m 55 #[.val (.ref self), .val (.ref p1), .val (.int (2 : Int32)), .val (.int (0 : Int32)), .unset] [(.int ((0 : Int32) + (1 : Int32))), (.ref b3)]))
  suffices Kq24 : ∀ q24 : Int32, q24 = (1 : Int32) → D (T23.setTop (mkF m 55 #[.val (.ref self), .val (.ref p1), .val (.int (2 : Int32)), .val (.int (0 : Int32)), .unset] [(.int q24), (.ref b3)])) from Kq24 _ (by decide)
  rintro _ rfl
  show D (T23.setTop (mkF m 55 #[.val (.ref self), .val (.ref p1), .val (.int (2 : Int32)), .val (.int (0 : Int32)), .unset] [(.int (1 : Int32)), (.ref b3)]))
  refine A (S' := T23.setTop (mkF m 56 #[.val (.ref self), .val (.ref p1), .val (.int (2 : Int32)), .val (.int (0 : Int32)), .unset] [(.int (1 : Int32)), (.ref b3), (.int (1 : Int32)), (.ref b3)])) (fun {t} kt => ?_) ?_
  · jvm_step X23.here [X23.here.top, hx, (hb hby d1_55), Value.category]
    exact kt
  show D (T23.setTop (mkF m 56 #[.val (.ref self), .val (.ref p1), .val (.int (2 : Int32)), .val (.int (0 : Int32)), .unset] [(.int (1 : Int32)), (.ref b3), (.int (1 : Int32)), (.ref b3)]))
  refine Adv.ldI A X23 hx hZ e23 Vc22 (k := 1) (by decide) (by decide) (g := (mkF m 56 #[.val (.ref self), .val (.ref p1), .val (.int (2 : Int32)), .val (.int (0 : Int32)), .unset] [(.int (1 : Int32)), (.ref b3), (.int (1 : Int32)), (.ref b3)])) rfl rfl (hb hby d1_56) ?_
  show D (T23.setTop (mkF m 57 #[.val (.ref self), .val (.ref p1), .val (.int (2 : Int32)), .val (.int (0 : Int32)), .unset] [(.int (Int32.ofNat (own_p0 k0 k1 k2 k3 1))), (.int (1 : Int32)), (.ref b3)]))
  refine A (XS.aloadN X23.here hx rfl (hb hby d1_57) rfl rfl) ?_
  show D (T23.setTop (mkF m 58 #[.val (.ref self), .val (.ref p1), .val (.int (2 : Int32)), .val (.int (0 : Int32)), .unset] [(.ref self), (.int (Int32.ofNat (own_p0 k0 k1 k2 k3 1))), (.int (1 : Int32)), (.ref b3)]))
  obtain ⟨T25, X25, e25, st25⟩ := getF X23 hx hZ hown (host := "") (Or.inl (hw _ (List.mem_of_getElem? (i := 11) rfl))) Via.refl e23 F_start_19 (g := (mkF m 58 #[.val (.ref self), .val (.ref p1), .val (.int (2 : Int32)), .val (.int (0 : Int32)), .unset] [(.ref self), (.int (Int32.ofNat (own_p0 k0 k1 k2 k3 1))), (.int (1 : Int32)), (.ref b3)])) rfl rfl (hb hby d1_58)
  refine A (st25 _) ?_
  show D (T25.setTop (mkF m 61 #[.val (.ref self), .val (.ref p1), .val (.int (2 : Int32)), .val (.int (0 : Int32)), .unset] [(.ref b3), (.int (Int32.ofNat (own_p0 k0 k1 k2 k3 1))), (.int (1 : Int32)), (.ref b3)]))
  refine A (XS.iloadN X25.here hx rfl (hb hby d1_61) rfl) ?_
  show D (T25.setTop (mkF m 62 #[.val (.ref self), .val (.ref p1), .val (.int (2 : Int32)), .val (.int (0 : Int32)), .unset] [(.int (0 : Int32)), (.ref b3), (.int (Int32.ofNat (own_p0 k0 k1 k2 k3 1))), (.int (1 : Int32)), (.ref b3)]))
  refine Adv.ldI A X25 hx hZ e25 Vc22 (k := 0) (by decide) (by decide) (g := (mkF m 62 #[.val (.ref self), .val (.ref p1), .val (.int (2 : Int32)), .val (.int (0 : Int32)), .unset] [(.int (0 : Int32)), (.ref b3), (.int (Int32.ofNat (own_p0 k0 k1 k2 k3 1))), (.int (1 : Int32)), (.ref b3)])) rfl rfl (hb hby d1_62) ?_
  show D (T25.setTop (mkF m 63 #[.val (.ref self), .val (.ref p1), .val (.int (2 : Int32)), .val (.int (0 : Int32)), .unset] [(.int (Int32.ofNat (own_p0 k0 k1 k2 k3 0))), (.int (Int32.ofNat (own_p0 k0 k1 k2 k3 1))), (.int (1 : Int32)), (.ref b3)]))
  refine A (XS.iadd X25.here hx rfl (hb hby d1_63) rfl) ?_
  show D (T25.setTop (mkF m 64 #[.val (.ref self), .val (.ref p1), .val (.int (2 : Int32)), .val (.int (0 : Int32)), .unset] [(.int ((Int32.ofNat (own_p0 k0 k1 k2 k3 1)) + (Int32.ofNat (own_p0 k0 k1 k2 k3 0)))), (.int (1 : Int32)), (.ref b3)]))
  refine Adv.stI A X25 hx hZ e25 Vc22 (k := 1) (by decide) (by decide) (g := (mkF m 64 #[.val (.ref self), .val (.ref p1), .val (.int (2 : Int32)), .val (.int (0 : Int32)), .unset] [(.int ((Int32.ofNat (own_p0 k0 k1 k2 k3 1)) + (Int32.ofNat (own_p0 k0 k1 k2 k3 0)))), (.int (1 : Int32)), (.ref b3)])) rfl rfl (hb hby d1_64) ?_
  intro T26 h26 X26 e26 W26 Vb3_26
  have N26 := Fr.snoc X26 N19 g_b3
  have E_self_26 := E_self_19.wr W26
  have F_start_26 := F_start_19.other W26 (Or.inl ne_self_b3)
  have F_rows_26 := F_rows_19.other W26 (Or.inl ne_self_b3)
  have V_p1_26 := V_p1_19.other W26 ne_p1_b3
  have EA_b3_26 := EA_b3_19.wr W26
  have Z_26 : n0 ≤ h26.size := Nat.le_trans Z_19 (Nat.le_of_eq W26.size.symm)
  have KK_26 : Keep h0 h26 [self] := KK_19.wr W26 (Or.inr sz_b3)
  show D (T26.setTop (mkF m 65 #[.val (.ref self), .val (.ref p1), .val (.int (2 : Int32)), .val (.int (0 : Int32)), .unset] []))
  have Vc27 : ArI Z h26 b3 .int 3 (fun i => Int32.ofNat (own_p1 k0 k1 k2 k3 i)) := Vb3_26.eqf (fun i hi => own_l2_0 k0 (by omega) k1 (by omega) k2 (by omega) k3 (by omega) i (by omega))
  refine A (XS.iinc X26.here hx rfl (hb hby d1_65) rfl (l' := #[.val (.ref self), .val (.ref p1), .val (.int (2 : Int32)), .val (.int ((0 : Int32) + (1 : Int32))), .unset]) rfl) ?_
  show D (T26.setTop (mkF m 68 #[.val (.ref self), .val (.ref p1), .val (.int (2 : Int32)), .val (.int ((0 : Int32) + (1 : Int32))), .unset] []))
  suffices Kq28 : ∀ q28 : Int32, q28 = (1 : Int32) → D (T26.setTop (mkF m 68 #[.val (.ref self), .val (.ref p1), .val (.int (2 : Int32)), .val (.int q28), .unset] [])) from Kq28 _ (by decide)
  rintro _ rfl
  show D (T26.setTop (mkF m 68 #[.val (.ref self), .val (.ref p1), .val (.int (2 : Int32)), .val (.int (1 : Int32)), .unset] []))
  refine A (XS.goto X26.here hx rfl (pc0 := 68) (pc' := 43) rfl (hb hby d1_68) (by decide) (by decide)) ?_
  show D (T26.setTop (mkF m 43 #[.val (.ref self), .val (.ref p1), .val (.int (2 : Int32)), .val (.int (1 : Int32)), .unset] []))
  refine A (XS.iloadN X26.here hx rfl (hb hby d1_43) rfl) ?_
  show D (T26.setTop (mkF m 44 #[.val (.ref self), .val (.ref p1), .val (.int (2 : Int32)), .val (.int (1 : Int32)), .unset] [(.int (1 : Int32))]))
  refine A (XS.iloadN X26.here hx rfl (hb hby d1_44) rfl) ?_
  show D (T26.setTop (mkF m 45 #[.val (.ref self), .val (.ref p1), .val (.int (2 : Int32)), .val (.int (1 : Int32)), .unset] [(.int (2 : Int32)), (.int (1 : Int32))]))
  refine A (XS.icmpNo X26.here hx rfl (hb hby d1_45) rfl (tlt (by decide : (1 : Int32) < (2 : Int32))).2.1) ?_
  show D (T26.setTop (mkF m 48 #[.val (.ref self), .val (.ref p1), .val (.int (2 : Int32)), .val (.int (1 : Int32)), .unset] []))
  refine A (XS.aloadN X26.here hx rfl (hb hby d1_48) rfl rfl) ?_
  show D (T26.setTop (mkF m 49 #[.val (.ref self), .val (.ref p1), .val (.int (2 : Int32)), .val (.int (1 : Int32)), .unset] [(.ref self)]))
  obtain ⟨T29, X29, e29, st29⟩ := getF X26 hx hZ hown (host := "") (Or.inl (hw _ (List.mem_of_getElem? (i := 11) rfl))) Via.refl e26 F_start_26 (g := (mkF m 49 #[.val (.ref self), .val (.ref p1), .val (.int (2 : Int32)), .val (.int (1 : Int32)), .unset] [(.ref self)])) rfl rfl (hb hby d1_49)
  refine A (st29 _) ?_
  show D (T29.setTop (mkF m 52 #[.val (.ref self), .val (.ref p1), .val (.int (2 : Int32)), .val (.int (1 : Int32)), .unset] [(.ref b3)]))
  refine A (XS.iloadN X29.here hx rfl (hb hby d1_52) rfl) ?_
  show D (T29.setTop (mkF m 53 #[.val (.ref self), .val (.ref p1), .val (.int (2 : Int32)), .val (.int (1 : Int32)), .unset] [(.int (1 : Int32)), (.ref b3)]))
  refine A (XS.iconst X29.here hx rfl (hb hby d1_53)) ?_
  show D (T29.setTop (mkF m 54 #[.val (.ref self), .val (.ref p1), .val (.int (2 : Int32)), .val (.int (1 : Int32)), .unset] [(.int (1 : Int32)), (.int (1 : Int32)), (.ref b3)]))
  refine A (XS.iadd X29.here hx rfl (hb hby d1_54) rfl) ?_
  show D (T29.setTop (mkF m 55 #[.val (.ref self), .val (.ref p1), .val (.int (2 : Int32)), .val (.int (1 : Int32)), .unset] [(.int ((1 : Int32) + (1 : Int32))), (.ref b3)]))
  suffices Kq30 : ∀ q30 : Int32, q30 = (2 : Int32) → D (T29.setTop (mkF m 55 #[.val (.ref self), .val (.ref p1), .val (.int (2 : Int32)), .val (.int (1 : Int32)), .unset] [(.int q30), (.ref b3)])) from Kq30 _ (by decide)
  rintro _ rfl
  show D (T29.setTop (mkF m 55 #[.val (.ref self), .val (.ref p1), .val (.int (2 : Int32)), .val (.int (1 : Int32)), .unset] [(.int (2 : Int32)), (.ref b3)]))
  refine A (S' := T29.setTop (mkF m 56 #[.val (.ref self), .val (.ref p1), .val (.int (2 : Int32)), .val (.int (1 : Int32)), .unset] [(.int (2 : Int32)), (.ref b3), (.int (2 : Int32)), (.ref b3)])) (fun {t} kt => ?_) ?_
  · jvm_step X29.here [X29.here.top, hx, (hb hby d1_55), Value.category]
    exact kt
  show D (T29.setTop (mkF m 56 #[.val (.ref self), .val (.ref p1), .val (.int (2 : Int32)), .val (.int (1 : Int32)), .unset] [(.int (2 : Int32)), (.ref b3), (.int (2 : Int32)), (.ref b3)]))
  refine Adv.ldI A X29 hx hZ e29 Vc27 (k := 2) (by decide) (by decide) (g := (mkF m 56 #[.val (.ref self), .val (.ref p1), .val (.int (2 : Int32)), .val (.int (1 : Int32)), .unset] [(.int (2 : Int32)), (.ref b3), (.int (2 : Int32)), (.ref b3)])) rfl rfl (hb hby d1_56) ?_
  show D (T29.setTop (mkF m 57 #[.val (.ref self), .val (.ref p1), .val (.int (2 : Int32)), .val (.int (1 : Int32)), .unset] [(.int (Int32.ofNat (own_p1 k0 k1 k2 k3 2))), (.int (2 : Int32)), (.ref b3)]))
  refine A (XS.aloadN X29.here hx rfl (hb hby d1_57) rfl rfl) ?_
  show D (T29.setTop (mkF m 58 #[.val (.ref self), .val (.ref p1), .val (.int (2 : Int32)), .val (.int (1 : Int32)), .unset] [(.ref self), (.int (Int32.ofNat (own_p1 k0 k1 k2 k3 2))), (.int (2 : Int32)), (.ref b3)]))
  obtain ⟨T31, X31, e31, st31⟩ := getF X29 hx hZ hown (host := "") (Or.inl (hw _ (List.mem_of_getElem? (i := 11) rfl))) Via.refl e29 F_start_26 (g := (mkF m 58 #[.val (.ref self), .val (.ref p1), .val (.int (2 : Int32)), .val (.int (1 : Int32)), .unset] [(.ref self), (.int (Int32.ofNat (own_p1 k0 k1 k2 k3 2))), (.int (2 : Int32)), (.ref b3)])) rfl rfl (hb hby d1_58)
  refine A (st31 _) ?_
  show D (T31.setTop (mkF m 61 #[.val (.ref self), .val (.ref p1), .val (.int (2 : Int32)), .val (.int (1 : Int32)), .unset] [(.ref b3), (.int (Int32.ofNat (own_p1 k0 k1 k2 k3 2))), (.int (2 : Int32)), (.ref b3)]))
  refine A (XS.iloadN X31.here hx rfl (hb hby d1_61) rfl) ?_
  show D (T31.setTop (mkF m 62 #[.val (.ref self), .val (.ref p1), .val (.int (2 : Int32)), .val (.int (1 : Int32)), .unset] [(.int (1 : Int32)), (.ref b3), (.int (Int32.ofNat (own_p1 k0 k1 k2 k3 2))), (.int (2 : Int32)), (.ref b3)]))
  refine Adv.ldI A X31 hx hZ e31 Vc27 (k := 1) (by decide) (by decide) (g := (mkF m 62 #[.val (.ref self), .val (.ref p1), .val (.int (2 : Int32)), .val (.int (1 : Int32)), .unset] [(.int (1 : Int32)), (.ref b3), (.int (Int32.ofNat (own_p1 k0 k1 k2 k3 2))), (.int (2 : Int32)), (.ref b3)])) rfl rfl (hb hby d1_62) ?_
  show D (T31.setTop (mkF m 63 #[.val (.ref self), .val (.ref p1), .val (.int (2 : Int32)), .val (.int (1 : Int32)), .unset] [(.int (Int32.ofNat (own_p1 k0 k1 k2 k3 1))), (.int (Int32.ofNat (own_p1 k0 k1 k2 k3 2))), (.int (2 : Int32)), (.ref b3)]))
  refine A (XS.iadd X31.here hx rfl (hb hby d1_63) rfl) ?_
  show D (T31.setTop (mkF m 64 #[.val (.ref self), .val (.ref p1), .val (.int (2 : Int32)), .val (.int (1 : Int32)), .unset] [(.int ((Int32.ofNat (own_p1 k0 k1 k2 k3 2)) + (Int32.ofNat (own_p1 k0 k1 k2 k3 1)))), (.int (2 : Int32)), (.ref b3)]))
  refine Adv.stI A X31 hx hZ e31 Vc27 (k := 2) (by decide) (by decide) (g := (mkF m 64 #[.val (.ref self), .val (.ref p1), .val (.int (2 : Int32)), .val (.int (1 : Int32)), .unset] [(.int ((Int32.ofNat (own_p1 k0 k1 k2 k3 2)) + (Int32.ofNat (own_p1 k0 k1 k2 k3 1)))), (.int (2 : Int32)), (.ref b3)])) rfl rfl (hb hby d1_64) ?_
  intro T32 h32 X32 e32 W32 Vb3_32
  have N32 := Fr.snoc X32 N26 g_b3
  have E_self_32 := E_self_26.wr W32
  have F_start_32 := F_start_26.other W32 (Or.inl ne_self_b3)
  have F_rows_32 := F_rows_26.other W32 (Or.inl ne_self_b3)
  have V_p1_32 := V_p1_26.other W32 ne_p1_b3
  have EA_b3_32 := EA_b3_26.wr W32
  have Z_32 : n0 ≤ h32.size := Nat.le_trans Z_26 (Nat.le_of_eq W32.size.symm)
  have KK_32 : Keep h0 h32 [self] := KK_26.wr W32 (Or.inr sz_b3)
  show D (T32.setTop (mkF m 65 #[.val (.ref self), .val (.ref p1), .val (.int (2 : Int32)), .val (.int (1 : Int32)), .unset] []))
  have Vc33 : ArI Z h32 b3 .int 3 (fun i => Int32.ofNat (own_p2 k0 k1 k2 k3 i)) := Vb3_32.eqf (fun i hi => own_l2_1 k0 (by omega) k1 (by omega) k2 (by omega) k3 (by omega) i (by omega))
  refine A (XS.iinc X32.here hx rfl (hb hby d1_65) rfl (l' := #[.val (.ref self), .val (.ref p1), .val (.int (2 : Int32)), .val (.int ((1 : Int32) + (1 : Int32))), .unset]) rfl) ?_
  show D (T32.setTop (mkF m 68 #[.val (.ref self), .val (.ref p1), .val (.int (2 : Int32)), .val (.int ((1 : Int32) + (1 : Int32))), .unset] []))
  suffices Kq34 : ∀ q34 : Int32, q34 = (2 : Int32) → D (T32.setTop (mkF m 68 #[.val (.ref self), .val (.ref p1), .val (.int (2 : Int32)), .val (.int q34), .unset] [])) from Kq34 _ (by decide)
  rintro _ rfl
  show D (T32.setTop (mkF m 68 #[.val (.ref self), .val (.ref p1), .val (.int (2 : Int32)), .val (.int (2 : Int32)), .unset] []))
  refine A (XS.goto X32.here hx rfl (pc0 := 68) (pc' := 43) rfl (hb hby d1_68) (by decide) (by decide)) ?_
  show D (T32.setTop (mkF m 43 #[.val (.ref self), .val (.ref p1), .val (.int (2 : Int32)), .val (.int (2 : Int32)), .unset] []))
  refine A (XS.iloadN X32.here hx rfl (hb hby d1_43) rfl) ?_
  show D (T32.setTop (mkF m 44 #[.val (.ref self), .val (.ref p1), .val (.int (2 : Int32)), .val (.int (2 : Int32)), .unset] [(.int (2 : Int32))]))
  refine A (XS.iloadN X32.here hx rfl (hb hby d1_44) rfl) ?_
  show D (T32.setTop (mkF m 45 #[.val (.ref self), .val (.ref p1), .val (.int (2 : Int32)), .val (.int (2 : Int32)), .unset] [(.int (2 : Int32)), (.int (2 : Int32))]))
  refine A (XS.icmpYes X32.here hx rfl (pc0 := 45) (pc' := 71) rfl (hb hby d1_45) rfl (flt (by decide : ¬ ((2 : Int32) < (2 : Int32)))).2.1 (by decide) (by decide)) ?_
  show D (T32.setTop (mkF m 71 #[.val (.ref self), .val (.ref p1), .val (.int (2 : Int32)), .val (.int (2 : Int32)), .unset] []))
  have Vc35 : ArI Z h32 b3 .int 3 (fun i => Int32.ofNat (own_c0 k0 k1 k2 k3 i)) := Vc33.eqf (fun i hi => own_l23_2 k0 (by omega) k1 (by omega) k2 (by omega) k3 (by omega) i hi)
  refine A (XS.aloadN X32.here hx rfl (hb hby d1_71) rfl rfl) ?_
  show D (T32.setTop (mkF m 72 #[.val (.ref self), .val (.ref p1), .val (.int (2 : Int32)), .val (.int (2 : Int32)), .unset] [(.ref self)]))
  refine A (XS.aloadN X32.here hx rfl (hb hby d1_72) rfl rfl) ?_
  show D (T32.setTop (mkF m 73 #[.val (.ref self), .val (.ref p1), .val (.int (2 : Int32)), .val (.int (2 : Int32)), .unset] [(.ref p1), (.ref self)]))
  refine Adv.lenI A X32 hx hZ e32 V_p1_32 (g := (mkF m 73 #[.val (.ref self), .val (.ref p1), .val (.int (2 : Int32)), .val (.int (2 : Int32)), .unset] [(.ref p1), (.ref self)])) rfl rfl (hb hby d1_73) ?_
  show D (T32.setTop (mkF m 74 #[.val (.ref self), .val (.ref p1), .val (.int (2 : Int32)), .val (.int (2 : Int32)), .unset] [(.int (4 : Int32)), (.ref self)]))
  refine Adv.newI A X32 hx hZ (aty := .int) (hw _ (List.mem_of_getElem? (i := 1) rfl)) e32 (n := 4) (by decide) 4 (by decide) (by decide) rfl (ad := "[I") (by decide) (by decide) (by decide) (g := (mkF m 74 #[.val (.ref self), .val (.ref p1), .val (.int (2 : Int32)), .val (.int (2 : Int32)), .unset] [(.int (4 : Int32)), (.ref self)])) rfl rfl (hb hby d1_74) ?_
  intro T36 h36 b36 q_b36 X36 e36 E36 V_b36 EA_b36
  have ne_self_b36 : self ≠ b36 := Nat.ne_of_lt (Nat.lt_of_lt_of_le E_self_32.lt (Nat.le_of_eq q_b36.symm))
  have ne_p1_b36 : p1 ≠ b36 := Nat.ne_of_lt (Nat.lt_of_lt_of_le V_p1_32.lt (Nat.le_of_eq q_b36.symm))
  have ne_b3_b36 : b3 ≠ b36 := Nat.ne_of_lt (Nat.lt_of_lt_of_le Vc35.lt (Nat.le_of_eq q_b36.symm))
  have g_b36 : n0 ≤ b36 := Nat.le_trans Z_32 (Nat.le_of_eq q_b36.symm)
  have sz_b36 : h0.size ≤ b36 := Nat.le_trans KK_32.1 (Nat.le_of_eq q_b36.symm)
  have E_self_36 := E_self_32.ext E36
  have F_start_36 := F_start_32.ext E36
  have F_rows_36 := F_rows_32.ext E36
  have V_p1_36 := V_p1_32.ext E36
  have V_b3_36 := Vc35.ext E36
  have EA_b3_36 := EA_b3_32.ext E36
  have Z_36 : n0 ≤ h36.size := Nat.le_trans Z_32 E36.1
  have KK_36 : Keep h0 h36 [self] := KK_32.ext E36
  show D (T36.setTop (mkF m 76 #[.val (.ref self), .val (.ref p1), .val (.int (2 : Int32)), .val (.int (2 : Int32)), .unset] [(.ref b36), (.ref self)]))
  obtain ⟨T37, h37, X37, e37, W37, st37⟩ := putF X36 hx hZ hown (host := "") (Or.inl (hw _ (List.mem_of_getElem? (i := 13) rfl))) Via.refl e36 F_rows_36 E_self_36 (Or.inr ⟨(hw _ (List.mem_of_getElem? (i := 14) rfl)), rfl, hnm⟩) (hw _ (List.mem_of_getElem? (i := 3) rfl)) (ty := (.array .int)) (by decide) rfl rfl (g := (mkF m 76 #[.val (.ref self), .val (.ref p1), .val (.int (2 : Int32)), .val (.int (2 : Int32)), .unset] [(.ref b36), (.ref self)])) rfl rfl (hb hby d1_76)
  have N37 := Fr.snoc X37 N32 g_self
  have F_rows_37 := F_rows_36.same W37
  have E_self_37 := E_self_36.wr W37
  have F_start_37 := F_start_36.other W37 (Or.inr (slot_ne (Or.inr (hw _ (List.mem_of_getElem? (i := 12) rfl))) (Or.inr (hw _ (List.mem_of_getElem? (i := 14) rfl))) (by decide) (t := (.array .int)) (t' := (.array .int)) (by decide) (by decide)))
  have V_p1_37 := V_p1_36.other W37 (Ne.symm (ne_ari E_self_36 (hw _ (List.mem_of_getElem? (i := 3) rfl)) V_p1_36))
  have V_b3_37 := V_b3_36.other W37 (Ne.symm ne_self_b3)
  have EA_b3_37 := EA_b3_36.wr W37
  have V_b36_37 := V_b36.other W37 (Ne.symm ne_self_b36)
  have EA_b36_37 := EA_b36.wr W37
  have Z_37 : n0 ≤ h37.size := Nat.le_trans Z_36 (Nat.le_of_eq W37.size.symm)
  have KK_37 : Keep h0 h37 [self] := KK_36.wr W37 (Or.inl (List.mem_of_getElem? (i := 0) rfl))
  refine A (st37 _) ?_
  show D (T37.setTop (mkF m 79 #[.val (.ref self), .val (.ref p1), .val (.int (2 : Int32)), .val (.int (2 : Int32)), .unset] []))
  refine A (XS.aloadN X37.here hx rfl (hb hby d1_79) rfl rfl) ?_
  show D (T37.setTop (mkF m 80 #[.val (.ref self), .val (.ref p1), .val (.int (2 : Int32)), .val (.int (2 : Int32)), .unset] [(.ref self)]))
  obtain ⟨T38, X38, e38, st38⟩ := getF X37 hx hZ hown (host := "") (Or.inl (hw _ (List.mem_of_getElem? (i := 11) rfl))) Via.refl e37 F_start_37 (g := (mkF m 80 #[.val (.ref self), .val (.ref p1), .val (.int (2 : Int32)), .val (.int (2 : Int32)), .unset] [(.ref self)])) rfl rfl (hb hby d1_80)
  refine A (st38 _) ?_
  show D (T38.setTop (mkF m 83 #[.val (.ref self), .val (.ref p1), .val (.int (2 : Int32)), .val (.int (2 : Int32)), .unset] [(.ref b3)]))
  refine Adv.cloneI A X38 hx hZ hown (hw _ (List.mem_of_getElem? (i := 15) rfl)) (hw _ (List.mem_of_getElem? (i := 16) rfl)) (hw _ (List.mem_of_getElem? (i := 20) rfl)) (hw _ (List.mem_of_getElem? (i := 18) rfl)) (hw _ (List.mem_of_getElem? (i := 19) rfl)) (hw _ (List.mem_of_getElem? (i := 21) rfl)) e38 V_b3_37 (fun _ _ => rfl) EA_b3_37 0 3 (by decide) (g := (mkF m 83 #[.val (.ref self), .val (.ref p1), .val (.int (2 : Int32)), .val (.int (2 : Int32)), .unset] [(.ref b3)])) rfl (by rw [hml]; rfl) rfl (hb hby d1_83) (by show 2 * 0 + _ ≤ _; exact Nat.le_of_eq rfl) (by decide) (by decide) (by decide) (by decide) ?_
  intro T39 h39 b39 q_b39 X39 e39 E39 V_b39 EA_b39
  have ne_self_b39 : self ≠ b39 := Nat.ne_of_lt (Nat.lt_of_lt_of_le E_self_37.lt (Nat.le_of_eq q_b39.symm))
  have ne_p1_b39 : p1 ≠ b39 := Nat.ne_of_lt (Nat.lt_of_lt_of_le V_p1_37.lt (Nat.le_of_eq q_b39.symm))
  have ne_b3_b39 : b3 ≠ b39 := Nat.ne_of_lt (Nat.lt_of_lt_of_le V_b3_37.lt (Nat.le_of_eq q_b39.symm))
  have ne_b36_b39 : b36 ≠ b39 := Nat.ne_of_lt (Nat.lt_of_lt_of_le V_b36_37.lt (Nat.le_of_eq q_b39.symm))
  have g_b39 : n0 ≤ b39 := Nat.le_trans Z_37 (Nat.le_of_eq q_b39.symm)
  have sz_b39 : h0.size ≤ b39 := Nat.le_trans KK_37.1 (Nat.le_of_eq q_b39.symm)
  have E_self_39 := E_self_37.ext E39
  have F_start_39 := F_start_37.ext E39
  have F_rows_39 := F_rows_37.ext E39
  have V_p1_39 := V_p1_37.ext E39
  have V_b3_39 := V_b3_37.ext E39
  have EA_b3_39 := EA_b3_37.ext E39
  have V_b36_39 := V_b36_37.ext E39
  have EA_b36_39 := EA_b36_37.ext E39
  have Z_39 : n0 ≤ h39.size := Nat.le_trans Z_37 E39.1
  have KK_39 : Keep h0 h39 [self] := KK_37.ext E39
  show D (T39.setTop (mkF m 86 #[.val (.ref self), .val (.ref p1), .val (.int (2 : Int32)), .val (.int (2 : Int32)), .unset] [(.ref b39)]))
  obtain ⟨T40, X40, e40, st40⟩ := castY X39 hx hZ hown (hw _ (List.mem_of_getElem? (i := 22) rfl)) e39 (Ins.self EA_b39) (g := (mkF m 86 #[.val (.ref self), .val (.ref p1), .val (.int (2 : Int32)), .val (.int (2 : Int32)), .unset] [(.ref b39)])) rfl rfl (hb hby d1_86)
  refine A (st40 _) ?_
  show D (T40.setTop (mkF m 89 #[.val (.ref self), .val (.ref p1), .val (.int (2 : Int32)), .val (.int (2 : Int32)), .unset] [(.ref b39)]))
  refine A (XS.astoreN X40.here hx rfl (hb hby d1_89) rfl rfl (l' := #[.val (.ref self), .val (.ref p1), .val (.int (2 : Int32)), .val (.ref b39), .unset]) rfl) ?_
  show D (T40.setTop (mkF m 90 #[.val (.ref self), .val (.ref p1), .val (.int (2 : Int32)), .val (.ref b39), .unset] []))
  refine A (XS.iconst X40.here hx rfl (hb hby d1_90)) ?_
  show D (T40.setTop (mkF m 91 #[.val (.ref self), .val (.ref p1), .val (.int (2 : Int32)), .val (.ref b39), .unset] [(.int (0 : Int32))]))
  refine A (XS.istore X40.here hx rfl (hb hby d1_91) rfl (l' := #[.val (.ref self), .val (.ref p1), .val (.int (2 : Int32)), .val (.ref b39), .val (.int (0 : Int32))]) rfl) ?_
  show D (T40.setTop (mkF m 93 #[.val (.ref self), .val (.ref p1), .val (.int (2 : Int32)), .val (.ref b39), .val (.int (0 : Int32))] []))
  refine A (XS.iload X40.here hx rfl (hb hby d1_93) rfl) ?_
  show D (T40.setTop (mkF m 95 #[.val (.ref self), .val (.ref p1), .val (.int (2 : Int32)), .val (.ref b39), .val (.int (0 : Int32))] [(.int (0 : Int32))]))
  refine A (XS.aloadN X40.here hx rfl (hb hby d1_95) rfl rfl) ?_
  show D (T40.setTop (mkF m 96 #[.val (.ref self), .val (.ref p1), .val (.int (2 : Int32)), .val (.ref b39), .val (.int (0 : Int32))] [(.ref p1), (.int (0 : Int32))]))
  refine Adv.lenI A X40 hx hZ e40 V_p1_39 (g := (mkF m 96 #[.val (.ref self), .val (.ref p1), .val (.int (2 : Int32)), .val (.ref b39), .val (.int (0 : Int32))] [(.ref p1), (.int (0 : Int32))])) rfl rfl (hb hby d1_96) ?_
  show D (T40.setTop (mkF m 97 #[.val (.ref self), .val (.ref p1), .val (.int (2 : Int32)), .val (.ref b39), .val (.int (0 : Int32))] [(.int (4 : Int32)), (.int (0 : Int32))]))
  refine A (XS.icmpNo X40.here hx rfl (hb hby d1_97) rfl (tlt (by decide : (0 : Int32) < (4 : Int32))).2.1) ?_
  show D (T40.setTop (mkF m 100 #[.val (.ref self), .val (.ref p1), .val (.int (2 : Int32)), .val (.ref b39), .val (.int (0 : Int32))] []))
  refine A (XS.aloadN X40.here hx rfl (hb hby d1_100) rfl rfl) ?_
  show D (T40.setTop (mkF m 101 #[.val (.ref self), .val (.ref p1), .val (.int (2 : Int32)), .val (.ref b39), .val (.int (0 : Int32))] [(.ref self)]))
  obtain ⟨T41, X41, e41, st41⟩ := getF X40 hx hZ hown (host := "") (Or.inl (hw _ (List.mem_of_getElem? (i := 13) rfl))) Via.refl e40 F_rows_39 (g := (mkF m 101 #[.val (.ref self), .val (.ref p1), .val (.int (2 : Int32)), .val (.ref b39), .val (.int (0 : Int32))] [(.ref self)])) rfl rfl (hb hby d1_101)
  refine A (st41 _) ?_
  show D (T41.setTop (mkF m 104 #[.val (.ref self), .val (.ref p1), .val (.int (2 : Int32)), .val (.ref b39), .val (.int (0 : Int32))] [(.ref b36)]))
  refine A (XS.aloadN X41.here hx rfl (hb hby d1_104) rfl rfl) ?_
  show D (T41.setTop (mkF m 105 #[.val (.ref self), .val (.ref p1), .val (.int (2 : Int32)), .val (.ref b39), .val (.int (0 : Int32))] [(.ref b39), (.ref b36)]))
  refine A (XS.aloadN X41.here hx rfl (hb hby d1_105) rfl rfl) ?_
  show D (T41.setTop (mkF m 106 #[.val (.ref self), .val (.ref p1), .val (.int (2 : Int32)), .val (.ref b39), .val (.int (0 : Int32))] [(.ref p1), (.ref b39), (.ref b36)]))
  refine A (XS.iload X41.here hx rfl (hb hby d1_106) rfl) ?_
  show D (T41.setTop (mkF m 108 #[.val (.ref self), .val (.ref p1), .val (.int (2 : Int32)), .val (.ref b39), .val (.int (0 : Int32))] [(.int (0 : Int32)), (.ref p1), (.ref b39), (.ref b36)]))
  refine Adv.ldI A X41 hx hZ e41 V_p1_39 (k := 0) (by decide) (by decide) (g := (mkF m 108 #[.val (.ref self), .val (.ref p1), .val (.int (2 : Int32)), .val (.ref b39), .val (.int (0 : Int32))] [(.int (0 : Int32)), (.ref p1), (.ref b39), (.ref b36)])) rfl rfl (hb hby d1_108) ?_
  show D (T41.setTop (mkF m 109 #[.val (.ref self), .val (.ref p1), .val (.int (2 : Int32)), .val (.ref b39), .val (.int (0 : Int32))] [(.int (Int32.ofNat k0)), (.ref b39), (.ref b36)]))
  refine Adv.ldI A X41 hx hZ e41 V_b39 (k := k0) (own_of (by omega)) (by omega) (g := (mkF m 109 #[.val (.ref self), .val (.ref p1), .val (.int (2 : Int32)), .val (.ref b39), .val (.int (0 : Int32))] [(.int (Int32.ofNat k0)), (.ref b39), (.ref b36)])) rfl rfl (hb hby d1_109) ?_
  show D (T41.setTop (mkF m 110 #[.val (.ref self), .val (.ref p1), .val (.int (2 : Int32)), .val (.ref b39), .val (.int (0 : Int32))] [(.int (Int32.ofNat (own_c0 k0 k1 k2 k3 k0))), (.ref b36)]))
  refine A (XS.iload X41.here hx rfl (hb hby d1_110) rfl) ?_
  show D (T41.setTop (mkF m 112 #[.val (.ref self), .val (.ref p1), .val (.int (2 : Int32)), .val (.ref b39), .val (.int (0 : Int32))] [(.int (0 : Int32)), (.int (Int32.ofNat (own_c0 k0 k1 k2 k3 k0))), (.ref b36)]))
  refine Adv.stI A X41 hx hZ e41 V_b36_39 (k := (own_c0 k0 k1 k2 k3 k0)) (own_of (own_b3_0 k0 (by omega) k1 (by omega) k2 (by omega) k3 (by omega))) (own_b3_0 k0 (by omega) k1 (by omega) k2 (by omega) k3 (by omega)) (g := (mkF m 112 #[.val (.ref self), .val (.ref p1), .val (.int (2 : Int32)), .val (.ref b39), .val (.int (0 : Int32))] [(.int (0 : Int32)), (.int (Int32.ofNat (own_c0 k0 k1 k2 k3 k0))), (.ref b36)])) rfl rfl (hb hby d1_112) ?_
  intro T42 h42 X42 e42 W42 Vb36_42
  have N42 := Fr.snoc X42 N37 g_b36
  have E_self_42 := E_self_39.wr W42
  have F_start_42 := F_start_39.other W42 (Or.inl ne_self_b36)
  have F_rows_42 := F_rows_39.other W42 (Or.inl ne_self_b36)
  have V_p1_42 := V_p1_39.other W42 ne_p1_b36
  have V_b3_42 := V_b3_39.other W42 ne_b3_b36
  have EA_b3_42 := EA_b3_39.wr W42
  have EA_b36_42 := EA_b36_39.wr W42
  have V_b39_42 := V_b39.other W42 (Ne.symm ne_b36_b39)
  have EA_b39_42 := EA_b39.wr W42
  have Z_42 : n0 ≤ h42.size := Nat.le_trans Z_39 (Nat.le_of_eq W42.size.symm)
  have KK_42 : Keep h0 h42 [self] := KK_39.wr W42 (Or.inr sz_b36)
  show D (T42.setTop (mkF m 113 #[.val (.ref self), .val (.ref p1), .val (.int (2 : Int32)), .val (.ref b39), .val (.int (0 : Int32))] []))
  obtain ⟨fn43, hfn43⟩ : ∃ z : Nat → Int32, z = (fun ix => if ix = (own_c0 k0 k1 k2 k3 k0) then (0 : Int32) else (fun _ => 0) ix) := ⟨_, rfl⟩
  rw [← hfn43] at Vb36_42
  refine A (XS.aloadN X42.here hx rfl (hb hby d1_113) rfl rfl) ?_
  show D (T42.setTop (mkF m 114 #[.val (.ref self), .val (.ref p1), .val (.int (2 : Int32)), .val (.ref b39), .val (.int (0 : Int32))] [(.ref b39)]))
  refine A (XS.aloadN X42.here hx rfl (hb hby d1_114) rfl rfl) ?_
  show D (T42.setTop (mkF m 115 #[.val (.ref self), .val (.ref p1), .val (.int (2 : Int32)), .val (.ref b39), .val (.int (0 : Int32))] [(.ref p1), (.ref b39)]))
  refine A (XS.iload X42.here hx rfl (hb hby d1_115) rfl) ?_
  show D (T42.setTop (mkF m 117 #[.val (.ref self), .val (.ref p1), .val (.int (2 : Int32)), .val (.ref b39), .val (.int (0 : Int32))] [(.int (0 : Int32)), (.ref p1), (.ref b39)]))
  refine Adv.ldI A X42 hx hZ e42 V_p1_42 (k := 0) (by decide) (by decide) (g := (mkF m 117 #[.val (.ref self), .val (.ref p1), .val (.int (2 : Int32)), .val (.ref b39), .val (.int (0 : Int32))] [(.int (0 : Int32)), (.ref p1), (.ref b39)])) rfl rfl (hb hby d1_117) ?_
  show D (T42.setTop (mkF m 118 #[.val (.ref self), .val (.ref p1), .val (.int (2 : Int32)), .val (.ref b39), .val (.int (0 : Int32))] [(.int (Int32.ofNat k0)), (.ref b39)]))
  refine A (S' := T42.setTop (mkF m 119 #[.val (.ref self), .val (.ref p1), .val (.int (2 : Int32)), .val (.ref b39), .val (.int (0 : Int32))] [(.int (Int32.ofNat k0)), (.ref b39), (.int (Int32.ofNat k0)), (.ref b39)])) (fun {t} kt => ?_) ?_
  · jvm_step X42.here [X42.here.top, hx, (hb hby d1_118), Value.category]
    exact kt
  show D (T42.setTop (mkF m 119 #[.val (.ref self), .val (.ref p1), .val (.int (2 : Int32)), .val (.ref b39), .val (.int (0 : Int32))] [(.int (Int32.ofNat k0)), (.ref b39), (.int (Int32.ofNat k0)), (.ref b39)]))
  refine Adv.ldI A X42 hx hZ e42 V_b39_42 (k := k0) (own_of (by omega)) (by omega) (g := (mkF m 119 #[.val (.ref self), .val (.ref p1), .val (.int (2 : Int32)), .val (.ref b39), .val (.int (0 : Int32))] [(.int (Int32.ofNat k0)), (.ref b39), (.int (Int32.ofNat k0)), (.ref b39)])) rfl rfl (hb hby d1_119) ?_
  show D (T42.setTop (mkF m 120 #[.val (.ref self), .val (.ref p1), .val (.int (2 : Int32)), .val (.ref b39), .val (.int (0 : Int32))] [(.int (Int32.ofNat (own_c0 k0 k1 k2 k3 k0))), (.int (Int32.ofNat k0)), (.ref b39)]))
  refine A (XS.iconst X42.here hx rfl (hb hby d1_120)) ?_
  show D (T42.setTop (mkF m 121 #[.val (.ref self), .val (.ref p1), .val (.int (2 : Int32)), .val (.ref b39), .val (.int (0 : Int32))] [(.int (1 : Int32)), (.int (Int32.ofNat (own_c0 k0 k1 k2 k3 k0))), (.int (Int32.ofNat k0)), (.ref b39)]))
  refine A (XS.iadd X42.here hx rfl (hb hby d1_121) rfl) ?_
  show D (T42.setTop (mkF m 122 #[.val (.ref self), .val (.ref p1), .val (.int (2 : Int32)), .val (.ref b39), .val (.int (0 : Int32))] [(.int ((Int32.ofNat (own_c0 k0 k1 k2 k3 k0)) + (1 : Int32))), (.int (Int32.ofNat k0)), (.ref b39)]))
  refine Adv.stI A X42 hx hZ e42 V_b39_42 (k := k0) (own_of (by omega)) (by omega) (g := (mkF m 122 #[.val (.ref self), .val (.ref p1), .val (.int (2 : Int32)), .val (.ref b39), .val (.int (0 : Int32))] [(.int ((Int32.ofNat (own_c0 k0 k1 k2 k3 k0)) + (1 : Int32))), (.int (Int32.ofNat k0)), (.ref b39)])) rfl rfl (hb hby d1_122) ?_
  intro T44 h44 X44 e44 W44 Vb39_44
  have N44 := Fr.snoc X44 N42 g_b39
  have E_self_44 := E_self_42.wr W44
  have F_start_44 := F_start_42.other W44 (Or.inl ne_self_b39)
  have F_rows_44 := F_rows_42.other W44 (Or.inl ne_self_b39)
  have V_p1_44 := V_p1_42.other W44 ne_p1_b39
  have V_b3_44 := V_b3_42.other W44 ne_b3_b39
  have EA_b3_44 := EA_b3_42.wr W44
  have V_b36_44 := Vb36_42.other W44 ne_b36_b39
  have EA_b36_44 := EA_b36_42.wr W44
  have EA_b39_44 := EA_b39_42.wr W44
  have Z_44 : n0 ≤ h44.size := Nat.le_trans Z_42 (Nat.le_of_eq W44.size.symm)
  have KK_44 : Keep h0 h44 [self] := KK_42.wr W44 (Or.inr sz_b39)
  show D (T44.setTop (mkF m 123 #[.val (.ref self), .val (.ref p1), .val (.int (2 : Int32)), .val (.ref b39), .val (.int (0 : Int32))] []))
  have Vc45 : ArI Z h44 b39 .int 3 (fun i => Int32.ofNat (own_c1 k0 k1 k2 k3 i)) := Vb39_44.eqf (fun i hi => own_l3_0 k0 (by omega) k1 (by omega) k2 (by omega) k3 (by omega) i (by omega))
  refine A (XS.iinc X44.here hx rfl (hb hby d1_123) rfl (l' := #[.val (.ref self), .val (.ref p1), .val (.int (2 : Int32)), .val (.ref b39), .val (.int ((0 : Int32) + (1 : Int32)))]) rfl) ?_
  show D (T44.setTop (mkF m 126 #[.val (.ref self), .val (.ref p1), .val (.int (2 : Int32)), .val (.ref b39), .val (.int ((0 : Int32) + (1 : Int32)))] []))
  suffices Kq46 : ∀ q46 : Int32, q46 = (1 : Int32) → D (T44.setTop (mkF m 126 #[.val (.ref self), .val (.ref p1), .val (.int (2 : Int32)), .val (.ref b39), .val (.int q46)] [])) from Kq46 _ (by decide)
  rintro _ rfl
  show D (T44.setTop (mkF m 126 #[.val (.ref self), .val (.ref p1), .val (.int (2 : Int32)), .val (.ref b39), .val (.int (1 : Int32))] []))
  refine A (XS.goto X44.here hx rfl (pc0 := 126) (pc' := 93) rfl (hb hby d1_126) (by decide) (by decide)) ?_
  show D (T44.setTop (mkF m 93 #[.val (.ref self), .val (.ref p1), .val (.int (2 : Int32)), .val (.ref b39), .val (.int (1 : Int32))] []))
  refine A (XS.iload X44.here hx rfl (hb hby d1_93) rfl) ?_
  show D (T44.setTop (mkF m 95 #[.val (.ref self), .val (.ref p1), .val (.int (2 : Int32)), .val (.ref b39), .val (.int (1 : Int32))] [(.int (1 : Int32))]))
  refine A (XS.aloadN X44.here hx rfl (hb hby d1_95) rfl rfl) ?_
  show D (T44.setTop (mkF m 96 #[.val (.ref self), .val (.ref p1), .val (.int (2 : Int32)), .val (.ref b39), .val (.int (1 : Int32))] [(.ref p1), (.int (1 : Int32))]))
  refine Adv.lenI A X44 hx hZ e44 V_p1_44 (g := (mkF m 96 #[.val (.ref self), .val (.ref p1), .val (.int (2 : Int32)), .val (.ref b39), .val (.int (1 : Int32))] [(.ref p1), (.int (1 : Int32))])) rfl rfl (hb hby d1_96) ?_
  show D (T44.setTop (mkF m 97 #[.val (.ref self), .val (.ref p1), .val (.int (2 : Int32)), .val (.ref b39), .val (.int (1 : Int32))] [(.int (4 : Int32)), (.int (1 : Int32))]))
  refine A (XS.icmpNo X44.here hx rfl (hb hby d1_97) rfl (tlt (by decide : (1 : Int32) < (4 : Int32))).2.1) ?_
  show D (T44.setTop (mkF m 100 #[.val (.ref self), .val (.ref p1), .val (.int (2 : Int32)), .val (.ref b39), .val (.int (1 : Int32))] []))
  refine A (XS.aloadN X44.here hx rfl (hb hby d1_100) rfl rfl) ?_
  show D (T44.setTop (mkF m 101 #[.val (.ref self), .val (.ref p1), .val (.int (2 : Int32)), .val (.ref b39), .val (.int (1 : Int32))] [(.ref self)]))
  obtain ⟨T47, X47, e47, st47⟩ := getF X44 hx hZ hown (host := "") (Or.inl (hw _ (List.mem_of_getElem? (i := 13) rfl))) Via.refl e44 F_rows_44 (g := (mkF m 101 #[.val (.ref self), .val (.ref p1), .val (.int (2 : Int32)), .val (.ref b39), .val (.int (1 : Int32))] [(.ref self)])) rfl rfl (hb hby d1_101)
  refine A (st47 _) ?_
  show D (T47.setTop (mkF m 104 #[.val (.ref self), .val (.ref p1), .val (.int (2 : Int32)), .val (.ref b39), .val (.int (1 : Int32))] [(.ref b36)]))
  refine A (XS.aloadN X47.here hx rfl (hb hby d1_104) rfl rfl) ?_
  show D (T47.setTop (mkF m 105 #[.val (.ref self), .val (.ref p1), .val (.int (2 : Int32)), .val (.ref b39), .val (.int (1 : Int32))] [(.ref b39), (.ref b36)]))
  refine A (XS.aloadN X47.here hx rfl (hb hby d1_105) rfl rfl) ?_
  show D (T47.setTop (mkF m 106 #[.val (.ref self), .val (.ref p1), .val (.int (2 : Int32)), .val (.ref b39), .val (.int (1 : Int32))] [(.ref p1), (.ref b39), (.ref b36)]))
  refine A (XS.iload X47.here hx rfl (hb hby d1_106) rfl) ?_
  show D (T47.setTop (mkF m 108 #[.val (.ref self), .val (.ref p1), .val (.int (2 : Int32)), .val (.ref b39), .val (.int (1 : Int32))] [(.int (1 : Int32)), (.ref p1), (.ref b39), (.ref b36)]))
  refine Adv.ldI A X47 hx hZ e47 V_p1_44 (k := 1) (by decide) (by decide) (g := (mkF m 108 #[.val (.ref self), .val (.ref p1), .val (.int (2 : Int32)), .val (.ref b39), .val (.int (1 : Int32))] [(.int (1 : Int32)), (.ref p1), (.ref b39), (.ref b36)])) rfl rfl (hb hby d1_108) ?_
  show D (T47.setTop (mkF m 109 #[.val (.ref self), .val (.ref p1), .val (.int (2 : Int32)), .val (.ref b39), .val (.int (1 : Int32))] [(.int (Int32.ofNat k1)), (.ref b39), (.ref b36)]))
  refine Adv.ldI A X47 hx hZ e47 Vc45 (k := k1) (own_of (by omega)) (by omega) (g := (mkF m 109 #[.val (.ref self), .val (.ref p1), .val (.int (2 : Int32)), .val (.ref b39), .val (.int (1 : Int32))] [(.int (Int32.ofNat k1)), (.ref b39), (.ref b36)])) rfl rfl (hb hby d1_109) ?_
  show D (T47.setTop (mkF m 110 #[.val (.ref self), .val (.ref p1), .val (.int (2 : Int32)), .val (.ref b39), .val (.int (1 : Int32))] [(.int (Int32.ofNat (own_c1 k0 k1 k2 k3 k1))), (.ref b36)]))
  refine A (XS.iload X47.here hx rfl (hb hby d1_110) rfl) ?_
  show D (T47.setTop (mkF m 112 #[.val (.ref self), .val (.ref p1), .val (.int (2 : Int32)), .val (.ref b39), .val (.int (1 : Int32))] [(.int (1 : Int32)), (.int (Int32.ofNat (own_c1 k0 k1 k2 k3 k1))), (.ref b36)]))
  refine Adv.stI A X47 hx hZ e47 V_b36_44 (k := (own_c1 k0 k1 k2 k3 k1)) (own_of (own_b3_1 k0 (by omega) k1 (by omega) k2 (by omega) k3 (by omega))) (own_b3_1 k0 (by omega) k1 (by omega) k2 (by omega) k3 (by omega)) (g := (mkF m 112 #[.val (.ref self), .val (.ref p1), .val (.int (2 : Int32)), .val (.ref b39), .val (.int (1 : Int32))] [(.int (1 : Int32)), (.int (Int32.ofNat (own_c1 k0 k1 k2 k3 k1))), (.ref b36)])) rfl rfl (hb hby d1_112) ?_
  intro T48 h48 X48 e48 W48 Vb36_48
  have N48 := Fr.snoc X48 N44 g_b36
  have E_self_48 := E_self_44.wr W48
  have F_start_48 := F_start_44.other W48 (Or.inl ne_self_b36)
  have F_rows_48 := F_rows_44.other W48 (Or.inl ne_self_b36)
  have V_p1_48 := V_p1_44.other W48 ne_p1_b36
  have V_b3_48 := V_b3_44.other W48 ne_b3_b36
  have EA_b3_48 := EA_b3_44.wr W48
  have EA_b36_48 := EA_b36_44.wr W48
  have V_b39_48 := Vc45.other W48 (Ne.symm ne_b36_b39)
  have EA_b39_48 := EA_b39_44.wr W48
  have Z_48 : n0 ≤ h48.size := Nat.le_trans Z_44 (Nat.le_of_eq W48.size.symm)
  have KK_48 : Keep h0 h48 [self] := KK_44.wr W48 (Or.inr sz_b36)
  show D (T48.setTop (mkF m 113 #[.val (.ref self), .val (.ref p1), .val (.int (2 : Int32)), .val (.ref b39), .val (.int (1 : Int32))] []))
  obtain ⟨fn49, hfn49⟩ : ∃ z : Nat → Int32, z = (fun ix => if ix = (own_c1 k0 k1 k2 k3 k1) then (1 : Int32) else fn43 ix) := ⟨_, rfl⟩
  rw [← hfn49] at Vb36_48
  refine A (XS.aloadN X48.here hx rfl (hb hby d1_113) rfl rfl) ?_
  show D (T48.setTop (mkF m 114 #[.val (.ref self), .val (.ref p1), .val (.int (2 : Int32)), .val (.ref b39), .val (.int (1 : Int32))] [(.ref b39)]))
  refine A (XS.aloadN X48.here hx rfl (hb hby d1_114) rfl rfl) ?_
  show D (T48.setTop (mkF m 115 #[.val (.ref self), .val (.ref p1), .val (.int (2 : Int32)), .val (.ref b39), .val (.int (1 : Int32))] [(.ref p1), (.ref b39)]))
  refine A (XS.iload X48.here hx rfl (hb hby d1_115) rfl) ?_
  show D (T48.setTop (mkF m 117 #[.val (.ref self), .val (.ref p1), .val (.int (2 : Int32)), .val (.ref b39), .val (.int (1 : Int32))] [(.int (1 : Int32)), (.ref p1), (.ref b39)]))
  refine Adv.ldI A X48 hx hZ e48 V_p1_48 (k := 1) (by decide) (by decide) (g := (mkF m 117 #[.val (.ref self), .val (.ref p1), .val (.int (2 : Int32)), .val (.ref b39), .val (.int (1 : Int32))] [(.int (1 : Int32)), (.ref p1), (.ref b39)])) rfl rfl (hb hby d1_117) ?_
  show D (T48.setTop (mkF m 118 #[.val (.ref self), .val (.ref p1), .val (.int (2 : Int32)), .val (.ref b39), .val (.int (1 : Int32))] [(.int (Int32.ofNat k1)), (.ref b39)]))
  refine A (S' := T48.setTop (mkF m 119 #[.val (.ref self), .val (.ref p1), .val (.int (2 : Int32)), .val (.ref b39), .val (.int (1 : Int32))] [(.int (Int32.ofNat k1)), (.ref b39), (.int (Int32.ofNat k1)), (.ref b39)])) (fun {t} kt => ?_) ?_
  · jvm_step X48.here [X48.here.top, hx, (hb hby d1_118), Value.category]
    exact kt
  show D (T48.setTop (mkF m 119 #[.val (.ref self), .val (.ref p1), .val (.int (2 : Int32)), .val (.ref b39), .val (.int (1 : Int32))] [(.int (Int32.ofNat k1)), (.ref b39), (.int (Int32.ofNat k1)), (.ref b39)]))
  refine Adv.ldI A X48 hx hZ e48 V_b39_48 (k := k1) (own_of (by omega)) (by omega) (g := (mkF m 119 #[.val (.ref self), .val (.ref p1), .val (.int (2 : Int32)), .val (.ref b39), .val (.int (1 : Int32))] [(.int (Int32.ofNat k1)), (.ref b39), (.int (Int32.ofNat k1)), (.ref b39)])) rfl rfl (hb hby d1_119) ?_
  show D (T48.setTop (mkF m 120 #[.val (.ref self), .val (.ref p1), .val (.int (2 : Int32)), .val (.ref b39), .val (.int (1 : Int32))] [(.int (Int32.ofNat (own_c1 k0 k1 k2 k3 k1))), (.int (Int32.ofNat k1)), (.ref b39)]))
  refine A (XS.iconst X48.here hx rfl (hb hby d1_120)) ?_
  show D (T48.setTop (mkF m 121 #[.val (.ref self), .val (.ref p1), .val (.int (2 : Int32)), .val (.ref b39), .val (.int (1 : Int32))] [(.int (1 : Int32)), (.int (Int32.ofNat (own_c1 k0 k1 k2 k3 k1))), (.int (Int32.ofNat k1)), (.ref b39)]))
  refine A (XS.iadd X48.here hx rfl (hb hby d1_121) rfl) ?_
  show D (T48.setTop (mkF m 122 #[.val (.ref self), .val (.ref p1), .val (.int (2 : Int32)), .val (.ref b39), .val (.int (1 : Int32))] [(.int ((Int32.ofNat (own_c1 k0 k1 k2 k3 k1)) + (1 : Int32))), (.int (Int32.ofNat k1)), (.ref b39)]))
  refine Adv.stI A X48 hx hZ e48 V_b39_48 (k := k1) (own_of (by omega)) (by omega) (g := (mkF m 122 #[.val (.ref self), .val (.ref p1), .val (.int (2 : Int32)), .val (.ref b39), .val (.int (1 : Int32))] [(.int ((Int32.ofNat (own_c1 k0 k1 k2 k3 k1)) + (1 : Int32))), (.int (Int32.ofNat k1)), (.ref b39)])) rfl rfl (hb hby d1_122) ?_
  intro T50 h50 X50 e50 W50 Vb39_50
  have N50 := Fr.snoc X50 N48 g_b39
  have E_self_50 := E_self_48.wr W50
  have F_start_50 := F_start_48.other W50 (Or.inl ne_self_b39)
  have F_rows_50 := F_rows_48.other W50 (Or.inl ne_self_b39)
  have V_p1_50 := V_p1_48.other W50 ne_p1_b39
  have V_b3_50 := V_b3_48.other W50 ne_b3_b39
  have EA_b3_50 := EA_b3_48.wr W50
  have V_b36_50 := Vb36_48.other W50 ne_b36_b39
  have EA_b36_50 := EA_b36_48.wr W50
  have EA_b39_50 := EA_b39_48.wr W50
  have Z_50 : n0 ≤ h50.size := Nat.le_trans Z_48 (Nat.le_of_eq W50.size.symm)
  have KK_50 : Keep h0 h50 [self] := KK_48.wr W50 (Or.inr sz_b39)
  show D (T50.setTop (mkF m 123 #[.val (.ref self), .val (.ref p1), .val (.int (2 : Int32)), .val (.ref b39), .val (.int (1 : Int32))] []))
  have Vc51 : ArI Z h50 b39 .int 3 (fun i => Int32.ofNat (own_c2 k0 k1 k2 k3 i)) := Vb39_50.eqf (fun i hi => own_l3_1 k0 (by omega) k1 (by omega) k2 (by omega) k3 (by omega) i (by omega))
  refine A (XS.iinc X50.here hx rfl (hb hby d1_123) rfl (l' := #[.val (.ref self), .val (.ref p1), .val (.int (2 : Int32)), .val (.ref b39), .val (.int ((1 : Int32) + (1 : Int32)))]) rfl) ?_
  show D (T50.setTop (mkF m 126 #[.val (.ref self), .val (.ref p1), .val (.int (2 : Int32)), .val (.ref b39), .val (.int ((1 : Int32) + (1 : Int32)))] []))
  suffices Kq52 : ∀ q52 : Int32, q52 = (2 : Int32) → D (T50.setTop (mkF m 126 #[.val (.ref self), .val (.ref p1), .val (.int (2 : Int32)), .val (.ref b39), .val (.int q52)] [])) from Kq52 _ (by decide)
  rintro _ rfl
  show D (T50.setTop (mkF m 126 #[.val (.ref self), .val (.ref p1), .val (.int (2 : Int32)), .val (.ref b39), .val (.int (2 : Int32))] []))
  refine A (XS.goto X50.here hx rfl (pc0 := 126) (pc' := 93) rfl (hb hby d1_126) (by decide) (by decide)) ?_
  show D (T50.setTop (mkF m 93 #[.val (.ref self), .val (.ref p1), .val (.int (2 : Int32)), .val (.ref b39), .val (.int (2 : Int32))] []))
  refine A (XS.iload X50.here hx rfl (hb hby d1_93) rfl) ?_
  show D (T50.setTop (mkF m 95 #[.val (.ref self), .val (.ref p1), .val (.int (2 : Int32)), .val (.ref b39), .val (.int (2 : Int32))] [(.int (2 : Int32))]))
  refine A (XS.aloadN X50.here hx rfl (hb hby d1_95) rfl rfl) ?_
  show D (T50.setTop (mkF m 96 #[.val (.ref self), .val (.ref p1), .val (.int (2 : Int32)), .val (.ref b39), .val (.int (2 : Int32))] [(.ref p1), (.int (2 : Int32))]))
  refine Adv.lenI A X50 hx hZ e50 V_p1_50 (g := (mkF m 96 #[.val (.ref self), .val (.ref p1), .val (.int (2 : Int32)), .val (.ref b39), .val (.int (2 : Int32))] [(.ref p1), (.int (2 : Int32))])) rfl rfl (hb hby d1_96) ?_
  show D (T50.setTop (mkF m 97 #[.val (.ref self), .val (.ref p1), .val (.int (2 : Int32)), .val (.ref b39), .val (.int (2 : Int32))] [(.int (4 : Int32)), (.int (2 : Int32))]))
  refine A (XS.icmpNo X50.here hx rfl (hb hby d1_97) rfl (tlt (by decide : (2 : Int32) < (4 : Int32))).2.1) ?_
  show D (T50.setTop (mkF m 100 #[.val (.ref self), .val (.ref p1), .val (.int (2 : Int32)), .val (.ref b39), .val (.int (2 : Int32))] []))
  refine A (XS.aloadN X50.here hx rfl (hb hby d1_100) rfl rfl) ?_
  show D (T50.setTop (mkF m 101 #[.val (.ref self), .val (.ref p1), .val (.int (2 : Int32)), .val (.ref b39), .val (.int (2 : Int32))] [(.ref self)]))
  obtain ⟨T53, X53, e53, st53⟩ := getF X50 hx hZ hown (host := "") (Or.inl (hw _ (List.mem_of_getElem? (i := 13) rfl))) Via.refl e50 F_rows_50 (g := (mkF m 101 #[.val (.ref self), .val (.ref p1), .val (.int (2 : Int32)), .val (.ref b39), .val (.int (2 : Int32))] [(.ref self)])) rfl rfl (hb hby d1_101)
  refine A (st53 _) ?_
  show D (T53.setTop (mkF m 104 #[.val (.ref self), .val (.ref p1), .val (.int (2 : Int32)), .val (.ref b39), .val (.int (2 : Int32))] [(.ref b36)]))
  refine A (XS.aloadN X53.here hx rfl (hb hby d1_104) rfl rfl) ?_
  show D (T53.setTop (mkF m 105 #[.val (.ref self), .val (.ref p1), .val (.int (2 : Int32)), .val (.ref b39), .val (.int (2 : Int32))] [(.ref b39), (.ref b36)]))
  refine A (XS.aloadN X53.here hx rfl (hb hby d1_105) rfl rfl) ?_
  show D (T53.setTop (mkF m 106 #[.val (.ref self), .val (.ref p1), .val (.int (2 : Int32)), .val (.ref b39), .val (.int (2 : Int32))] [(.ref p1), (.ref b39), (.ref b36)]))
  refine A (XS.iload X53.here hx rfl (hb hby d1_106) rfl) ?_
  show D (T53.setTop (mkF m 108 #[.val (.ref self), .val (.ref p1), .val (.int (2 : Int32)), .val (.ref b39), .val (.int (2 : Int32))] [(.int (2 : Int32)), (.ref p1), (.ref b39), (.ref b36)]))
  refine Adv.ldI A X53 hx hZ e53 V_p1_50 (k := 2) (by decide) (by decide) (g := (mkF m 108 #[.val (.ref self), .val (.ref p1), .val (.int (2 : Int32)), .val (.ref b39), .val (.int (2 : Int32))] [(.int (2 : Int32)), (.ref p1), (.ref b39), (.ref b36)])) rfl rfl (hb hby d1_108) ?_
  show D (T53.setTop (mkF m 109 #[.val (.ref self), .val (.ref p1), .val (.int (2 : Int32)), .val (.ref b39), .val (.int (2 : Int32))] [(.int (Int32.ofNat k2)), (.ref b39), (.ref b36)]))
  refine Adv.ldI A X53 hx hZ e53 Vc51 (k := k2) (own_of (by omega)) (by omega) (g := (mkF m 109 #[.val (.ref self), .val (.ref p1), .val (.int (2 : Int32)), .val (.ref b39), .val (.int (2 : Int32))] [(.int (Int32.ofNat k2)), (.ref b39), (.ref b36)])) rfl rfl (hb hby d1_109) ?_
  show D (T53.setTop (mkF m 110 #[.val (.ref self), .val (.ref p1), .val (.int (2 : Int32)), .val (.ref b39), .val (.int (2 : Int32))] [(.int (Int32.ofNat (own_c2 k0 k1 k2 k3 k2))), (.ref b36)]))
  refine A (XS.iload X53.here hx rfl (hb hby d1_110) rfl) ?_
  show D (T53.setTop (mkF m 112 #[.val (.ref self), .val (.ref p1), .val (.int (2 : Int32)), .val (.ref b39), .val (.int (2 : Int32))] [(.int (2 : Int32)), (.int (Int32.ofNat (own_c2 k0 k1 k2 k3 k2))), (.ref b36)]))
  refine Adv.stI A X53 hx hZ e53 V_b36_50 (k := (own_c2 k0 k1 k2 k3 k2)) (own_of (own_b3_2 k0 (by omega) k1 (by omega) k2 (by omega) k3 (by omega))) (own_b3_2 k0 (by omega) k1 (by omega) k2 (by omega) k3 (by omega)) (g := (mkF m 112 #[.val (.ref self), .val (.ref p1), .val (.int (2 : Int32)), .val (.ref b39), .val (.int (2 : Int32))] [(.int (2 : Int32)), (.int (Int32.ofNat (own_c2 k0 k1 k2 k3 k2))), (.ref b36)])) rfl rfl (hb hby d1_112) ?_
  intro T54 h54 X54 e54 W54 Vb36_54
  have N54 := Fr.snoc X54 N50 g_b36
  have E_self_54 := E_self_50.wr W54
  have F_start_54 := F_start_50.other W54 (Or.inl ne_self_b36)
  have F_rows_54 := F_rows_50.other W54 (Or.inl ne_self_b36)
  have V_p1_54 := V_p1_50.other W54 ne_p1_b36
  have V_b3_54 := V_b3_50.other W54 ne_b3_b36
  have EA_b3_54 := EA_b3_50.wr W54
  have EA_b36_54 := EA_b36_50.wr W54
  have V_b39_54 := Vc51.other W54 (Ne.symm ne_b36_b39)
  have EA_b39_54 := EA_b39_50.wr W54
  have Z_54 : n0 ≤ h54.size := Nat.le_trans Z_50 (Nat.le_of_eq W54.size.symm)
  have KK_54 : Keep h0 h54 [self] := KK_50.wr W54 (Or.inr sz_b36)
  show D (T54.setTop (mkF m 113 #[.val (.ref self), .val (.ref p1), .val (.int (2 : Int32)), .val (.ref b39), .val (.int (2 : Int32))] []))
  obtain ⟨fn55, hfn55⟩ : ∃ z : Nat → Int32, z = (fun ix => if ix = (own_c2 k0 k1 k2 k3 k2) then (2 : Int32) else fn49 ix) := ⟨_, rfl⟩
  rw [← hfn55] at Vb36_54
  refine A (XS.aloadN X54.here hx rfl (hb hby d1_113) rfl rfl) ?_
  show D (T54.setTop (mkF m 114 #[.val (.ref self), .val (.ref p1), .val (.int (2 : Int32)), .val (.ref b39), .val (.int (2 : Int32))] [(.ref b39)]))
  refine A (XS.aloadN X54.here hx rfl (hb hby d1_114) rfl rfl) ?_
  show D (T54.setTop (mkF m 115 #[.val (.ref self), .val (.ref p1), .val (.int (2 : Int32)), .val (.ref b39), .val (.int (2 : Int32))] [(.ref p1), (.ref b39)]))
  refine A (XS.iload X54.here hx rfl (hb hby d1_115) rfl) ?_
  show D (T54.setTop (mkF m 117 #[.val (.ref self), .val (.ref p1), .val (.int (2 : Int32)), .val (.ref b39), .val (.int (2 : Int32))] [(.int (2 : Int32)), (.ref p1), (.ref b39)]))
  refine Adv.ldI A X54 hx hZ e54 V_p1_54 (k := 2) (by decide) (by decide) (g := (mkF m 117 #[.val (.ref self), .val (.ref p1), .val (.int (2 : Int32)), .val (.ref b39), .val (.int (2 : Int32))] [(.int (2 : Int32)), (.ref p1), (.ref b39)])) rfl rfl (hb hby d1_117) ?_
  show D (T54.setTop (mkF m 118 #[.val (.ref self), .val (.ref p1), .val (.int (2 : Int32)), .val (.ref b39), .val (.int (2 : Int32))] [(.int (Int32.ofNat k2)), (.ref b39)]))
  refine A (S' := T54.setTop (mkF m 119 #[.val (.ref self), .val (.ref p1), .val (.int (2 : Int32)), .val (.ref b39), .val (.int (2 : Int32))] [(.int (Int32.ofNat k2)), (.ref b39), (.int (Int32.ofNat k2)), (.ref b39)])) (fun {t} kt => ?_) ?_
  · jvm_step X54.here [X54.here.top, hx, (hb hby d1_118), Value.category]
    exact kt
  show D (T54.setTop (mkF m 119 #[.val (.ref self), .val (.ref p1), .val (.int (2 : Int32)), .val (.ref b39), .val (.int (2 : Int32))] [(.int (Int32.ofNat k2)), (.ref b39), (.int (Int32.ofNat k2)), (.ref b39)]))
  refine Adv.ldI A X54 hx hZ e54 V_b39_54 (k := k2) (own_of (by omega)) (by omega) (g := (mkF m 119 #[.val (.ref self), .val (.ref p1), .val (.int (2 : Int32)), .val (.ref b39), .val (.int (2 : Int32))] [(.int (Int32.ofNat k2)), (.ref b39), (.int (Int32.ofNat k2)), (.ref b39)])) rfl rfl (hb hby d1_119) ?_
  show D (T54.setTop (mkF m 120 #[.val (.ref self), .val (.ref p1), .val (.int (2 : Int32)), .val (.ref b39), .val (.int (2 : Int32))] [(.int (Int32.ofNat (own_c2 k0 k1 k2 k3 k2))), (.int (Int32.ofNat k2)), (.ref b39)]))
  refine A (XS.iconst X54.here hx rfl (hb hby d1_120)) ?_
  show D (T54.setTop (mkF m 121 #[.val (.ref self), .val (.ref p1), .val (.int (2 : Int32)), .val (.ref b39), .val (.int (2 : Int32))] [(.int (1 : Int32)), (.int (Int32.ofNat (own_c2 k0 k1 k2 k3 k2))), (.int (Int32.ofNat k2)), (.ref b39)]))
  refine A (XS.iadd X54.here hx rfl (hb hby d1_121) rfl) ?_
  show D (T54.setTop (mkF m 122 #[.val (.ref self), .val (.ref p1), .val (.int (2 : Int32)), .val (.ref b39), .val (.int (2 : Int32))] [(.int ((Int32.ofNat (own_c2 k0 k1 k2 k3 k2)) + (1 : Int32))), (.int (Int32.ofNat k2)), (.ref b39)]))
  refine Adv.stI A X54 hx hZ e54 V_b39_54 (k := k2) (own_of (by omega)) (by omega) (g := (mkF m 122 #[.val (.ref self), .val (.ref p1), .val (.int (2 : Int32)), .val (.ref b39), .val (.int (2 : Int32))] [(.int ((Int32.ofNat (own_c2 k0 k1 k2 k3 k2)) + (1 : Int32))), (.int (Int32.ofNat k2)), (.ref b39)])) rfl rfl (hb hby d1_122) ?_
  intro T56 h56 X56 e56 W56 Vb39_56
  have N56 := Fr.snoc X56 N54 g_b39
  have E_self_56 := E_self_54.wr W56
  have F_start_56 := F_start_54.other W56 (Or.inl ne_self_b39)
  have F_rows_56 := F_rows_54.other W56 (Or.inl ne_self_b39)
  have V_p1_56 := V_p1_54.other W56 ne_p1_b39
  have V_b3_56 := V_b3_54.other W56 ne_b3_b39
  have EA_b3_56 := EA_b3_54.wr W56
  have V_b36_56 := Vb36_54.other W56 ne_b36_b39
  have EA_b36_56 := EA_b36_54.wr W56
  have EA_b39_56 := EA_b39_54.wr W56
  have Z_56 : n0 ≤ h56.size := Nat.le_trans Z_54 (Nat.le_of_eq W56.size.symm)
  have KK_56 : Keep h0 h56 [self] := KK_54.wr W56 (Or.inr sz_b39)
  show D (T56.setTop (mkF m 123 #[.val (.ref self), .val (.ref p1), .val (.int (2 : Int32)), .val (.ref b39), .val (.int (2 : Int32))] []))
  have Vc57 : ArI Z h56 b39 .int 3 (fun i => Int32.ofNat (own_c3 k0 k1 k2 k3 i)) := Vb39_56.eqf (fun i hi => own_l3_2 k0 (by omega) k1 (by omega) k2 (by omega) k3 (by omega) i (by omega))
  refine A (XS.iinc X56.here hx rfl (hb hby d1_123) rfl (l' := #[.val (.ref self), .val (.ref p1), .val (.int (2 : Int32)), .val (.ref b39), .val (.int ((2 : Int32) + (1 : Int32)))]) rfl) ?_
  show D (T56.setTop (mkF m 126 #[.val (.ref self), .val (.ref p1), .val (.int (2 : Int32)), .val (.ref b39), .val (.int ((2 : Int32) + (1 : Int32)))] []))
  suffices Kq58 : ∀ q58 : Int32, q58 = (3 : Int32) → D (T56.setTop (mkF m 126 #[.val (.ref self), .val (.ref p1), .val (.int (2 : Int32)), .val (.ref b39), .val (.int q58)] [])) from Kq58 _ (by decide)
  rintro _ rfl
  show D (T56.setTop (mkF m 126 #[.val (.ref self), .val (.ref p1), .val (.int (2 : Int32)), .val (.ref b39), .val (.int (3 : Int32))] []))
  refine A (XS.goto X56.here hx rfl (pc0 := 126) (pc' := 93) rfl (hb hby d1_126) (by decide) (by decide)) ?_
  show D (T56.setTop (mkF m 93 #[.val (.ref self), .val (.ref p1), .val (.int (2 : Int32)), .val (.ref b39), .val (.int (3 : Int32))] []))
  refine A (XS.iload X56.here hx rfl (hb hby d1_93) rfl) ?_
  show D (T56.setTop (mkF m 95 #[.val (.ref self), .val (.ref p1), .val (.int (2 : Int32)), .val (.ref b39), .val (.int (3 : Int32))] [(.int (3 : Int32))]))
  refine A (XS.aloadN X56.here hx rfl (hb hby d1_95) rfl rfl) ?_
  show D (T56.setTop (mkF m 96 #[.val (.ref self), .val (.ref p1), .val (.int (2 : Int32)), .val (.ref b39), .val (.int (3 : Int32))] [(.ref p1), (.int (3 : Int32))]))
  refine Adv.lenI A X56 hx hZ e56 V_p1_56 (g := (mkF m 96 #[.val (.ref self), .val (.ref p1), .val (.int (2 : Int32)), .val (.ref b39), .val (.int (3 : Int32))] [(.ref p1), (.int (3 : Int32))])) rfl rfl (hb hby d1_96) ?_
  show D (T56.setTop (mkF m 97 #[.val (.ref self), .val (.ref p1), .val (.int (2 : Int32)), .val (.ref b39), .val (.int (3 : Int32))] [(.int (4 : Int32)), (.int (3 : Int32))]))
  refine A (XS.icmpNo X56.here hx rfl (hb hby d1_97) rfl (tlt (by decide : (3 : Int32) < (4 : Int32))).2.1) ?_
  show D (T56.setTop (mkF m 100 #[.val (.ref self), .val (.ref p1), .val (.int (2 : Int32)), .val (.ref b39), .val (.int (3 : Int32))] []))
  refine A (XS.aloadN X56.here hx rfl (hb hby d1_100) rfl rfl) ?_
  show D (T56.setTop (mkF m 101 #[.val (.ref self), .val (.ref p1), .val (.int (2 : Int32)), .val (.ref b39), .val (.int (3 : Int32))] [(.ref self)]))
  obtain ⟨T59, X59, e59, st59⟩ := getF X56 hx hZ hown (host := "") (Or.inl (hw _ (List.mem_of_getElem? (i := 13) rfl))) Via.refl e56 F_rows_56 (g := (mkF m 101 #[.val (.ref self), .val (.ref p1), .val (.int (2 : Int32)), .val (.ref b39), .val (.int (3 : Int32))] [(.ref self)])) rfl rfl (hb hby d1_101)
  refine A (st59 _) ?_
  show D (T59.setTop (mkF m 104 #[.val (.ref self), .val (.ref p1), .val (.int (2 : Int32)), .val (.ref b39), .val (.int (3 : Int32))] [(.ref b36)]))
  refine A (XS.aloadN X59.here hx rfl (hb hby d1_104) rfl rfl) ?_
  show D (T59.setTop (mkF m 105 #[.val (.ref self), .val (.ref p1), .val (.int (2 : Int32)), .val (.ref b39), .val (.int (3 : Int32))] [(.ref b39), (.ref b36)]))
  refine A (XS.aloadN X59.here hx rfl (hb hby d1_105) rfl rfl) ?_
  show D (T59.setTop (mkF m 106 #[.val (.ref self), .val (.ref p1), .val (.int (2 : Int32)), .val (.ref b39), .val (.int (3 : Int32))] [(.ref p1), (.ref b39), (.ref b36)]))
  refine A (XS.iload X59.here hx rfl (hb hby d1_106) rfl) ?_
  show D (T59.setTop (mkF m 108 #[.val (.ref self), .val (.ref p1), .val (.int (2 : Int32)), .val (.ref b39), .val (.int (3 : Int32))] [(.int (3 : Int32)), (.ref p1), (.ref b39), (.ref b36)]))
  refine Adv.ldI A X59 hx hZ e59 V_p1_56 (k := 3) (by decide) (by decide) (g := (mkF m 108 #[.val (.ref self), .val (.ref p1), .val (.int (2 : Int32)), .val (.ref b39), .val (.int (3 : Int32))] [(.int (3 : Int32)), (.ref p1), (.ref b39), (.ref b36)])) rfl rfl (hb hby d1_108) ?_
  show D (T59.setTop (mkF m 109 #[.val (.ref self), .val (.ref p1), .val (.int (2 : Int32)), .val (.ref b39), .val (.int (3 : Int32))] [(.int (Int32.ofNat k3)), (.ref b39), (.ref b36)]))
  refine Adv.ldI A X59 hx hZ e59 Vc57 (k := k3) (own_of (by omega)) (by omega) (g := (mkF m 109 #[.val (.ref self), .val (.ref p1), .val (.int (2 : Int32)), .val (.ref b39), .val (.int (3 : Int32))] [(.int (Int32.ofNat k3)), (.ref b39), (.ref b36)])) rfl rfl (hb hby d1_109) ?_
  show D (T59.setTop (mkF m 110 #[.val (.ref self), .val (.ref p1), .val (.int (2 : Int32)), .val (.ref b39), .val (.int (3 : Int32))] [(.int (Int32.ofNat (own_c3 k0 k1 k2 k3 k3))), (.ref b36)]))
  refine A (XS.iload X59.here hx rfl (hb hby d1_110) rfl) ?_
  show D (T59.setTop (mkF m 112 #[.val (.ref self), .val (.ref p1), .val (.int (2 : Int32)), .val (.ref b39), .val (.int (3 : Int32))] [(.int (3 : Int32)), (.int (Int32.ofNat (own_c3 k0 k1 k2 k3 k3))), (.ref b36)]))
  refine Adv.stI A X59 hx hZ e59 V_b36_56 (k := (own_c3 k0 k1 k2 k3 k3)) (own_of (own_b3_3 k0 (by omega) k1 (by omega) k2 (by omega) k3 (by omega))) (own_b3_3 k0 (by omega) k1 (by omega) k2 (by omega) k3 (by omega)) (g := (mkF m 112 #[.val (.ref self), .val (.ref p1), .val (.int (2 : Int32)), .val (.ref b39), .val (.int (3 : Int32))] [(.int (3 : Int32)), (.int (Int32.ofNat (own_c3 k0 k1 k2 k3 k3))), (.ref b36)])) rfl rfl (hb hby d1_112) ?_
  intro T60 h60 X60 e60 W60 Vb36_60
  have N60 := Fr.snoc X60 N56 g_b36
  have E_self_60 := E_self_56.wr W60
  have F_start_60 := F_start_56.other W60 (Or.inl ne_self_b36)
  have F_rows_60 := F_rows_56.other W60 (Or.inl ne_self_b36)
  have V_p1_60 := V_p1_56.other W60 ne_p1_b36
  have V_b3_60 := V_b3_56.other W60 ne_b3_b36
  have EA_b3_60 := EA_b3_56.wr W60
  have EA_b36_60 := EA_b36_56.wr W60
  have V_b39_60 := Vc57.other W60 (Ne.symm ne_b36_b39)
  have EA_b39_60 := EA_b39_56.wr W60
  have Z_60 : n0 ≤ h60.size := Nat.le_trans Z_56 (Nat.le_of_eq W60.size.symm)
  have KK_60 : Keep h0 h60 [self] := KK_56.wr W60 (Or.inr sz_b36)
  show D (T60.setTop (mkF m 113 #[.val (.ref self), .val (.ref p1), .val (.int (2 : Int32)), .val (.ref b39), .val (.int (3 : Int32))] []))
  obtain ⟨fn61, hfn61⟩ : ∃ z : Nat → Int32, z = (fun ix => if ix = (own_c3 k0 k1 k2 k3 k3) then (3 : Int32) else fn55 ix) := ⟨_, rfl⟩
  rw [← hfn61] at Vb36_60
  refine A (XS.aloadN X60.here hx rfl (hb hby d1_113) rfl rfl) ?_
  show D (T60.setTop (mkF m 114 #[.val (.ref self), .val (.ref p1), .val (.int (2 : Int32)), .val (.ref b39), .val (.int (3 : Int32))] [(.ref b39)]))
  refine A (XS.aloadN X60.here hx rfl (hb hby d1_114) rfl rfl) ?_
  show D (T60.setTop (mkF m 115 #[.val (.ref self), .val (.ref p1), .val (.int (2 : Int32)), .val (.ref b39), .val (.int (3 : Int32))] [(.ref p1), (.ref b39)]))
  refine A (XS.iload X60.here hx rfl (hb hby d1_115) rfl) ?_
  show D (T60.setTop (mkF m 117 #[.val (.ref self), .val (.ref p1), .val (.int (2 : Int32)), .val (.ref b39), .val (.int (3 : Int32))] [(.int (3 : Int32)), (.ref p1), (.ref b39)]))
  refine Adv.ldI A X60 hx hZ e60 V_p1_60 (k := 3) (by decide) (by decide) (g := (mkF m 117 #[.val (.ref self), .val (.ref p1), .val (.int (2 : Int32)), .val (.ref b39), .val (.int (3 : Int32))] [(.int (3 : Int32)), (.ref p1), (.ref b39)])) rfl rfl (hb hby d1_117) ?_
  show D (T60.setTop (mkF m 118 #[.val (.ref self), .val (.ref p1), .val (.int (2 : Int32)), .val (.ref b39), .val (.int (3 : Int32))] [(.int (Int32.ofNat k3)), (.ref b39)]))
  refine A (S' := T60.setTop (mkF m 119 #[.val (.ref self), .val (.ref p1), .val (.int (2 : Int32)), .val (.ref b39), .val (.int (3 : Int32))] [(.int (Int32.ofNat k3)), (.ref b39), (.int (Int32.ofNat k3)), (.ref b39)])) (fun {t} kt => ?_) ?_
  · jvm_step X60.here [X60.here.top, hx, (hb hby d1_118), Value.category]
    exact kt
  show D (T60.setTop (mkF m 119 #[.val (.ref self), .val (.ref p1), .val (.int (2 : Int32)), .val (.ref b39), .val (.int (3 : Int32))] [(.int (Int32.ofNat k3)), (.ref b39), (.int (Int32.ofNat k3)), (.ref b39)]))
  refine Adv.ldI A X60 hx hZ e60 V_b39_60 (k := k3) (own_of (by omega)) (by omega) (g := (mkF m 119 #[.val (.ref self), .val (.ref p1), .val (.int (2 : Int32)), .val (.ref b39), .val (.int (3 : Int32))] [(.int (Int32.ofNat k3)), (.ref b39), (.int (Int32.ofNat k3)), (.ref b39)])) rfl rfl (hb hby d1_119) ?_
  show D (T60.setTop (mkF m 120 #[.val (.ref self), .val (.ref p1), .val (.int (2 : Int32)), .val (.ref b39), .val (.int (3 : Int32))] [(.int (Int32.ofNat (own_c3 k0 k1 k2 k3 k3))), (.int (Int32.ofNat k3)), (.ref b39)]))
  refine A (XS.iconst X60.here hx rfl (hb hby d1_120)) ?_
  show D (T60.setTop (mkF m 121 #[.val (.ref self), .val (.ref p1), .val (.int (2 : Int32)), .val (.ref b39), .val (.int (3 : Int32))] [(.int (1 : Int32)), (.int (Int32.ofNat (own_c3 k0 k1 k2 k3 k3))), (.int (Int32.ofNat k3)), (.ref b39)]))
  refine A (XS.iadd X60.here hx rfl (hb hby d1_121) rfl) ?_
  show D (T60.setTop (mkF m 122 #[.val (.ref self), .val (.ref p1), .val (.int (2 : Int32)), .val (.ref b39), .val (.int (3 : Int32))] [(.int ((Int32.ofNat (own_c3 k0 k1 k2 k3 k3)) + (1 : Int32))), (.int (Int32.ofNat k3)), (.ref b39)]))
  refine Adv.stI A X60 hx hZ e60 V_b39_60 (k := k3) (own_of (by omega)) (by omega) (g := (mkF m 122 #[.val (.ref self), .val (.ref p1), .val (.int (2 : Int32)), .val (.ref b39), .val (.int (3 : Int32))] [(.int ((Int32.ofNat (own_c3 k0 k1 k2 k3 k3)) + (1 : Int32))), (.int (Int32.ofNat k3)), (.ref b39)])) rfl rfl (hb hby d1_122) ?_
  intro T62 h62 X62 e62 W62 Vb39_62
  have N62 := Fr.snoc X62 N60 g_b39
  have E_self_62 := E_self_60.wr W62
  have F_start_62 := F_start_60.other W62 (Or.inl ne_self_b39)
  have F_rows_62 := F_rows_60.other W62 (Or.inl ne_self_b39)
  have V_p1_62 := V_p1_60.other W62 ne_p1_b39
  have V_b3_62 := V_b3_60.other W62 ne_b3_b39
  have EA_b3_62 := EA_b3_60.wr W62
  have V_b36_62 := Vb36_60.other W62 ne_b36_b39
  have EA_b36_62 := EA_b36_60.wr W62
  have EA_b39_62 := EA_b39_60.wr W62
  have Z_62 : n0 ≤ h62.size := Nat.le_trans Z_60 (Nat.le_of_eq W62.size.symm)
  have KK_62 : Keep h0 h62 [self] := KK_60.wr W62 (Or.inr sz_b39)
  show D (T62.setTop (mkF m 123 #[.val (.ref self), .val (.ref p1), .val (.int (2 : Int32)), .val (.ref b39), .val (.int (3 : Int32))] []))
  have Vc63 : ArI Z h62 b39 .int 3 (fun i => Int32.ofNat (own_c4 k0 k1 k2 k3 i)) := Vb39_62.eqf (fun i hi => own_l3_3 k0 (by omega) k1 (by omega) k2 (by omega) k3 (by omega) i (by omega))
  refine A (XS.iinc X62.here hx rfl (hb hby d1_123) rfl (l' := #[.val (.ref self), .val (.ref p1), .val (.int (2 : Int32)), .val (.ref b39), .val (.int ((3 : Int32) + (1 : Int32)))]) rfl) ?_
  show D (T62.setTop (mkF m 126 #[.val (.ref self), .val (.ref p1), .val (.int (2 : Int32)), .val (.ref b39), .val (.int ((3 : Int32) + (1 : Int32)))] []))
  suffices Kq64 : ∀ q64 : Int32, q64 = (4 : Int32) → D (T62.setTop (mkF m 126 #[.val (.ref self), .val (.ref p1), .val (.int (2 : Int32)), .val (.ref b39), .val (.int q64)] [])) from Kq64 _ (by decide)
  rintro _ rfl
  show D (T62.setTop (mkF m 126 #[.val (.ref self), .val (.ref p1), .val (.int (2 : Int32)), .val (.ref b39), .val (.int (4 : Int32))] []))
  refine A (XS.goto X62.here hx rfl (pc0 := 126) (pc' := 93) rfl (hb hby d1_126) (by decide) (by decide)) ?_
  show D (T62.setTop (mkF m 93 #[.val (.ref self), .val (.ref p1), .val (.int (2 : Int32)), .val (.ref b39), .val (.int (4 : Int32))] []))
  refine A (XS.iload X62.here hx rfl (hb hby d1_93) rfl) ?_
  show D (T62.setTop (mkF m 95 #[.val (.ref self), .val (.ref p1), .val (.int (2 : Int32)), .val (.ref b39), .val (.int (4 : Int32))] [(.int (4 : Int32))]))
  refine A (XS.aloadN X62.here hx rfl (hb hby d1_95) rfl rfl) ?_
  show D (T62.setTop (mkF m 96 #[.val (.ref self), .val (.ref p1), .val (.int (2 : Int32)), .val (.ref b39), .val (.int (4 : Int32))] [(.ref p1), (.int (4 : Int32))]))
  refine Adv.lenI A X62 hx hZ e62 V_p1_62 (g := (mkF m 96 #[.val (.ref self), .val (.ref p1), .val (.int (2 : Int32)), .val (.ref b39), .val (.int (4 : Int32))] [(.ref p1), (.int (4 : Int32))])) rfl rfl (hb hby d1_96) ?_
  show D (T62.setTop (mkF m 97 #[.val (.ref self), .val (.ref p1), .val (.int (2 : Int32)), .val (.ref b39), .val (.int (4 : Int32))] [(.int (4 : Int32)), (.int (4 : Int32))]))
  refine A (XS.icmpYes X62.here hx rfl (pc0 := 97) (pc' := 129) rfl (hb hby d1_97) rfl (flt (by decide : ¬ ((4 : Int32) < (4 : Int32)))).2.1 (by decide) (by decide)) ?_
  show D (T62.setTop (mkF m 129 #[.val (.ref self), .val (.ref p1), .val (.int (2 : Int32)), .val (.ref b39), .val (.int (4 : Int32))] []))
  exact F _ (Jvm.JW.ret X62 hlk (v := none) (fun _ => rfl) (fun fs hr => X62.returnOut hx hrt (hb hby d1_129) hr) e62 ⟨rfl, b3, N62, KK_62, E_self_62, F_start_62, V_b3_62⟩ (by decide) (by decide))
theorem ef1_3 (self : Addr) (p1 : Addr) (m : MethodId) : entryFrame m #[(.ref self), (.ref p1), (.int (3 : Int32))] 5 = mkF m 0 #[.val (.ref self), .val (.ref p1), .val (.int (3 : Int32)), .unset, .unset] [] := by first | (simp [entryFrame, mkF, argsToLocals, Value.category]; done) | rfl
set_option maxRecDepth 65536 in
set_option maxHeartbeats 40000000 in
theorem rm1_3 (l : Launch) (Z : State) (a0 : Array Value) (hw : ∀ d ∈ tables_1, d.before a0 Z = true) (ws : List Jvm.Cond) (self : Addr) (p1 : Addr) (h0 : Heap) (n0 : Nat) (Z0 : n0 ≤ h0.size) (g_self : n0 ≤ self) (k0 k1 k2 k3 : Nat) (hk0 : k0 < 3) (hk1 : k1 < 3) (hk2 : k2 < 3) (hk3 : k3 < 3) (E_self : Exa Z h0 self "com/example/enklave/enklave/measure/RowGroups") (F_start : Fld Z h0 self "com/example/enklave/enklave/measure/RowGroups" "start" "[I" .null) (F_rows : Fld Z h0 self "com/example/enklave/enklave/measure/RowGroups" "rows" "[I" .null) (V_p1 : ArI Z h0 p1 .int 4 (own_ka k0 k1 k2 k3)) :
    JMet l Z (⟨"com/example/enklave/enklave/measure/RowGroups", "<init>", "([II)V"⟩ : MethodName) prog_41_method_1_code 5 none ws ({ frames := 1, cells := 3, slots := 12, locals := 14 } : Room) #[(.ref self), (.ref p1), (.int (3 : Int32))] h0 (fun v h L => v = none ∧ ∃ b : Addr, Fr n0 L ∧ Keep h0 h [self] ∧ Exa Z h self "com/example/enklave/enklave/measure/RowGroups" ∧ Fld Z h self "com/example/enklave/enklave/measure/RowGroups" "start" "[I" (.ref b) ∧ ArI Z h b .int 4 (fun i => Int32.ofNat (own_c0 k0 k1 k2 k3 i))) := by
  refine Jvm.JW.body #[.val (.ref self), .val (.ref p1), .val (.int (3 : Int32)), .unset, .unset] pn1 (ef1_3 self p1) ?_
  intro p e s m below meth c T0 D A F X0 hx hZ hby hml hown hnm hrt hlk e0
  refine A (XS.aloadN X0.here hx rfl (hb hby d1_0) rfl rfl) ?_
  show D (T0.setTop (mkF m 1 #[.val (.ref self), .val (.ref p1), .val (.int (3 : Int32)), .unset, .unset] [(.ref self)]))
  obtain ⟨T1, X1, e1, st1⟩ := initO X0 hx hZ hown (hw _ (List.mem_of_getElem? (i := 8) rfl)) (hw _ (List.mem_of_getElem? (i := 9) rfl)) (hw _ (List.mem_of_getElem? (i := 10) rfl)) e0 (g := (mkF m 1 #[.val (.ref self), .val (.ref p1), .val (.int (3 : Int32)), .unset, .unset] [(.ref self)])) rfl (by rw [hml]; rfl) rfl (hb hby d1_1) (by decide) (W := 0) (by show 2 * 0 + _ ≤ _; exact Nat.le_of_eq rfl) (by decide)
  refine A (st1 _) ?_
  show D (T1.setTop (mkF m 4 #[.val (.ref self), .val (.ref p1), .val (.int (3 : Int32)), .unset, .unset] []))
  refine A (XS.aloadN X1.here hx rfl (hb hby d1_4) rfl rfl) ?_
  show D (T1.setTop (mkF m 5 #[.val (.ref self), .val (.ref p1), .val (.int (3 : Int32)), .unset, .unset] [(.ref self)]))
  refine A (XS.iloadN X1.here hx rfl (hb hby d1_5) rfl) ?_
  show D (T1.setTop (mkF m 6 #[.val (.ref self), .val (.ref p1), .val (.int (3 : Int32)), .unset, .unset] [(.int (3 : Int32)), (.ref self)]))
  refine A (XS.iconst X1.here hx rfl (hb hby d1_6)) ?_
  show D (T1.setTop (mkF m 7 #[.val (.ref self), .val (.ref p1), .val (.int (3 : Int32)), .unset, .unset] [(.int (1 : Int32)), (.int (3 : Int32)), (.ref self)]))
  refine A (XS.iadd X1.here hx rfl (hb hby d1_7) rfl) ?_
  show D (T1.setTop (mkF m 8 #[.val (.ref self), .val (.ref p1), .val (.int (3 : Int32)), .unset, .unset] [(.int ((3 : Int32) + (1 : Int32))), (.ref self)]))
  suffices Kq2 : ∀ q2 : Int32, q2 = (4 : Int32) → D (T1.setTop (mkF m 8 #[.val (.ref self), .val (.ref p1), .val (.int (3 : Int32)), .unset, .unset] [(.int q2), (.ref self)])) from Kq2 _ (by decide)
  rintro _ rfl
  show D (T1.setTop (mkF m 8 #[.val (.ref self), .val (.ref p1), .val (.int (3 : Int32)), .unset, .unset] [(.int (4 : Int32)), (.ref self)]))
  refine Adv.newI A X1 hx hZ (aty := .int) (hw _ (List.mem_of_getElem? (i := 1) rfl)) e1 (n := 4) (by decide) 4 (by decide) (by decide) rfl (ad := "[I") (by decide) (by decide) (by decide) (g := (mkF m 8 #[.val (.ref self), .val (.ref p1), .val (.int (3 : Int32)), .unset, .unset] [(.int (4 : Int32)), (.ref self)])) rfl rfl (hb hby d1_8) ?_
  intro T3 h3 b3 q_b3 X3 e3 E3 V_b3 EA_b3
  have ne_self_b3 : self ≠ b3 := Nat.ne_of_lt (Nat.lt_of_lt_of_le E_self.lt (Nat.le_of_eq q_b3.symm))
  have ne_p1_b3 : p1 ≠ b3 := Nat.ne_of_lt (Nat.lt_of_lt_of_le V_p1.lt (Nat.le_of_eq q_b3.symm))
  have g_b3 : n0 ≤ b3 := Nat.le_trans Z0 (Nat.le_of_eq q_b3.symm)
  have sz_b3 : h0.size ≤ b3 := Nat.le_trans (Keep.refl h0 [self]).1 (Nat.le_of_eq q_b3.symm)
  have E_self_3 := E_self.ext E3
  have F_start_3 := F_start.ext E3
  have F_rows_3 := F_rows.ext E3
  have V_p1_3 := V_p1.ext E3
  have Z_3 : n0 ≤ h3.size := Nat.le_trans Z0 E3.1
  have KK_3 : Keep h0 h3 [self] := (Keep.refl h0 [self]).ext E3
  show D (T3.setTop (mkF m 10 #[.val (.ref self), .val (.ref p1), .val (.int (3 : Int32)), .unset, .unset] [(.ref b3), (.ref self)]))
  obtain ⟨T4, h4, X4, e4, W4, st4⟩ := putF X3 hx hZ hown (host := "") (Or.inl (hw _ (List.mem_of_getElem? (i := 11) rfl))) Via.refl e3 F_start_3 E_self_3 (Or.inr ⟨(hw _ (List.mem_of_getElem? (i := 12) rfl)), rfl, hnm⟩) (hw _ (List.mem_of_getElem? (i := 3) rfl)) (ty := (.array .int)) (by decide) rfl rfl (g := (mkF m 10 #[.val (.ref self), .val (.ref p1), .val (.int (3 : Int32)), .unset, .unset] [(.ref b3), (.ref self)])) rfl rfl (hb hby d1_10)
  have N4 := Fr.snoc X4 (Fr.nil n0) g_self
  have F_start_4 := F_start_3.same W4
  have E_self_4 := E_self_3.wr W4
  have F_rows_4 := F_rows_3.other W4 (Or.inr (slot_ne (Or.inr (hw _ (List.mem_of_getElem? (i := 14) rfl))) (Or.inr (hw _ (List.mem_of_getElem? (i := 12) rfl))) (by decide) (t := (.array .int)) (t' := (.array .int)) (by decide) (by decide)))
  have V_p1_4 := V_p1_3.other W4 (Ne.symm (ne_ari E_self_3 (hw _ (List.mem_of_getElem? (i := 3) rfl)) V_p1_3))
  have V_b3_4 := V_b3.other W4 (Ne.symm ne_self_b3)
  have EA_b3_4 := EA_b3.wr W4
  have Z_4 : n0 ≤ h4.size := Nat.le_trans Z_3 (Nat.le_of_eq W4.size.symm)
  have KK_4 : Keep h0 h4 [self] := KK_3.wr W4 (Or.inl (List.mem_of_getElem? (i := 0) rfl))
  refine A (st4 _) ?_
  show D (T4.setTop (mkF m 13 #[.val (.ref self), .val (.ref p1), .val (.int (3 : Int32)), .unset, .unset] []))
  have Vc5 : ArI Z h4 b3 .int 4 (fun i => Int32.ofNat (own_m0 k0 k1 k2 k3 i)) := V_b3_4.eqf (fun i hi => own_l0 k0 (by omega) k1 (by omega) k2 (by omega) k3 (by omega) i (by omega))
  refine A (XS.iconst X4.here hx rfl (hb hby d1_13)) ?_
  show D (T4.setTop (mkF m 14 #[.val (.ref self), .val (.ref p1), .val (.int (3 : Int32)), .unset, .unset] [(.int (0 : Int32))]))
  refine A (XS.istoreN X4.here hx rfl (hb hby d1_14) rfl (l' := #[.val (.ref self), .val (.ref p1), .val (.int (3 : Int32)), .val (.int (0 : Int32)), .unset]) rfl) ?_
  show D (T4.setTop (mkF m 15 #[.val (.ref self), .val (.ref p1), .val (.int (3 : Int32)), .val (.int (0 : Int32)), .unset] []))
  refine A (XS.iloadN X4.here hx rfl (hb hby d1_15) rfl) ?_
  show D (T4.setTop (mkF m 16 #[.val (.ref self), .val (.ref p1), .val (.int (3 : Int32)), .val (.int (0 : Int32)), .unset] [(.int (0 : Int32))]))
  refine A (XS.aloadN X4.here hx rfl (hb hby d1_16) rfl rfl) ?_
  show D (T4.setTop (mkF m 17 #[.val (.ref self), .val (.ref p1), .val (.int (3 : Int32)), .val (.int (0 : Int32)), .unset] [(.ref p1), (.int (0 : Int32))]))
  refine Adv.lenI A X4 hx hZ e4 V_p1_4 (g := (mkF m 17 #[.val (.ref self), .val (.ref p1), .val (.int (3 : Int32)), .val (.int (0 : Int32)), .unset] [(.ref p1), (.int (0 : Int32))])) rfl rfl (hb hby d1_17) ?_
  show D (T4.setTop (mkF m 18 #[.val (.ref self), .val (.ref p1), .val (.int (3 : Int32)), .val (.int (0 : Int32)), .unset] [(.int (4 : Int32)), (.int (0 : Int32))]))
  refine A (XS.icmpNo X4.here hx rfl (hb hby d1_18) rfl (tlt (by decide : (0 : Int32) < (4 : Int32))).2.1) ?_
  show D (T4.setTop (mkF m 21 #[.val (.ref self), .val (.ref p1), .val (.int (3 : Int32)), .val (.int (0 : Int32)), .unset] []))
  refine A (XS.aloadN X4.here hx rfl (hb hby d1_21) rfl rfl) ?_
  show D (T4.setTop (mkF m 22 #[.val (.ref self), .val (.ref p1), .val (.int (3 : Int32)), .val (.int (0 : Int32)), .unset] [(.ref self)]))
  obtain ⟨T6, X6, e6, st6⟩ := getF X4 hx hZ hown (host := "") (Or.inl (hw _ (List.mem_of_getElem? (i := 11) rfl))) Via.refl e4 F_start_4 (g := (mkF m 22 #[.val (.ref self), .val (.ref p1), .val (.int (3 : Int32)), .val (.int (0 : Int32)), .unset] [(.ref self)])) rfl rfl (hb hby d1_22)
  refine A (st6 _) ?_
  show D (T6.setTop (mkF m 25 #[.val (.ref self), .val (.ref p1), .val (.int (3 : Int32)), .val (.int (0 : Int32)), .unset] [(.ref b3)]))
  refine A (XS.aloadN X6.here hx rfl (hb hby d1_25) rfl rfl) ?_
  show D (T6.setTop (mkF m 26 #[.val (.ref self), .val (.ref p1), .val (.int (3 : Int32)), .val (.int (0 : Int32)), .unset] [(.ref p1), (.ref b3)]))
  refine A (XS.iloadN X6.here hx rfl (hb hby d1_26) rfl) ?_
  show D (T6.setTop (mkF m 27 #[.val (.ref self), .val (.ref p1), .val (.int (3 : Int32)), .val (.int (0 : Int32)), .unset] [(.int (0 : Int32)), (.ref p1), (.ref b3)]))
  refine Adv.ldI A X6 hx hZ e6 V_p1_4 (k := 0) (by decide) (by decide) (g := (mkF m 27 #[.val (.ref self), .val (.ref p1), .val (.int (3 : Int32)), .val (.int (0 : Int32)), .unset] [(.int (0 : Int32)), (.ref p1), (.ref b3)])) rfl rfl (hb hby d1_27) ?_
  show D (T6.setTop (mkF m 28 #[.val (.ref self), .val (.ref p1), .val (.int (3 : Int32)), .val (.int (0 : Int32)), .unset] [(.int (Int32.ofNat k0)), (.ref b3)]))
  refine A (XS.iconst X6.here hx rfl (hb hby d1_28)) ?_
  show D (T6.setTop (mkF m 29 #[.val (.ref self), .val (.ref p1), .val (.int (3 : Int32)), .val (.int (0 : Int32)), .unset] [(.int (1 : Int32)), (.int (Int32.ofNat k0)), (.ref b3)]))
  refine A (XS.iadd X6.here hx rfl (hb hby d1_29) rfl) ?_
  show D (T6.setTop (mkF m 30 #[.val (.ref self), .val (.ref p1), .val (.int (3 : Int32)), .val (.int (0 : Int32)), .unset] [(.int ((Int32.ofNat k0) + (1 : Int32))), (.ref b3)]))
  refine A (S' := T6.setTop (mkF m 31 #[.val (.ref self), .val (.ref p1), .val (.int (3 : Int32)), .val (.int (0 : Int32)), .unset] [(.int ((Int32.ofNat k0) + (1 : Int32))), (.ref b3), (.int ((Int32.ofNat k0) + (1 : Int32))), (.ref b3)])) (fun {t} kt => ?_) ?_
  · jvm_step X6.here [X6.here.top, hx, (hb hby d1_30), Value.category]
    exact kt
  show D (T6.setTop (mkF m 31 #[.val (.ref self), .val (.ref p1), .val (.int (3 : Int32)), .val (.int (0 : Int32)), .unset] [(.int ((Int32.ofNat k0) + (1 : Int32))), (.ref b3), (.int ((Int32.ofNat k0) + (1 : Int32))), (.ref b3)]))
  refine Adv.ldI A X6 hx hZ e6 Vc5 (k := (k0 + 1)) (own_of1 (by omega)) (by omega) (g := (mkF m 31 #[.val (.ref self), .val (.ref p1), .val (.int (3 : Int32)), .val (.int (0 : Int32)), .unset] [(.int ((Int32.ofNat k0) + (1 : Int32))), (.ref b3), (.int ((Int32.ofNat k0) + (1 : Int32))), (.ref b3)])) rfl rfl (hb hby d1_31) ?_
  show D (T6.setTop (mkF m 32 #[.val (.ref self), .val (.ref p1), .val (.int (3 : Int32)), .val (.int (0 : Int32)), .unset] [(.int (Int32.ofNat (own_m0 k0 k1 k2 k3 (k0 + 1)))), (.int ((Int32.ofNat k0) + (1 : Int32))), (.ref b3)]))
  refine A (XS.iconst X6.here hx rfl (hb hby d1_32)) ?_
  show D (T6.setTop (mkF m 33 #[.val (.ref self), .val (.ref p1), .val (.int (3 : Int32)), .val (.int (0 : Int32)), .unset] [(.int (1 : Int32)), (.int (Int32.ofNat (own_m0 k0 k1 k2 k3 (k0 + 1)))), (.int ((Int32.ofNat k0) + (1 : Int32))), (.ref b3)]))
  refine A (XS.iadd X6.here hx rfl (hb hby d1_33) rfl) ?_
  show D (T6.setTop (mkF m 34 #[.val (.ref self), .val (.ref p1), .val (.int (3 : Int32)), .val (.int (0 : Int32)), .unset] [(.int ((Int32.ofNat (own_m0 k0 k1 k2 k3 (k0 + 1))) + (1 : Int32))), (.int ((Int32.ofNat k0) + (1 : Int32))), (.ref b3)]))
  refine Adv.stI A X6 hx hZ e6 Vc5 (k := (k0 + 1)) (own_of1 (by omega)) (by omega) (g := (mkF m 34 #[.val (.ref self), .val (.ref p1), .val (.int (3 : Int32)), .val (.int (0 : Int32)), .unset] [(.int ((Int32.ofNat (own_m0 k0 k1 k2 k3 (k0 + 1))) + (1 : Int32))), (.int ((Int32.ofNat k0) + (1 : Int32))), (.ref b3)])) rfl rfl (hb hby d1_34) ?_
  intro T7 h7 X7 e7 W7 Vb3_7
  have N7 := Fr.snoc X7 N4 g_b3
  have E_self_7 := E_self_4.wr W7
  have F_start_7 := F_start_4.other W7 (Or.inl ne_self_b3)
  have F_rows_7 := F_rows_4.other W7 (Or.inl ne_self_b3)
  have V_p1_7 := V_p1_4.other W7 ne_p1_b3
  have EA_b3_7 := EA_b3_4.wr W7
  have Z_7 : n0 ≤ h7.size := Nat.le_trans Z_4 (Nat.le_of_eq W7.size.symm)
  have KK_7 : Keep h0 h7 [self] := KK_4.wr W7 (Or.inr sz_b3)
  show D (T7.setTop (mkF m 35 #[.val (.ref self), .val (.ref p1), .val (.int (3 : Int32)), .val (.int (0 : Int32)), .unset] []))
  have Vc8 : ArI Z h7 b3 .int 4 (fun i => Int32.ofNat (own_m1 k0 k1 k2 k3 i)) := Vb3_7.eqf (fun i hi => own_l1_0 k0 (by omega) k1 (by omega) k2 (by omega) k3 (by omega) i (by omega))
  refine A (XS.iinc X7.here hx rfl (hb hby d1_35) rfl (l' := #[.val (.ref self), .val (.ref p1), .val (.int (3 : Int32)), .val (.int ((0 : Int32) + (1 : Int32))), .unset]) rfl) ?_
  show D (T7.setTop (mkF m 38 #[.val (.ref self), .val (.ref p1), .val (.int (3 : Int32)), .val (.int ((0 : Int32) + (1 : Int32))), .unset] []))
  suffices Kq9 : ∀ q9 : Int32, q9 = (1 : Int32) → D (T7.setTop (mkF m 38 #[.val (.ref self), .val (.ref p1), .val (.int (3 : Int32)), .val (.int q9), .unset] [])) from Kq9 _ (by decide)
  rintro _ rfl
  show D (T7.setTop (mkF m 38 #[.val (.ref self), .val (.ref p1), .val (.int (3 : Int32)), .val (.int (1 : Int32)), .unset] []))
  refine A (XS.goto X7.here hx rfl (pc0 := 38) (pc' := 15) rfl (hb hby d1_38) (by decide) (by decide)) ?_
  show D (T7.setTop (mkF m 15 #[.val (.ref self), .val (.ref p1), .val (.int (3 : Int32)), .val (.int (1 : Int32)), .unset] []))
  refine A (XS.iloadN X7.here hx rfl (hb hby d1_15) rfl) ?_
  show D (T7.setTop (mkF m 16 #[.val (.ref self), .val (.ref p1), .val (.int (3 : Int32)), .val (.int (1 : Int32)), .unset] [(.int (1 : Int32))]))
  refine A (XS.aloadN X7.here hx rfl (hb hby d1_16) rfl rfl) ?_
  show D (T7.setTop (mkF m 17 #[.val (.ref self), .val (.ref p1), .val (.int (3 : Int32)), .val (.int (1 : Int32)), .unset] [(.ref p1), (.int (1 : Int32))]))
  refine Adv.lenI A X7 hx hZ e7 V_p1_7 (g := (mkF m 17 #[.val (.ref self), .val (.ref p1), .val (.int (3 : Int32)), .val (.int (1 : Int32)), .unset] [(.ref p1), (.int (1 : Int32))])) rfl rfl (hb hby d1_17) ?_
  show D (T7.setTop (mkF m 18 #[.val (.ref self), .val (.ref p1), .val (.int (3 : Int32)), .val (.int (1 : Int32)), .unset] [(.int (4 : Int32)), (.int (1 : Int32))]))
  refine A (XS.icmpNo X7.here hx rfl (hb hby d1_18) rfl (tlt (by decide : (1 : Int32) < (4 : Int32))).2.1) ?_
  show D (T7.setTop (mkF m 21 #[.val (.ref self), .val (.ref p1), .val (.int (3 : Int32)), .val (.int (1 : Int32)), .unset] []))
  refine A (XS.aloadN X7.here hx rfl (hb hby d1_21) rfl rfl) ?_
  show D (T7.setTop (mkF m 22 #[.val (.ref self), .val (.ref p1), .val (.int (3 : Int32)), .val (.int (1 : Int32)), .unset] [(.ref self)]))
  obtain ⟨T10, X10, e10, st10⟩ := getF X7 hx hZ hown (host := "") (Or.inl (hw _ (List.mem_of_getElem? (i := 11) rfl))) Via.refl e7 F_start_7 (g := (mkF m 22 #[.val (.ref self), .val (.ref p1), .val (.int (3 : Int32)), .val (.int (1 : Int32)), .unset] [(.ref self)])) rfl rfl (hb hby d1_22)
  refine A (st10 _) ?_
  show D (T10.setTop (mkF m 25 #[.val (.ref self), .val (.ref p1), .val (.int (3 : Int32)), .val (.int (1 : Int32)), .unset] [(.ref b3)]))
  refine A (XS.aloadN X10.here hx rfl (hb hby d1_25) rfl rfl) ?_
  show D (T10.setTop (mkF m 26 #[.val (.ref self), .val (.ref p1), .val (.int (3 : Int32)), .val (.int (1 : Int32)), .unset] [(.ref p1), (.ref b3)]))
  refine A (XS.iloadN X10.here hx rfl (hb hby d1_26) rfl) ?_
  show D (T10.setTop (mkF m 27 #[.val (.ref self), .val (.ref p1), .val (.int (3 : Int32)), .val (.int (1 : Int32)), .unset] [(.int (1 : Int32)), (.ref p1), (.ref b3)]))
  refine Adv.ldI A X10 hx hZ e10 V_p1_7 (k := 1) (by decide) (by decide) (g := (mkF m 27 #[.val (.ref self), .val (.ref p1), .val (.int (3 : Int32)), .val (.int (1 : Int32)), .unset] [(.int (1 : Int32)), (.ref p1), (.ref b3)])) rfl rfl (hb hby d1_27) ?_
  show D (T10.setTop (mkF m 28 #[.val (.ref self), .val (.ref p1), .val (.int (3 : Int32)), .val (.int (1 : Int32)), .unset] [(.int (Int32.ofNat k1)), (.ref b3)]))
  refine A (XS.iconst X10.here hx rfl (hb hby d1_28)) ?_
  show D (T10.setTop (mkF m 29 #[.val (.ref self), .val (.ref p1), .val (.int (3 : Int32)), .val (.int (1 : Int32)), .unset] [(.int (1 : Int32)), (.int (Int32.ofNat k1)), (.ref b3)]))
  refine A (XS.iadd X10.here hx rfl (hb hby d1_29) rfl) ?_
  show D (T10.setTop (mkF m 30 #[.val (.ref self), .val (.ref p1), .val (.int (3 : Int32)), .val (.int (1 : Int32)), .unset] [(.int ((Int32.ofNat k1) + (1 : Int32))), (.ref b3)]))
  refine A (S' := T10.setTop (mkF m 31 #[.val (.ref self), .val (.ref p1), .val (.int (3 : Int32)), .val (.int (1 : Int32)), .unset] [(.int ((Int32.ofNat k1) + (1 : Int32))), (.ref b3), (.int ((Int32.ofNat k1) + (1 : Int32))), (.ref b3)])) (fun {t} kt => ?_) ?_
  · jvm_step X10.here [X10.here.top, hx, (hb hby d1_30), Value.category]
    exact kt
  show D (T10.setTop (mkF m 31 #[.val (.ref self), .val (.ref p1), .val (.int (3 : Int32)), .val (.int (1 : Int32)), .unset] [(.int ((Int32.ofNat k1) + (1 : Int32))), (.ref b3), (.int ((Int32.ofNat k1) + (1 : Int32))), (.ref b3)]))
  refine Adv.ldI A X10 hx hZ e10 Vc8 (k := (k1 + 1)) (own_of1 (by omega)) (by omega) (g := (mkF m 31 #[.val (.ref self), .val (.ref p1), .val (.int (3 : Int32)), .val (.int (1 : Int32)), .unset] [(.int ((Int32.ofNat k1) + (1 : Int32))), (.ref b3), (.int ((Int32.ofNat k1) + (1 : Int32))), (.ref b3)])) rfl rfl (hb hby d1_31) ?_
  show D (T10.setTop (mkF m 32 #[.val (.ref self), .val (.ref p1), .val (.int (3 : Int32)), .val (.int (1 : Int32)), .unset] [(.int (Int32.ofNat (own_m1 k0 k1 k2 k3 (k1 + 1)))), (.int ((Int32.ofNat k1) + (1 : Int32))), (.ref b3)]))
  refine A (XS.iconst X10.here hx rfl (hb hby d1_32)) ?_
  show D (T10.setTop (mkF m 33 #[.val (.ref self), .val (.ref p1), .val (.int (3 : Int32)), .val (.int (1 : Int32)), .unset] [(.int (1 : Int32)), (.int (Int32.ofNat (own_m1 k0 k1 k2 k3 (k1 + 1)))), (.int ((Int32.ofNat k1) + (1 : Int32))), (.ref b3)]))
  refine A (XS.iadd X10.here hx rfl (hb hby d1_33) rfl) ?_
  show D (T10.setTop (mkF m 34 #[.val (.ref self), .val (.ref p1), .val (.int (3 : Int32)), .val (.int (1 : Int32)), .unset] [(.int ((Int32.ofNat (own_m1 k0 k1 k2 k3 (k1 + 1))) + (1 : Int32))), (.int ((Int32.ofNat k1) + (1 : Int32))), (.ref b3)]))
  refine Adv.stI A X10 hx hZ e10 Vc8 (k := (k1 + 1)) (own_of1 (by omega)) (by omega) (g := (mkF m 34 #[.val (.ref self), .val (.ref p1), .val (.int (3 : Int32)), .val (.int (1 : Int32)), .unset] [(.int ((Int32.ofNat (own_m1 k0 k1 k2 k3 (k1 + 1))) + (1 : Int32))), (.int ((Int32.ofNat k1) + (1 : Int32))), (.ref b3)])) rfl rfl (hb hby d1_34) ?_
  intro T11 h11 X11 e11 W11 Vb3_11
  have N11 := Fr.snoc X11 N7 g_b3
  have E_self_11 := E_self_7.wr W11
  have F_start_11 := F_start_7.other W11 (Or.inl ne_self_b3)
  have F_rows_11 := F_rows_7.other W11 (Or.inl ne_self_b3)
  have V_p1_11 := V_p1_7.other W11 ne_p1_b3
  have EA_b3_11 := EA_b3_7.wr W11
  have Z_11 : n0 ≤ h11.size := Nat.le_trans Z_7 (Nat.le_of_eq W11.size.symm)
  have KK_11 : Keep h0 h11 [self] := KK_7.wr W11 (Or.inr sz_b3)
  show D (T11.setTop (mkF m 35 #[.val (.ref self), .val (.ref p1), .val (.int (3 : Int32)), .val (.int (1 : Int32)), .unset] []))
  have Vc12 : ArI Z h11 b3 .int 4 (fun i => Int32.ofNat (own_m2 k0 k1 k2 k3 i)) := Vb3_11.eqf (fun i hi => own_l1_1 k0 (by omega) k1 (by omega) k2 (by omega) k3 (by omega) i (by omega))
  refine A (XS.iinc X11.here hx rfl (hb hby d1_35) rfl (l' := #[.val (.ref self), .val (.ref p1), .val (.int (3 : Int32)), .val (.int ((1 : Int32) + (1 : Int32))), .unset]) rfl) ?_
  show D (T11.setTop (mkF m 38 #[.val (.ref self), .val (.ref p1), .val (.int (3 : Int32)), .val (.int ((1 : Int32) + (1 : Int32))), .unset] []))
  suffices Kq13 : ∀ q13 : Int32, q13 = (2 : Int32) → D (T11.setTop (mkF m 38 #[.val (.ref self), .val (.ref p1), .val (.int (3 : Int32)), .val (.int q13), .unset] [])) from Kq13 _ (by decide)
  rintro _ rfl
  show D (T11.setTop (mkF m 38 #[.val (.ref self), .val (.ref p1), .val (.int (3 : Int32)), .val (.int (2 : Int32)), .unset] []))
  refine A (XS.goto X11.here hx rfl (pc0 := 38) (pc' := 15) rfl (hb hby d1_38) (by decide) (by decide)) ?_
  show D (T11.setTop (mkF m 15 #[.val (.ref self), .val (.ref p1), .val (.int (3 : Int32)), .val (.int (2 : Int32)), .unset] []))
  refine A (XS.iloadN X11.here hx rfl (hb hby d1_15) rfl) ?_
  show D (T11.setTop (mkF m 16 #[.val (.ref self), .val (.ref p1), .val (.int (3 : Int32)), .val (.int (2 : Int32)), .unset] [(.int (2 : Int32))]))
  refine A (XS.aloadN X11.here hx rfl (hb hby d1_16) rfl rfl) ?_
  show D (T11.setTop (mkF m 17 #[.val (.ref self), .val (.ref p1), .val (.int (3 : Int32)), .val (.int (2 : Int32)), .unset] [(.ref p1), (.int (2 : Int32))]))
  refine Adv.lenI A X11 hx hZ e11 V_p1_11 (g := (mkF m 17 #[.val (.ref self), .val (.ref p1), .val (.int (3 : Int32)), .val (.int (2 : Int32)), .unset] [(.ref p1), (.int (2 : Int32))])) rfl rfl (hb hby d1_17) ?_
  show D (T11.setTop (mkF m 18 #[.val (.ref self), .val (.ref p1), .val (.int (3 : Int32)), .val (.int (2 : Int32)), .unset] [(.int (4 : Int32)), (.int (2 : Int32))]))
  refine A (XS.icmpNo X11.here hx rfl (hb hby d1_18) rfl (tlt (by decide : (2 : Int32) < (4 : Int32))).2.1) ?_
  show D (T11.setTop (mkF m 21 #[.val (.ref self), .val (.ref p1), .val (.int (3 : Int32)), .val (.int (2 : Int32)), .unset] []))
  refine A (XS.aloadN X11.here hx rfl (hb hby d1_21) rfl rfl) ?_
  show D (T11.setTop (mkF m 22 #[.val (.ref self), .val (.ref p1), .val (.int (3 : Int32)), .val (.int (2 : Int32)), .unset] [(.ref self)]))
  obtain ⟨T14, X14, e14, st14⟩ := getF X11 hx hZ hown (host := "") (Or.inl (hw _ (List.mem_of_getElem? (i := 11) rfl))) Via.refl e11 F_start_11 (g := (mkF m 22 #[.val (.ref self), .val (.ref p1), .val (.int (3 : Int32)), .val (.int (2 : Int32)), .unset] [(.ref self)])) rfl rfl (hb hby d1_22)
  refine A (st14 _) ?_
  show D (T14.setTop (mkF m 25 #[.val (.ref self), .val (.ref p1), .val (.int (3 : Int32)), .val (.int (2 : Int32)), .unset] [(.ref b3)]))
  refine A (XS.aloadN X14.here hx rfl (hb hby d1_25) rfl rfl) ?_
  show D (T14.setTop (mkF m 26 #[.val (.ref self), .val (.ref p1), .val (.int (3 : Int32)), .val (.int (2 : Int32)), .unset] [(.ref p1), (.ref b3)]))
  refine A (XS.iloadN X14.here hx rfl (hb hby d1_26) rfl) ?_
  show D (T14.setTop (mkF m 27 #[.val (.ref self), .val (.ref p1), .val (.int (3 : Int32)), .val (.int (2 : Int32)), .unset] [(.int (2 : Int32)), (.ref p1), (.ref b3)]))
  refine Adv.ldI A X14 hx hZ e14 V_p1_11 (k := 2) (by decide) (by decide) (g := (mkF m 27 #[.val (.ref self), .val (.ref p1), .val (.int (3 : Int32)), .val (.int (2 : Int32)), .unset] [(.int (2 : Int32)), (.ref p1), (.ref b3)])) rfl rfl (hb hby d1_27) ?_
  show D (T14.setTop (mkF m 28 #[.val (.ref self), .val (.ref p1), .val (.int (3 : Int32)), .val (.int (2 : Int32)), .unset] [(.int (Int32.ofNat k2)), (.ref b3)]))
  refine A (XS.iconst X14.here hx rfl (hb hby d1_28)) ?_
  show D (T14.setTop (mkF m 29 #[.val (.ref self), .val (.ref p1), .val (.int (3 : Int32)), .val (.int (2 : Int32)), .unset] [(.int (1 : Int32)), (.int (Int32.ofNat k2)), (.ref b3)]))
  refine A (XS.iadd X14.here hx rfl (hb hby d1_29) rfl) ?_
  show D (T14.setTop (mkF m 30 #[.val (.ref self), .val (.ref p1), .val (.int (3 : Int32)), .val (.int (2 : Int32)), .unset] [(.int ((Int32.ofNat k2) + (1 : Int32))), (.ref b3)]))
  refine A (S' := T14.setTop (mkF m 31 #[.val (.ref self), .val (.ref p1), .val (.int (3 : Int32)), .val (.int (2 : Int32)), .unset] [(.int ((Int32.ofNat k2) + (1 : Int32))), (.ref b3), (.int ((Int32.ofNat k2) + (1 : Int32))), (.ref b3)])) (fun {t} kt => ?_) ?_
  · jvm_step X14.here [X14.here.top, hx, (hb hby d1_30), Value.category]
    exact kt
  show D (T14.setTop (mkF m 31 #[.val (.ref self), .val (.ref p1), .val (.int (3 : Int32)), .val (.int (2 : Int32)), .unset] [(.int ((Int32.ofNat k2) + (1 : Int32))), (.ref b3), (.int ((Int32.ofNat k2) + (1 : Int32))), (.ref b3)]))
  refine Adv.ldI A X14 hx hZ e14 Vc12 (k := (k2 + 1)) (own_of1 (by omega)) (by omega) (g := (mkF m 31 #[.val (.ref self), .val (.ref p1), .val (.int (3 : Int32)), .val (.int (2 : Int32)), .unset] [(.int ((Int32.ofNat k2) + (1 : Int32))), (.ref b3), (.int ((Int32.ofNat k2) + (1 : Int32))), (.ref b3)])) rfl rfl (hb hby d1_31) ?_
  show D (T14.setTop (mkF m 32 #[.val (.ref self), .val (.ref p1), .val (.int (3 : Int32)), .val (.int (2 : Int32)), .unset] [(.int (Int32.ofNat (own_m2 k0 k1 k2 k3 (k2 + 1)))), (.int ((Int32.ofNat k2) + (1 : Int32))), (.ref b3)]))
  refine A (XS.iconst X14.here hx rfl (hb hby d1_32)) ?_
  show D (T14.setTop (mkF m 33 #[.val (.ref self), .val (.ref p1), .val (.int (3 : Int32)), .val (.int (2 : Int32)), .unset] [(.int (1 : Int32)), (.int (Int32.ofNat (own_m2 k0 k1 k2 k3 (k2 + 1)))), (.int ((Int32.ofNat k2) + (1 : Int32))), (.ref b3)]))
  refine A (XS.iadd X14.here hx rfl (hb hby d1_33) rfl) ?_
  show D (T14.setTop (mkF m 34 #[.val (.ref self), .val (.ref p1), .val (.int (3 : Int32)), .val (.int (2 : Int32)), .unset] [(.int ((Int32.ofNat (own_m2 k0 k1 k2 k3 (k2 + 1))) + (1 : Int32))), (.int ((Int32.ofNat k2) + (1 : Int32))), (.ref b3)]))
  refine Adv.stI A X14 hx hZ e14 Vc12 (k := (k2 + 1)) (own_of1 (by omega)) (by omega) (g := (mkF m 34 #[.val (.ref self), .val (.ref p1), .val (.int (3 : Int32)), .val (.int (2 : Int32)), .unset] [(.int ((Int32.ofNat (own_m2 k0 k1 k2 k3 (k2 + 1))) + (1 : Int32))), (.int ((Int32.ofNat k2) + (1 : Int32))), (.ref b3)])) rfl rfl (hb hby d1_34) ?_
  intro T15 h15 X15 e15 W15 Vb3_15
  have N15 := Fr.snoc X15 N11 g_b3
  have E_self_15 := E_self_11.wr W15
  have F_start_15 := F_start_11.other W15 (Or.inl ne_self_b3)
  have F_rows_15 := F_rows_11.other W15 (Or.inl ne_self_b3)
  have V_p1_15 := V_p1_11.other W15 ne_p1_b3
  have EA_b3_15 := EA_b3_11.wr W15
  have Z_15 : n0 ≤ h15.size := Nat.le_trans Z_11 (Nat.le_of_eq W15.size.symm)
  have KK_15 : Keep h0 h15 [self] := KK_11.wr W15 (Or.inr sz_b3)
  show D (T15.setTop (mkF m 35 #[.val (.ref self), .val (.ref p1), .val (.int (3 : Int32)), .val (.int (2 : Int32)), .unset] []))
  have Vc16 : ArI Z h15 b3 .int 4 (fun i => Int32.ofNat (own_m3 k0 k1 k2 k3 i)) := Vb3_15.eqf (fun i hi => own_l1_2 k0 (by omega) k1 (by omega) k2 (by omega) k3 (by omega) i (by omega))
  refine A (XS.iinc X15.here hx rfl (hb hby d1_35) rfl (l' := #[.val (.ref self), .val (.ref p1), .val (.int (3 : Int32)), .val (.int ((2 : Int32) + (1 : Int32))), .unset]) rfl) ?_
  show D (T15.setTop (mkF m 38 #[.val (.ref self), .val (.ref p1), .val (.int (3 : Int32)), .val (.int ((2 : Int32) + (1 : Int32))), .unset] []))
  suffices Kq17 : ∀ q17 : Int32, q17 = (3 : Int32) → D (T15.setTop (mkF m 38 #[.val (.ref self), .val (.ref p1), .val (.int (3 : Int32)), .val (.int q17), .unset] [])) from Kq17 _ (by decide)
  rintro _ rfl
  show D (T15.setTop (mkF m 38 #[.val (.ref self), .val (.ref p1), .val (.int (3 : Int32)), .val (.int (3 : Int32)), .unset] []))
  refine A (XS.goto X15.here hx rfl (pc0 := 38) (pc' := 15) rfl (hb hby d1_38) (by decide) (by decide)) ?_
  show D (T15.setTop (mkF m 15 #[.val (.ref self), .val (.ref p1), .val (.int (3 : Int32)), .val (.int (3 : Int32)), .unset] []))
  refine A (XS.iloadN X15.here hx rfl (hb hby d1_15) rfl) ?_
  show D (T15.setTop (mkF m 16 #[.val (.ref self), .val (.ref p1), .val (.int (3 : Int32)), .val (.int (3 : Int32)), .unset] [(.int (3 : Int32))]))
  refine A (XS.aloadN X15.here hx rfl (hb hby d1_16) rfl rfl) ?_
  show D (T15.setTop (mkF m 17 #[.val (.ref self), .val (.ref p1), .val (.int (3 : Int32)), .val (.int (3 : Int32)), .unset] [(.ref p1), (.int (3 : Int32))]))
  refine Adv.lenI A X15 hx hZ e15 V_p1_15 (g := (mkF m 17 #[.val (.ref self), .val (.ref p1), .val (.int (3 : Int32)), .val (.int (3 : Int32)), .unset] [(.ref p1), (.int (3 : Int32))])) rfl rfl (hb hby d1_17) ?_
  show D (T15.setTop (mkF m 18 #[.val (.ref self), .val (.ref p1), .val (.int (3 : Int32)), .val (.int (3 : Int32)), .unset] [(.int (4 : Int32)), (.int (3 : Int32))]))
  refine A (XS.icmpNo X15.here hx rfl (hb hby d1_18) rfl (tlt (by decide : (3 : Int32) < (4 : Int32))).2.1) ?_
  show D (T15.setTop (mkF m 21 #[.val (.ref self), .val (.ref p1), .val (.int (3 : Int32)), .val (.int (3 : Int32)), .unset] []))
  refine A (XS.aloadN X15.here hx rfl (hb hby d1_21) rfl rfl) ?_
  show D (T15.setTop (mkF m 22 #[.val (.ref self), .val (.ref p1), .val (.int (3 : Int32)), .val (.int (3 : Int32)), .unset] [(.ref self)]))
  obtain ⟨T18, X18, e18, st18⟩ := getF X15 hx hZ hown (host := "") (Or.inl (hw _ (List.mem_of_getElem? (i := 11) rfl))) Via.refl e15 F_start_15 (g := (mkF m 22 #[.val (.ref self), .val (.ref p1), .val (.int (3 : Int32)), .val (.int (3 : Int32)), .unset] [(.ref self)])) rfl rfl (hb hby d1_22)
  refine A (st18 _) ?_
  show D (T18.setTop (mkF m 25 #[.val (.ref self), .val (.ref p1), .val (.int (3 : Int32)), .val (.int (3 : Int32)), .unset] [(.ref b3)]))
  refine A (XS.aloadN X18.here hx rfl (hb hby d1_25) rfl rfl) ?_
  show D (T18.setTop (mkF m 26 #[.val (.ref self), .val (.ref p1), .val (.int (3 : Int32)), .val (.int (3 : Int32)), .unset] [(.ref p1), (.ref b3)]))
  refine A (XS.iloadN X18.here hx rfl (hb hby d1_26) rfl) ?_
  show D (T18.setTop (mkF m 27 #[.val (.ref self), .val (.ref p1), .val (.int (3 : Int32)), .val (.int (3 : Int32)), .unset] [(.int (3 : Int32)), (.ref p1), (.ref b3)]))
  refine Adv.ldI A X18 hx hZ e18 V_p1_15 (k := 3) (by decide) (by decide) (g := (mkF m 27 #[.val (.ref self), .val (.ref p1), .val (.int (3 : Int32)), .val (.int (3 : Int32)), .unset] [(.int (3 : Int32)), (.ref p1), (.ref b3)])) rfl rfl (hb hby d1_27) ?_
  show D (T18.setTop (mkF m 28 #[.val (.ref self), .val (.ref p1), .val (.int (3 : Int32)), .val (.int (3 : Int32)), .unset] [(.int (Int32.ofNat k3)), (.ref b3)]))
  refine A (XS.iconst X18.here hx rfl (hb hby d1_28)) ?_
  show D (T18.setTop (mkF m 29 #[.val (.ref self), .val (.ref p1), .val (.int (3 : Int32)), .val (.int (3 : Int32)), .unset] [(.int (1 : Int32)), (.int (Int32.ofNat k3)), (.ref b3)]))
  refine A (XS.iadd X18.here hx rfl (hb hby d1_29) rfl) ?_
  show D (T18.setTop (mkF m 30 #[.val (.ref self), .val (.ref p1), .val (.int (3 : Int32)), .val (.int (3 : Int32)), .unset] [(.int ((Int32.ofNat k3) + (1 : Int32))), (.ref b3)]))
  refine A (S' := T18.setTop (mkF m 31 #[.val (.ref self), .val (.ref p1), .val (.int (3 : Int32)), .val (.int (3 : Int32)), .unset] [(.int ((Int32.ofNat k3) + (1 : Int32))), (.ref b3), (.int ((Int32.ofNat k3) + (1 : Int32))), (.ref b3)])) (fun {t} kt => ?_) ?_
  · jvm_step X18.here [X18.here.top, hx, (hb hby d1_30), Value.category]
    exact kt
  show D (T18.setTop (mkF m 31 #[.val (.ref self), .val (.ref p1), .val (.int (3 : Int32)), .val (.int (3 : Int32)), .unset] [(.int ((Int32.ofNat k3) + (1 : Int32))), (.ref b3), (.int ((Int32.ofNat k3) + (1 : Int32))), (.ref b3)]))
  refine Adv.ldI A X18 hx hZ e18 Vc16 (k := (k3 + 1)) (own_of1 (by omega)) (by omega) (g := (mkF m 31 #[.val (.ref self), .val (.ref p1), .val (.int (3 : Int32)), .val (.int (3 : Int32)), .unset] [(.int ((Int32.ofNat k3) + (1 : Int32))), (.ref b3), (.int ((Int32.ofNat k3) + (1 : Int32))), (.ref b3)])) rfl rfl (hb hby d1_31) ?_
  show D (T18.setTop (mkF m 32 #[.val (.ref self), .val (.ref p1), .val (.int (3 : Int32)), .val (.int (3 : Int32)), .unset] [(.int (Int32.ofNat (own_m3 k0 k1 k2 k3 (k3 + 1)))), (.int ((Int32.ofNat k3) + (1 : Int32))), (.ref b3)]))
  refine A (XS.iconst X18.here hx rfl (hb hby d1_32)) ?_
  show D (T18.setTop (mkF m 33 #[.val (.ref self), .val (.ref p1), .val (.int (3 : Int32)), .val (.int (3 : Int32)), .unset] [(.int (1 : Int32)), (.int (Int32.ofNat (own_m3 k0 k1 k2 k3 (k3 + 1)))), (.int ((Int32.ofNat k3) + (1 : Int32))), (.ref b3)]))
  refine A (XS.iadd X18.here hx rfl (hb hby d1_33) rfl) ?_
  show D (T18.setTop (mkF m 34 #[.val (.ref self), .val (.ref p1), .val (.int (3 : Int32)), .val (.int (3 : Int32)), .unset] [(.int ((Int32.ofNat (own_m3 k0 k1 k2 k3 (k3 + 1))) + (1 : Int32))), (.int ((Int32.ofNat k3) + (1 : Int32))), (.ref b3)]))
  refine Adv.stI A X18 hx hZ e18 Vc16 (k := (k3 + 1)) (own_of1 (by omega)) (by omega) (g := (mkF m 34 #[.val (.ref self), .val (.ref p1), .val (.int (3 : Int32)), .val (.int (3 : Int32)), .unset] [(.int ((Int32.ofNat (own_m3 k0 k1 k2 k3 (k3 + 1))) + (1 : Int32))), (.int ((Int32.ofNat k3) + (1 : Int32))), (.ref b3)])) rfl rfl (hb hby d1_34) ?_
  intro T19 h19 X19 e19 W19 Vb3_19
  have N19 := Fr.snoc X19 N15 g_b3
  have E_self_19 := E_self_15.wr W19
  have F_start_19 := F_start_15.other W19 (Or.inl ne_self_b3)
  have F_rows_19 := F_rows_15.other W19 (Or.inl ne_self_b3)
  have V_p1_19 := V_p1_15.other W19 ne_p1_b3
  have EA_b3_19 := EA_b3_15.wr W19
  have Z_19 : n0 ≤ h19.size := Nat.le_trans Z_15 (Nat.le_of_eq W19.size.symm)
  have KK_19 : Keep h0 h19 [self] := KK_15.wr W19 (Or.inr sz_b3)
  show D (T19.setTop (mkF m 35 #[.val (.ref self), .val (.ref p1), .val (.int (3 : Int32)), .val (.int (3 : Int32)), .unset] []))
  have Vc20 : ArI Z h19 b3 .int 4 (fun i => Int32.ofNat (own_m4 k0 k1 k2 k3 i)) := Vb3_19.eqf (fun i hi => own_l1_3 k0 (by omega) k1 (by omega) k2 (by omega) k3 (by omega) i (by omega))
  refine A (XS.iinc X19.here hx rfl (hb hby d1_35) rfl (l' := #[.val (.ref self), .val (.ref p1), .val (.int (3 : Int32)), .val (.int ((3 : Int32) + (1 : Int32))), .unset]) rfl) ?_
  show D (T19.setTop (mkF m 38 #[.val (.ref self), .val (.ref p1), .val (.int (3 : Int32)), .val (.int ((3 : Int32) + (1 : Int32))), .unset] []))
  suffices Kq21 : ∀ q21 : Int32, q21 = (4 : Int32) → D (T19.setTop (mkF m 38 #[.val (.ref self), .val (.ref p1), .val (.int (3 : Int32)), .val (.int q21), .unset] [])) from Kq21 _ (by decide)
  rintro _ rfl
  show D (T19.setTop (mkF m 38 #[.val (.ref self), .val (.ref p1), .val (.int (3 : Int32)), .val (.int (4 : Int32)), .unset] []))
  refine A (XS.goto X19.here hx rfl (pc0 := 38) (pc' := 15) rfl (hb hby d1_38) (by decide) (by decide)) ?_
  show D (T19.setTop (mkF m 15 #[.val (.ref self), .val (.ref p1), .val (.int (3 : Int32)), .val (.int (4 : Int32)), .unset] []))
  refine A (XS.iloadN X19.here hx rfl (hb hby d1_15) rfl) ?_
  show D (T19.setTop (mkF m 16 #[.val (.ref self), .val (.ref p1), .val (.int (3 : Int32)), .val (.int (4 : Int32)), .unset] [(.int (4 : Int32))]))
  refine A (XS.aloadN X19.here hx rfl (hb hby d1_16) rfl rfl) ?_
  show D (T19.setTop (mkF m 17 #[.val (.ref self), .val (.ref p1), .val (.int (3 : Int32)), .val (.int (4 : Int32)), .unset] [(.ref p1), (.int (4 : Int32))]))
  refine Adv.lenI A X19 hx hZ e19 V_p1_19 (g := (mkF m 17 #[.val (.ref self), .val (.ref p1), .val (.int (3 : Int32)), .val (.int (4 : Int32)), .unset] [(.ref p1), (.int (4 : Int32))])) rfl rfl (hb hby d1_17) ?_
  show D (T19.setTop (mkF m 18 #[.val (.ref self), .val (.ref p1), .val (.int (3 : Int32)), .val (.int (4 : Int32)), .unset] [(.int (4 : Int32)), (.int (4 : Int32))]))
  refine A (XS.icmpYes X19.here hx rfl (pc0 := 18) (pc' := 41) rfl (hb hby d1_18) rfl (flt (by decide : ¬ ((4 : Int32) < (4 : Int32)))).2.1 (by decide) (by decide)) ?_
  show D (T19.setTop (mkF m 41 #[.val (.ref self), .val (.ref p1), .val (.int (3 : Int32)), .val (.int (4 : Int32)), .unset] []))
  have Vc22 : ArI Z h19 b3 .int 4 (fun i => Int32.ofNat (own_p0 k0 k1 k2 k3 i)) := Vc20.eqf (fun i hi => own_l12 k0 (by omega) k1 (by omega) k2 (by omega) k3 (by omega) i (by omega))
  refine A (XS.iconst X19.here hx rfl (hb hby d1_41)) ?_
  show D (T19.setTop (mkF m 42 #[.val (.ref self), .val (.ref p1), .val (.int (3 : Int32)), .val (.int (4 : Int32)), .unset] [(.int (0 : Int32))]))
  refine A (XS.istoreN X19.here hx rfl (hb hby d1_42) rfl (l' := #[.val (.ref self), .val (.ref p1), .val (.int (3 : Int32)), .val (.int (0 : Int32)), .unset]) rfl) ?_
  show D (T19.setTop (mkF m 43 #[.val (.ref self), .val (.ref p1), .val (.int (3 : Int32)), .val (.int (0 : Int32)), .unset] []))
  refine A (XS.iloadN X19.here hx rfl (hb hby d1_43) rfl) ?_
  show D (T19.setTop (mkF m 44 #[.val (.ref self), .val (.ref p1), .val (.int (3 : Int32)), .val (.int (0 : Int32)), .unset] [(.int (0 : Int32))]))
  refine A (XS.iloadN X19.here hx rfl (hb hby d1_44) rfl) ?_
  show D (T19.setTop (mkF m 45 #[.val (.ref self), .val (.ref p1), .val (.int (3 : Int32)), .val (.int (0 : Int32)), .unset] [(.int (3 : Int32)), (.int (0 : Int32))]))
  refine A (XS.icmpNo X19.here hx rfl (hb hby d1_45) rfl (tlt (by decide : (0 : Int32) < (3 : Int32))).2.1) ?_
  show D (T19.setTop (mkF m 48 #[.val (.ref self), .val (.ref p1), .val (.int (3 : Int32)), .val (.int (0 : Int32)), .unset] []))
  refine A (XS.aloadN X19.here hx rfl (hb hby d1_48) rfl rfl) ?_
  show D (T19.setTop (mkF m 49 #[.val (.ref self), .val (.ref p1), .val (.int (3 : Int32)), .val (.int (0 : Int32)), .unset] [(.ref self)]))
  obtain ⟨T23, X23, e23, st23⟩ := getF X19 hx hZ hown (host := "") (Or.inl (hw _ (List.mem_of_getElem? (i := 11) rfl))) Via.refl e19 F_start_19 (g := (mkF m 49 #[.val (.ref self), .val (.ref p1), .val (.int (3 : Int32)), .val (.int (0 : Int32)), .unset] [(.ref self)])) rfl rfl (hb hby d1_49)
  refine A (st23 _) ?_
  show D (T23.setTop (mkF m 52 #[.val (.ref self), .val (.ref p1), .val (.int (3 : Int32)), .val (.int (0 : Int32)), .unset] [(.ref b3)]))
  refine A (XS.iloadN X23.here hx rfl (hb hby d1_52) rfl) ?_
  show D (T23.setTop (mkF m 53 #[.val (.ref self), .val (.ref p1), .val (.int (3 : Int32)), .val (.int (0 : Int32)), .unset] [(.int (0 : Int32)), (.ref b3)]))
  refine A (XS.iconst X23.here hx rfl (hb hby d1_53)) ?_
  show D (T23.setTop (mkF m 54 #[.val (.ref self), .val (.ref p1), .val (.int (3 : Int32)), .val (.int (0 : Int32)), .unset] [(.int (1 : Int32)), (.int (0 : Int32)), (.ref b3)]))
  refine A (XS.iadd X23.here hx rfl (hb hby d1_54) rfl) ?_
  show D (T23.setTop (mkF m 55 #[.val (.ref self), .val (.ref p1), .val (.int (3 : Int32)), .val (.int (0 : Int32)), .unset] [(.int ((0 : Int32) + (1 : Int32))), (.ref b3)]))
  suffices Kq24 : ∀ q24 : Int32, q24 = (1 : Int32) → D (T23.setTop (mkF m 55 #[.val (.ref self), .val (.ref p1), .val (.int (3 : Int32)), .val (.int (0 : Int32)), .unset] [(.int q24), (.ref b3)])) from Kq24 _ (by decide)
  rintro _ rfl
  show D (T23.setTop (mkF m 55 #[.val (.ref self), .val (.ref p1), .val (.int (3 : Int32)), .val (.int (0 : Int32)), .unset] [(.int (1 : Int32)), (.ref b3)]))
  refine A (S' := T23.setTop (mkF m 56 #[.val (.ref self), .val (.ref p1), .val (.int (3 : Int32)), .val (.int (0 : Int32)), .unset] [(.int (1 : Int32)), (.ref b3), (.int (1 : Int32)), (.ref b3)])) (fun {t} kt => ?_) ?_
  · jvm_step X23.here [X23.here.top, hx, (hb hby d1_55), Value.category]
    exact kt
  show D (T23.setTop (mkF m 56 #[.val (.ref self), .val (.ref p1), .val (.int (3 : Int32)), .val (.int (0 : Int32)), .unset] [(.int (1 : Int32)), (.ref b3), (.int (1 : Int32)), (.ref b3)]))
  refine Adv.ldI A X23 hx hZ e23 Vc22 (k := 1) (by decide) (by decide) (g := (mkF m 56 #[.val (.ref self), .val (.ref p1), .val (.int (3 : Int32)), .val (.int (0 : Int32)), .unset] [(.int (1 : Int32)), (.ref b3), (.int (1 : Int32)), (.ref b3)])) rfl rfl (hb hby d1_56) ?_
  show D (T23.setTop (mkF m 57 #[.val (.ref self), .val (.ref p1), .val (.int (3 : Int32)), .val (.int (0 : Int32)), .unset] [(.int (Int32.ofNat (own_p0 k0 k1 k2 k3 1))), (.int (1 : Int32)), (.ref b3)]))
  refine A (XS.aloadN X23.here hx rfl (hb hby d1_57) rfl rfl) ?_
  show D (T23.setTop (mkF m 58 #[.val (.ref self), .val (.ref p1), .val (.int (3 : Int32)), .val (.int (0 : Int32)), .unset] [(.ref self), (.int (Int32.ofNat (own_p0 k0 k1 k2 k3 1))), (.int (1 : Int32)), (.ref b3)]))
  obtain ⟨T25, X25, e25, st25⟩ := getF X23 hx hZ hown (host := "") (Or.inl (hw _ (List.mem_of_getElem? (i := 11) rfl))) Via.refl e23 F_start_19 (g := (mkF m 58 #[.val (.ref self), .val (.ref p1), .val (.int (3 : Int32)), .val (.int (0 : Int32)), .unset] [(.ref self), (.int (Int32.ofNat (own_p0 k0 k1 k2 k3 1))), (.int (1 : Int32)), (.ref b3)])) rfl rfl (hb hby d1_58)
  refine A (st25 _) ?_
  show D (T25.setTop (mkF m 61 #[.val (.ref self), .val (.ref p1), .val (.int (3 : Int32)), .val (.int (0 : Int32)), .unset] [(.ref b3), (.int (Int32.ofNat (own_p0 k0 k1 k2 k3 1))), (.int (1 : Int32)), (.ref b3)]))
  refine A (XS.iloadN X25.here hx rfl (hb hby d1_61) rfl) ?_
  show D (T25.setTop (mkF m 62 #[.val (.ref self), .val (.ref p1), .val (.int (3 : Int32)), .val (.int (0 : Int32)), .unset] [(.int (0 : Int32)), (.ref b3), (.int (Int32.ofNat (own_p0 k0 k1 k2 k3 1))), (.int (1 : Int32)), (.ref b3)]))
  refine Adv.ldI A X25 hx hZ e25 Vc22 (k := 0) (by decide) (by decide) (g := (mkF m 62 #[.val (.ref self), .val (.ref p1), .val (.int (3 : Int32)), .val (.int (0 : Int32)), .unset] [(.int (0 : Int32)), (.ref b3), (.int (Int32.ofNat (own_p0 k0 k1 k2 k3 1))), (.int (1 : Int32)), (.ref b3)])) rfl rfl (hb hby d1_62) ?_
  show D (T25.setTop (mkF m 63 #[.val (.ref self), .val (.ref p1), .val (.int (3 : Int32)), .val (.int (0 : Int32)), .unset] [(.int (Int32.ofNat (own_p0 k0 k1 k2 k3 0))), (.int (Int32.ofNat (own_p0 k0 k1 k2 k3 1))), (.int (1 : Int32)), (.ref b3)]))
  refine A (XS.iadd X25.here hx rfl (hb hby d1_63) rfl) ?_
  show D (T25.setTop (mkF m 64 #[.val (.ref self), .val (.ref p1), .val (.int (3 : Int32)), .val (.int (0 : Int32)), .unset] [(.int ((Int32.ofNat (own_p0 k0 k1 k2 k3 1)) + (Int32.ofNat (own_p0 k0 k1 k2 k3 0)))), (.int (1 : Int32)), (.ref b3)]))
  refine Adv.stI A X25 hx hZ e25 Vc22 (k := 1) (by decide) (by decide) (g := (mkF m 64 #[.val (.ref self), .val (.ref p1), .val (.int (3 : Int32)), .val (.int (0 : Int32)), .unset] [(.int ((Int32.ofNat (own_p0 k0 k1 k2 k3 1)) + (Int32.ofNat (own_p0 k0 k1 k2 k3 0)))), (.int (1 : Int32)), (.ref b3)])) rfl rfl (hb hby d1_64) ?_
  intro T26 h26 X26 e26 W26 Vb3_26
  have N26 := Fr.snoc X26 N19 g_b3
  have E_self_26 := E_self_19.wr W26
  have F_start_26 := F_start_19.other W26 (Or.inl ne_self_b3)
  have F_rows_26 := F_rows_19.other W26 (Or.inl ne_self_b3)
  have V_p1_26 := V_p1_19.other W26 ne_p1_b3
  have EA_b3_26 := EA_b3_19.wr W26
  have Z_26 : n0 ≤ h26.size := Nat.le_trans Z_19 (Nat.le_of_eq W26.size.symm)
  have KK_26 : Keep h0 h26 [self] := KK_19.wr W26 (Or.inr sz_b3)
  show D (T26.setTop (mkF m 65 #[.val (.ref self), .val (.ref p1), .val (.int (3 : Int32)), .val (.int (0 : Int32)), .unset] []))
  have Vc27 : ArI Z h26 b3 .int 4 (fun i => Int32.ofNat (own_p1 k0 k1 k2 k3 i)) := Vb3_26.eqf (fun i hi => own_l2_0 k0 (by omega) k1 (by omega) k2 (by omega) k3 (by omega) i (by omega))
  refine A (XS.iinc X26.here hx rfl (hb hby d1_65) rfl (l' := #[.val (.ref self), .val (.ref p1), .val (.int (3 : Int32)), .val (.int ((0 : Int32) + (1 : Int32))), .unset]) rfl) ?_
  show D (T26.setTop (mkF m 68 #[.val (.ref self), .val (.ref p1), .val (.int (3 : Int32)), .val (.int ((0 : Int32) + (1 : Int32))), .unset] []))
  suffices Kq28 : ∀ q28 : Int32, q28 = (1 : Int32) → D (T26.setTop (mkF m 68 #[.val (.ref self), .val (.ref p1), .val (.int (3 : Int32)), .val (.int q28), .unset] [])) from Kq28 _ (by decide)
  rintro _ rfl
  show D (T26.setTop (mkF m 68 #[.val (.ref self), .val (.ref p1), .val (.int (3 : Int32)), .val (.int (1 : Int32)), .unset] []))
  refine A (XS.goto X26.here hx rfl (pc0 := 68) (pc' := 43) rfl (hb hby d1_68) (by decide) (by decide)) ?_
  show D (T26.setTop (mkF m 43 #[.val (.ref self), .val (.ref p1), .val (.int (3 : Int32)), .val (.int (1 : Int32)), .unset] []))
  refine A (XS.iloadN X26.here hx rfl (hb hby d1_43) rfl) ?_
  show D (T26.setTop (mkF m 44 #[.val (.ref self), .val (.ref p1), .val (.int (3 : Int32)), .val (.int (1 : Int32)), .unset] [(.int (1 : Int32))]))
  refine A (XS.iloadN X26.here hx rfl (hb hby d1_44) rfl) ?_
  show D (T26.setTop (mkF m 45 #[.val (.ref self), .val (.ref p1), .val (.int (3 : Int32)), .val (.int (1 : Int32)), .unset] [(.int (3 : Int32)), (.int (1 : Int32))]))
  refine A (XS.icmpNo X26.here hx rfl (hb hby d1_45) rfl (tlt (by decide : (1 : Int32) < (3 : Int32))).2.1) ?_
  show D (T26.setTop (mkF m 48 #[.val (.ref self), .val (.ref p1), .val (.int (3 : Int32)), .val (.int (1 : Int32)), .unset] []))
  refine A (XS.aloadN X26.here hx rfl (hb hby d1_48) rfl rfl) ?_
  show D (T26.setTop (mkF m 49 #[.val (.ref self), .val (.ref p1), .val (.int (3 : Int32)), .val (.int (1 : Int32)), .unset] [(.ref self)]))
  obtain ⟨T29, X29, e29, st29⟩ := getF X26 hx hZ hown (host := "") (Or.inl (hw _ (List.mem_of_getElem? (i := 11) rfl))) Via.refl e26 F_start_26 (g := (mkF m 49 #[.val (.ref self), .val (.ref p1), .val (.int (3 : Int32)), .val (.int (1 : Int32)), .unset] [(.ref self)])) rfl rfl (hb hby d1_49)
  refine A (st29 _) ?_
  show D (T29.setTop (mkF m 52 #[.val (.ref self), .val (.ref p1), .val (.int (3 : Int32)), .val (.int (1 : Int32)), .unset] [(.ref b3)]))
  refine A (XS.iloadN X29.here hx rfl (hb hby d1_52) rfl) ?_
  show D (T29.setTop (mkF m 53 #[.val (.ref self), .val (.ref p1), .val (.int (3 : Int32)), .val (.int (1 : Int32)), .unset] [(.int (1 : Int32)), (.ref b3)]))
  refine A (XS.iconst X29.here hx rfl (hb hby d1_53)) ?_
  show D (T29.setTop (mkF m 54 #[.val (.ref self), .val (.ref p1), .val (.int (3 : Int32)), .val (.int (1 : Int32)), .unset] [(.int (1 : Int32)), (.int (1 : Int32)), (.ref b3)]))
  refine A (XS.iadd X29.here hx rfl (hb hby d1_54) rfl) ?_
  show D (T29.setTop (mkF m 55 #[.val (.ref self), .val (.ref p1), .val (.int (3 : Int32)), .val (.int (1 : Int32)), .unset] [(.int ((1 : Int32) + (1 : Int32))), (.ref b3)]))
  suffices Kq30 : ∀ q30 : Int32, q30 = (2 : Int32) → D (T29.setTop (mkF m 55 #[.val (.ref self), .val (.ref p1), .val (.int (3 : Int32)), .val (.int (1 : Int32)), .unset] [(.int q30), (.ref b3)])) from Kq30 _ (by decide)
  rintro _ rfl
  show D (T29.setTop (mkF m 55 #[.val (.ref self), .val (.ref p1), .val (.int (3 : Int32)), .val (.int (1 : Int32)), .unset] [(.int (2 : Int32)), (.ref b3)]))
  refine A (S' := T29.setTop (mkF m 56 #[.val (.ref self), .val (.ref p1), .val (.int (3 : Int32)), .val (.int (1 : Int32)), .unset] [(.int (2 : Int32)), (.ref b3), (.int (2 : Int32)), (.ref b3)])) (fun {t} kt => ?_) ?_
  · jvm_step X29.here [X29.here.top, hx, (hb hby d1_55), Value.category]
    exact kt
  show D (T29.setTop (mkF m 56 #[.val (.ref self), .val (.ref p1), .val (.int (3 : Int32)), .val (.int (1 : Int32)), .unset] [(.int (2 : Int32)), (.ref b3), (.int (2 : Int32)), (.ref b3)]))
  refine Adv.ldI A X29 hx hZ e29 Vc27 (k := 2) (by decide) (by decide) (g := (mkF m 56 #[.val (.ref self), .val (.ref p1), .val (.int (3 : Int32)), .val (.int (1 : Int32)), .unset] [(.int (2 : Int32)), (.ref b3), (.int (2 : Int32)), (.ref b3)])) rfl rfl (hb hby d1_56) ?_
  show D (T29.setTop (mkF m 57 #[.val (.ref self), .val (.ref p1), .val (.int (3 : Int32)), .val (.int (1 : Int32)), .unset] [(.int (Int32.ofNat (own_p1 k0 k1 k2 k3 2))), (.int (2 : Int32)), (.ref b3)]))
  refine A (XS.aloadN X29.here hx rfl (hb hby d1_57) rfl rfl) ?_
  show D (T29.setTop (mkF m 58 #[.val (.ref self), .val (.ref p1), .val (.int (3 : Int32)), .val (.int (1 : Int32)), .unset] [(.ref self), (.int (Int32.ofNat (own_p1 k0 k1 k2 k3 2))), (.int (2 : Int32)), (.ref b3)]))
  obtain ⟨T31, X31, e31, st31⟩ := getF X29 hx hZ hown (host := "") (Or.inl (hw _ (List.mem_of_getElem? (i := 11) rfl))) Via.refl e29 F_start_26 (g := (mkF m 58 #[.val (.ref self), .val (.ref p1), .val (.int (3 : Int32)), .val (.int (1 : Int32)), .unset] [(.ref self), (.int (Int32.ofNat (own_p1 k0 k1 k2 k3 2))), (.int (2 : Int32)), (.ref b3)])) rfl rfl (hb hby d1_58)
  refine A (st31 _) ?_
  show D (T31.setTop (mkF m 61 #[.val (.ref self), .val (.ref p1), .val (.int (3 : Int32)), .val (.int (1 : Int32)), .unset] [(.ref b3), (.int (Int32.ofNat (own_p1 k0 k1 k2 k3 2))), (.int (2 : Int32)), (.ref b3)]))
  refine A (XS.iloadN X31.here hx rfl (hb hby d1_61) rfl) ?_
  show D (T31.setTop (mkF m 62 #[.val (.ref self), .val (.ref p1), .val (.int (3 : Int32)), .val (.int (1 : Int32)), .unset] [(.int (1 : Int32)), (.ref b3), (.int (Int32.ofNat (own_p1 k0 k1 k2 k3 2))), (.int (2 : Int32)), (.ref b3)]))
  refine Adv.ldI A X31 hx hZ e31 Vc27 (k := 1) (by decide) (by decide) (g := (mkF m 62 #[.val (.ref self), .val (.ref p1), .val (.int (3 : Int32)), .val (.int (1 : Int32)), .unset] [(.int (1 : Int32)), (.ref b3), (.int (Int32.ofNat (own_p1 k0 k1 k2 k3 2))), (.int (2 : Int32)), (.ref b3)])) rfl rfl (hb hby d1_62) ?_
  show D (T31.setTop (mkF m 63 #[.val (.ref self), .val (.ref p1), .val (.int (3 : Int32)), .val (.int (1 : Int32)), .unset] [(.int (Int32.ofNat (own_p1 k0 k1 k2 k3 1))), (.int (Int32.ofNat (own_p1 k0 k1 k2 k3 2))), (.int (2 : Int32)), (.ref b3)]))
  refine A (XS.iadd X31.here hx rfl (hb hby d1_63) rfl) ?_
  show D (T31.setTop (mkF m 64 #[.val (.ref self), .val (.ref p1), .val (.int (3 : Int32)), .val (.int (1 : Int32)), .unset] [(.int ((Int32.ofNat (own_p1 k0 k1 k2 k3 2)) + (Int32.ofNat (own_p1 k0 k1 k2 k3 1)))), (.int (2 : Int32)), (.ref b3)]))
  refine Adv.stI A X31 hx hZ e31 Vc27 (k := 2) (by decide) (by decide) (g := (mkF m 64 #[.val (.ref self), .val (.ref p1), .val (.int (3 : Int32)), .val (.int (1 : Int32)), .unset] [(.int ((Int32.ofNat (own_p1 k0 k1 k2 k3 2)) + (Int32.ofNat (own_p1 k0 k1 k2 k3 1)))), (.int (2 : Int32)), (.ref b3)])) rfl rfl (hb hby d1_64) ?_
  intro T32 h32 X32 e32 W32 Vb3_32
  have N32 := Fr.snoc X32 N26 g_b3
  have E_self_32 := E_self_26.wr W32
  have F_start_32 := F_start_26.other W32 (Or.inl ne_self_b3)
  have F_rows_32 := F_rows_26.other W32 (Or.inl ne_self_b3)
  have V_p1_32 := V_p1_26.other W32 ne_p1_b3
  have EA_b3_32 := EA_b3_26.wr W32
  have Z_32 : n0 ≤ h32.size := Nat.le_trans Z_26 (Nat.le_of_eq W32.size.symm)
  have KK_32 : Keep h0 h32 [self] := KK_26.wr W32 (Or.inr sz_b3)
  show D (T32.setTop (mkF m 65 #[.val (.ref self), .val (.ref p1), .val (.int (3 : Int32)), .val (.int (1 : Int32)), .unset] []))
  have Vc33 : ArI Z h32 b3 .int 4 (fun i => Int32.ofNat (own_p2 k0 k1 k2 k3 i)) := Vb3_32.eqf (fun i hi => own_l2_1 k0 (by omega) k1 (by omega) k2 (by omega) k3 (by omega) i (by omega))
  refine A (XS.iinc X32.here hx rfl (hb hby d1_65) rfl (l' := #[.val (.ref self), .val (.ref p1), .val (.int (3 : Int32)), .val (.int ((1 : Int32) + (1 : Int32))), .unset]) rfl) ?_
  show D (T32.setTop (mkF m 68 #[.val (.ref self), .val (.ref p1), .val (.int (3 : Int32)), .val (.int ((1 : Int32) + (1 : Int32))), .unset] []))
  suffices Kq34 : ∀ q34 : Int32, q34 = (2 : Int32) → D (T32.setTop (mkF m 68 #[.val (.ref self), .val (.ref p1), .val (.int (3 : Int32)), .val (.int q34), .unset] [])) from Kq34 _ (by decide)
  rintro _ rfl
  show D (T32.setTop (mkF m 68 #[.val (.ref self), .val (.ref p1), .val (.int (3 : Int32)), .val (.int (2 : Int32)), .unset] []))
  refine A (XS.goto X32.here hx rfl (pc0 := 68) (pc' := 43) rfl (hb hby d1_68) (by decide) (by decide)) ?_
  show D (T32.setTop (mkF m 43 #[.val (.ref self), .val (.ref p1), .val (.int (3 : Int32)), .val (.int (2 : Int32)), .unset] []))
  refine A (XS.iloadN X32.here hx rfl (hb hby d1_43) rfl) ?_
  show D (T32.setTop (mkF m 44 #[.val (.ref self), .val (.ref p1), .val (.int (3 : Int32)), .val (.int (2 : Int32)), .unset] [(.int (2 : Int32))]))
  refine A (XS.iloadN X32.here hx rfl (hb hby d1_44) rfl) ?_
  show D (T32.setTop (mkF m 45 #[.val (.ref self), .val (.ref p1), .val (.int (3 : Int32)), .val (.int (2 : Int32)), .unset] [(.int (3 : Int32)), (.int (2 : Int32))]))
  refine A (XS.icmpNo X32.here hx rfl (hb hby d1_45) rfl (tlt (by decide : (2 : Int32) < (3 : Int32))).2.1) ?_
  show D (T32.setTop (mkF m 48 #[.val (.ref self), .val (.ref p1), .val (.int (3 : Int32)), .val (.int (2 : Int32)), .unset] []))
  refine A (XS.aloadN X32.here hx rfl (hb hby d1_48) rfl rfl) ?_
  show D (T32.setTop (mkF m 49 #[.val (.ref self), .val (.ref p1), .val (.int (3 : Int32)), .val (.int (2 : Int32)), .unset] [(.ref self)]))
  obtain ⟨T35, X35, e35, st35⟩ := getF X32 hx hZ hown (host := "") (Or.inl (hw _ (List.mem_of_getElem? (i := 11) rfl))) Via.refl e32 F_start_32 (g := (mkF m 49 #[.val (.ref self), .val (.ref p1), .val (.int (3 : Int32)), .val (.int (2 : Int32)), .unset] [(.ref self)])) rfl rfl (hb hby d1_49)
  refine A (st35 _) ?_
  show D (T35.setTop (mkF m 52 #[.val (.ref self), .val (.ref p1), .val (.int (3 : Int32)), .val (.int (2 : Int32)), .unset] [(.ref b3)]))
  refine A (XS.iloadN X35.here hx rfl (hb hby d1_52) rfl) ?_
  show D (T35.setTop (mkF m 53 #[.val (.ref self), .val (.ref p1), .val (.int (3 : Int32)), .val (.int (2 : Int32)), .unset] [(.int (2 : Int32)), (.ref b3)]))
  refine A (XS.iconst X35.here hx rfl (hb hby d1_53)) ?_
  show D (T35.setTop (mkF m 54 #[.val (.ref self), .val (.ref p1), .val (.int (3 : Int32)), .val (.int (2 : Int32)), .unset] [(.int (1 : Int32)), (.int (2 : Int32)), (.ref b3)]))
  refine A (XS.iadd X35.here hx rfl (hb hby d1_54) rfl) ?_
  show D (T35.setTop (mkF m 55 #[.val (.ref self), .val (.ref p1), .val (.int (3 : Int32)), .val (.int (2 : Int32)), .unset] [(.int ((2 : Int32) + (1 : Int32))), (.ref b3)]))
  suffices Kq36 : ∀ q36 : Int32, q36 = (3 : Int32) → D (T35.setTop (mkF m 55 #[.val (.ref self), .val (.ref p1), .val (.int (3 : Int32)), .val (.int (2 : Int32)), .unset] [(.int q36), (.ref b3)])) from Kq36 _ (by decide)
  rintro _ rfl
  show D (T35.setTop (mkF m 55 #[.val (.ref self), .val (.ref p1), .val (.int (3 : Int32)), .val (.int (2 : Int32)), .unset] [(.int (3 : Int32)), (.ref b3)]))
  refine A (S' := T35.setTop (mkF m 56 #[.val (.ref self), .val (.ref p1), .val (.int (3 : Int32)), .val (.int (2 : Int32)), .unset] [(.int (3 : Int32)), (.ref b3), (.int (3 : Int32)), (.ref b3)])) (fun {t} kt => ?_) ?_
  · jvm_step X35.here [X35.here.top, hx, (hb hby d1_55), Value.category]
    exact kt
  show D (T35.setTop (mkF m 56 #[.val (.ref self), .val (.ref p1), .val (.int (3 : Int32)), .val (.int (2 : Int32)), .unset] [(.int (3 : Int32)), (.ref b3), (.int (3 : Int32)), (.ref b3)]))
  refine Adv.ldI A X35 hx hZ e35 Vc33 (k := 3) (by decide) (by decide) (g := (mkF m 56 #[.val (.ref self), .val (.ref p1), .val (.int (3 : Int32)), .val (.int (2 : Int32)), .unset] [(.int (3 : Int32)), (.ref b3), (.int (3 : Int32)), (.ref b3)])) rfl rfl (hb hby d1_56) ?_
  show D (T35.setTop (mkF m 57 #[.val (.ref self), .val (.ref p1), .val (.int (3 : Int32)), .val (.int (2 : Int32)), .unset] [(.int (Int32.ofNat (own_p2 k0 k1 k2 k3 3))), (.int (3 : Int32)), (.ref b3)]))
  refine A (XS.aloadN X35.here hx rfl (hb hby d1_57) rfl rfl) ?_
  show D (T35.setTop (mkF m 58 #[.val (.ref self), .val (.ref p1), .val (.int (3 : Int32)), .val (.int (2 : Int32)), .unset] [(.ref self), (.int (Int32.ofNat (own_p2 k0 k1 k2 k3 3))), (.int (3 : Int32)), (.ref b3)]))
  obtain ⟨T37, X37, e37, st37⟩ := getF X35 hx hZ hown (host := "") (Or.inl (hw _ (List.mem_of_getElem? (i := 11) rfl))) Via.refl e35 F_start_32 (g := (mkF m 58 #[.val (.ref self), .val (.ref p1), .val (.int (3 : Int32)), .val (.int (2 : Int32)), .unset] [(.ref self), (.int (Int32.ofNat (own_p2 k0 k1 k2 k3 3))), (.int (3 : Int32)), (.ref b3)])) rfl rfl (hb hby d1_58)
  refine A (st37 _) ?_
  show D (T37.setTop (mkF m 61 #[.val (.ref self), .val (.ref p1), .val (.int (3 : Int32)), .val (.int (2 : Int32)), .unset] [(.ref b3), (.int (Int32.ofNat (own_p2 k0 k1 k2 k3 3))), (.int (3 : Int32)), (.ref b3)]))
  refine A (XS.iloadN X37.here hx rfl (hb hby d1_61) rfl) ?_
  show D (T37.setTop (mkF m 62 #[.val (.ref self), .val (.ref p1), .val (.int (3 : Int32)), .val (.int (2 : Int32)), .unset] [(.int (2 : Int32)), (.ref b3), (.int (Int32.ofNat (own_p2 k0 k1 k2 k3 3))), (.int (3 : Int32)), (.ref b3)]))
  refine Adv.ldI A X37 hx hZ e37 Vc33 (k := 2) (by decide) (by decide) (g := (mkF m 62 #[.val (.ref self), .val (.ref p1), .val (.int (3 : Int32)), .val (.int (2 : Int32)), .unset] [(.int (2 : Int32)), (.ref b3), (.int (Int32.ofNat (own_p2 k0 k1 k2 k3 3))), (.int (3 : Int32)), (.ref b3)])) rfl rfl (hb hby d1_62) ?_
  show D (T37.setTop (mkF m 63 #[.val (.ref self), .val (.ref p1), .val (.int (3 : Int32)), .val (.int (2 : Int32)), .unset] [(.int (Int32.ofNat (own_p2 k0 k1 k2 k3 2))), (.int (Int32.ofNat (own_p2 k0 k1 k2 k3 3))), (.int (3 : Int32)), (.ref b3)]))
  refine A (XS.iadd X37.here hx rfl (hb hby d1_63) rfl) ?_
  show D (T37.setTop (mkF m 64 #[.val (.ref self), .val (.ref p1), .val (.int (3 : Int32)), .val (.int (2 : Int32)), .unset] [(.int ((Int32.ofNat (own_p2 k0 k1 k2 k3 3)) + (Int32.ofNat (own_p2 k0 k1 k2 k3 2)))), (.int (3 : Int32)), (.ref b3)]))
  refine Adv.stI A X37 hx hZ e37 Vc33 (k := 3) (by decide) (by decide) (g := (mkF m 64 #[.val (.ref self), .val (.ref p1), .val (.int (3 : Int32)), .val (.int (2 : Int32)), .unset] [(.int ((Int32.ofNat (own_p2 k0 k1 k2 k3 3)) + (Int32.ofNat (own_p2 k0 k1 k2 k3 2)))), (.int (3 : Int32)), (.ref b3)])) rfl rfl (hb hby d1_64) ?_
  intro T38 h38 X38 e38 W38 Vb3_38
  have N38 := Fr.snoc X38 N32 g_b3
  have E_self_38 := E_self_32.wr W38
  have F_start_38 := F_start_32.other W38 (Or.inl ne_self_b3)
  have F_rows_38 := F_rows_32.other W38 (Or.inl ne_self_b3)
  have V_p1_38 := V_p1_32.other W38 ne_p1_b3
  have EA_b3_38 := EA_b3_32.wr W38
  have Z_38 : n0 ≤ h38.size := Nat.le_trans Z_32 (Nat.le_of_eq W38.size.symm)
  have KK_38 : Keep h0 h38 [self] := KK_32.wr W38 (Or.inr sz_b3)
  show D (T38.setTop (mkF m 65 #[.val (.ref self), .val (.ref p1), .val (.int (3 : Int32)), .val (.int (2 : Int32)), .unset] []))
  have Vc39 : ArI Z h38 b3 .int 4 (fun i => Int32.ofNat (own_p3 k0 k1 k2 k3 i)) := Vb3_38.eqf (fun i hi => own_l2_2 k0 (by omega) k1 (by omega) k2 (by omega) k3 (by omega) i (by omega))
  refine A (XS.iinc X38.here hx rfl (hb hby d1_65) rfl (l' := #[.val (.ref self), .val (.ref p1), .val (.int (3 : Int32)), .val (.int ((2 : Int32) + (1 : Int32))), .unset]) rfl) ?_
  show D (T38.setTop (mkF m 68 #[.val (.ref self), .val (.ref p1), .val (.int (3 : Int32)), .val (.int ((2 : Int32) + (1 : Int32))), .unset] []))
  suffices Kq40 : ∀ q40 : Int32, q40 = (3 : Int32) → D (T38.setTop (mkF m 68 #[.val (.ref self), .val (.ref p1), .val (.int (3 : Int32)), .val (.int q40), .unset] [])) from Kq40 _ (by decide)
  rintro _ rfl
  show D (T38.setTop (mkF m 68 #[.val (.ref self), .val (.ref p1), .val (.int (3 : Int32)), .val (.int (3 : Int32)), .unset] []))
  refine A (XS.goto X38.here hx rfl (pc0 := 68) (pc' := 43) rfl (hb hby d1_68) (by decide) (by decide)) ?_
  show D (T38.setTop (mkF m 43 #[.val (.ref self), .val (.ref p1), .val (.int (3 : Int32)), .val (.int (3 : Int32)), .unset] []))
  refine A (XS.iloadN X38.here hx rfl (hb hby d1_43) rfl) ?_
  show D (T38.setTop (mkF m 44 #[.val (.ref self), .val (.ref p1), .val (.int (3 : Int32)), .val (.int (3 : Int32)), .unset] [(.int (3 : Int32))]))
  refine A (XS.iloadN X38.here hx rfl (hb hby d1_44) rfl) ?_
  show D (T38.setTop (mkF m 45 #[.val (.ref self), .val (.ref p1), .val (.int (3 : Int32)), .val (.int (3 : Int32)), .unset] [(.int (3 : Int32)), (.int (3 : Int32))]))
  refine A (XS.icmpYes X38.here hx rfl (pc0 := 45) (pc' := 71) rfl (hb hby d1_45) rfl (flt (by decide : ¬ ((3 : Int32) < (3 : Int32)))).2.1 (by decide) (by decide)) ?_
  show D (T38.setTop (mkF m 71 #[.val (.ref self), .val (.ref p1), .val (.int (3 : Int32)), .val (.int (3 : Int32)), .unset] []))
  have Vc41 : ArI Z h38 b3 .int 4 (fun i => Int32.ofNat (own_c0 k0 k1 k2 k3 i)) := Vc39.eqf (fun i hi => own_l23_3 k0 (by omega) k1 (by omega) k2 (by omega) k3 (by omega) i hi)
  refine A (XS.aloadN X38.here hx rfl (hb hby d1_71) rfl rfl) ?_
  show D (T38.setTop (mkF m 72 #[.val (.ref self), .val (.ref p1), .val (.int (3 : Int32)), .val (.int (3 : Int32)), .unset] [(.ref self)]))
  refine A (XS.aloadN X38.here hx rfl (hb hby d1_72) rfl rfl) ?_
  show D (T38.setTop (mkF m 73 #[.val (.ref self), .val (.ref p1), .val (.int (3 : Int32)), .val (.int (3 : Int32)), .unset] [(.ref p1), (.ref self)]))
  refine Adv.lenI A X38 hx hZ e38 V_p1_38 (g := (mkF m 73 #[.val (.ref self), .val (.ref p1), .val (.int (3 : Int32)), .val (.int (3 : Int32)), .unset] [(.ref p1), (.ref self)])) rfl rfl (hb hby d1_73) ?_
  show D (T38.setTop (mkF m 74 #[.val (.ref self), .val (.ref p1), .val (.int (3 : Int32)), .val (.int (3 : Int32)), .unset] [(.int (4 : Int32)), (.ref self)]))
  refine Adv.newI A X38 hx hZ (aty := .int) (hw _ (List.mem_of_getElem? (i := 1) rfl)) e38 (n := 4) (by decide) 4 (by decide) (by decide) rfl (ad := "[I") (by decide) (by decide) (by decide) (g := (mkF m 74 #[.val (.ref self), .val (.ref p1), .val (.int (3 : Int32)), .val (.int (3 : Int32)), .unset] [(.int (4 : Int32)), (.ref self)])) rfl rfl (hb hby d1_74) ?_
  intro T42 h42 b42 q_b42 X42 e42 E42 V_b42 EA_b42
  have ne_self_b42 : self ≠ b42 := Nat.ne_of_lt (Nat.lt_of_lt_of_le E_self_38.lt (Nat.le_of_eq q_b42.symm))
  have ne_p1_b42 : p1 ≠ b42 := Nat.ne_of_lt (Nat.lt_of_lt_of_le V_p1_38.lt (Nat.le_of_eq q_b42.symm))
  have ne_b3_b42 : b3 ≠ b42 := Nat.ne_of_lt (Nat.lt_of_lt_of_le Vc41.lt (Nat.le_of_eq q_b42.symm))
  have g_b42 : n0 ≤ b42 := Nat.le_trans Z_38 (Nat.le_of_eq q_b42.symm)
  have sz_b42 : h0.size ≤ b42 := Nat.le_trans KK_38.1 (Nat.le_of_eq q_b42.symm)
  have E_self_42 := E_self_38.ext E42
  have F_start_42 := F_start_38.ext E42
  have F_rows_42 := F_rows_38.ext E42
  have V_p1_42 := V_p1_38.ext E42
  have V_b3_42 := Vc41.ext E42
  have EA_b3_42 := EA_b3_38.ext E42
  have Z_42 : n0 ≤ h42.size := Nat.le_trans Z_38 E42.1
  have KK_42 : Keep h0 h42 [self] := KK_38.ext E42
  show D (T42.setTop (mkF m 76 #[.val (.ref self), .val (.ref p1), .val (.int (3 : Int32)), .val (.int (3 : Int32)), .unset] [(.ref b42), (.ref self)]))
  obtain ⟨T43, h43, X43, e43, W43, st43⟩ := putF X42 hx hZ hown (host := "") (Or.inl (hw _ (List.mem_of_getElem? (i := 13) rfl))) Via.refl e42 F_rows_42 E_self_42 (Or.inr ⟨(hw _ (List.mem_of_getElem? (i := 14) rfl)), rfl, hnm⟩) (hw _ (List.mem_of_getElem? (i := 3) rfl)) (ty := (.array .int)) (by decide) rfl rfl (g := (mkF m 76 #[.val (.ref self), .val (.ref p1), .val (.int (3 : Int32)), .val (.int (3 : Int32)), .unset] [(.ref b42), (.ref self)])) rfl rfl (hb hby d1_76)
  have N43 := Fr.snoc X43 N38 g_self
  have F_rows_43 := F_rows_42.same W43
  have E_self_43 := E_self_42.wr W43
  have F_start_43 := F_start_42.other W43 (Or.inr (slot_ne (Or.inr (hw _ (List.mem_of_getElem? (i := 12) rfl))) (Or.inr (hw _ (List.mem_of_getElem? (i := 14) rfl))) (by decide) (t := (.array .int)) (t' := (.array .int)) (by decide) (by decide)))
  have V_p1_43 := V_p1_42.other W43 (Ne.symm (ne_ari E_self_42 (hw _ (List.mem_of_getElem? (i := 3) rfl)) V_p1_42))
  have V_b3_43 := V_b3_42.other W43 (Ne.symm ne_self_b3)
  have EA_b3_43 := EA_b3_42.wr W43
  have V_b42_43 := V_b42.other W43 (Ne.symm ne_self_b42)
  have EA_b42_43 := EA_b42.wr W43
  have Z_43 : n0 ≤ h43.size := Nat.le_trans Z_42 (Nat.le_of_eq W43.size.symm)
  have KK_43 : Keep h0 h43 [self] := KK_42.wr W43 (Or.inl (List.mem_of_getElem? (i := 0) rfl))
  refine A (st43 _) ?_
  show D (T43.setTop (mkF m 79 #[.val (.ref self), .val (.ref p1), .val (.int (3 : Int32)), .val (.int (3 : Int32)), .unset] []))
  refine A (XS.aloadN X43.here hx rfl (hb hby d1_79) rfl rfl) ?_
  show D (T43.setTop (mkF m 80 #[.val (.ref self), .val (.ref p1), .val (.int (3 : Int32)), .val (.int (3 : Int32)), .unset] [(.ref self)]))
  obtain ⟨T44, X44, e44, st44⟩ := getF X43 hx hZ hown (host := "") (Or.inl (hw _ (List.mem_of_getElem? (i := 11) rfl))) Via.refl e43 F_start_43 (g := (mkF m 80 #[.val (.ref self), .val (.ref p1), .val (.int (3 : Int32)), .val (.int (3 : Int32)), .unset] [(.ref self)])) rfl rfl (hb hby d1_80)
  refine A (st44 _) ?_
  show D (T44.setTop (mkF m 83 #[.val (.ref self), .val (.ref p1), .val (.int (3 : Int32)), .val (.int (3 : Int32)), .unset] [(.ref b3)]))
  refine Adv.cloneI A X44 hx hZ hown (hw _ (List.mem_of_getElem? (i := 15) rfl)) (hw _ (List.mem_of_getElem? (i := 16) rfl)) (hw _ (List.mem_of_getElem? (i := 20) rfl)) (hw _ (List.mem_of_getElem? (i := 18) rfl)) (hw _ (List.mem_of_getElem? (i := 19) rfl)) (hw _ (List.mem_of_getElem? (i := 21) rfl)) e44 V_b3_43 (fun _ _ => rfl) EA_b3_43 0 4 (by decide) (g := (mkF m 83 #[.val (.ref self), .val (.ref p1), .val (.int (3 : Int32)), .val (.int (3 : Int32)), .unset] [(.ref b3)])) rfl (by rw [hml]; rfl) rfl (hb hby d1_83) (by show 2 * 0 + _ ≤ _; exact Nat.le_of_eq rfl) (by decide) (by decide) (by decide) (by decide) ?_
  intro T45 h45 b45 q_b45 X45 e45 E45 V_b45 EA_b45
  have ne_self_b45 : self ≠ b45 := Nat.ne_of_lt (Nat.lt_of_lt_of_le E_self_43.lt (Nat.le_of_eq q_b45.symm))
  have ne_p1_b45 : p1 ≠ b45 := Nat.ne_of_lt (Nat.lt_of_lt_of_le V_p1_43.lt (Nat.le_of_eq q_b45.symm))
  have ne_b3_b45 : b3 ≠ b45 := Nat.ne_of_lt (Nat.lt_of_lt_of_le V_b3_43.lt (Nat.le_of_eq q_b45.symm))
  have ne_b42_b45 : b42 ≠ b45 := Nat.ne_of_lt (Nat.lt_of_lt_of_le V_b42_43.lt (Nat.le_of_eq q_b45.symm))
  have g_b45 : n0 ≤ b45 := Nat.le_trans Z_43 (Nat.le_of_eq q_b45.symm)
  have sz_b45 : h0.size ≤ b45 := Nat.le_trans KK_43.1 (Nat.le_of_eq q_b45.symm)
  have E_self_45 := E_self_43.ext E45
  have F_start_45 := F_start_43.ext E45
  have F_rows_45 := F_rows_43.ext E45
  have V_p1_45 := V_p1_43.ext E45
  have V_b3_45 := V_b3_43.ext E45
  have EA_b3_45 := EA_b3_43.ext E45
  have V_b42_45 := V_b42_43.ext E45
  have EA_b42_45 := EA_b42_43.ext E45
  have Z_45 : n0 ≤ h45.size := Nat.le_trans Z_43 E45.1
  have KK_45 : Keep h0 h45 [self] := KK_43.ext E45
  show D (T45.setTop (mkF m 86 #[.val (.ref self), .val (.ref p1), .val (.int (3 : Int32)), .val (.int (3 : Int32)), .unset] [(.ref b45)]))
  obtain ⟨T46, X46, e46, st46⟩ := castY X45 hx hZ hown (hw _ (List.mem_of_getElem? (i := 22) rfl)) e45 (Ins.self EA_b45) (g := (mkF m 86 #[.val (.ref self), .val (.ref p1), .val (.int (3 : Int32)), .val (.int (3 : Int32)), .unset] [(.ref b45)])) rfl rfl (hb hby d1_86)
  refine A (st46 _) ?_
  show D (T46.setTop (mkF m 89 #[.val (.ref self), .val (.ref p1), .val (.int (3 : Int32)), .val (.int (3 : Int32)), .unset] [(.ref b45)]))
  refine A (XS.astoreN X46.here hx rfl (hb hby d1_89) rfl rfl (l' := #[.val (.ref self), .val (.ref p1), .val (.int (3 : Int32)), .val (.ref b45), .unset]) rfl) ?_
  show D (T46.setTop (mkF m 90 #[.val (.ref self), .val (.ref p1), .val (.int (3 : Int32)), .val (.ref b45), .unset] []))
  refine A (XS.iconst X46.here hx rfl (hb hby d1_90)) ?_
  show D (T46.setTop (mkF m 91 #[.val (.ref self), .val (.ref p1), .val (.int (3 : Int32)), .val (.ref b45), .unset] [(.int (0 : Int32))]))
  refine A (XS.istore X46.here hx rfl (hb hby d1_91) rfl (l' := #[.val (.ref self), .val (.ref p1), .val (.int (3 : Int32)), .val (.ref b45), .val (.int (0 : Int32))]) rfl) ?_
  show D (T46.setTop (mkF m 93 #[.val (.ref self), .val (.ref p1), .val (.int (3 : Int32)), .val (.ref b45), .val (.int (0 : Int32))] []))
  refine A (XS.iload X46.here hx rfl (hb hby d1_93) rfl) ?_
  show D (T46.setTop (mkF m 95 #[.val (.ref self), .val (.ref p1), .val (.int (3 : Int32)), .val (.ref b45), .val (.int (0 : Int32))] [(.int (0 : Int32))]))
  refine A (XS.aloadN X46.here hx rfl (hb hby d1_95) rfl rfl) ?_
  show D (T46.setTop (mkF m 96 #[.val (.ref self), .val (.ref p1), .val (.int (3 : Int32)), .val (.ref b45), .val (.int (0 : Int32))] [(.ref p1), (.int (0 : Int32))]))
  refine Adv.lenI A X46 hx hZ e46 V_p1_45 (g := (mkF m 96 #[.val (.ref self), .val (.ref p1), .val (.int (3 : Int32)), .val (.ref b45), .val (.int (0 : Int32))] [(.ref p1), (.int (0 : Int32))])) rfl rfl (hb hby d1_96) ?_
  show D (T46.setTop (mkF m 97 #[.val (.ref self), .val (.ref p1), .val (.int (3 : Int32)), .val (.ref b45), .val (.int (0 : Int32))] [(.int (4 : Int32)), (.int (0 : Int32))]))
  refine A (XS.icmpNo X46.here hx rfl (hb hby d1_97) rfl (tlt (by decide : (0 : Int32) < (4 : Int32))).2.1) ?_
  show D (T46.setTop (mkF m 100 #[.val (.ref self), .val (.ref p1), .val (.int (3 : Int32)), .val (.ref b45), .val (.int (0 : Int32))] []))
  refine A (XS.aloadN X46.here hx rfl (hb hby d1_100) rfl rfl) ?_
  show D (T46.setTop (mkF m 101 #[.val (.ref self), .val (.ref p1), .val (.int (3 : Int32)), .val (.ref b45), .val (.int (0 : Int32))] [(.ref self)]))
  obtain ⟨T47, X47, e47, st47⟩ := getF X46 hx hZ hown (host := "") (Or.inl (hw _ (List.mem_of_getElem? (i := 13) rfl))) Via.refl e46 F_rows_45 (g := (mkF m 101 #[.val (.ref self), .val (.ref p1), .val (.int (3 : Int32)), .val (.ref b45), .val (.int (0 : Int32))] [(.ref self)])) rfl rfl (hb hby d1_101)
  refine A (st47 _) ?_
  show D (T47.setTop (mkF m 104 #[.val (.ref self), .val (.ref p1), .val (.int (3 : Int32)), .val (.ref b45), .val (.int (0 : Int32))] [(.ref b42)]))
  refine A (XS.aloadN X47.here hx rfl (hb hby d1_104) rfl rfl) ?_
  show D (T47.setTop (mkF m 105 #[.val (.ref self), .val (.ref p1), .val (.int (3 : Int32)), .val (.ref b45), .val (.int (0 : Int32))] [(.ref b45), (.ref b42)]))
  refine A (XS.aloadN X47.here hx rfl (hb hby d1_105) rfl rfl) ?_
  show D (T47.setTop (mkF m 106 #[.val (.ref self), .val (.ref p1), .val (.int (3 : Int32)), .val (.ref b45), .val (.int (0 : Int32))] [(.ref p1), (.ref b45), (.ref b42)]))
  refine A (XS.iload X47.here hx rfl (hb hby d1_106) rfl) ?_
  show D (T47.setTop (mkF m 108 #[.val (.ref self), .val (.ref p1), .val (.int (3 : Int32)), .val (.ref b45), .val (.int (0 : Int32))] [(.int (0 : Int32)), (.ref p1), (.ref b45), (.ref b42)]))
  refine Adv.ldI A X47 hx hZ e47 V_p1_45 (k := 0) (by decide) (by decide) (g := (mkF m 108 #[.val (.ref self), .val (.ref p1), .val (.int (3 : Int32)), .val (.ref b45), .val (.int (0 : Int32))] [(.int (0 : Int32)), (.ref p1), (.ref b45), (.ref b42)])) rfl rfl (hb hby d1_108) ?_
  show D (T47.setTop (mkF m 109 #[.val (.ref self), .val (.ref p1), .val (.int (3 : Int32)), .val (.ref b45), .val (.int (0 : Int32))] [(.int (Int32.ofNat k0)), (.ref b45), (.ref b42)]))
  refine Adv.ldI A X47 hx hZ e47 V_b45 (k := k0) (own_of (by omega)) (by omega) (g := (mkF m 109 #[.val (.ref self), .val (.ref p1), .val (.int (3 : Int32)), .val (.ref b45), .val (.int (0 : Int32))] [(.int (Int32.ofNat k0)), (.ref b45), (.ref b42)])) rfl rfl (hb hby d1_109) ?_
  show D (T47.setTop (mkF m 110 #[.val (.ref self), .val (.ref p1), .val (.int (3 : Int32)), .val (.ref b45), .val (.int (0 : Int32))] [(.int (Int32.ofNat (own_c0 k0 k1 k2 k3 k0))), (.ref b42)]))
  refine A (XS.iload X47.here hx rfl (hb hby d1_110) rfl) ?_
  show D (T47.setTop (mkF m 112 #[.val (.ref self), .val (.ref p1), .val (.int (3 : Int32)), .val (.ref b45), .val (.int (0 : Int32))] [(.int (0 : Int32)), (.int (Int32.ofNat (own_c0 k0 k1 k2 k3 k0))), (.ref b42)]))
  refine Adv.stI A X47 hx hZ e47 V_b42_45 (k := (own_c0 k0 k1 k2 k3 k0)) (own_of (own_b3_0 k0 (by omega) k1 (by omega) k2 (by omega) k3 (by omega))) (own_b3_0 k0 (by omega) k1 (by omega) k2 (by omega) k3 (by omega)) (g := (mkF m 112 #[.val (.ref self), .val (.ref p1), .val (.int (3 : Int32)), .val (.ref b45), .val (.int (0 : Int32))] [(.int (0 : Int32)), (.int (Int32.ofNat (own_c0 k0 k1 k2 k3 k0))), (.ref b42)])) rfl rfl (hb hby d1_112) ?_
  intro T48 h48 X48 e48 W48 Vb42_48
  have N48 := Fr.snoc X48 N43 g_b42
  have E_self_48 := E_self_45.wr W48
  have F_start_48 := F_start_45.other W48 (Or.inl ne_self_b42)
  have F_rows_48 := F_rows_45.other W48 (Or.inl ne_self_b42)
  have V_p1_48 := V_p1_45.other W48 ne_p1_b42
  have V_b3_48 := V_b3_45.other W48 ne_b3_b42
  have EA_b3_48 := EA_b3_45.wr W48
  have EA_b42_48 := EA_b42_45.wr W48
  have V_b45_48 := V_b45.other W48 (Ne.symm ne_b42_b45)
  have EA_b45_48 := EA_b45.wr W48
  have Z_48 : n0 ≤ h48.size := Nat.le_trans Z_45 (Nat.le_of_eq W48.size.symm)
  have KK_48 : Keep h0 h48 [self] := KK_45.wr W48 (Or.inr sz_b42)
  show D (T48.setTop (mkF m 113 #[.val (.ref self), .val (.ref p1), .val (.int (3 : Int32)), .val (.ref b45), .val (.int (0 : Int32))] []))
  obtain ⟨fn49, hfn49⟩ : ∃ z : Nat → Int32, z = (fun ix => if ix = (own_c0 k0 k1 k2 k3 k0) then (0 : Int32) else (fun _ => 0) ix) := ⟨_, rfl⟩
  rw [← hfn49] at Vb42_48
  refine A (XS.aloadN X48.here hx rfl (hb hby d1_113) rfl rfl) ?_
  show D (T48.setTop (mkF m 114 #[.val (.ref self), .val (.ref p1), .val (.int (3 : Int32)), .val (.ref b45), .val (.int (0 : Int32))] [(.ref b45)]))
  refine A (XS.aloadN X48.here hx rfl (hb hby d1_114) rfl rfl) ?_
  show D (T48.setTop (mkF m 115 #[.val (.ref self), .val (.ref p1), .val (.int (3 : Int32)), .val (.ref b45), .val (.int (0 : Int32))] [(.ref p1), (.ref b45)]))
  refine A (XS.iload X48.here hx rfl (hb hby d1_115) rfl) ?_
  show D (T48.setTop (mkF m 117 #[.val (.ref self), .val (.ref p1), .val (.int (3 : Int32)), .val (.ref b45), .val (.int (0 : Int32))] [(.int (0 : Int32)), (.ref p1), (.ref b45)]))
  refine Adv.ldI A X48 hx hZ e48 V_p1_48 (k := 0) (by decide) (by decide) (g := (mkF m 117 #[.val (.ref self), .val (.ref p1), .val (.int (3 : Int32)), .val (.ref b45), .val (.int (0 : Int32))] [(.int (0 : Int32)), (.ref p1), (.ref b45)])) rfl rfl (hb hby d1_117) ?_
  show D (T48.setTop (mkF m 118 #[.val (.ref self), .val (.ref p1), .val (.int (3 : Int32)), .val (.ref b45), .val (.int (0 : Int32))] [(.int (Int32.ofNat k0)), (.ref b45)]))
  refine A (S' := T48.setTop (mkF m 119 #[.val (.ref self), .val (.ref p1), .val (.int (3 : Int32)), .val (.ref b45), .val (.int (0 : Int32))] [(.int (Int32.ofNat k0)), (.ref b45), (.int (Int32.ofNat k0)), (.ref b45)])) (fun {t} kt => ?_) ?_
  · jvm_step X48.here [X48.here.top, hx, (hb hby d1_118), Value.category]
    exact kt
  show D (T48.setTop (mkF m 119 #[.val (.ref self), .val (.ref p1), .val (.int (3 : Int32)), .val (.ref b45), .val (.int (0 : Int32))] [(.int (Int32.ofNat k0)), (.ref b45), (.int (Int32.ofNat k0)), (.ref b45)]))
  refine Adv.ldI A X48 hx hZ e48 V_b45_48 (k := k0) (own_of (by omega)) (by omega) (g := (mkF m 119 #[.val (.ref self), .val (.ref p1), .val (.int (3 : Int32)), .val (.ref b45), .val (.int (0 : Int32))] [(.int (Int32.ofNat k0)), (.ref b45), (.int (Int32.ofNat k0)), (.ref b45)])) rfl rfl (hb hby d1_119) ?_
  show D (T48.setTop (mkF m 120 #[.val (.ref self), .val (.ref p1), .val (.int (3 : Int32)), .val (.ref b45), .val (.int (0 : Int32))] [(.int (Int32.ofNat (own_c0 k0 k1 k2 k3 k0))), (.int (Int32.ofNat k0)), (.ref b45)]))
  refine A (XS.iconst X48.here hx rfl (hb hby d1_120)) ?_
  show D (T48.setTop (mkF m 121 #[.val (.ref self), .val (.ref p1), .val (.int (3 : Int32)), .val (.ref b45), .val (.int (0 : Int32))] [(.int (1 : Int32)), (.int (Int32.ofNat (own_c0 k0 k1 k2 k3 k0))), (.int (Int32.ofNat k0)), (.ref b45)]))
  refine A (XS.iadd X48.here hx rfl (hb hby d1_121) rfl) ?_
  show D (T48.setTop (mkF m 122 #[.val (.ref self), .val (.ref p1), .val (.int (3 : Int32)), .val (.ref b45), .val (.int (0 : Int32))] [(.int ((Int32.ofNat (own_c0 k0 k1 k2 k3 k0)) + (1 : Int32))), (.int (Int32.ofNat k0)), (.ref b45)]))
  refine Adv.stI A X48 hx hZ e48 V_b45_48 (k := k0) (own_of (by omega)) (by omega) (g := (mkF m 122 #[.val (.ref self), .val (.ref p1), .val (.int (3 : Int32)), .val (.ref b45), .val (.int (0 : Int32))] [(.int ((Int32.ofNat (own_c0 k0 k1 k2 k3 k0)) + (1 : Int32))), (.int (Int32.ofNat k0)), (.ref b45)])) rfl rfl (hb hby d1_122) ?_
  intro T50 h50 X50 e50 W50 Vb45_50
  have N50 := Fr.snoc X50 N48 g_b45
  have E_self_50 := E_self_48.wr W50
  have F_start_50 := F_start_48.other W50 (Or.inl ne_self_b45)
  have F_rows_50 := F_rows_48.other W50 (Or.inl ne_self_b45)
  have V_p1_50 := V_p1_48.other W50 ne_p1_b45
  have V_b3_50 := V_b3_48.other W50 ne_b3_b45
  have EA_b3_50 := EA_b3_48.wr W50
  have V_b42_50 := Vb42_48.other W50 ne_b42_b45
  have EA_b42_50 := EA_b42_48.wr W50
  have EA_b45_50 := EA_b45_48.wr W50
  have Z_50 : n0 ≤ h50.size := Nat.le_trans Z_48 (Nat.le_of_eq W50.size.symm)
  have KK_50 : Keep h0 h50 [self] := KK_48.wr W50 (Or.inr sz_b45)
  show D (T50.setTop (mkF m 123 #[.val (.ref self), .val (.ref p1), .val (.int (3 : Int32)), .val (.ref b45), .val (.int (0 : Int32))] []))
  have Vc51 : ArI Z h50 b45 .int 4 (fun i => Int32.ofNat (own_c1 k0 k1 k2 k3 i)) := Vb45_50.eqf (fun i hi => own_l3_0 k0 (by omega) k1 (by omega) k2 (by omega) k3 (by omega) i (by omega))
  refine A (XS.iinc X50.here hx rfl (hb hby d1_123) rfl (l' := #[.val (.ref self), .val (.ref p1), .val (.int (3 : Int32)), .val (.ref b45), .val (.int ((0 : Int32) + (1 : Int32)))]) rfl) ?_
  show D (T50.setTop (mkF m 126 #[.val (.ref self), .val (.ref p1), .val (.int (3 : Int32)), .val (.ref b45), .val (.int ((0 : Int32) + (1 : Int32)))] []))
  suffices Kq52 : ∀ q52 : Int32, q52 = (1 : Int32) → D (T50.setTop (mkF m 126 #[.val (.ref self), .val (.ref p1), .val (.int (3 : Int32)), .val (.ref b45), .val (.int q52)] [])) from Kq52 _ (by decide)
  rintro _ rfl
  show D (T50.setTop (mkF m 126 #[.val (.ref self), .val (.ref p1), .val (.int (3 : Int32)), .val (.ref b45), .val (.int (1 : Int32))] []))
  refine A (XS.goto X50.here hx rfl (pc0 := 126) (pc' := 93) rfl (hb hby d1_126) (by decide) (by decide)) ?_
  show D (T50.setTop (mkF m 93 #[.val (.ref self), .val (.ref p1), .val (.int (3 : Int32)), .val (.ref b45), .val (.int (1 : Int32))] []))
  refine A (XS.iload X50.here hx rfl (hb hby d1_93) rfl) ?_
  show D (T50.setTop (mkF m 95 #[.val (.ref self), .val (.ref p1), .val (.int (3 : Int32)), .val (.ref b45), .val (.int (1 : Int32))] [(.int (1 : Int32))]))
  refine A (XS.aloadN X50.here hx rfl (hb hby d1_95) rfl rfl) ?_
  show D (T50.setTop (mkF m 96 #[.val (.ref self), .val (.ref p1), .val (.int (3 : Int32)), .val (.ref b45), .val (.int (1 : Int32))] [(.ref p1), (.int (1 : Int32))]))
  refine Adv.lenI A X50 hx hZ e50 V_p1_50 (g := (mkF m 96 #[.val (.ref self), .val (.ref p1), .val (.int (3 : Int32)), .val (.ref b45), .val (.int (1 : Int32))] [(.ref p1), (.int (1 : Int32))])) rfl rfl (hb hby d1_96) ?_
  show D (T50.setTop (mkF m 97 #[.val (.ref self), .val (.ref p1), .val (.int (3 : Int32)), .val (.ref b45), .val (.int (1 : Int32))] [(.int (4 : Int32)), (.int (1 : Int32))]))
  refine A (XS.icmpNo X50.here hx rfl (hb hby d1_97) rfl (tlt (by decide : (1 : Int32) < (4 : Int32))).2.1) ?_
  show D (T50.setTop (mkF m 100 #[.val (.ref self), .val (.ref p1), .val (.int (3 : Int32)), .val (.ref b45), .val (.int (1 : Int32))] []))
  refine A (XS.aloadN X50.here hx rfl (hb hby d1_100) rfl rfl) ?_
  show D (T50.setTop (mkF m 101 #[.val (.ref self), .val (.ref p1), .val (.int (3 : Int32)), .val (.ref b45), .val (.int (1 : Int32))] [(.ref self)]))
  obtain ⟨T53, X53, e53, st53⟩ := getF X50 hx hZ hown (host := "") (Or.inl (hw _ (List.mem_of_getElem? (i := 13) rfl))) Via.refl e50 F_rows_50 (g := (mkF m 101 #[.val (.ref self), .val (.ref p1), .val (.int (3 : Int32)), .val (.ref b45), .val (.int (1 : Int32))] [(.ref self)])) rfl rfl (hb hby d1_101)
  refine A (st53 _) ?_
  show D (T53.setTop (mkF m 104 #[.val (.ref self), .val (.ref p1), .val (.int (3 : Int32)), .val (.ref b45), .val (.int (1 : Int32))] [(.ref b42)]))
  refine A (XS.aloadN X53.here hx rfl (hb hby d1_104) rfl rfl) ?_
  show D (T53.setTop (mkF m 105 #[.val (.ref self), .val (.ref p1), .val (.int (3 : Int32)), .val (.ref b45), .val (.int (1 : Int32))] [(.ref b45), (.ref b42)]))
  refine A (XS.aloadN X53.here hx rfl (hb hby d1_105) rfl rfl) ?_
  show D (T53.setTop (mkF m 106 #[.val (.ref self), .val (.ref p1), .val (.int (3 : Int32)), .val (.ref b45), .val (.int (1 : Int32))] [(.ref p1), (.ref b45), (.ref b42)]))
  refine A (XS.iload X53.here hx rfl (hb hby d1_106) rfl) ?_
  show D (T53.setTop (mkF m 108 #[.val (.ref self), .val (.ref p1), .val (.int (3 : Int32)), .val (.ref b45), .val (.int (1 : Int32))] [(.int (1 : Int32)), (.ref p1), (.ref b45), (.ref b42)]))
  refine Adv.ldI A X53 hx hZ e53 V_p1_50 (k := 1) (by decide) (by decide) (g := (mkF m 108 #[.val (.ref self), .val (.ref p1), .val (.int (3 : Int32)), .val (.ref b45), .val (.int (1 : Int32))] [(.int (1 : Int32)), (.ref p1), (.ref b45), (.ref b42)])) rfl rfl (hb hby d1_108) ?_
  show D (T53.setTop (mkF m 109 #[.val (.ref self), .val (.ref p1), .val (.int (3 : Int32)), .val (.ref b45), .val (.int (1 : Int32))] [(.int (Int32.ofNat k1)), (.ref b45), (.ref b42)]))
  refine Adv.ldI A X53 hx hZ e53 Vc51 (k := k1) (own_of (by omega)) (by omega) (g := (mkF m 109 #[.val (.ref self), .val (.ref p1), .val (.int (3 : Int32)), .val (.ref b45), .val (.int (1 : Int32))] [(.int (Int32.ofNat k1)), (.ref b45), (.ref b42)])) rfl rfl (hb hby d1_109) ?_
  show D (T53.setTop (mkF m 110 #[.val (.ref self), .val (.ref p1), .val (.int (3 : Int32)), .val (.ref b45), .val (.int (1 : Int32))] [(.int (Int32.ofNat (own_c1 k0 k1 k2 k3 k1))), (.ref b42)]))
  refine A (XS.iload X53.here hx rfl (hb hby d1_110) rfl) ?_
  show D (T53.setTop (mkF m 112 #[.val (.ref self), .val (.ref p1), .val (.int (3 : Int32)), .val (.ref b45), .val (.int (1 : Int32))] [(.int (1 : Int32)), (.int (Int32.ofNat (own_c1 k0 k1 k2 k3 k1))), (.ref b42)]))
  refine Adv.stI A X53 hx hZ e53 V_b42_50 (k := (own_c1 k0 k1 k2 k3 k1)) (own_of (own_b3_1 k0 (by omega) k1 (by omega) k2 (by omega) k3 (by omega))) (own_b3_1 k0 (by omega) k1 (by omega) k2 (by omega) k3 (by omega)) (g := (mkF m 112 #[.val (.ref self), .val (.ref p1), .val (.int (3 : Int32)), .val (.ref b45), .val (.int (1 : Int32))] [(.int (1 : Int32)), (.int (Int32.ofNat (own_c1 k0 k1 k2 k3 k1))), (.ref b42)])) rfl rfl (hb hby d1_112) ?_
  intro T54 h54 X54 e54 W54 Vb42_54
  have N54 := Fr.snoc X54 N50 g_b42
  have E_self_54 := E_self_50.wr W54
  have F_start_54 := F_start_50.other W54 (Or.inl ne_self_b42)
  have F_rows_54 := F_rows_50.other W54 (Or.inl ne_self_b42)
  have V_p1_54 := V_p1_50.other W54 ne_p1_b42
  have V_b3_54 := V_b3_50.other W54 ne_b3_b42
  have EA_b3_54 := EA_b3_50.wr W54
  have EA_b42_54 := EA_b42_50.wr W54
  have V_b45_54 := Vc51.other W54 (Ne.symm ne_b42_b45)
  have EA_b45_54 := EA_b45_50.wr W54
  have Z_54 : n0 ≤ h54.size := Nat.le_trans Z_50 (Nat.le_of_eq W54.size.symm)
  have KK_54 : Keep h0 h54 [self] := KK_50.wr W54 (Or.inr sz_b42)
  show D (T54.setTop (mkF m 113 #[.val (.ref self), .val (.ref p1), .val (.int (3 : Int32)), .val (.ref b45), .val (.int (1 : Int32))] []))
  obtain ⟨fn55, hfn55⟩ : ∃ z : Nat → Int32, z = (fun ix => if ix = (own_c1 k0 k1 k2 k3 k1) then (1 : Int32) else fn49 ix) := ⟨_, rfl⟩
  rw [← hfn55] at Vb42_54
  refine A (XS.aloadN X54.here hx rfl (hb hby d1_113) rfl rfl) ?_
  show D (T54.setTop (mkF m 114 #[.val (.ref self), .val (.ref p1), .val (.int (3 : Int32)), .val (.ref b45), .val (.int (1 : Int32))] [(.ref b45)]))
  refine A (XS.aloadN X54.here hx rfl (hb hby d1_114) rfl rfl) ?_
  show D (T54.setTop (mkF m 115 #[.val (.ref self), .val (.ref p1), .val (.int (3 : Int32)), .val (.ref b45), .val (.int (1 : Int32))] [(.ref p1), (.ref b45)]))
  refine A (XS.iload X54.here hx rfl (hb hby d1_115) rfl) ?_
  show D (T54.setTop (mkF m 117 #[.val (.ref self), .val (.ref p1), .val (.int (3 : Int32)), .val (.ref b45), .val (.int (1 : Int32))] [(.int (1 : Int32)), (.ref p1), (.ref b45)]))
  refine Adv.ldI A X54 hx hZ e54 V_p1_54 (k := 1) (by decide) (by decide) (g := (mkF m 117 #[.val (.ref self), .val (.ref p1), .val (.int (3 : Int32)), .val (.ref b45), .val (.int (1 : Int32))] [(.int (1 : Int32)), (.ref p1), (.ref b45)])) rfl rfl (hb hby d1_117) ?_
  show D (T54.setTop (mkF m 118 #[.val (.ref self), .val (.ref p1), .val (.int (3 : Int32)), .val (.ref b45), .val (.int (1 : Int32))] [(.int (Int32.ofNat k1)), (.ref b45)]))
  refine A (S' := T54.setTop (mkF m 119 #[.val (.ref self), .val (.ref p1), .val (.int (3 : Int32)), .val (.ref b45), .val (.int (1 : Int32))] [(.int (Int32.ofNat k1)), (.ref b45), (.int (Int32.ofNat k1)), (.ref b45)])) (fun {t} kt => ?_) ?_
  · jvm_step X54.here [X54.here.top, hx, (hb hby d1_118), Value.category]
    exact kt
  show D (T54.setTop (mkF m 119 #[.val (.ref self), .val (.ref p1), .val (.int (3 : Int32)), .val (.ref b45), .val (.int (1 : Int32))] [(.int (Int32.ofNat k1)), (.ref b45), (.int (Int32.ofNat k1)), (.ref b45)]))
  refine Adv.ldI A X54 hx hZ e54 V_b45_54 (k := k1) (own_of (by omega)) (by omega) (g := (mkF m 119 #[.val (.ref self), .val (.ref p1), .val (.int (3 : Int32)), .val (.ref b45), .val (.int (1 : Int32))] [(.int (Int32.ofNat k1)), (.ref b45), (.int (Int32.ofNat k1)), (.ref b45)])) rfl rfl (hb hby d1_119) ?_
  show D (T54.setTop (mkF m 120 #[.val (.ref self), .val (.ref p1), .val (.int (3 : Int32)), .val (.ref b45), .val (.int (1 : Int32))] [(.int (Int32.ofNat (own_c1 k0 k1 k2 k3 k1))), (.int (Int32.ofNat k1)), (.ref b45)]))
  refine A (XS.iconst X54.here hx rfl (hb hby d1_120)) ?_
  show D (T54.setTop (mkF m 121 #[.val (.ref self), .val (.ref p1), .val (.int (3 : Int32)), .val (.ref b45), .val (.int (1 : Int32))] [(.int (1 : Int32)), (.int (Int32.ofNat (own_c1 k0 k1 k2 k3 k1))), (.int (Int32.ofNat k1)), (.ref b45)]))
  refine A (XS.iadd X54.here hx rfl (hb hby d1_121) rfl) ?_
  show D (T54.setTop (mkF m 122 #[.val (.ref self), .val (.ref p1), .val (.int (3 : Int32)), .val (.ref b45), .val (.int (1 : Int32))] [(.int ((Int32.ofNat (own_c1 k0 k1 k2 k3 k1)) + (1 : Int32))), (.int (Int32.ofNat k1)), (.ref b45)]))
  refine Adv.stI A X54 hx hZ e54 V_b45_54 (k := k1) (own_of (by omega)) (by omega) (g := (mkF m 122 #[.val (.ref self), .val (.ref p1), .val (.int (3 : Int32)), .val (.ref b45), .val (.int (1 : Int32))] [(.int ((Int32.ofNat (own_c1 k0 k1 k2 k3 k1)) + (1 : Int32))), (.int (Int32.ofNat k1)), (.ref b45)])) rfl rfl (hb hby d1_122) ?_
  intro T56 h56 X56 e56 W56 Vb45_56
  have N56 := Fr.snoc X56 N54 g_b45
  have E_self_56 := E_self_54.wr W56
  have F_start_56 := F_start_54.other W56 (Or.inl ne_self_b45)
  have F_rows_56 := F_rows_54.other W56 (Or.inl ne_self_b45)
  have V_p1_56 := V_p1_54.other W56 ne_p1_b45
  have V_b3_56 := V_b3_54.other W56 ne_b3_b45
  have EA_b3_56 := EA_b3_54.wr W56
  have V_b42_56 := Vb42_54.other W56 ne_b42_b45
  have EA_b42_56 := EA_b42_54.wr W56
  have EA_b45_56 := EA_b45_54.wr W56
  have Z_56 : n0 ≤ h56.size := Nat.le_trans Z_54 (Nat.le_of_eq W56.size.symm)
  have KK_56 : Keep h0 h56 [self] := KK_54.wr W56 (Or.inr sz_b45)
  show D (T56.setTop (mkF m 123 #[.val (.ref self), .val (.ref p1), .val (.int (3 : Int32)), .val (.ref b45), .val (.int (1 : Int32))] []))
  have Vc57 : ArI Z h56 b45 .int 4 (fun i => Int32.ofNat (own_c2 k0 k1 k2 k3 i)) := Vb45_56.eqf (fun i hi => own_l3_1 k0 (by omega) k1 (by omega) k2 (by omega) k3 (by omega) i (by omega))
  refine A (XS.iinc X56.here hx rfl (hb hby d1_123) rfl (l' := #[.val (.ref self), .val (.ref p1), .val (.int (3 : Int32)), .val (.ref b45), .val (.int ((1 : Int32) + (1 : Int32)))]) rfl) ?_
  show D (T56.setTop (mkF m 126 #[.val (.ref self), .val (.ref p1), .val (.int (3 : Int32)), .val (.ref b45), .val (.int ((1 : Int32) + (1 : Int32)))] []))
  suffices Kq58 : ∀ q58 : Int32, q58 = (2 : Int32) → D (T56.setTop (mkF m 126 #[.val (.ref self), .val (.ref p1), .val (.int (3 : Int32)), .val (.ref b45), .val (.int q58)] [])) from Kq58 _ (by decide)
  rintro _ rfl
  show D (T56.setTop (mkF m 126 #[.val (.ref self), .val (.ref p1), .val (.int (3 : Int32)), .val (.ref b45), .val (.int (2 : Int32))] []))
  refine A (XS.goto X56.here hx rfl (pc0 := 126) (pc' := 93) rfl (hb hby d1_126) (by decide) (by decide)) ?_
  show D (T56.setTop (mkF m 93 #[.val (.ref self), .val (.ref p1), .val (.int (3 : Int32)), .val (.ref b45), .val (.int (2 : Int32))] []))
  refine A (XS.iload X56.here hx rfl (hb hby d1_93) rfl) ?_
  show D (T56.setTop (mkF m 95 #[.val (.ref self), .val (.ref p1), .val (.int (3 : Int32)), .val (.ref b45), .val (.int (2 : Int32))] [(.int (2 : Int32))]))
  refine A (XS.aloadN X56.here hx rfl (hb hby d1_95) rfl rfl) ?_
  show D (T56.setTop (mkF m 96 #[.val (.ref self), .val (.ref p1), .val (.int (3 : Int32)), .val (.ref b45), .val (.int (2 : Int32))] [(.ref p1), (.int (2 : Int32))]))
  refine Adv.lenI A X56 hx hZ e56 V_p1_56 (g := (mkF m 96 #[.val (.ref self), .val (.ref p1), .val (.int (3 : Int32)), .val (.ref b45), .val (.int (2 : Int32))] [(.ref p1), (.int (2 : Int32))])) rfl rfl (hb hby d1_96) ?_
  show D (T56.setTop (mkF m 97 #[.val (.ref self), .val (.ref p1), .val (.int (3 : Int32)), .val (.ref b45), .val (.int (2 : Int32))] [(.int (4 : Int32)), (.int (2 : Int32))]))
  refine A (XS.icmpNo X56.here hx rfl (hb hby d1_97) rfl (tlt (by decide : (2 : Int32) < (4 : Int32))).2.1) ?_
  show D (T56.setTop (mkF m 100 #[.val (.ref self), .val (.ref p1), .val (.int (3 : Int32)), .val (.ref b45), .val (.int (2 : Int32))] []))
  refine A (XS.aloadN X56.here hx rfl (hb hby d1_100) rfl rfl) ?_
  show D (T56.setTop (mkF m 101 #[.val (.ref self), .val (.ref p1), .val (.int (3 : Int32)), .val (.ref b45), .val (.int (2 : Int32))] [(.ref self)]))
  obtain ⟨T59, X59, e59, st59⟩ := getF X56 hx hZ hown (host := "") (Or.inl (hw _ (List.mem_of_getElem? (i := 13) rfl))) Via.refl e56 F_rows_56 (g := (mkF m 101 #[.val (.ref self), .val (.ref p1), .val (.int (3 : Int32)), .val (.ref b45), .val (.int (2 : Int32))] [(.ref self)])) rfl rfl (hb hby d1_101)
  refine A (st59 _) ?_
  show D (T59.setTop (mkF m 104 #[.val (.ref self), .val (.ref p1), .val (.int (3 : Int32)), .val (.ref b45), .val (.int (2 : Int32))] [(.ref b42)]))
  refine A (XS.aloadN X59.here hx rfl (hb hby d1_104) rfl rfl) ?_
  show D (T59.setTop (mkF m 105 #[.val (.ref self), .val (.ref p1), .val (.int (3 : Int32)), .val (.ref b45), .val (.int (2 : Int32))] [(.ref b45), (.ref b42)]))
  refine A (XS.aloadN X59.here hx rfl (hb hby d1_105) rfl rfl) ?_
  show D (T59.setTop (mkF m 106 #[.val (.ref self), .val (.ref p1), .val (.int (3 : Int32)), .val (.ref b45), .val (.int (2 : Int32))] [(.ref p1), (.ref b45), (.ref b42)]))
  refine A (XS.iload X59.here hx rfl (hb hby d1_106) rfl) ?_
  show D (T59.setTop (mkF m 108 #[.val (.ref self), .val (.ref p1), .val (.int (3 : Int32)), .val (.ref b45), .val (.int (2 : Int32))] [(.int (2 : Int32)), (.ref p1), (.ref b45), (.ref b42)]))
  refine Adv.ldI A X59 hx hZ e59 V_p1_56 (k := 2) (by decide) (by decide) (g := (mkF m 108 #[.val (.ref self), .val (.ref p1), .val (.int (3 : Int32)), .val (.ref b45), .val (.int (2 : Int32))] [(.int (2 : Int32)), (.ref p1), (.ref b45), (.ref b42)])) rfl rfl (hb hby d1_108) ?_
  show D (T59.setTop (mkF m 109 #[.val (.ref self), .val (.ref p1), .val (.int (3 : Int32)), .val (.ref b45), .val (.int (2 : Int32))] [(.int (Int32.ofNat k2)), (.ref b45), (.ref b42)]))
  refine Adv.ldI A X59 hx hZ e59 Vc57 (k := k2) (own_of (by omega)) (by omega) (g := (mkF m 109 #[.val (.ref self), .val (.ref p1), .val (.int (3 : Int32)), .val (.ref b45), .val (.int (2 : Int32))] [(.int (Int32.ofNat k2)), (.ref b45), (.ref b42)])) rfl rfl (hb hby d1_109) ?_
  show D (T59.setTop (mkF m 110 #[.val (.ref self), .val (.ref p1), .val (.int (3 : Int32)), .val (.ref b45), .val (.int (2 : Int32))] [(.int (Int32.ofNat (own_c2 k0 k1 k2 k3 k2))), (.ref b42)]))
  refine A (XS.iload X59.here hx rfl (hb hby d1_110) rfl) ?_
  show D (T59.setTop (mkF m 112 #[.val (.ref self), .val (.ref p1), .val (.int (3 : Int32)), .val (.ref b45), .val (.int (2 : Int32))] [(.int (2 : Int32)), (.int (Int32.ofNat (own_c2 k0 k1 k2 k3 k2))), (.ref b42)]))
  refine Adv.stI A X59 hx hZ e59 V_b42_56 (k := (own_c2 k0 k1 k2 k3 k2)) (own_of (own_b3_2 k0 (by omega) k1 (by omega) k2 (by omega) k3 (by omega))) (own_b3_2 k0 (by omega) k1 (by omega) k2 (by omega) k3 (by omega)) (g := (mkF m 112 #[.val (.ref self), .val (.ref p1), .val (.int (3 : Int32)), .val (.ref b45), .val (.int (2 : Int32))] [(.int (2 : Int32)), (.int (Int32.ofNat (own_c2 k0 k1 k2 k3 k2))), (.ref b42)])) rfl rfl (hb hby d1_112) ?_
  intro T60 h60 X60 e60 W60 Vb42_60
  have N60 := Fr.snoc X60 N56 g_b42
  have E_self_60 := E_self_56.wr W60
  have F_start_60 := F_start_56.other W60 (Or.inl ne_self_b42)
  have F_rows_60 := F_rows_56.other W60 (Or.inl ne_self_b42)
  have V_p1_60 := V_p1_56.other W60 ne_p1_b42
  have V_b3_60 := V_b3_56.other W60 ne_b3_b42
  have EA_b3_60 := EA_b3_56.wr W60
  have EA_b42_60 := EA_b42_56.wr W60
  have V_b45_60 := Vc57.other W60 (Ne.symm ne_b42_b45)
  have EA_b45_60 := EA_b45_56.wr W60
  have Z_60 : n0 ≤ h60.size := Nat.le_trans Z_56 (Nat.le_of_eq W60.size.symm)
  have KK_60 : Keep h0 h60 [self] := KK_56.wr W60 (Or.inr sz_b42)
  show D (T60.setTop (mkF m 113 #[.val (.ref self), .val (.ref p1), .val (.int (3 : Int32)), .val (.ref b45), .val (.int (2 : Int32))] []))
  obtain ⟨fn61, hfn61⟩ : ∃ z : Nat → Int32, z = (fun ix => if ix = (own_c2 k0 k1 k2 k3 k2) then (2 : Int32) else fn55 ix) := ⟨_, rfl⟩
  rw [← hfn61] at Vb42_60
  refine A (XS.aloadN X60.here hx rfl (hb hby d1_113) rfl rfl) ?_
  show D (T60.setTop (mkF m 114 #[.val (.ref self), .val (.ref p1), .val (.int (3 : Int32)), .val (.ref b45), .val (.int (2 : Int32))] [(.ref b45)]))
  refine A (XS.aloadN X60.here hx rfl (hb hby d1_114) rfl rfl) ?_
  show D (T60.setTop (mkF m 115 #[.val (.ref self), .val (.ref p1), .val (.int (3 : Int32)), .val (.ref b45), .val (.int (2 : Int32))] [(.ref p1), (.ref b45)]))
  refine A (XS.iload X60.here hx rfl (hb hby d1_115) rfl) ?_
  show D (T60.setTop (mkF m 117 #[.val (.ref self), .val (.ref p1), .val (.int (3 : Int32)), .val (.ref b45), .val (.int (2 : Int32))] [(.int (2 : Int32)), (.ref p1), (.ref b45)]))
  refine Adv.ldI A X60 hx hZ e60 V_p1_60 (k := 2) (by decide) (by decide) (g := (mkF m 117 #[.val (.ref self), .val (.ref p1), .val (.int (3 : Int32)), .val (.ref b45), .val (.int (2 : Int32))] [(.int (2 : Int32)), (.ref p1), (.ref b45)])) rfl rfl (hb hby d1_117) ?_
  show D (T60.setTop (mkF m 118 #[.val (.ref self), .val (.ref p1), .val (.int (3 : Int32)), .val (.ref b45), .val (.int (2 : Int32))] [(.int (Int32.ofNat k2)), (.ref b45)]))
  refine A (S' := T60.setTop (mkF m 119 #[.val (.ref self), .val (.ref p1), .val (.int (3 : Int32)), .val (.ref b45), .val (.int (2 : Int32))] [(.int (Int32.ofNat k2)), (.ref b45), (.int (Int32.ofNat k2)), (.ref b45)])) (fun {t} kt => ?_) ?_
  · jvm_step X60.here [X60.here.top, hx, (hb hby d1_118), Value.category]
    exact kt
  show D (T60.setTop (mkF m 119 #[.val (.ref self), .val (.ref p1), .val (.int (3 : Int32)), .val (.ref b45), .val (.int (2 : Int32))] [(.int (Int32.ofNat k2)), (.ref b45), (.int (Int32.ofNat k2)), (.ref b45)]))
  refine Adv.ldI A X60 hx hZ e60 V_b45_60 (k := k2) (own_of (by omega)) (by omega) (g := (mkF m 119 #[.val (.ref self), .val (.ref p1), .val (.int (3 : Int32)), .val (.ref b45), .val (.int (2 : Int32))] [(.int (Int32.ofNat k2)), (.ref b45), (.int (Int32.ofNat k2)), (.ref b45)])) rfl rfl (hb hby d1_119) ?_
  show D (T60.setTop (mkF m 120 #[.val (.ref self), .val (.ref p1), .val (.int (3 : Int32)), .val (.ref b45), .val (.int (2 : Int32))] [(.int (Int32.ofNat (own_c2 k0 k1 k2 k3 k2))), (.int (Int32.ofNat k2)), (.ref b45)]))
  refine A (XS.iconst X60.here hx rfl (hb hby d1_120)) ?_
  show D (T60.setTop (mkF m 121 #[.val (.ref self), .val (.ref p1), .val (.int (3 : Int32)), .val (.ref b45), .val (.int (2 : Int32))] [(.int (1 : Int32)), (.int (Int32.ofNat (own_c2 k0 k1 k2 k3 k2))), (.int (Int32.ofNat k2)), (.ref b45)]))
  refine A (XS.iadd X60.here hx rfl (hb hby d1_121) rfl) ?_
  show D (T60.setTop (mkF m 122 #[.val (.ref self), .val (.ref p1), .val (.int (3 : Int32)), .val (.ref b45), .val (.int (2 : Int32))] [(.int ((Int32.ofNat (own_c2 k0 k1 k2 k3 k2)) + (1 : Int32))), (.int (Int32.ofNat k2)), (.ref b45)]))
  refine Adv.stI A X60 hx hZ e60 V_b45_60 (k := k2) (own_of (by omega)) (by omega) (g := (mkF m 122 #[.val (.ref self), .val (.ref p1), .val (.int (3 : Int32)), .val (.ref b45), .val (.int (2 : Int32))] [(.int ((Int32.ofNat (own_c2 k0 k1 k2 k3 k2)) + (1 : Int32))), (.int (Int32.ofNat k2)), (.ref b45)])) rfl rfl (hb hby d1_122) ?_
  intro T62 h62 X62 e62 W62 Vb45_62
  have N62 := Fr.snoc X62 N60 g_b45
  have E_self_62 := E_self_60.wr W62
  have F_start_62 := F_start_60.other W62 (Or.inl ne_self_b45)
  have F_rows_62 := F_rows_60.other W62 (Or.inl ne_self_b45)
  have V_p1_62 := V_p1_60.other W62 ne_p1_b45
  have V_b3_62 := V_b3_60.other W62 ne_b3_b45
  have EA_b3_62 := EA_b3_60.wr W62
  have V_b42_62 := Vb42_60.other W62 ne_b42_b45
  have EA_b42_62 := EA_b42_60.wr W62
  have EA_b45_62 := EA_b45_60.wr W62
  have Z_62 : n0 ≤ h62.size := Nat.le_trans Z_60 (Nat.le_of_eq W62.size.symm)
  have KK_62 : Keep h0 h62 [self] := KK_60.wr W62 (Or.inr sz_b45)
  show D (T62.setTop (mkF m 123 #[.val (.ref self), .val (.ref p1), .val (.int (3 : Int32)), .val (.ref b45), .val (.int (2 : Int32))] []))
  have Vc63 : ArI Z h62 b45 .int 4 (fun i => Int32.ofNat (own_c3 k0 k1 k2 k3 i)) := Vb45_62.eqf (fun i hi => own_l3_2 k0 (by omega) k1 (by omega) k2 (by omega) k3 (by omega) i (by omega))
  refine A (XS.iinc X62.here hx rfl (hb hby d1_123) rfl (l' := #[.val (.ref self), .val (.ref p1), .val (.int (3 : Int32)), .val (.ref b45), .val (.int ((2 : Int32) + (1 : Int32)))]) rfl) ?_
  show D (T62.setTop (mkF m 126 #[.val (.ref self), .val (.ref p1), .val (.int (3 : Int32)), .val (.ref b45), .val (.int ((2 : Int32) + (1 : Int32)))] []))
  suffices Kq64 : ∀ q64 : Int32, q64 = (3 : Int32) → D (T62.setTop (mkF m 126 #[.val (.ref self), .val (.ref p1), .val (.int (3 : Int32)), .val (.ref b45), .val (.int q64)] [])) from Kq64 _ (by decide)
  rintro _ rfl
  show D (T62.setTop (mkF m 126 #[.val (.ref self), .val (.ref p1), .val (.int (3 : Int32)), .val (.ref b45), .val (.int (3 : Int32))] []))
  refine A (XS.goto X62.here hx rfl (pc0 := 126) (pc' := 93) rfl (hb hby d1_126) (by decide) (by decide)) ?_
  show D (T62.setTop (mkF m 93 #[.val (.ref self), .val (.ref p1), .val (.int (3 : Int32)), .val (.ref b45), .val (.int (3 : Int32))] []))
  refine A (XS.iload X62.here hx rfl (hb hby d1_93) rfl) ?_
  show D (T62.setTop (mkF m 95 #[.val (.ref self), .val (.ref p1), .val (.int (3 : Int32)), .val (.ref b45), .val (.int (3 : Int32))] [(.int (3 : Int32))]))
  refine A (XS.aloadN X62.here hx rfl (hb hby d1_95) rfl rfl) ?_
  show D (T62.setTop (mkF m 96 #[.val (.ref self), .val (.ref p1), .val (.int (3 : Int32)), .val (.ref b45), .val (.int (3 : Int32))] [(.ref p1), (.int (3 : Int32))]))
  refine Adv.lenI A X62 hx hZ e62 V_p1_62 (g := (mkF m 96 #[.val (.ref self), .val (.ref p1), .val (.int (3 : Int32)), .val (.ref b45), .val (.int (3 : Int32))] [(.ref p1), (.int (3 : Int32))])) rfl rfl (hb hby d1_96) ?_
  show D (T62.setTop (mkF m 97 #[.val (.ref self), .val (.ref p1), .val (.int (3 : Int32)), .val (.ref b45), .val (.int (3 : Int32))] [(.int (4 : Int32)), (.int (3 : Int32))]))
  refine A (XS.icmpNo X62.here hx rfl (hb hby d1_97) rfl (tlt (by decide : (3 : Int32) < (4 : Int32))).2.1) ?_
  show D (T62.setTop (mkF m 100 #[.val (.ref self), .val (.ref p1), .val (.int (3 : Int32)), .val (.ref b45), .val (.int (3 : Int32))] []))
  refine A (XS.aloadN X62.here hx rfl (hb hby d1_100) rfl rfl) ?_
  show D (T62.setTop (mkF m 101 #[.val (.ref self), .val (.ref p1), .val (.int (3 : Int32)), .val (.ref b45), .val (.int (3 : Int32))] [(.ref self)]))
  obtain ⟨T65, X65, e65, st65⟩ := getF X62 hx hZ hown (host := "") (Or.inl (hw _ (List.mem_of_getElem? (i := 13) rfl))) Via.refl e62 F_rows_62 (g := (mkF m 101 #[.val (.ref self), .val (.ref p1), .val (.int (3 : Int32)), .val (.ref b45), .val (.int (3 : Int32))] [(.ref self)])) rfl rfl (hb hby d1_101)
  refine A (st65 _) ?_
  show D (T65.setTop (mkF m 104 #[.val (.ref self), .val (.ref p1), .val (.int (3 : Int32)), .val (.ref b45), .val (.int (3 : Int32))] [(.ref b42)]))
  refine A (XS.aloadN X65.here hx rfl (hb hby d1_104) rfl rfl) ?_
  show D (T65.setTop (mkF m 105 #[.val (.ref self), .val (.ref p1), .val (.int (3 : Int32)), .val (.ref b45), .val (.int (3 : Int32))] [(.ref b45), (.ref b42)]))
  refine A (XS.aloadN X65.here hx rfl (hb hby d1_105) rfl rfl) ?_
  show D (T65.setTop (mkF m 106 #[.val (.ref self), .val (.ref p1), .val (.int (3 : Int32)), .val (.ref b45), .val (.int (3 : Int32))] [(.ref p1), (.ref b45), (.ref b42)]))
  refine A (XS.iload X65.here hx rfl (hb hby d1_106) rfl) ?_
  show D (T65.setTop (mkF m 108 #[.val (.ref self), .val (.ref p1), .val (.int (3 : Int32)), .val (.ref b45), .val (.int (3 : Int32))] [(.int (3 : Int32)), (.ref p1), (.ref b45), (.ref b42)]))
  refine Adv.ldI A X65 hx hZ e65 V_p1_62 (k := 3) (by decide) (by decide) (g := (mkF m 108 #[.val (.ref self), .val (.ref p1), .val (.int (3 : Int32)), .val (.ref b45), .val (.int (3 : Int32))] [(.int (3 : Int32)), (.ref p1), (.ref b45), (.ref b42)])) rfl rfl (hb hby d1_108) ?_
  show D (T65.setTop (mkF m 109 #[.val (.ref self), .val (.ref p1), .val (.int (3 : Int32)), .val (.ref b45), .val (.int (3 : Int32))] [(.int (Int32.ofNat k3)), (.ref b45), (.ref b42)]))
  refine Adv.ldI A X65 hx hZ e65 Vc63 (k := k3) (own_of (by omega)) (by omega) (g := (mkF m 109 #[.val (.ref self), .val (.ref p1), .val (.int (3 : Int32)), .val (.ref b45), .val (.int (3 : Int32))] [(.int (Int32.ofNat k3)), (.ref b45), (.ref b42)])) rfl rfl (hb hby d1_109) ?_
  show D (T65.setTop (mkF m 110 #[.val (.ref self), .val (.ref p1), .val (.int (3 : Int32)), .val (.ref b45), .val (.int (3 : Int32))] [(.int (Int32.ofNat (own_c3 k0 k1 k2 k3 k3))), (.ref b42)]))
  refine A (XS.iload X65.here hx rfl (hb hby d1_110) rfl) ?_
  show D (T65.setTop (mkF m 112 #[.val (.ref self), .val (.ref p1), .val (.int (3 : Int32)), .val (.ref b45), .val (.int (3 : Int32))] [(.int (3 : Int32)), (.int (Int32.ofNat (own_c3 k0 k1 k2 k3 k3))), (.ref b42)]))
  refine Adv.stI A X65 hx hZ e65 V_b42_62 (k := (own_c3 k0 k1 k2 k3 k3)) (own_of (own_b3_3 k0 (by omega) k1 (by omega) k2 (by omega) k3 (by omega))) (own_b3_3 k0 (by omega) k1 (by omega) k2 (by omega) k3 (by omega)) (g := (mkF m 112 #[.val (.ref self), .val (.ref p1), .val (.int (3 : Int32)), .val (.ref b45), .val (.int (3 : Int32))] [(.int (3 : Int32)), (.int (Int32.ofNat (own_c3 k0 k1 k2 k3 k3))), (.ref b42)])) rfl rfl (hb hby d1_112) ?_
  intro T66 h66 X66 e66 W66 Vb42_66
  have N66 := Fr.snoc X66 N62 g_b42
  have E_self_66 := E_self_62.wr W66
  have F_start_66 := F_start_62.other W66 (Or.inl ne_self_b42)
  have F_rows_66 := F_rows_62.other W66 (Or.inl ne_self_b42)
  have V_p1_66 := V_p1_62.other W66 ne_p1_b42
  have V_b3_66 := V_b3_62.other W66 ne_b3_b42
  have EA_b3_66 := EA_b3_62.wr W66
  have EA_b42_66 := EA_b42_62.wr W66
  have V_b45_66 := Vc63.other W66 (Ne.symm ne_b42_b45)
  have EA_b45_66 := EA_b45_62.wr W66
  have Z_66 : n0 ≤ h66.size := Nat.le_trans Z_62 (Nat.le_of_eq W66.size.symm)
  have KK_66 : Keep h0 h66 [self] := KK_62.wr W66 (Or.inr sz_b42)
  show D (T66.setTop (mkF m 113 #[.val (.ref self), .val (.ref p1), .val (.int (3 : Int32)), .val (.ref b45), .val (.int (3 : Int32))] []))
  obtain ⟨fn67, hfn67⟩ : ∃ z : Nat → Int32, z = (fun ix => if ix = (own_c3 k0 k1 k2 k3 k3) then (3 : Int32) else fn61 ix) := ⟨_, rfl⟩
  rw [← hfn67] at Vb42_66
  refine A (XS.aloadN X66.here hx rfl (hb hby d1_113) rfl rfl) ?_
  show D (T66.setTop (mkF m 114 #[.val (.ref self), .val (.ref p1), .val (.int (3 : Int32)), .val (.ref b45), .val (.int (3 : Int32))] [(.ref b45)]))
  refine A (XS.aloadN X66.here hx rfl (hb hby d1_114) rfl rfl) ?_
  show D (T66.setTop (mkF m 115 #[.val (.ref self), .val (.ref p1), .val (.int (3 : Int32)), .val (.ref b45), .val (.int (3 : Int32))] [(.ref p1), (.ref b45)]))
  refine A (XS.iload X66.here hx rfl (hb hby d1_115) rfl) ?_
  show D (T66.setTop (mkF m 117 #[.val (.ref self), .val (.ref p1), .val (.int (3 : Int32)), .val (.ref b45), .val (.int (3 : Int32))] [(.int (3 : Int32)), (.ref p1), (.ref b45)]))
  refine Adv.ldI A X66 hx hZ e66 V_p1_66 (k := 3) (by decide) (by decide) (g := (mkF m 117 #[.val (.ref self), .val (.ref p1), .val (.int (3 : Int32)), .val (.ref b45), .val (.int (3 : Int32))] [(.int (3 : Int32)), (.ref p1), (.ref b45)])) rfl rfl (hb hby d1_117) ?_
  show D (T66.setTop (mkF m 118 #[.val (.ref self), .val (.ref p1), .val (.int (3 : Int32)), .val (.ref b45), .val (.int (3 : Int32))] [(.int (Int32.ofNat k3)), (.ref b45)]))
  refine A (S' := T66.setTop (mkF m 119 #[.val (.ref self), .val (.ref p1), .val (.int (3 : Int32)), .val (.ref b45), .val (.int (3 : Int32))] [(.int (Int32.ofNat k3)), (.ref b45), (.int (Int32.ofNat k3)), (.ref b45)])) (fun {t} kt => ?_) ?_
  · jvm_step X66.here [X66.here.top, hx, (hb hby d1_118), Value.category]
    exact kt
  show D (T66.setTop (mkF m 119 #[.val (.ref self), .val (.ref p1), .val (.int (3 : Int32)), .val (.ref b45), .val (.int (3 : Int32))] [(.int (Int32.ofNat k3)), (.ref b45), (.int (Int32.ofNat k3)), (.ref b45)]))
  refine Adv.ldI A X66 hx hZ e66 V_b45_66 (k := k3) (own_of (by omega)) (by omega) (g := (mkF m 119 #[.val (.ref self), .val (.ref p1), .val (.int (3 : Int32)), .val (.ref b45), .val (.int (3 : Int32))] [(.int (Int32.ofNat k3)), (.ref b45), (.int (Int32.ofNat k3)), (.ref b45)])) rfl rfl (hb hby d1_119) ?_
  show D (T66.setTop (mkF m 120 #[.val (.ref self), .val (.ref p1), .val (.int (3 : Int32)), .val (.ref b45), .val (.int (3 : Int32))] [(.int (Int32.ofNat (own_c3 k0 k1 k2 k3 k3))), (.int (Int32.ofNat k3)), (.ref b45)]))
  refine A (XS.iconst X66.here hx rfl (hb hby d1_120)) ?_
  show D (T66.setTop (mkF m 121 #[.val (.ref self), .val (.ref p1), .val (.int (3 : Int32)), .val (.ref b45), .val (.int (3 : Int32))] [(.int (1 : Int32)), (.int (Int32.ofNat (own_c3 k0 k1 k2 k3 k3))), (.int (Int32.ofNat k3)), (.ref b45)]))
  refine A (XS.iadd X66.here hx rfl (hb hby d1_121) rfl) ?_
  show D (T66.setTop (mkF m 122 #[.val (.ref self), .val (.ref p1), .val (.int (3 : Int32)), .val (.ref b45), .val (.int (3 : Int32))] [(.int ((Int32.ofNat (own_c3 k0 k1 k2 k3 k3)) + (1 : Int32))), (.int (Int32.ofNat k3)), (.ref b45)]))
  refine Adv.stI A X66 hx hZ e66 V_b45_66 (k := k3) (own_of (by omega)) (by omega) (g := (mkF m 122 #[.val (.ref self), .val (.ref p1), .val (.int (3 : Int32)), .val (.ref b45), .val (.int (3 : Int32))] [(.int ((Int32.ofNat (own_c3 k0 k1 k2 k3 k3)) + (1 : Int32))), (.int (Int32.ofNat k3)), (.ref b45)])) rfl rfl (hb hby d1_122) ?_
  intro T68 h68 X68 e68 W68 Vb45_68
  have N68 := Fr.snoc X68 N66 g_b45
  have E_self_68 := E_self_66.wr W68
  have F_start_68 := F_start_66.other W68 (Or.inl ne_self_b45)
  have F_rows_68 := F_rows_66.other W68 (Or.inl ne_self_b45)
  have V_p1_68 := V_p1_66.other W68 ne_p1_b45
  have V_b3_68 := V_b3_66.other W68 ne_b3_b45
  have EA_b3_68 := EA_b3_66.wr W68
  have V_b42_68 := Vb42_66.other W68 ne_b42_b45
  have EA_b42_68 := EA_b42_66.wr W68
  have EA_b45_68 := EA_b45_66.wr W68
  have Z_68 : n0 ≤ h68.size := Nat.le_trans Z_66 (Nat.le_of_eq W68.size.symm)
  have KK_68 : Keep h0 h68 [self] := KK_66.wr W68 (Or.inr sz_b45)
  show D (T68.setTop (mkF m 123 #[.val (.ref self), .val (.ref p1), .val (.int (3 : Int32)), .val (.ref b45), .val (.int (3 : Int32))] []))
  have Vc69 : ArI Z h68 b45 .int 4 (fun i => Int32.ofNat (own_c4 k0 k1 k2 k3 i)) := Vb45_68.eqf (fun i hi => own_l3_3 k0 (by omega) k1 (by omega) k2 (by omega) k3 (by omega) i (by omega))
  refine A (XS.iinc X68.here hx rfl (hb hby d1_123) rfl (l' := #[.val (.ref self), .val (.ref p1), .val (.int (3 : Int32)), .val (.ref b45), .val (.int ((3 : Int32) + (1 : Int32)))]) rfl) ?_
  show D (T68.setTop (mkF m 126 #[.val (.ref self), .val (.ref p1), .val (.int (3 : Int32)), .val (.ref b45), .val (.int ((3 : Int32) + (1 : Int32)))] []))
  suffices Kq70 : ∀ q70 : Int32, q70 = (4 : Int32) → D (T68.setTop (mkF m 126 #[.val (.ref self), .val (.ref p1), .val (.int (3 : Int32)), .val (.ref b45), .val (.int q70)] [])) from Kq70 _ (by decide)
  rintro _ rfl
  show D (T68.setTop (mkF m 126 #[.val (.ref self), .val (.ref p1), .val (.int (3 : Int32)), .val (.ref b45), .val (.int (4 : Int32))] []))
  refine A (XS.goto X68.here hx rfl (pc0 := 126) (pc' := 93) rfl (hb hby d1_126) (by decide) (by decide)) ?_
  show D (T68.setTop (mkF m 93 #[.val (.ref self), .val (.ref p1), .val (.int (3 : Int32)), .val (.ref b45), .val (.int (4 : Int32))] []))
  refine A (XS.iload X68.here hx rfl (hb hby d1_93) rfl) ?_
  show D (T68.setTop (mkF m 95 #[.val (.ref self), .val (.ref p1), .val (.int (3 : Int32)), .val (.ref b45), .val (.int (4 : Int32))] [(.int (4 : Int32))]))
  refine A (XS.aloadN X68.here hx rfl (hb hby d1_95) rfl rfl) ?_
  show D (T68.setTop (mkF m 96 #[.val (.ref self), .val (.ref p1), .val (.int (3 : Int32)), .val (.ref b45), .val (.int (4 : Int32))] [(.ref p1), (.int (4 : Int32))]))
  refine Adv.lenI A X68 hx hZ e68 V_p1_68 (g := (mkF m 96 #[.val (.ref self), .val (.ref p1), .val (.int (3 : Int32)), .val (.ref b45), .val (.int (4 : Int32))] [(.ref p1), (.int (4 : Int32))])) rfl rfl (hb hby d1_96) ?_
  show D (T68.setTop (mkF m 97 #[.val (.ref self), .val (.ref p1), .val (.int (3 : Int32)), .val (.ref b45), .val (.int (4 : Int32))] [(.int (4 : Int32)), (.int (4 : Int32))]))
  refine A (XS.icmpYes X68.here hx rfl (pc0 := 97) (pc' := 129) rfl (hb hby d1_97) rfl (flt (by decide : ¬ ((4 : Int32) < (4 : Int32)))).2.1 (by decide) (by decide)) ?_
  show D (T68.setTop (mkF m 129 #[.val (.ref self), .val (.ref p1), .val (.int (3 : Int32)), .val (.ref b45), .val (.int (4 : Int32))] []))
  exact F _ (Jvm.JW.ret X68 hlk (v := none) (fun _ => rfl) (fun fs hr => X68.returnOut hx hrt (hb hby d1_129) hr) e68 ⟨rfl, b3, N68, KK_68, E_self_68, F_start_68, V_b3_68⟩ (by decide) (by decide))
theorem ef1_4 (self : Addr) (p1 : Addr) (m : MethodId) : entryFrame m #[(.ref self), (.ref p1), (.int (4 : Int32))] 5 = mkF m 0 #[.val (.ref self), .val (.ref p1), .val (.int (4 : Int32)), .unset, .unset] [] := by first | (simp [entryFrame, mkF, argsToLocals, Value.category]; done) | rfl
set_option maxRecDepth 65536 in
set_option maxHeartbeats 40000000 in
theorem rm1_4 (l : Launch) (Z : State) (a0 : Array Value) (hw : ∀ d ∈ tables_1, d.before a0 Z = true) (ws : List Jvm.Cond) (self : Addr) (p1 : Addr) (h0 : Heap) (n0 : Nat) (Z0 : n0 ≤ h0.size) (g_self : n0 ≤ self) (k0 k1 k2 k3 : Nat) (hk0 : k0 < 4) (hk1 : k1 < 4) (hk2 : k2 < 4) (hk3 : k3 < 4) (E_self : Exa Z h0 self "com/example/enklave/enklave/measure/RowGroups") (F_start : Fld Z h0 self "com/example/enklave/enklave/measure/RowGroups" "start" "[I" .null) (F_rows : Fld Z h0 self "com/example/enklave/enklave/measure/RowGroups" "rows" "[I" .null) (V_p1 : ArI Z h0 p1 .int 4 (own_ka k0 k1 k2 k3)) :
    JMet l Z (⟨"com/example/enklave/enklave/measure/RowGroups", "<init>", "([II)V"⟩ : MethodName) prog_41_method_1_code 5 none ws ({ frames := 1, cells := 3, slots := 14, locals := 14 } : Room) #[(.ref self), (.ref p1), (.int (4 : Int32))] h0 (fun v h L => v = none ∧ ∃ b : Addr, Fr n0 L ∧ Keep h0 h [self] ∧ Exa Z h self "com/example/enklave/enklave/measure/RowGroups" ∧ Fld Z h self "com/example/enklave/enklave/measure/RowGroups" "start" "[I" (.ref b) ∧ ArI Z h b .int 5 (fun i => Int32.ofNat (own_c0 k0 k1 k2 k3 i))) := by
  refine Jvm.JW.body #[.val (.ref self), .val (.ref p1), .val (.int (4 : Int32)), .unset, .unset] pn1 (ef1_4 self p1) ?_
  intro p e s m below meth c T0 D A F X0 hx hZ hby hml hown hnm hrt hlk e0
  refine A (XS.aloadN X0.here hx rfl (hb hby d1_0) rfl rfl) ?_
  show D (T0.setTop (mkF m 1 #[.val (.ref self), .val (.ref p1), .val (.int (4 : Int32)), .unset, .unset] [(.ref self)]))
  obtain ⟨T1, X1, e1, st1⟩ := initO X0 hx hZ hown (hw _ (List.mem_of_getElem? (i := 8) rfl)) (hw _ (List.mem_of_getElem? (i := 9) rfl)) (hw _ (List.mem_of_getElem? (i := 10) rfl)) e0 (g := (mkF m 1 #[.val (.ref self), .val (.ref p1), .val (.int (4 : Int32)), .unset, .unset] [(.ref self)])) rfl (by rw [hml]; rfl) rfl (hb hby d1_1) (by decide) (W := 0) (by show 2 * 0 + _ ≤ _; exact Nat.le_of_eq rfl) (by decide)
  refine A (st1 _) ?_
  show D (T1.setTop (mkF m 4 #[.val (.ref self), .val (.ref p1), .val (.int (4 : Int32)), .unset, .unset] []))
  refine A (XS.aloadN X1.here hx rfl (hb hby d1_4) rfl rfl) ?_
  show D (T1.setTop (mkF m 5 #[.val (.ref self), .val (.ref p1), .val (.int (4 : Int32)), .unset, .unset] [(.ref self)]))
  refine A (XS.iloadN X1.here hx rfl (hb hby d1_5) rfl) ?_
  show D (T1.setTop (mkF m 6 #[.val (.ref self), .val (.ref p1), .val (.int (4 : Int32)), .unset, .unset] [(.int (4 : Int32)), (.ref self)]))
  refine A (XS.iconst X1.here hx rfl (hb hby d1_6)) ?_
  show D (T1.setTop (mkF m 7 #[.val (.ref self), .val (.ref p1), .val (.int (4 : Int32)), .unset, .unset] [(.int (1 : Int32)), (.int (4 : Int32)), (.ref self)]))
  refine A (XS.iadd X1.here hx rfl (hb hby d1_7) rfl) ?_
  show D (T1.setTop (mkF m 8 #[.val (.ref self), .val (.ref p1), .val (.int (4 : Int32)), .unset, .unset] [(.int ((4 : Int32) + (1 : Int32))), (.ref self)]))
  suffices Kq2 : ∀ q2 : Int32, q2 = (5 : Int32) → D (T1.setTop (mkF m 8 #[.val (.ref self), .val (.ref p1), .val (.int (4 : Int32)), .unset, .unset] [(.int q2), (.ref self)])) from Kq2 _ (by decide)
  rintro _ rfl
  show D (T1.setTop (mkF m 8 #[.val (.ref self), .val (.ref p1), .val (.int (4 : Int32)), .unset, .unset] [(.int (5 : Int32)), (.ref self)]))
  refine Adv.newI A X1 hx hZ (aty := .int) (hw _ (List.mem_of_getElem? (i := 1) rfl)) e1 (n := 5) (by decide) 5 (by decide) (by decide) rfl (ad := "[I") (by decide) (by decide) (by decide) (g := (mkF m 8 #[.val (.ref self), .val (.ref p1), .val (.int (4 : Int32)), .unset, .unset] [(.int (5 : Int32)), (.ref self)])) rfl rfl (hb hby d1_8) ?_
  intro T3 h3 b3 q_b3 X3 e3 E3 V_b3 EA_b3
  have ne_self_b3 : self ≠ b3 := Nat.ne_of_lt (Nat.lt_of_lt_of_le E_self.lt (Nat.le_of_eq q_b3.symm))
  have ne_p1_b3 : p1 ≠ b3 := Nat.ne_of_lt (Nat.lt_of_lt_of_le V_p1.lt (Nat.le_of_eq q_b3.symm))
  have g_b3 : n0 ≤ b3 := Nat.le_trans Z0 (Nat.le_of_eq q_b3.symm)
  have sz_b3 : h0.size ≤ b3 := Nat.le_trans (Keep.refl h0 [self]).1 (Nat.le_of_eq q_b3.symm)
  have E_self_3 := E_self.ext E3
  have F_start_3 := F_start.ext E3
  have F_rows_3 := F_rows.ext E3
  have V_p1_3 := V_p1.ext E3
  have Z_3 : n0 ≤ h3.size := Nat.le_trans Z0 E3.1
  have KK_3 : Keep h0 h3 [self] := (Keep.refl h0 [self]).ext E3
  show D (T3.setTop (mkF m 10 #[.val (.ref self), .val (.ref p1), .val (.int (4 : Int32)), .unset, .unset] [(.ref b3), (.ref self)]))
  obtain ⟨T4, h4, X4, e4, W4, st4⟩ := putF X3 hx hZ hown (host := "") (Or.inl (hw _ (List.mem_of_getElem? (i := 11) rfl))) Via.refl e3 F_start_3 E_self_3 (Or.inr ⟨(hw _ (List.mem_of_getElem? (i := 12) rfl)), rfl, hnm⟩) (hw _ (List.mem_of_getElem? (i := 3) rfl)) (ty := (.array .int)) (by decide) rfl rfl (g := (mkF m 10 #[.val (.ref self), .val (.ref p1), .val (.int (4 : Int32)), .unset, .unset] [(.ref b3), (.ref self)])) rfl rfl (hb hby d1_10)
  have N4 := Fr.snoc X4 (Fr.nil n0) g_self
  have F_start_4 := F_start_3.same W4
  have E_self_4 := E_self_3.wr W4
  have F_rows_4 := F_rows_3.other W4 (Or.inr (slot_ne (Or.inr (hw _ (List.mem_of_getElem? (i := 14) rfl))) (Or.inr (hw _ (List.mem_of_getElem? (i := 12) rfl))) (by decide) (t := (.array .int)) (t' := (.array .int)) (by decide) (by decide)))
  have V_p1_4 := V_p1_3.other W4 (Ne.symm (ne_ari E_self_3 (hw _ (List.mem_of_getElem? (i := 3) rfl)) V_p1_3))
  have V_b3_4 := V_b3.other W4 (Ne.symm ne_self_b3)
  have EA_b3_4 := EA_b3.wr W4
  have Z_4 : n0 ≤ h4.size := Nat.le_trans Z_3 (Nat.le_of_eq W4.size.symm)
  have KK_4 : Keep h0 h4 [self] := KK_3.wr W4 (Or.inl (List.mem_of_getElem? (i := 0) rfl))
  refine A (st4 _) ?_
  show D (T4.setTop (mkF m 13 #[.val (.ref self), .val (.ref p1), .val (.int (4 : Int32)), .unset, .unset] []))
  have Vc5 : ArI Z h4 b3 .int 5 (fun i => Int32.ofNat (own_m0 k0 k1 k2 k3 i)) := V_b3_4.eqf (fun i hi => own_l0 k0 (by omega) k1 (by omega) k2 (by omega) k3 (by omega) i (by omega))
  refine A (XS.iconst X4.here hx rfl (hb hby d1_13)) ?_
  show D (T4.setTop (mkF m 14 #[.val (.ref self), .val (.ref p1), .val (.int (4 : Int32)), .unset, .unset] [(.int (0 : Int32))]))
  refine A (XS.istoreN X4.here hx rfl (hb hby d1_14) rfl (l' := #[.val (.ref self), .val (.ref p1), .val (.int (4 : Int32)), .val (.int (0 : Int32)), .unset]) rfl) ?_
  show D (T4.setTop (mkF m 15 #[.val (.ref self), .val (.ref p1), .val (.int (4 : Int32)), .val (.int (0 : Int32)), .unset] []))
  refine A (XS.iloadN X4.here hx rfl (hb hby d1_15) rfl) ?_
  show D (T4.setTop (mkF m 16 #[.val (.ref self), .val (.ref p1), .val (.int (4 : Int32)), .val (.int (0 : Int32)), .unset] [(.int (0 : Int32))]))
  refine A (XS.aloadN X4.here hx rfl (hb hby d1_16) rfl rfl) ?_
  show D (T4.setTop (mkF m 17 #[.val (.ref self), .val (.ref p1), .val (.int (4 : Int32)), .val (.int (0 : Int32)), .unset] [(.ref p1), (.int (0 : Int32))]))
  refine Adv.lenI A X4 hx hZ e4 V_p1_4 (g := (mkF m 17 #[.val (.ref self), .val (.ref p1), .val (.int (4 : Int32)), .val (.int (0 : Int32)), .unset] [(.ref p1), (.int (0 : Int32))])) rfl rfl (hb hby d1_17) ?_
  show D (T4.setTop (mkF m 18 #[.val (.ref self), .val (.ref p1), .val (.int (4 : Int32)), .val (.int (0 : Int32)), .unset] [(.int (4 : Int32)), (.int (0 : Int32))]))
  refine A (XS.icmpNo X4.here hx rfl (hb hby d1_18) rfl (tlt (by decide : (0 : Int32) < (4 : Int32))).2.1) ?_
  show D (T4.setTop (mkF m 21 #[.val (.ref self), .val (.ref p1), .val (.int (4 : Int32)), .val (.int (0 : Int32)), .unset] []))
  refine A (XS.aloadN X4.here hx rfl (hb hby d1_21) rfl rfl) ?_
  show D (T4.setTop (mkF m 22 #[.val (.ref self), .val (.ref p1), .val (.int (4 : Int32)), .val (.int (0 : Int32)), .unset] [(.ref self)]))
  obtain ⟨T6, X6, e6, st6⟩ := getF X4 hx hZ hown (host := "") (Or.inl (hw _ (List.mem_of_getElem? (i := 11) rfl))) Via.refl e4 F_start_4 (g := (mkF m 22 #[.val (.ref self), .val (.ref p1), .val (.int (4 : Int32)), .val (.int (0 : Int32)), .unset] [(.ref self)])) rfl rfl (hb hby d1_22)
  refine A (st6 _) ?_
  show D (T6.setTop (mkF m 25 #[.val (.ref self), .val (.ref p1), .val (.int (4 : Int32)), .val (.int (0 : Int32)), .unset] [(.ref b3)]))
  refine A (XS.aloadN X6.here hx rfl (hb hby d1_25) rfl rfl) ?_
  show D (T6.setTop (mkF m 26 #[.val (.ref self), .val (.ref p1), .val (.int (4 : Int32)), .val (.int (0 : Int32)), .unset] [(.ref p1), (.ref b3)]))
  refine A (XS.iloadN X6.here hx rfl (hb hby d1_26) rfl) ?_
  show D (T6.setTop (mkF m 27 #[.val (.ref self), .val (.ref p1), .val (.int (4 : Int32)), .val (.int (0 : Int32)), .unset] [(.int (0 : Int32)), (.ref p1), (.ref b3)]))
  refine Adv.ldI A X6 hx hZ e6 V_p1_4 (k := 0) (by decide) (by decide) (g := (mkF m 27 #[.val (.ref self), .val (.ref p1), .val (.int (4 : Int32)), .val (.int (0 : Int32)), .unset] [(.int (0 : Int32)), (.ref p1), (.ref b3)])) rfl rfl (hb hby d1_27) ?_
  show D (T6.setTop (mkF m 28 #[.val (.ref self), .val (.ref p1), .val (.int (4 : Int32)), .val (.int (0 : Int32)), .unset] [(.int (Int32.ofNat k0)), (.ref b3)]))
  refine A (XS.iconst X6.here hx rfl (hb hby d1_28)) ?_
  show D (T6.setTop (mkF m 29 #[.val (.ref self), .val (.ref p1), .val (.int (4 : Int32)), .val (.int (0 : Int32)), .unset] [(.int (1 : Int32)), (.int (Int32.ofNat k0)), (.ref b3)]))
  refine A (XS.iadd X6.here hx rfl (hb hby d1_29) rfl) ?_
  show D (T6.setTop (mkF m 30 #[.val (.ref self), .val (.ref p1), .val (.int (4 : Int32)), .val (.int (0 : Int32)), .unset] [(.int ((Int32.ofNat k0) + (1 : Int32))), (.ref b3)]))
  refine A (S' := T6.setTop (mkF m 31 #[.val (.ref self), .val (.ref p1), .val (.int (4 : Int32)), .val (.int (0 : Int32)), .unset] [(.int ((Int32.ofNat k0) + (1 : Int32))), (.ref b3), (.int ((Int32.ofNat k0) + (1 : Int32))), (.ref b3)])) (fun {t} kt => ?_) ?_
  · jvm_step X6.here [X6.here.top, hx, (hb hby d1_30), Value.category]
    exact kt
  show D (T6.setTop (mkF m 31 #[.val (.ref self), .val (.ref p1), .val (.int (4 : Int32)), .val (.int (0 : Int32)), .unset] [(.int ((Int32.ofNat k0) + (1 : Int32))), (.ref b3), (.int ((Int32.ofNat k0) + (1 : Int32))), (.ref b3)]))
  refine Adv.ldI A X6 hx hZ e6 Vc5 (k := (k0 + 1)) (own_of1 (by omega)) (by omega) (g := (mkF m 31 #[.val (.ref self), .val (.ref p1), .val (.int (4 : Int32)), .val (.int (0 : Int32)), .unset] [(.int ((Int32.ofNat k0) + (1 : Int32))), (.ref b3), (.int ((Int32.ofNat k0) + (1 : Int32))), (.ref b3)])) rfl rfl (hb hby d1_31) ?_
  show D (T6.setTop (mkF m 32 #[.val (.ref self), .val (.ref p1), .val (.int (4 : Int32)), .val (.int (0 : Int32)), .unset] [(.int (Int32.ofNat (own_m0 k0 k1 k2 k3 (k0 + 1)))), (.int ((Int32.ofNat k0) + (1 : Int32))), (.ref b3)]))
  refine A (XS.iconst X6.here hx rfl (hb hby d1_32)) ?_
  show D (T6.setTop (mkF m 33 #[.val (.ref self), .val (.ref p1), .val (.int (4 : Int32)), .val (.int (0 : Int32)), .unset] [(.int (1 : Int32)), (.int (Int32.ofNat (own_m0 k0 k1 k2 k3 (k0 + 1)))), (.int ((Int32.ofNat k0) + (1 : Int32))), (.ref b3)]))
  refine A (XS.iadd X6.here hx rfl (hb hby d1_33) rfl) ?_
  show D (T6.setTop (mkF m 34 #[.val (.ref self), .val (.ref p1), .val (.int (4 : Int32)), .val (.int (0 : Int32)), .unset] [(.int ((Int32.ofNat (own_m0 k0 k1 k2 k3 (k0 + 1))) + (1 : Int32))), (.int ((Int32.ofNat k0) + (1 : Int32))), (.ref b3)]))
  refine Adv.stI A X6 hx hZ e6 Vc5 (k := (k0 + 1)) (own_of1 (by omega)) (by omega) (g := (mkF m 34 #[.val (.ref self), .val (.ref p1), .val (.int (4 : Int32)), .val (.int (0 : Int32)), .unset] [(.int ((Int32.ofNat (own_m0 k0 k1 k2 k3 (k0 + 1))) + (1 : Int32))), (.int ((Int32.ofNat k0) + (1 : Int32))), (.ref b3)])) rfl rfl (hb hby d1_34) ?_
  intro T7 h7 X7 e7 W7 Vb3_7
  have N7 := Fr.snoc X7 N4 g_b3
  have E_self_7 := E_self_4.wr W7
  have F_start_7 := F_start_4.other W7 (Or.inl ne_self_b3)
  have F_rows_7 := F_rows_4.other W7 (Or.inl ne_self_b3)
  have V_p1_7 := V_p1_4.other W7 ne_p1_b3
  have EA_b3_7 := EA_b3_4.wr W7
  have Z_7 : n0 ≤ h7.size := Nat.le_trans Z_4 (Nat.le_of_eq W7.size.symm)
  have KK_7 : Keep h0 h7 [self] := KK_4.wr W7 (Or.inr sz_b3)
  show D (T7.setTop (mkF m 35 #[.val (.ref self), .val (.ref p1), .val (.int (4 : Int32)), .val (.int (0 : Int32)), .unset] []))
  have Vc8 : ArI Z h7 b3 .int 5 (fun i => Int32.ofNat (own_m1 k0 k1 k2 k3 i)) := Vb3_7.eqf (fun i hi => own_l1_0 k0 (by omega) k1 (by omega) k2 (by omega) k3 (by omega) i (by omega))
  refine A (XS.iinc X7.here hx rfl (hb hby d1_35) rfl (l' := #[.val (.ref self), .val (.ref p1), .val (.int (4 : Int32)), .val (.int ((0 : Int32) + (1 : Int32))), .unset]) rfl) ?_
  show D (T7.setTop (mkF m 38 #[.val (.ref self), .val (.ref p1), .val (.int (4 : Int32)), .val (.int ((0 : Int32) + (1 : Int32))), .unset] []))
  suffices Kq9 : ∀ q9 : Int32, q9 = (1 : Int32) → D (T7.setTop (mkF m 38 #[.val (.ref self), .val (.ref p1), .val (.int (4 : Int32)), .val (.int q9), .unset] [])) from Kq9 _ (by decide)
  rintro _ rfl
  show D (T7.setTop (mkF m 38 #[.val (.ref self), .val (.ref p1), .val (.int (4 : Int32)), .val (.int (1 : Int32)), .unset] []))
  refine A (XS.goto X7.here hx rfl (pc0 := 38) (pc' := 15) rfl (hb hby d1_38) (by decide) (by decide)) ?_
  show D (T7.setTop (mkF m 15 #[.val (.ref self), .val (.ref p1), .val (.int (4 : Int32)), .val (.int (1 : Int32)), .unset] []))
  refine A (XS.iloadN X7.here hx rfl (hb hby d1_15) rfl) ?_
  show D (T7.setTop (mkF m 16 #[.val (.ref self), .val (.ref p1), .val (.int (4 : Int32)), .val (.int (1 : Int32)), .unset] [(.int (1 : Int32))]))
  refine A (XS.aloadN X7.here hx rfl (hb hby d1_16) rfl rfl) ?_
  show D (T7.setTop (mkF m 17 #[.val (.ref self), .val (.ref p1), .val (.int (4 : Int32)), .val (.int (1 : Int32)), .unset] [(.ref p1), (.int (1 : Int32))]))
  refine Adv.lenI A X7 hx hZ e7 V_p1_7 (g := (mkF m 17 #[.val (.ref self), .val (.ref p1), .val (.int (4 : Int32)), .val (.int (1 : Int32)), .unset] [(.ref p1), (.int (1 : Int32))])) rfl rfl (hb hby d1_17) ?_
  show D (T7.setTop (mkF m 18 #[.val (.ref self), .val (.ref p1), .val (.int (4 : Int32)), .val (.int (1 : Int32)), .unset] [(.int (4 : Int32)), (.int (1 : Int32))]))
  refine A (XS.icmpNo X7.here hx rfl (hb hby d1_18) rfl (tlt (by decide : (1 : Int32) < (4 : Int32))).2.1) ?_
  show D (T7.setTop (mkF m 21 #[.val (.ref self), .val (.ref p1), .val (.int (4 : Int32)), .val (.int (1 : Int32)), .unset] []))
  refine A (XS.aloadN X7.here hx rfl (hb hby d1_21) rfl rfl) ?_
  show D (T7.setTop (mkF m 22 #[.val (.ref self), .val (.ref p1), .val (.int (4 : Int32)), .val (.int (1 : Int32)), .unset] [(.ref self)]))
  obtain ⟨T10, X10, e10, st10⟩ := getF X7 hx hZ hown (host := "") (Or.inl (hw _ (List.mem_of_getElem? (i := 11) rfl))) Via.refl e7 F_start_7 (g := (mkF m 22 #[.val (.ref self), .val (.ref p1), .val (.int (4 : Int32)), .val (.int (1 : Int32)), .unset] [(.ref self)])) rfl rfl (hb hby d1_22)
  refine A (st10 _) ?_
  show D (T10.setTop (mkF m 25 #[.val (.ref self), .val (.ref p1), .val (.int (4 : Int32)), .val (.int (1 : Int32)), .unset] [(.ref b3)]))
  refine A (XS.aloadN X10.here hx rfl (hb hby d1_25) rfl rfl) ?_
  show D (T10.setTop (mkF m 26 #[.val (.ref self), .val (.ref p1), .val (.int (4 : Int32)), .val (.int (1 : Int32)), .unset] [(.ref p1), (.ref b3)]))
  refine A (XS.iloadN X10.here hx rfl (hb hby d1_26) rfl) ?_
  show D (T10.setTop (mkF m 27 #[.val (.ref self), .val (.ref p1), .val (.int (4 : Int32)), .val (.int (1 : Int32)), .unset] [(.int (1 : Int32)), (.ref p1), (.ref b3)]))
  refine Adv.ldI A X10 hx hZ e10 V_p1_7 (k := 1) (by decide) (by decide) (g := (mkF m 27 #[.val (.ref self), .val (.ref p1), .val (.int (4 : Int32)), .val (.int (1 : Int32)), .unset] [(.int (1 : Int32)), (.ref p1), (.ref b3)])) rfl rfl (hb hby d1_27) ?_
  show D (T10.setTop (mkF m 28 #[.val (.ref self), .val (.ref p1), .val (.int (4 : Int32)), .val (.int (1 : Int32)), .unset] [(.int (Int32.ofNat k1)), (.ref b3)]))
  refine A (XS.iconst X10.here hx rfl (hb hby d1_28)) ?_
  show D (T10.setTop (mkF m 29 #[.val (.ref self), .val (.ref p1), .val (.int (4 : Int32)), .val (.int (1 : Int32)), .unset] [(.int (1 : Int32)), (.int (Int32.ofNat k1)), (.ref b3)]))
  refine A (XS.iadd X10.here hx rfl (hb hby d1_29) rfl) ?_
  show D (T10.setTop (mkF m 30 #[.val (.ref self), .val (.ref p1), .val (.int (4 : Int32)), .val (.int (1 : Int32)), .unset] [(.int ((Int32.ofNat k1) + (1 : Int32))), (.ref b3)]))
  refine A (S' := T10.setTop (mkF m 31 #[.val (.ref self), .val (.ref p1), .val (.int (4 : Int32)), .val (.int (1 : Int32)), .unset] [(.int ((Int32.ofNat k1) + (1 : Int32))), (.ref b3), (.int ((Int32.ofNat k1) + (1 : Int32))), (.ref b3)])) (fun {t} kt => ?_) ?_
  · jvm_step X10.here [X10.here.top, hx, (hb hby d1_30), Value.category]
    exact kt
  show D (T10.setTop (mkF m 31 #[.val (.ref self), .val (.ref p1), .val (.int (4 : Int32)), .val (.int (1 : Int32)), .unset] [(.int ((Int32.ofNat k1) + (1 : Int32))), (.ref b3), (.int ((Int32.ofNat k1) + (1 : Int32))), (.ref b3)]))
  refine Adv.ldI A X10 hx hZ e10 Vc8 (k := (k1 + 1)) (own_of1 (by omega)) (by omega) (g := (mkF m 31 #[.val (.ref self), .val (.ref p1), .val (.int (4 : Int32)), .val (.int (1 : Int32)), .unset] [(.int ((Int32.ofNat k1) + (1 : Int32))), (.ref b3), (.int ((Int32.ofNat k1) + (1 : Int32))), (.ref b3)])) rfl rfl (hb hby d1_31) ?_
  show D (T10.setTop (mkF m 32 #[.val (.ref self), .val (.ref p1), .val (.int (4 : Int32)), .val (.int (1 : Int32)), .unset] [(.int (Int32.ofNat (own_m1 k0 k1 k2 k3 (k1 + 1)))), (.int ((Int32.ofNat k1) + (1 : Int32))), (.ref b3)]))
  refine A (XS.iconst X10.here hx rfl (hb hby d1_32)) ?_
  show D (T10.setTop (mkF m 33 #[.val (.ref self), .val (.ref p1), .val (.int (4 : Int32)), .val (.int (1 : Int32)), .unset] [(.int (1 : Int32)), (.int (Int32.ofNat (own_m1 k0 k1 k2 k3 (k1 + 1)))), (.int ((Int32.ofNat k1) + (1 : Int32))), (.ref b3)]))
  refine A (XS.iadd X10.here hx rfl (hb hby d1_33) rfl) ?_
  show D (T10.setTop (mkF m 34 #[.val (.ref self), .val (.ref p1), .val (.int (4 : Int32)), .val (.int (1 : Int32)), .unset] [(.int ((Int32.ofNat (own_m1 k0 k1 k2 k3 (k1 + 1))) + (1 : Int32))), (.int ((Int32.ofNat k1) + (1 : Int32))), (.ref b3)]))
  refine Adv.stI A X10 hx hZ e10 Vc8 (k := (k1 + 1)) (own_of1 (by omega)) (by omega) (g := (mkF m 34 #[.val (.ref self), .val (.ref p1), .val (.int (4 : Int32)), .val (.int (1 : Int32)), .unset] [(.int ((Int32.ofNat (own_m1 k0 k1 k2 k3 (k1 + 1))) + (1 : Int32))), (.int ((Int32.ofNat k1) + (1 : Int32))), (.ref b3)])) rfl rfl (hb hby d1_34) ?_
  intro T11 h11 X11 e11 W11 Vb3_11
  have N11 := Fr.snoc X11 N7 g_b3
  have E_self_11 := E_self_7.wr W11
  have F_start_11 := F_start_7.other W11 (Or.inl ne_self_b3)
  have F_rows_11 := F_rows_7.other W11 (Or.inl ne_self_b3)
  have V_p1_11 := V_p1_7.other W11 ne_p1_b3
  have EA_b3_11 := EA_b3_7.wr W11
  have Z_11 : n0 ≤ h11.size := Nat.le_trans Z_7 (Nat.le_of_eq W11.size.symm)
  have KK_11 : Keep h0 h11 [self] := KK_7.wr W11 (Or.inr sz_b3)
  show D (T11.setTop (mkF m 35 #[.val (.ref self), .val (.ref p1), .val (.int (4 : Int32)), .val (.int (1 : Int32)), .unset] []))
  have Vc12 : ArI Z h11 b3 .int 5 (fun i => Int32.ofNat (own_m2 k0 k1 k2 k3 i)) := Vb3_11.eqf (fun i hi => own_l1_1 k0 (by omega) k1 (by omega) k2 (by omega) k3 (by omega) i (by omega))
  refine A (XS.iinc X11.here hx rfl (hb hby d1_35) rfl (l' := #[.val (.ref self), .val (.ref p1), .val (.int (4 : Int32)), .val (.int ((1 : Int32) + (1 : Int32))), .unset]) rfl) ?_
  show D (T11.setTop (mkF m 38 #[.val (.ref self), .val (.ref p1), .val (.int (4 : Int32)), .val (.int ((1 : Int32) + (1 : Int32))), .unset] []))
  suffices Kq13 : ∀ q13 : Int32, q13 = (2 : Int32) → D (T11.setTop (mkF m 38 #[.val (.ref self), .val (.ref p1), .val (.int (4 : Int32)), .val (.int q13), .unset] [])) from Kq13 _ (by decide)
  rintro _ rfl
  show D (T11.setTop (mkF m 38 #[.val (.ref self), .val (.ref p1), .val (.int (4 : Int32)), .val (.int (2 : Int32)), .unset] []))
  refine A (XS.goto X11.here hx rfl (pc0 := 38) (pc' := 15) rfl (hb hby d1_38) (by decide) (by decide)) ?_
  show D (T11.setTop (mkF m 15 #[.val (.ref self), .val (.ref p1), .val (.int (4 : Int32)), .val (.int (2 : Int32)), .unset] []))
  refine A (XS.iloadN X11.here hx rfl (hb hby d1_15) rfl) ?_
  show D (T11.setTop (mkF m 16 #[.val (.ref self), .val (.ref p1), .val (.int (4 : Int32)), .val (.int (2 : Int32)), .unset] [(.int (2 : Int32))]))
  refine A (XS.aloadN X11.here hx rfl (hb hby d1_16) rfl rfl) ?_
  show D (T11.setTop (mkF m 17 #[.val (.ref self), .val (.ref p1), .val (.int (4 : Int32)), .val (.int (2 : Int32)), .unset] [(.ref p1), (.int (2 : Int32))]))
  refine Adv.lenI A X11 hx hZ e11 V_p1_11 (g := (mkF m 17 #[.val (.ref self), .val (.ref p1), .val (.int (4 : Int32)), .val (.int (2 : Int32)), .unset] [(.ref p1), (.int (2 : Int32))])) rfl rfl (hb hby d1_17) ?_
  show D (T11.setTop (mkF m 18 #[.val (.ref self), .val (.ref p1), .val (.int (4 : Int32)), .val (.int (2 : Int32)), .unset] [(.int (4 : Int32)), (.int (2 : Int32))]))
  refine A (XS.icmpNo X11.here hx rfl (hb hby d1_18) rfl (tlt (by decide : (2 : Int32) < (4 : Int32))).2.1) ?_
  show D (T11.setTop (mkF m 21 #[.val (.ref self), .val (.ref p1), .val (.int (4 : Int32)), .val (.int (2 : Int32)), .unset] []))
  refine A (XS.aloadN X11.here hx rfl (hb hby d1_21) rfl rfl) ?_
  show D (T11.setTop (mkF m 22 #[.val (.ref self), .val (.ref p1), .val (.int (4 : Int32)), .val (.int (2 : Int32)), .unset] [(.ref self)]))
  obtain ⟨T14, X14, e14, st14⟩ := getF X11 hx hZ hown (host := "") (Or.inl (hw _ (List.mem_of_getElem? (i := 11) rfl))) Via.refl e11 F_start_11 (g := (mkF m 22 #[.val (.ref self), .val (.ref p1), .val (.int (4 : Int32)), .val (.int (2 : Int32)), .unset] [(.ref self)])) rfl rfl (hb hby d1_22)
  refine A (st14 _) ?_
  show D (T14.setTop (mkF m 25 #[.val (.ref self), .val (.ref p1), .val (.int (4 : Int32)), .val (.int (2 : Int32)), .unset] [(.ref b3)]))
  refine A (XS.aloadN X14.here hx rfl (hb hby d1_25) rfl rfl) ?_
  show D (T14.setTop (mkF m 26 #[.val (.ref self), .val (.ref p1), .val (.int (4 : Int32)), .val (.int (2 : Int32)), .unset] [(.ref p1), (.ref b3)]))
  refine A (XS.iloadN X14.here hx rfl (hb hby d1_26) rfl) ?_
  show D (T14.setTop (mkF m 27 #[.val (.ref self), .val (.ref p1), .val (.int (4 : Int32)), .val (.int (2 : Int32)), .unset] [(.int (2 : Int32)), (.ref p1), (.ref b3)]))
  refine Adv.ldI A X14 hx hZ e14 V_p1_11 (k := 2) (by decide) (by decide) (g := (mkF m 27 #[.val (.ref self), .val (.ref p1), .val (.int (4 : Int32)), .val (.int (2 : Int32)), .unset] [(.int (2 : Int32)), (.ref p1), (.ref b3)])) rfl rfl (hb hby d1_27) ?_
  show D (T14.setTop (mkF m 28 #[.val (.ref self), .val (.ref p1), .val (.int (4 : Int32)), .val (.int (2 : Int32)), .unset] [(.int (Int32.ofNat k2)), (.ref b3)]))
  refine A (XS.iconst X14.here hx rfl (hb hby d1_28)) ?_
  show D (T14.setTop (mkF m 29 #[.val (.ref self), .val (.ref p1), .val (.int (4 : Int32)), .val (.int (2 : Int32)), .unset] [(.int (1 : Int32)), (.int (Int32.ofNat k2)), (.ref b3)]))
  refine A (XS.iadd X14.here hx rfl (hb hby d1_29) rfl) ?_
  show D (T14.setTop (mkF m 30 #[.val (.ref self), .val (.ref p1), .val (.int (4 : Int32)), .val (.int (2 : Int32)), .unset] [(.int ((Int32.ofNat k2) + (1 : Int32))), (.ref b3)]))
  refine A (S' := T14.setTop (mkF m 31 #[.val (.ref self), .val (.ref p1), .val (.int (4 : Int32)), .val (.int (2 : Int32)), .unset] [(.int ((Int32.ofNat k2) + (1 : Int32))), (.ref b3), (.int ((Int32.ofNat k2) + (1 : Int32))), (.ref b3)])) (fun {t} kt => ?_) ?_
  · jvm_step X14.here [X14.here.top, hx, (hb hby d1_30), Value.category]
    exact kt
  show D (T14.setTop (mkF m 31 #[.val (.ref self), .val (.ref p1), .val (.int (4 : Int32)), .val (.int (2 : Int32)), .unset] [(.int ((Int32.ofNat k2) + (1 : Int32))), (.ref b3), (.int ((Int32.ofNat k2) + (1 : Int32))), (.ref b3)]))
  refine Adv.ldI A X14 hx hZ e14 Vc12 (k := (k2 + 1)) (own_of1 (by omega)) (by omega) (g := (mkF m 31 #[.val (.ref self), .val (.ref p1), .val (.int (4 : Int32)), .val (.int (2 : Int32)), .unset] [(.int ((Int32.ofNat k2) + (1 : Int32))), (.ref b3), (.int ((Int32.ofNat k2) + (1 : Int32))), (.ref b3)])) rfl rfl (hb hby d1_31) ?_
  show D (T14.setTop (mkF m 32 #[.val (.ref self), .val (.ref p1), .val (.int (4 : Int32)), .val (.int (2 : Int32)), .unset] [(.int (Int32.ofNat (own_m2 k0 k1 k2 k3 (k2 + 1)))), (.int ((Int32.ofNat k2) + (1 : Int32))), (.ref b3)]))
  refine A (XS.iconst X14.here hx rfl (hb hby d1_32)) ?_
  show D (T14.setTop (mkF m 33 #[.val (.ref self), .val (.ref p1), .val (.int (4 : Int32)), .val (.int (2 : Int32)), .unset] [(.int (1 : Int32)), (.int (Int32.ofNat (own_m2 k0 k1 k2 k3 (k2 + 1)))), (.int ((Int32.ofNat k2) + (1 : Int32))), (.ref b3)]))
  refine A (XS.iadd X14.here hx rfl (hb hby d1_33) rfl) ?_
  show D (T14.setTop (mkF m 34 #[.val (.ref self), .val (.ref p1), .val (.int (4 : Int32)), .val (.int (2 : Int32)), .unset] [(.int ((Int32.ofNat (own_m2 k0 k1 k2 k3 (k2 + 1))) + (1 : Int32))), (.int ((Int32.ofNat k2) + (1 : Int32))), (.ref b3)]))
  refine Adv.stI A X14 hx hZ e14 Vc12 (k := (k2 + 1)) (own_of1 (by omega)) (by omega) (g := (mkF m 34 #[.val (.ref self), .val (.ref p1), .val (.int (4 : Int32)), .val (.int (2 : Int32)), .unset] [(.int ((Int32.ofNat (own_m2 k0 k1 k2 k3 (k2 + 1))) + (1 : Int32))), (.int ((Int32.ofNat k2) + (1 : Int32))), (.ref b3)])) rfl rfl (hb hby d1_34) ?_
  intro T15 h15 X15 e15 W15 Vb3_15
  have N15 := Fr.snoc X15 N11 g_b3
  have E_self_15 := E_self_11.wr W15
  have F_start_15 := F_start_11.other W15 (Or.inl ne_self_b3)
  have F_rows_15 := F_rows_11.other W15 (Or.inl ne_self_b3)
  have V_p1_15 := V_p1_11.other W15 ne_p1_b3
  have EA_b3_15 := EA_b3_11.wr W15
  have Z_15 : n0 ≤ h15.size := Nat.le_trans Z_11 (Nat.le_of_eq W15.size.symm)
  have KK_15 : Keep h0 h15 [self] := KK_11.wr W15 (Or.inr sz_b3)
  show D (T15.setTop (mkF m 35 #[.val (.ref self), .val (.ref p1), .val (.int (4 : Int32)), .val (.int (2 : Int32)), .unset] []))
  have Vc16 : ArI Z h15 b3 .int 5 (fun i => Int32.ofNat (own_m3 k0 k1 k2 k3 i)) := Vb3_15.eqf (fun i hi => own_l1_2 k0 (by omega) k1 (by omega) k2 (by omega) k3 (by omega) i (by omega))
  refine A (XS.iinc X15.here hx rfl (hb hby d1_35) rfl (l' := #[.val (.ref self), .val (.ref p1), .val (.int (4 : Int32)), .val (.int ((2 : Int32) + (1 : Int32))), .unset]) rfl) ?_
  show D (T15.setTop (mkF m 38 #[.val (.ref self), .val (.ref p1), .val (.int (4 : Int32)), .val (.int ((2 : Int32) + (1 : Int32))), .unset] []))
  suffices Kq17 : ∀ q17 : Int32, q17 = (3 : Int32) → D (T15.setTop (mkF m 38 #[.val (.ref self), .val (.ref p1), .val (.int (4 : Int32)), .val (.int q17), .unset] [])) from Kq17 _ (by decide)
  rintro _ rfl
  show D (T15.setTop (mkF m 38 #[.val (.ref self), .val (.ref p1), .val (.int (4 : Int32)), .val (.int (3 : Int32)), .unset] []))
  refine A (XS.goto X15.here hx rfl (pc0 := 38) (pc' := 15) rfl (hb hby d1_38) (by decide) (by decide)) ?_
  show D (T15.setTop (mkF m 15 #[.val (.ref self), .val (.ref p1), .val (.int (4 : Int32)), .val (.int (3 : Int32)), .unset] []))
  refine A (XS.iloadN X15.here hx rfl (hb hby d1_15) rfl) ?_
  show D (T15.setTop (mkF m 16 #[.val (.ref self), .val (.ref p1), .val (.int (4 : Int32)), .val (.int (3 : Int32)), .unset] [(.int (3 : Int32))]))
  refine A (XS.aloadN X15.here hx rfl (hb hby d1_16) rfl rfl) ?_
  show D (T15.setTop (mkF m 17 #[.val (.ref self), .val (.ref p1), .val (.int (4 : Int32)), .val (.int (3 : Int32)), .unset] [(.ref p1), (.int (3 : Int32))]))
  refine Adv.lenI A X15 hx hZ e15 V_p1_15 (g := (mkF m 17 #[.val (.ref self), .val (.ref p1), .val (.int (4 : Int32)), .val (.int (3 : Int32)), .unset] [(.ref p1), (.int (3 : Int32))])) rfl rfl (hb hby d1_17) ?_
  show D (T15.setTop (mkF m 18 #[.val (.ref self), .val (.ref p1), .val (.int (4 : Int32)), .val (.int (3 : Int32)), .unset] [(.int (4 : Int32)), (.int (3 : Int32))]))
  refine A (XS.icmpNo X15.here hx rfl (hb hby d1_18) rfl (tlt (by decide : (3 : Int32) < (4 : Int32))).2.1) ?_
  show D (T15.setTop (mkF m 21 #[.val (.ref self), .val (.ref p1), .val (.int (4 : Int32)), .val (.int (3 : Int32)), .unset] []))
  refine A (XS.aloadN X15.here hx rfl (hb hby d1_21) rfl rfl) ?_
  show D (T15.setTop (mkF m 22 #[.val (.ref self), .val (.ref p1), .val (.int (4 : Int32)), .val (.int (3 : Int32)), .unset] [(.ref self)]))
  obtain ⟨T18, X18, e18, st18⟩ := getF X15 hx hZ hown (host := "") (Or.inl (hw _ (List.mem_of_getElem? (i := 11) rfl))) Via.refl e15 F_start_15 (g := (mkF m 22 #[.val (.ref self), .val (.ref p1), .val (.int (4 : Int32)), .val (.int (3 : Int32)), .unset] [(.ref self)])) rfl rfl (hb hby d1_22)
  refine A (st18 _) ?_
  show D (T18.setTop (mkF m 25 #[.val (.ref self), .val (.ref p1), .val (.int (4 : Int32)), .val (.int (3 : Int32)), .unset] [(.ref b3)]))
  refine A (XS.aloadN X18.here hx rfl (hb hby d1_25) rfl rfl) ?_
  show D (T18.setTop (mkF m 26 #[.val (.ref self), .val (.ref p1), .val (.int (4 : Int32)), .val (.int (3 : Int32)), .unset] [(.ref p1), (.ref b3)]))
  refine A (XS.iloadN X18.here hx rfl (hb hby d1_26) rfl) ?_
  show D (T18.setTop (mkF m 27 #[.val (.ref self), .val (.ref p1), .val (.int (4 : Int32)), .val (.int (3 : Int32)), .unset] [(.int (3 : Int32)), (.ref p1), (.ref b3)]))
  refine Adv.ldI A X18 hx hZ e18 V_p1_15 (k := 3) (by decide) (by decide) (g := (mkF m 27 #[.val (.ref self), .val (.ref p1), .val (.int (4 : Int32)), .val (.int (3 : Int32)), .unset] [(.int (3 : Int32)), (.ref p1), (.ref b3)])) rfl rfl (hb hby d1_27) ?_
  show D (T18.setTop (mkF m 28 #[.val (.ref self), .val (.ref p1), .val (.int (4 : Int32)), .val (.int (3 : Int32)), .unset] [(.int (Int32.ofNat k3)), (.ref b3)]))
  refine A (XS.iconst X18.here hx rfl (hb hby d1_28)) ?_
  show D (T18.setTop (mkF m 29 #[.val (.ref self), .val (.ref p1), .val (.int (4 : Int32)), .val (.int (3 : Int32)), .unset] [(.int (1 : Int32)), (.int (Int32.ofNat k3)), (.ref b3)]))
  refine A (XS.iadd X18.here hx rfl (hb hby d1_29) rfl) ?_
  show D (T18.setTop (mkF m 30 #[.val (.ref self), .val (.ref p1), .val (.int (4 : Int32)), .val (.int (3 : Int32)), .unset] [(.int ((Int32.ofNat k3) + (1 : Int32))), (.ref b3)]))
  refine A (S' := T18.setTop (mkF m 31 #[.val (.ref self), .val (.ref p1), .val (.int (4 : Int32)), .val (.int (3 : Int32)), .unset] [(.int ((Int32.ofNat k3) + (1 : Int32))), (.ref b3), (.int ((Int32.ofNat k3) + (1 : Int32))), (.ref b3)])) (fun {t} kt => ?_) ?_
  · jvm_step X18.here [X18.here.top, hx, (hb hby d1_30), Value.category]
    exact kt
  show D (T18.setTop (mkF m 31 #[.val (.ref self), .val (.ref p1), .val (.int (4 : Int32)), .val (.int (3 : Int32)), .unset] [(.int ((Int32.ofNat k3) + (1 : Int32))), (.ref b3), (.int ((Int32.ofNat k3) + (1 : Int32))), (.ref b3)]))
  refine Adv.ldI A X18 hx hZ e18 Vc16 (k := (k3 + 1)) (own_of1 (by omega)) (by omega) (g := (mkF m 31 #[.val (.ref self), .val (.ref p1), .val (.int (4 : Int32)), .val (.int (3 : Int32)), .unset] [(.int ((Int32.ofNat k3) + (1 : Int32))), (.ref b3), (.int ((Int32.ofNat k3) + (1 : Int32))), (.ref b3)])) rfl rfl (hb hby d1_31) ?_
  show D (T18.setTop (mkF m 32 #[.val (.ref self), .val (.ref p1), .val (.int (4 : Int32)), .val (.int (3 : Int32)), .unset] [(.int (Int32.ofNat (own_m3 k0 k1 k2 k3 (k3 + 1)))), (.int ((Int32.ofNat k3) + (1 : Int32))), (.ref b3)]))
  refine A (XS.iconst X18.here hx rfl (hb hby d1_32)) ?_
  show D (T18.setTop (mkF m 33 #[.val (.ref self), .val (.ref p1), .val (.int (4 : Int32)), .val (.int (3 : Int32)), .unset] [(.int (1 : Int32)), (.int (Int32.ofNat (own_m3 k0 k1 k2 k3 (k3 + 1)))), (.int ((Int32.ofNat k3) + (1 : Int32))), (.ref b3)]))
  refine A (XS.iadd X18.here hx rfl (hb hby d1_33) rfl) ?_
  show D (T18.setTop (mkF m 34 #[.val (.ref self), .val (.ref p1), .val (.int (4 : Int32)), .val (.int (3 : Int32)), .unset] [(.int ((Int32.ofNat (own_m3 k0 k1 k2 k3 (k3 + 1))) + (1 : Int32))), (.int ((Int32.ofNat k3) + (1 : Int32))), (.ref b3)]))
  refine Adv.stI A X18 hx hZ e18 Vc16 (k := (k3 + 1)) (own_of1 (by omega)) (by omega) (g := (mkF m 34 #[.val (.ref self), .val (.ref p1), .val (.int (4 : Int32)), .val (.int (3 : Int32)), .unset] [(.int ((Int32.ofNat (own_m3 k0 k1 k2 k3 (k3 + 1))) + (1 : Int32))), (.int ((Int32.ofNat k3) + (1 : Int32))), (.ref b3)])) rfl rfl (hb hby d1_34) ?_
  intro T19 h19 X19 e19 W19 Vb3_19
  have N19 := Fr.snoc X19 N15 g_b3
  have E_self_19 := E_self_15.wr W19
  have F_start_19 := F_start_15.other W19 (Or.inl ne_self_b3)
  have F_rows_19 := F_rows_15.other W19 (Or.inl ne_self_b3)
  have V_p1_19 := V_p1_15.other W19 ne_p1_b3
  have EA_b3_19 := EA_b3_15.wr W19
  have Z_19 : n0 ≤ h19.size := Nat.le_trans Z_15 (Nat.le_of_eq W19.size.symm)
  have KK_19 : Keep h0 h19 [self] := KK_15.wr W19 (Or.inr sz_b3)
  show D (T19.setTop (mkF m 35 #[.val (.ref self), .val (.ref p1), .val (.int (4 : Int32)), .val (.int (3 : Int32)), .unset] []))
  have Vc20 : ArI Z h19 b3 .int 5 (fun i => Int32.ofNat (own_m4 k0 k1 k2 k3 i)) := Vb3_19.eqf (fun i hi => own_l1_3 k0 (by omega) k1 (by omega) k2 (by omega) k3 (by omega) i (by omega))
  refine A (XS.iinc X19.here hx rfl (hb hby d1_35) rfl (l' := #[.val (.ref self), .val (.ref p1), .val (.int (4 : Int32)), .val (.int ((3 : Int32) + (1 : Int32))), .unset]) rfl) ?_
  show D (T19.setTop (mkF m 38 #[.val (.ref self), .val (.ref p1), .val (.int (4 : Int32)), .val (.int ((3 : Int32) + (1 : Int32))), .unset] []))
  suffices Kq21 : ∀ q21 : Int32, q21 = (4 : Int32) → D (T19.setTop (mkF m 38 #[.val (.ref self), .val (.ref p1), .val (.int (4 : Int32)), .val (.int q21), .unset] [])) from Kq21 _ (by decide)
  rintro _ rfl
  show D (T19.setTop (mkF m 38 #[.val (.ref self), .val (.ref p1), .val (.int (4 : Int32)), .val (.int (4 : Int32)), .unset] []))
  refine A (XS.goto X19.here hx rfl (pc0 := 38) (pc' := 15) rfl (hb hby d1_38) (by decide) (by decide)) ?_
  show D (T19.setTop (mkF m 15 #[.val (.ref self), .val (.ref p1), .val (.int (4 : Int32)), .val (.int (4 : Int32)), .unset] []))
  refine A (XS.iloadN X19.here hx rfl (hb hby d1_15) rfl) ?_
  show D (T19.setTop (mkF m 16 #[.val (.ref self), .val (.ref p1), .val (.int (4 : Int32)), .val (.int (4 : Int32)), .unset] [(.int (4 : Int32))]))
  refine A (XS.aloadN X19.here hx rfl (hb hby d1_16) rfl rfl) ?_
  show D (T19.setTop (mkF m 17 #[.val (.ref self), .val (.ref p1), .val (.int (4 : Int32)), .val (.int (4 : Int32)), .unset] [(.ref p1), (.int (4 : Int32))]))
  refine Adv.lenI A X19 hx hZ e19 V_p1_19 (g := (mkF m 17 #[.val (.ref self), .val (.ref p1), .val (.int (4 : Int32)), .val (.int (4 : Int32)), .unset] [(.ref p1), (.int (4 : Int32))])) rfl rfl (hb hby d1_17) ?_
  show D (T19.setTop (mkF m 18 #[.val (.ref self), .val (.ref p1), .val (.int (4 : Int32)), .val (.int (4 : Int32)), .unset] [(.int (4 : Int32)), (.int (4 : Int32))]))
  refine A (XS.icmpYes X19.here hx rfl (pc0 := 18) (pc' := 41) rfl (hb hby d1_18) rfl (flt (by decide : ¬ ((4 : Int32) < (4 : Int32)))).2.1 (by decide) (by decide)) ?_
  show D (T19.setTop (mkF m 41 #[.val (.ref self), .val (.ref p1), .val (.int (4 : Int32)), .val (.int (4 : Int32)), .unset] []))
  have Vc22 : ArI Z h19 b3 .int 5 (fun i => Int32.ofNat (own_p0 k0 k1 k2 k3 i)) := Vc20.eqf (fun i hi => own_l12 k0 (by omega) k1 (by omega) k2 (by omega) k3 (by omega) i (by omega))
  refine A (XS.iconst X19.here hx rfl (hb hby d1_41)) ?_
  show D (T19.setTop (mkF m 42 #[.val (.ref self), .val (.ref p1), .val (.int (4 : Int32)), .val (.int (4 : Int32)), .unset] [(.int (0 : Int32))]))
  refine A (XS.istoreN X19.here hx rfl (hb hby d1_42) rfl (l' := #[.val (.ref self), .val (.ref p1), .val (.int (4 : Int32)), .val (.int (0 : Int32)), .unset]) rfl) ?_
  show D (T19.setTop (mkF m 43 #[.val (.ref self), .val (.ref p1), .val (.int (4 : Int32)), .val (.int (0 : Int32)), .unset] []))
  refine A (XS.iloadN X19.here hx rfl (hb hby d1_43) rfl) ?_
  show D (T19.setTop (mkF m 44 #[.val (.ref self), .val (.ref p1), .val (.int (4 : Int32)), .val (.int (0 : Int32)), .unset] [(.int (0 : Int32))]))
  refine A (XS.iloadN X19.here hx rfl (hb hby d1_44) rfl) ?_
  show D (T19.setTop (mkF m 45 #[.val (.ref self), .val (.ref p1), .val (.int (4 : Int32)), .val (.int (0 : Int32)), .unset] [(.int (4 : Int32)), (.int (0 : Int32))]))
  refine A (XS.icmpNo X19.here hx rfl (hb hby d1_45) rfl (tlt (by decide : (0 : Int32) < (4 : Int32))).2.1) ?_
  show D (T19.setTop (mkF m 48 #[.val (.ref self), .val (.ref p1), .val (.int (4 : Int32)), .val (.int (0 : Int32)), .unset] []))
  refine A (XS.aloadN X19.here hx rfl (hb hby d1_48) rfl rfl) ?_
  show D (T19.setTop (mkF m 49 #[.val (.ref self), .val (.ref p1), .val (.int (4 : Int32)), .val (.int (0 : Int32)), .unset] [(.ref self)]))
  obtain ⟨T23, X23, e23, st23⟩ := getF X19 hx hZ hown (host := "") (Or.inl (hw _ (List.mem_of_getElem? (i := 11) rfl))) Via.refl e19 F_start_19 (g := (mkF m 49 #[.val (.ref self), .val (.ref p1), .val (.int (4 : Int32)), .val (.int (0 : Int32)), .unset] [(.ref self)])) rfl rfl (hb hby d1_49)
  refine A (st23 _) ?_
  show D (T23.setTop (mkF m 52 #[.val (.ref self), .val (.ref p1), .val (.int (4 : Int32)), .val (.int (0 : Int32)), .unset] [(.ref b3)]))
  refine A (XS.iloadN X23.here hx rfl (hb hby d1_52) rfl) ?_
  show D (T23.setTop (mkF m 53 #[.val (.ref self), .val (.ref p1), .val (.int (4 : Int32)), .val (.int (0 : Int32)), .unset] [(.int (0 : Int32)), (.ref b3)]))
  refine A (XS.iconst X23.here hx rfl (hb hby d1_53)) ?_
  show D (T23.setTop (mkF m 54 #[.val (.ref self), .val (.ref p1), .val (.int (4 : Int32)), .val (.int (0 : Int32)), .unset] [(.int (1 : Int32)), (.int (0 : Int32)), (.ref b3)]))
  refine A (XS.iadd X23.here hx rfl (hb hby d1_54) rfl) ?_
  show D (T23.setTop (mkF m 55 #[.val (.ref self), .val (.ref p1), .val (.int (4 : Int32)), .val (.int (0 : Int32)), .unset] [(.int ((0 : Int32) + (1 : Int32))), (.ref b3)]))
  suffices Kq24 : ∀ q24 : Int32, q24 = (1 : Int32) → D (T23.setTop (mkF m 55 #[.val (.ref self), .val (.ref p1), .val (.int (4 : Int32)), .val (.int (0 : Int32)), .unset] [(.int q24), (.ref b3)])) from Kq24 _ (by decide)
  rintro _ rfl
  show D (T23.setTop (mkF m 55 #[.val (.ref self), .val (.ref p1), .val (.int (4 : Int32)), .val (.int (0 : Int32)), .unset] [(.int (1 : Int32)), (.ref b3)]))
  refine A (S' := T23.setTop (mkF m 56 #[.val (.ref self), .val (.ref p1), .val (.int (4 : Int32)), .val (.int (0 : Int32)), .unset] [(.int (1 : Int32)), (.ref b3), (.int (1 : Int32)), (.ref b3)])) (fun {t} kt => ?_) ?_
  · jvm_step X23.here [X23.here.top, hx, (hb hby d1_55), Value.category]
    exact kt
  show D (T23.setTop (mkF m 56 #[.val (.ref self), .val (.ref p1), .val (.int (4 : Int32)), .val (.int (0 : Int32)), .unset] [(.int (1 : Int32)), (.ref b3), (.int (1 : Int32)), (.ref b3)]))
  refine Adv.ldI A X23 hx hZ e23 Vc22 (k := 1) (by decide) (by decide) (g := (mkF m 56 #[.val (.ref self), .val (.ref p1), .val (.int (4 : Int32)), .val (.int (0 : Int32)), .unset] [(.int (1 : Int32)), (.ref b3), (.int (1 : Int32)), (.ref b3)])) rfl rfl (hb hby d1_56) ?_
  show D (T23.setTop (mkF m 57 #[.val (.ref self), .val (.ref p1), .val (.int (4 : Int32)), .val (.int (0 : Int32)), .unset] [(.int (Int32.ofNat (own_p0 k0 k1 k2 k3 1))), (.int (1 : Int32)), (.ref b3)]))
  refine A (XS.aloadN X23.here hx rfl (hb hby d1_57) rfl rfl) ?_
  show D (T23.setTop (mkF m 58 #[.val (.ref self), .val (.ref p1), .val (.int (4 : Int32)), .val (.int (0 : Int32)), .unset] [(.ref self), (.int (Int32.ofNat (own_p0 k0 k1 k2 k3 1))), (.int (1 : Int32)), (.ref b3)]))
  obtain ⟨T25, X25, e25, st25⟩ := getF X23 hx hZ hown (host := "") (Or.inl (hw _ (List.mem_of_getElem? (i := 11) rfl))) Via.refl e23 F_start_19 (g := (mkF m 58 #[.val (.ref self), .val (.ref p1), .val (.int (4 : Int32)), .val (.int (0 : Int32)), .unset] [(.ref self), (.int (Int32.ofNat (own_p0 k0 k1 k2 k3 1))), (.int (1 : Int32)), (.ref b3)])) rfl rfl (hb hby d1_58)
  refine A (st25 _) ?_
  show D (T25.setTop (mkF m 61 #[.val (.ref self), .val (.ref p1), .val (.int (4 : Int32)), .val (.int (0 : Int32)), .unset] [(.ref b3), (.int (Int32.ofNat (own_p0 k0 k1 k2 k3 1))), (.int (1 : Int32)), (.ref b3)]))
  refine A (XS.iloadN X25.here hx rfl (hb hby d1_61) rfl) ?_
  show D (T25.setTop (mkF m 62 #[.val (.ref self), .val (.ref p1), .val (.int (4 : Int32)), .val (.int (0 : Int32)), .unset] [(.int (0 : Int32)), (.ref b3), (.int (Int32.ofNat (own_p0 k0 k1 k2 k3 1))), (.int (1 : Int32)), (.ref b3)]))
  refine Adv.ldI A X25 hx hZ e25 Vc22 (k := 0) (by decide) (by decide) (g := (mkF m 62 #[.val (.ref self), .val (.ref p1), .val (.int (4 : Int32)), .val (.int (0 : Int32)), .unset] [(.int (0 : Int32)), (.ref b3), (.int (Int32.ofNat (own_p0 k0 k1 k2 k3 1))), (.int (1 : Int32)), (.ref b3)])) rfl rfl (hb hby d1_62) ?_
  show D (T25.setTop (mkF m 63 #[.val (.ref self), .val (.ref p1), .val (.int (4 : Int32)), .val (.int (0 : Int32)), .unset] [(.int (Int32.ofNat (own_p0 k0 k1 k2 k3 0))), (.int (Int32.ofNat (own_p0 k0 k1 k2 k3 1))), (.int (1 : Int32)), (.ref b3)]))
  refine A (XS.iadd X25.here hx rfl (hb hby d1_63) rfl) ?_
  show D (T25.setTop (mkF m 64 #[.val (.ref self), .val (.ref p1), .val (.int (4 : Int32)), .val (.int (0 : Int32)), .unset] [(.int ((Int32.ofNat (own_p0 k0 k1 k2 k3 1)) + (Int32.ofNat (own_p0 k0 k1 k2 k3 0)))), (.int (1 : Int32)), (.ref b3)]))
  refine Adv.stI A X25 hx hZ e25 Vc22 (k := 1) (by decide) (by decide) (g := (mkF m 64 #[.val (.ref self), .val (.ref p1), .val (.int (4 : Int32)), .val (.int (0 : Int32)), .unset] [(.int ((Int32.ofNat (own_p0 k0 k1 k2 k3 1)) + (Int32.ofNat (own_p0 k0 k1 k2 k3 0)))), (.int (1 : Int32)), (.ref b3)])) rfl rfl (hb hby d1_64) ?_
  intro T26 h26 X26 e26 W26 Vb3_26
  have N26 := Fr.snoc X26 N19 g_b3
  have E_self_26 := E_self_19.wr W26
  have F_start_26 := F_start_19.other W26 (Or.inl ne_self_b3)
  have F_rows_26 := F_rows_19.other W26 (Or.inl ne_self_b3)
  have V_p1_26 := V_p1_19.other W26 ne_p1_b3
  have EA_b3_26 := EA_b3_19.wr W26
  have Z_26 : n0 ≤ h26.size := Nat.le_trans Z_19 (Nat.le_of_eq W26.size.symm)
  have KK_26 : Keep h0 h26 [self] := KK_19.wr W26 (Or.inr sz_b3)
  show D (T26.setTop (mkF m 65 #[.val (.ref self), .val (.ref p1), .val (.int (4 : Int32)), .val (.int (0 : Int32)), .unset] []))
  have Vc27 : ArI Z h26 b3 .int 5 (fun i => Int32.ofNat (own_p1 k0 k1 k2 k3 i)) := Vb3_26.eqf (fun i hi => own_l2_0 k0 (by omega) k1 (by omega) k2 (by omega) k3 (by omega) i (by omega))
  refine A (XS.iinc X26.here hx rfl (hb hby d1_65) rfl (l' := #[.val (.ref self), .val (.ref p1), .val (.int (4 : Int32)), .val (.int ((0 : Int32) + (1 : Int32))), .unset]) rfl) ?_
  show D (T26.setTop (mkF m 68 #[.val (.ref self), .val (.ref p1), .val (.int (4 : Int32)), .val (.int ((0 : Int32) + (1 : Int32))), .unset] []))
  suffices Kq28 : ∀ q28 : Int32, q28 = (1 : Int32) → D (T26.setTop (mkF m 68 #[.val (.ref self), .val (.ref p1), .val (.int (4 : Int32)), .val (.int q28), .unset] [])) from Kq28 _ (by decide)
  rintro _ rfl
  show D (T26.setTop (mkF m 68 #[.val (.ref self), .val (.ref p1), .val (.int (4 : Int32)), .val (.int (1 : Int32)), .unset] []))
  refine A (XS.goto X26.here hx rfl (pc0 := 68) (pc' := 43) rfl (hb hby d1_68) (by decide) (by decide)) ?_
  show D (T26.setTop (mkF m 43 #[.val (.ref self), .val (.ref p1), .val (.int (4 : Int32)), .val (.int (1 : Int32)), .unset] []))
  refine A (XS.iloadN X26.here hx rfl (hb hby d1_43) rfl) ?_
  show D (T26.setTop (mkF m 44 #[.val (.ref self), .val (.ref p1), .val (.int (4 : Int32)), .val (.int (1 : Int32)), .unset] [(.int (1 : Int32))]))
  refine A (XS.iloadN X26.here hx rfl (hb hby d1_44) rfl) ?_
  show D (T26.setTop (mkF m 45 #[.val (.ref self), .val (.ref p1), .val (.int (4 : Int32)), .val (.int (1 : Int32)), .unset] [(.int (4 : Int32)), (.int (1 : Int32))]))
  refine A (XS.icmpNo X26.here hx rfl (hb hby d1_45) rfl (tlt (by decide : (1 : Int32) < (4 : Int32))).2.1) ?_
  show D (T26.setTop (mkF m 48 #[.val (.ref self), .val (.ref p1), .val (.int (4 : Int32)), .val (.int (1 : Int32)), .unset] []))
  refine A (XS.aloadN X26.here hx rfl (hb hby d1_48) rfl rfl) ?_
  show D (T26.setTop (mkF m 49 #[.val (.ref self), .val (.ref p1), .val (.int (4 : Int32)), .val (.int (1 : Int32)), .unset] [(.ref self)]))
  obtain ⟨T29, X29, e29, st29⟩ := getF X26 hx hZ hown (host := "") (Or.inl (hw _ (List.mem_of_getElem? (i := 11) rfl))) Via.refl e26 F_start_26 (g := (mkF m 49 #[.val (.ref self), .val (.ref p1), .val (.int (4 : Int32)), .val (.int (1 : Int32)), .unset] [(.ref self)])) rfl rfl (hb hby d1_49)
  refine A (st29 _) ?_
  show D (T29.setTop (mkF m 52 #[.val (.ref self), .val (.ref p1), .val (.int (4 : Int32)), .val (.int (1 : Int32)), .unset] [(.ref b3)]))
  refine A (XS.iloadN X29.here hx rfl (hb hby d1_52) rfl) ?_
  show D (T29.setTop (mkF m 53 #[.val (.ref self), .val (.ref p1), .val (.int (4 : Int32)), .val (.int (1 : Int32)), .unset] [(.int (1 : Int32)), (.ref b3)]))
  refine A (XS.iconst X29.here hx rfl (hb hby d1_53)) ?_
  show D (T29.setTop (mkF m 54 #[.val (.ref self), .val (.ref p1), .val (.int (4 : Int32)), .val (.int (1 : Int32)), .unset] [(.int (1 : Int32)), (.int (1 : Int32)), (.ref b3)]))
  refine A (XS.iadd X29.here hx rfl (hb hby d1_54) rfl) ?_
  show D (T29.setTop (mkF m 55 #[.val (.ref self), .val (.ref p1), .val (.int (4 : Int32)), .val (.int (1 : Int32)), .unset] [(.int ((1 : Int32) + (1 : Int32))), (.ref b3)]))
  suffices Kq30 : ∀ q30 : Int32, q30 = (2 : Int32) → D (T29.setTop (mkF m 55 #[.val (.ref self), .val (.ref p1), .val (.int (4 : Int32)), .val (.int (1 : Int32)), .unset] [(.int q30), (.ref b3)])) from Kq30 _ (by decide)
  rintro _ rfl
  show D (T29.setTop (mkF m 55 #[.val (.ref self), .val (.ref p1), .val (.int (4 : Int32)), .val (.int (1 : Int32)), .unset] [(.int (2 : Int32)), (.ref b3)]))
  refine A (S' := T29.setTop (mkF m 56 #[.val (.ref self), .val (.ref p1), .val (.int (4 : Int32)), .val (.int (1 : Int32)), .unset] [(.int (2 : Int32)), (.ref b3), (.int (2 : Int32)), (.ref b3)])) (fun {t} kt => ?_) ?_
  · jvm_step X29.here [X29.here.top, hx, (hb hby d1_55), Value.category]
    exact kt
  show D (T29.setTop (mkF m 56 #[.val (.ref self), .val (.ref p1), .val (.int (4 : Int32)), .val (.int (1 : Int32)), .unset] [(.int (2 : Int32)), (.ref b3), (.int (2 : Int32)), (.ref b3)]))
  refine Adv.ldI A X29 hx hZ e29 Vc27 (k := 2) (by decide) (by decide) (g := (mkF m 56 #[.val (.ref self), .val (.ref p1), .val (.int (4 : Int32)), .val (.int (1 : Int32)), .unset] [(.int (2 : Int32)), (.ref b3), (.int (2 : Int32)), (.ref b3)])) rfl rfl (hb hby d1_56) ?_
  show D (T29.setTop (mkF m 57 #[.val (.ref self), .val (.ref p1), .val (.int (4 : Int32)), .val (.int (1 : Int32)), .unset] [(.int (Int32.ofNat (own_p1 k0 k1 k2 k3 2))), (.int (2 : Int32)), (.ref b3)]))
  refine A (XS.aloadN X29.here hx rfl (hb hby d1_57) rfl rfl) ?_
  show D (T29.setTop (mkF m 58 #[.val (.ref self), .val (.ref p1), .val (.int (4 : Int32)), .val (.int (1 : Int32)), .unset] [(.ref self), (.int (Int32.ofNat (own_p1 k0 k1 k2 k3 2))), (.int (2 : Int32)), (.ref b3)]))
  obtain ⟨T31, X31, e31, st31⟩ := getF X29 hx hZ hown (host := "") (Or.inl (hw _ (List.mem_of_getElem? (i := 11) rfl))) Via.refl e29 F_start_26 (g := (mkF m 58 #[.val (.ref self), .val (.ref p1), .val (.int (4 : Int32)), .val (.int (1 : Int32)), .unset] [(.ref self), (.int (Int32.ofNat (own_p1 k0 k1 k2 k3 2))), (.int (2 : Int32)), (.ref b3)])) rfl rfl (hb hby d1_58)
  refine A (st31 _) ?_
  show D (T31.setTop (mkF m 61 #[.val (.ref self), .val (.ref p1), .val (.int (4 : Int32)), .val (.int (1 : Int32)), .unset] [(.ref b3), (.int (Int32.ofNat (own_p1 k0 k1 k2 k3 2))), (.int (2 : Int32)), (.ref b3)]))
  refine A (XS.iloadN X31.here hx rfl (hb hby d1_61) rfl) ?_
  show D (T31.setTop (mkF m 62 #[.val (.ref self), .val (.ref p1), .val (.int (4 : Int32)), .val (.int (1 : Int32)), .unset] [(.int (1 : Int32)), (.ref b3), (.int (Int32.ofNat (own_p1 k0 k1 k2 k3 2))), (.int (2 : Int32)), (.ref b3)]))
  refine Adv.ldI A X31 hx hZ e31 Vc27 (k := 1) (by decide) (by decide) (g := (mkF m 62 #[.val (.ref self), .val (.ref p1), .val (.int (4 : Int32)), .val (.int (1 : Int32)), .unset] [(.int (1 : Int32)), (.ref b3), (.int (Int32.ofNat (own_p1 k0 k1 k2 k3 2))), (.int (2 : Int32)), (.ref b3)])) rfl rfl (hb hby d1_62) ?_
  show D (T31.setTop (mkF m 63 #[.val (.ref self), .val (.ref p1), .val (.int (4 : Int32)), .val (.int (1 : Int32)), .unset] [(.int (Int32.ofNat (own_p1 k0 k1 k2 k3 1))), (.int (Int32.ofNat (own_p1 k0 k1 k2 k3 2))), (.int (2 : Int32)), (.ref b3)]))
  refine A (XS.iadd X31.here hx rfl (hb hby d1_63) rfl) ?_
  show D (T31.setTop (mkF m 64 #[.val (.ref self), .val (.ref p1), .val (.int (4 : Int32)), .val (.int (1 : Int32)), .unset] [(.int ((Int32.ofNat (own_p1 k0 k1 k2 k3 2)) + (Int32.ofNat (own_p1 k0 k1 k2 k3 1)))), (.int (2 : Int32)), (.ref b3)]))
  refine Adv.stI A X31 hx hZ e31 Vc27 (k := 2) (by decide) (by decide) (g := (mkF m 64 #[.val (.ref self), .val (.ref p1), .val (.int (4 : Int32)), .val (.int (1 : Int32)), .unset] [(.int ((Int32.ofNat (own_p1 k0 k1 k2 k3 2)) + (Int32.ofNat (own_p1 k0 k1 k2 k3 1)))), (.int (2 : Int32)), (.ref b3)])) rfl rfl (hb hby d1_64) ?_
  intro T32 h32 X32 e32 W32 Vb3_32
  have N32 := Fr.snoc X32 N26 g_b3
  have E_self_32 := E_self_26.wr W32
  have F_start_32 := F_start_26.other W32 (Or.inl ne_self_b3)
  have F_rows_32 := F_rows_26.other W32 (Or.inl ne_self_b3)
  have V_p1_32 := V_p1_26.other W32 ne_p1_b3
  have EA_b3_32 := EA_b3_26.wr W32
  have Z_32 : n0 ≤ h32.size := Nat.le_trans Z_26 (Nat.le_of_eq W32.size.symm)
  have KK_32 : Keep h0 h32 [self] := KK_26.wr W32 (Or.inr sz_b3)
  show D (T32.setTop (mkF m 65 #[.val (.ref self), .val (.ref p1), .val (.int (4 : Int32)), .val (.int (1 : Int32)), .unset] []))
  have Vc33 : ArI Z h32 b3 .int 5 (fun i => Int32.ofNat (own_p2 k0 k1 k2 k3 i)) := Vb3_32.eqf (fun i hi => own_l2_1 k0 (by omega) k1 (by omega) k2 (by omega) k3 (by omega) i (by omega))
  refine A (XS.iinc X32.here hx rfl (hb hby d1_65) rfl (l' := #[.val (.ref self), .val (.ref p1), .val (.int (4 : Int32)), .val (.int ((1 : Int32) + (1 : Int32))), .unset]) rfl) ?_
  show D (T32.setTop (mkF m 68 #[.val (.ref self), .val (.ref p1), .val (.int (4 : Int32)), .val (.int ((1 : Int32) + (1 : Int32))), .unset] []))
  suffices Kq34 : ∀ q34 : Int32, q34 = (2 : Int32) → D (T32.setTop (mkF m 68 #[.val (.ref self), .val (.ref p1), .val (.int (4 : Int32)), .val (.int q34), .unset] [])) from Kq34 _ (by decide)
  rintro _ rfl
  show D (T32.setTop (mkF m 68 #[.val (.ref self), .val (.ref p1), .val (.int (4 : Int32)), .val (.int (2 : Int32)), .unset] []))
  refine A (XS.goto X32.here hx rfl (pc0 := 68) (pc' := 43) rfl (hb hby d1_68) (by decide) (by decide)) ?_
  show D (T32.setTop (mkF m 43 #[.val (.ref self), .val (.ref p1), .val (.int (4 : Int32)), .val (.int (2 : Int32)), .unset] []))
  refine A (XS.iloadN X32.here hx rfl (hb hby d1_43) rfl) ?_
  show D (T32.setTop (mkF m 44 #[.val (.ref self), .val (.ref p1), .val (.int (4 : Int32)), .val (.int (2 : Int32)), .unset] [(.int (2 : Int32))]))
  refine A (XS.iloadN X32.here hx rfl (hb hby d1_44) rfl) ?_
  show D (T32.setTop (mkF m 45 #[.val (.ref self), .val (.ref p1), .val (.int (4 : Int32)), .val (.int (2 : Int32)), .unset] [(.int (4 : Int32)), (.int (2 : Int32))]))
  refine A (XS.icmpNo X32.here hx rfl (hb hby d1_45) rfl (tlt (by decide : (2 : Int32) < (4 : Int32))).2.1) ?_
  show D (T32.setTop (mkF m 48 #[.val (.ref self), .val (.ref p1), .val (.int (4 : Int32)), .val (.int (2 : Int32)), .unset] []))
  refine A (XS.aloadN X32.here hx rfl (hb hby d1_48) rfl rfl) ?_
  show D (T32.setTop (mkF m 49 #[.val (.ref self), .val (.ref p1), .val (.int (4 : Int32)), .val (.int (2 : Int32)), .unset] [(.ref self)]))
  obtain ⟨T35, X35, e35, st35⟩ := getF X32 hx hZ hown (host := "") (Or.inl (hw _ (List.mem_of_getElem? (i := 11) rfl))) Via.refl e32 F_start_32 (g := (mkF m 49 #[.val (.ref self), .val (.ref p1), .val (.int (4 : Int32)), .val (.int (2 : Int32)), .unset] [(.ref self)])) rfl rfl (hb hby d1_49)
  refine A (st35 _) ?_
  show D (T35.setTop (mkF m 52 #[.val (.ref self), .val (.ref p1), .val (.int (4 : Int32)), .val (.int (2 : Int32)), .unset] [(.ref b3)]))
  refine A (XS.iloadN X35.here hx rfl (hb hby d1_52) rfl) ?_
  show D (T35.setTop (mkF m 53 #[.val (.ref self), .val (.ref p1), .val (.int (4 : Int32)), .val (.int (2 : Int32)), .unset] [(.int (2 : Int32)), (.ref b3)]))
  refine A (XS.iconst X35.here hx rfl (hb hby d1_53)) ?_
  show D (T35.setTop (mkF m 54 #[.val (.ref self), .val (.ref p1), .val (.int (4 : Int32)), .val (.int (2 : Int32)), .unset] [(.int (1 : Int32)), (.int (2 : Int32)), (.ref b3)]))
  refine A (XS.iadd X35.here hx rfl (hb hby d1_54) rfl) ?_
  show D (T35.setTop (mkF m 55 #[.val (.ref self), .val (.ref p1), .val (.int (4 : Int32)), .val (.int (2 : Int32)), .unset] [(.int ((2 : Int32) + (1 : Int32))), (.ref b3)]))
  suffices Kq36 : ∀ q36 : Int32, q36 = (3 : Int32) → D (T35.setTop (mkF m 55 #[.val (.ref self), .val (.ref p1), .val (.int (4 : Int32)), .val (.int (2 : Int32)), .unset] [(.int q36), (.ref b3)])) from Kq36 _ (by decide)
  rintro _ rfl
  show D (T35.setTop (mkF m 55 #[.val (.ref self), .val (.ref p1), .val (.int (4 : Int32)), .val (.int (2 : Int32)), .unset] [(.int (3 : Int32)), (.ref b3)]))
  refine A (S' := T35.setTop (mkF m 56 #[.val (.ref self), .val (.ref p1), .val (.int (4 : Int32)), .val (.int (2 : Int32)), .unset] [(.int (3 : Int32)), (.ref b3), (.int (3 : Int32)), (.ref b3)])) (fun {t} kt => ?_) ?_
  · jvm_step X35.here [X35.here.top, hx, (hb hby d1_55), Value.category]
    exact kt
  show D (T35.setTop (mkF m 56 #[.val (.ref self), .val (.ref p1), .val (.int (4 : Int32)), .val (.int (2 : Int32)), .unset] [(.int (3 : Int32)), (.ref b3), (.int (3 : Int32)), (.ref b3)]))
  refine Adv.ldI A X35 hx hZ e35 Vc33 (k := 3) (by decide) (by decide) (g := (mkF m 56 #[.val (.ref self), .val (.ref p1), .val (.int (4 : Int32)), .val (.int (2 : Int32)), .unset] [(.int (3 : Int32)), (.ref b3), (.int (3 : Int32)), (.ref b3)])) rfl rfl (hb hby d1_56) ?_
  show D (T35.setTop (mkF m 57 #[.val (.ref self), .val (.ref p1), .val (.int (4 : Int32)), .val (.int (2 : Int32)), .unset] [(.int (Int32.ofNat (own_p2 k0 k1 k2 k3 3))), (.int (3 : Int32)), (.ref b3)]))
  refine A (XS.aloadN X35.here hx rfl (hb hby d1_57) rfl rfl) ?_
  show D (T35.setTop (mkF m 58 #[.val (.ref self), .val (.ref p1), .val (.int (4 : Int32)), .val (.int (2 : Int32)), .unset] [(.ref self), (.int (Int32.ofNat (own_p2 k0 k1 k2 k3 3))), (.int (3 : Int32)), (.ref b3)]))
  obtain ⟨T37, X37, e37, st37⟩ := getF X35 hx hZ hown (host := "") (Or.inl (hw _ (List.mem_of_getElem? (i := 11) rfl))) Via.refl e35 F_start_32 (g := (mkF m 58 #[.val (.ref self), .val (.ref p1), .val (.int (4 : Int32)), .val (.int (2 : Int32)), .unset] [(.ref self), (.int (Int32.ofNat (own_p2 k0 k1 k2 k3 3))), (.int (3 : Int32)), (.ref b3)])) rfl rfl (hb hby d1_58)
  refine A (st37 _) ?_
  show D (T37.setTop (mkF m 61 #[.val (.ref self), .val (.ref p1), .val (.int (4 : Int32)), .val (.int (2 : Int32)), .unset] [(.ref b3), (.int (Int32.ofNat (own_p2 k0 k1 k2 k3 3))), (.int (3 : Int32)), (.ref b3)]))
  refine A (XS.iloadN X37.here hx rfl (hb hby d1_61) rfl) ?_
  show D (T37.setTop (mkF m 62 #[.val (.ref self), .val (.ref p1), .val (.int (4 : Int32)), .val (.int (2 : Int32)), .unset] [(.int (2 : Int32)), (.ref b3), (.int (Int32.ofNat (own_p2 k0 k1 k2 k3 3))), (.int (3 : Int32)), (.ref b3)]))
  refine Adv.ldI A X37 hx hZ e37 Vc33 (k := 2) (by decide) (by decide) (g := (mkF m 62 #[.val (.ref self), .val (.ref p1), .val (.int (4 : Int32)), .val (.int (2 : Int32)), .unset] [(.int (2 : Int32)), (.ref b3), (.int (Int32.ofNat (own_p2 k0 k1 k2 k3 3))), (.int (3 : Int32)), (.ref b3)])) rfl rfl (hb hby d1_62) ?_
  show D (T37.setTop (mkF m 63 #[.val (.ref self), .val (.ref p1), .val (.int (4 : Int32)), .val (.int (2 : Int32)), .unset] [(.int (Int32.ofNat (own_p2 k0 k1 k2 k3 2))), (.int (Int32.ofNat (own_p2 k0 k1 k2 k3 3))), (.int (3 : Int32)), (.ref b3)]))
  refine A (XS.iadd X37.here hx rfl (hb hby d1_63) rfl) ?_
  show D (T37.setTop (mkF m 64 #[.val (.ref self), .val (.ref p1), .val (.int (4 : Int32)), .val (.int (2 : Int32)), .unset] [(.int ((Int32.ofNat (own_p2 k0 k1 k2 k3 3)) + (Int32.ofNat (own_p2 k0 k1 k2 k3 2)))), (.int (3 : Int32)), (.ref b3)]))
  refine Adv.stI A X37 hx hZ e37 Vc33 (k := 3) (by decide) (by decide) (g := (mkF m 64 #[.val (.ref self), .val (.ref p1), .val (.int (4 : Int32)), .val (.int (2 : Int32)), .unset] [(.int ((Int32.ofNat (own_p2 k0 k1 k2 k3 3)) + (Int32.ofNat (own_p2 k0 k1 k2 k3 2)))), (.int (3 : Int32)), (.ref b3)])) rfl rfl (hb hby d1_64) ?_
  intro T38 h38 X38 e38 W38 Vb3_38
  have N38 := Fr.snoc X38 N32 g_b3
  have E_self_38 := E_self_32.wr W38
  have F_start_38 := F_start_32.other W38 (Or.inl ne_self_b3)
  have F_rows_38 := F_rows_32.other W38 (Or.inl ne_self_b3)
  have V_p1_38 := V_p1_32.other W38 ne_p1_b3
  have EA_b3_38 := EA_b3_32.wr W38
  have Z_38 : n0 ≤ h38.size := Nat.le_trans Z_32 (Nat.le_of_eq W38.size.symm)
  have KK_38 : Keep h0 h38 [self] := KK_32.wr W38 (Or.inr sz_b3)
  show D (T38.setTop (mkF m 65 #[.val (.ref self), .val (.ref p1), .val (.int (4 : Int32)), .val (.int (2 : Int32)), .unset] []))
  have Vc39 : ArI Z h38 b3 .int 5 (fun i => Int32.ofNat (own_p3 k0 k1 k2 k3 i)) := Vb3_38.eqf (fun i hi => own_l2_2 k0 (by omega) k1 (by omega) k2 (by omega) k3 (by omega) i (by omega))
  refine A (XS.iinc X38.here hx rfl (hb hby d1_65) rfl (l' := #[.val (.ref self), .val (.ref p1), .val (.int (4 : Int32)), .val (.int ((2 : Int32) + (1 : Int32))), .unset]) rfl) ?_
  show D (T38.setTop (mkF m 68 #[.val (.ref self), .val (.ref p1), .val (.int (4 : Int32)), .val (.int ((2 : Int32) + (1 : Int32))), .unset] []))
  suffices Kq40 : ∀ q40 : Int32, q40 = (3 : Int32) → D (T38.setTop (mkF m 68 #[.val (.ref self), .val (.ref p1), .val (.int (4 : Int32)), .val (.int q40), .unset] [])) from Kq40 _ (by decide)
  rintro _ rfl
  show D (T38.setTop (mkF m 68 #[.val (.ref self), .val (.ref p1), .val (.int (4 : Int32)), .val (.int (3 : Int32)), .unset] []))
  refine A (XS.goto X38.here hx rfl (pc0 := 68) (pc' := 43) rfl (hb hby d1_68) (by decide) (by decide)) ?_
  show D (T38.setTop (mkF m 43 #[.val (.ref self), .val (.ref p1), .val (.int (4 : Int32)), .val (.int (3 : Int32)), .unset] []))
  refine A (XS.iloadN X38.here hx rfl (hb hby d1_43) rfl) ?_
  show D (T38.setTop (mkF m 44 #[.val (.ref self), .val (.ref p1), .val (.int (4 : Int32)), .val (.int (3 : Int32)), .unset] [(.int (3 : Int32))]))
  refine A (XS.iloadN X38.here hx rfl (hb hby d1_44) rfl) ?_
  show D (T38.setTop (mkF m 45 #[.val (.ref self), .val (.ref p1), .val (.int (4 : Int32)), .val (.int (3 : Int32)), .unset] [(.int (4 : Int32)), (.int (3 : Int32))]))
  refine A (XS.icmpNo X38.here hx rfl (hb hby d1_45) rfl (tlt (by decide : (3 : Int32) < (4 : Int32))).2.1) ?_
  show D (T38.setTop (mkF m 48 #[.val (.ref self), .val (.ref p1), .val (.int (4 : Int32)), .val (.int (3 : Int32)), .unset] []))
  refine A (XS.aloadN X38.here hx rfl (hb hby d1_48) rfl rfl) ?_
  show D (T38.setTop (mkF m 49 #[.val (.ref self), .val (.ref p1), .val (.int (4 : Int32)), .val (.int (3 : Int32)), .unset] [(.ref self)]))
  obtain ⟨T41, X41, e41, st41⟩ := getF X38 hx hZ hown (host := "") (Or.inl (hw _ (List.mem_of_getElem? (i := 11) rfl))) Via.refl e38 F_start_38 (g := (mkF m 49 #[.val (.ref self), .val (.ref p1), .val (.int (4 : Int32)), .val (.int (3 : Int32)), .unset] [(.ref self)])) rfl rfl (hb hby d1_49)
  refine A (st41 _) ?_
  show D (T41.setTop (mkF m 52 #[.val (.ref self), .val (.ref p1), .val (.int (4 : Int32)), .val (.int (3 : Int32)), .unset] [(.ref b3)]))
  refine A (XS.iloadN X41.here hx rfl (hb hby d1_52) rfl) ?_
  show D (T41.setTop (mkF m 53 #[.val (.ref self), .val (.ref p1), .val (.int (4 : Int32)), .val (.int (3 : Int32)), .unset] [(.int (3 : Int32)), (.ref b3)]))
  refine A (XS.iconst X41.here hx rfl (hb hby d1_53)) ?_
  show D (T41.setTop (mkF m 54 #[.val (.ref self), .val (.ref p1), .val (.int (4 : Int32)), .val (.int (3 : Int32)), .unset] [(.int (1 : Int32)), (.int (3 : Int32)), (.ref b3)]))
  refine A (XS.iadd X41.here hx rfl (hb hby d1_54) rfl) ?_
  show D (T41.setTop (mkF m 55 #[.val (.ref self), .val (.ref p1), .val (.int (4 : Int32)), .val (.int (3 : Int32)), .unset] [(.int ((3 : Int32) + (1 : Int32))), (.ref b3)]))
  suffices Kq42 : ∀ q42 : Int32, q42 = (4 : Int32) → D (T41.setTop (mkF m 55 #[.val (.ref self), .val (.ref p1), .val (.int (4 : Int32)), .val (.int (3 : Int32)), .unset] [(.int q42), (.ref b3)])) from Kq42 _ (by decide)
  rintro _ rfl
  show D (T41.setTop (mkF m 55 #[.val (.ref self), .val (.ref p1), .val (.int (4 : Int32)), .val (.int (3 : Int32)), .unset] [(.int (4 : Int32)), (.ref b3)]))
  refine A (S' := T41.setTop (mkF m 56 #[.val (.ref self), .val (.ref p1), .val (.int (4 : Int32)), .val (.int (3 : Int32)), .unset] [(.int (4 : Int32)), (.ref b3), (.int (4 : Int32)), (.ref b3)])) (fun {t} kt => ?_) ?_
  · jvm_step X41.here [X41.here.top, hx, (hb hby d1_55), Value.category]
    exact kt
  show D (T41.setTop (mkF m 56 #[.val (.ref self), .val (.ref p1), .val (.int (4 : Int32)), .val (.int (3 : Int32)), .unset] [(.int (4 : Int32)), (.ref b3), (.int (4 : Int32)), (.ref b3)]))
  refine Adv.ldI A X41 hx hZ e41 Vc39 (k := 4) (by decide) (by decide) (g := (mkF m 56 #[.val (.ref self), .val (.ref p1), .val (.int (4 : Int32)), .val (.int (3 : Int32)), .unset] [(.int (4 : Int32)), (.ref b3), (.int (4 : Int32)), (.ref b3)])) rfl rfl (hb hby d1_56) ?_
  show D (T41.setTop (mkF m 57 #[.val (.ref self), .val (.ref p1), .val (.int (4 : Int32)), .val (.int (3 : Int32)), .unset] [(.int (Int32.ofNat (own_p3 k0 k1 k2 k3 4))), (.int (4 : Int32)), (.ref b3)]))
  refine A (XS.aloadN X41.here hx rfl (hb hby d1_57) rfl rfl) ?_
  show D (T41.setTop (mkF m 58 #[.val (.ref self), .val (.ref p1), .val (.int (4 : Int32)), .val (.int (3 : Int32)), .unset] [(.ref self), (.int (Int32.ofNat (own_p3 k0 k1 k2 k3 4))), (.int (4 : Int32)), (.ref b3)]))
  obtain ⟨T43, X43, e43, st43⟩ := getF X41 hx hZ hown (host := "") (Or.inl (hw _ (List.mem_of_getElem? (i := 11) rfl))) Via.refl e41 F_start_38 (g := (mkF m 58 #[.val (.ref self), .val (.ref p1), .val (.int (4 : Int32)), .val (.int (3 : Int32)), .unset] [(.ref self), (.int (Int32.ofNat (own_p3 k0 k1 k2 k3 4))), (.int (4 : Int32)), (.ref b3)])) rfl rfl (hb hby d1_58)
  refine A (st43 _) ?_
  show D (T43.setTop (mkF m 61 #[.val (.ref self), .val (.ref p1), .val (.int (4 : Int32)), .val (.int (3 : Int32)), .unset] [(.ref b3), (.int (Int32.ofNat (own_p3 k0 k1 k2 k3 4))), (.int (4 : Int32)), (.ref b3)]))
  refine A (XS.iloadN X43.here hx rfl (hb hby d1_61) rfl) ?_
  show D (T43.setTop (mkF m 62 #[.val (.ref self), .val (.ref p1), .val (.int (4 : Int32)), .val (.int (3 : Int32)), .unset] [(.int (3 : Int32)), (.ref b3), (.int (Int32.ofNat (own_p3 k0 k1 k2 k3 4))), (.int (4 : Int32)), (.ref b3)]))
  refine Adv.ldI A X43 hx hZ e43 Vc39 (k := 3) (by decide) (by decide) (g := (mkF m 62 #[.val (.ref self), .val (.ref p1), .val (.int (4 : Int32)), .val (.int (3 : Int32)), .unset] [(.int (3 : Int32)), (.ref b3), (.int (Int32.ofNat (own_p3 k0 k1 k2 k3 4))), (.int (4 : Int32)), (.ref b3)])) rfl rfl (hb hby d1_62) ?_
  show D (T43.setTop (mkF m 63 #[.val (.ref self), .val (.ref p1), .val (.int (4 : Int32)), .val (.int (3 : Int32)), .unset] [(.int (Int32.ofNat (own_p3 k0 k1 k2 k3 3))), (.int (Int32.ofNat (own_p3 k0 k1 k2 k3 4))), (.int (4 : Int32)), (.ref b3)]))
  refine A (XS.iadd X43.here hx rfl (hb hby d1_63) rfl) ?_
  show D (T43.setTop (mkF m 64 #[.val (.ref self), .val (.ref p1), .val (.int (4 : Int32)), .val (.int (3 : Int32)), .unset] [(.int ((Int32.ofNat (own_p3 k0 k1 k2 k3 4)) + (Int32.ofNat (own_p3 k0 k1 k2 k3 3)))), (.int (4 : Int32)), (.ref b3)]))
  refine Adv.stI A X43 hx hZ e43 Vc39 (k := 4) (by decide) (by decide) (g := (mkF m 64 #[.val (.ref self), .val (.ref p1), .val (.int (4 : Int32)), .val (.int (3 : Int32)), .unset] [(.int ((Int32.ofNat (own_p3 k0 k1 k2 k3 4)) + (Int32.ofNat (own_p3 k0 k1 k2 k3 3)))), (.int (4 : Int32)), (.ref b3)])) rfl rfl (hb hby d1_64) ?_
  intro T44 h44 X44 e44 W44 Vb3_44
  have N44 := Fr.snoc X44 N38 g_b3
  have E_self_44 := E_self_38.wr W44
  have F_start_44 := F_start_38.other W44 (Or.inl ne_self_b3)
  have F_rows_44 := F_rows_38.other W44 (Or.inl ne_self_b3)
  have V_p1_44 := V_p1_38.other W44 ne_p1_b3
  have EA_b3_44 := EA_b3_38.wr W44
  have Z_44 : n0 ≤ h44.size := Nat.le_trans Z_38 (Nat.le_of_eq W44.size.symm)
  have KK_44 : Keep h0 h44 [self] := KK_38.wr W44 (Or.inr sz_b3)
  show D (T44.setTop (mkF m 65 #[.val (.ref self), .val (.ref p1), .val (.int (4 : Int32)), .val (.int (3 : Int32)), .unset] []))
  have Vc45 : ArI Z h44 b3 .int 5 (fun i => Int32.ofNat (own_p4 k0 k1 k2 k3 i)) := Vb3_44.eqf (fun i hi => own_l2_3 k0 (by omega) k1 (by omega) k2 (by omega) k3 (by omega) i (by omega))
  refine A (XS.iinc X44.here hx rfl (hb hby d1_65) rfl (l' := #[.val (.ref self), .val (.ref p1), .val (.int (4 : Int32)), .val (.int ((3 : Int32) + (1 : Int32))), .unset]) rfl) ?_
  show D (T44.setTop (mkF m 68 #[.val (.ref self), .val (.ref p1), .val (.int (4 : Int32)), .val (.int ((3 : Int32) + (1 : Int32))), .unset] []))
  suffices Kq46 : ∀ q46 : Int32, q46 = (4 : Int32) → D (T44.setTop (mkF m 68 #[.val (.ref self), .val (.ref p1), .val (.int (4 : Int32)), .val (.int q46), .unset] [])) from Kq46 _ (by decide)
  rintro _ rfl
  show D (T44.setTop (mkF m 68 #[.val (.ref self), .val (.ref p1), .val (.int (4 : Int32)), .val (.int (4 : Int32)), .unset] []))
  refine A (XS.goto X44.here hx rfl (pc0 := 68) (pc' := 43) rfl (hb hby d1_68) (by decide) (by decide)) ?_
  show D (T44.setTop (mkF m 43 #[.val (.ref self), .val (.ref p1), .val (.int (4 : Int32)), .val (.int (4 : Int32)), .unset] []))
  refine A (XS.iloadN X44.here hx rfl (hb hby d1_43) rfl) ?_
  show D (T44.setTop (mkF m 44 #[.val (.ref self), .val (.ref p1), .val (.int (4 : Int32)), .val (.int (4 : Int32)), .unset] [(.int (4 : Int32))]))
  refine A (XS.iloadN X44.here hx rfl (hb hby d1_44) rfl) ?_
  show D (T44.setTop (mkF m 45 #[.val (.ref self), .val (.ref p1), .val (.int (4 : Int32)), .val (.int (4 : Int32)), .unset] [(.int (4 : Int32)), (.int (4 : Int32))]))
  refine A (XS.icmpYes X44.here hx rfl (pc0 := 45) (pc' := 71) rfl (hb hby d1_45) rfl (flt (by decide : ¬ ((4 : Int32) < (4 : Int32)))).2.1 (by decide) (by decide)) ?_
  show D (T44.setTop (mkF m 71 #[.val (.ref self), .val (.ref p1), .val (.int (4 : Int32)), .val (.int (4 : Int32)), .unset] []))
  have Vc47 : ArI Z h44 b3 .int 5 (fun i => Int32.ofNat (own_c0 k0 k1 k2 k3 i)) := Vc45.eqf (fun i hi => own_l23_4 k0 (by omega) k1 (by omega) k2 (by omega) k3 (by omega) i hi)
  refine A (XS.aloadN X44.here hx rfl (hb hby d1_71) rfl rfl) ?_
  show D (T44.setTop (mkF m 72 #[.val (.ref self), .val (.ref p1), .val (.int (4 : Int32)), .val (.int (4 : Int32)), .unset] [(.ref self)]))
  refine A (XS.aloadN X44.here hx rfl (hb hby d1_72) rfl rfl) ?_
  show D (T44.setTop (mkF m 73 #[.val (.ref self), .val (.ref p1), .val (.int (4 : Int32)), .val (.int (4 : Int32)), .unset] [(.ref p1), (.ref self)]))
  refine Adv.lenI A X44 hx hZ e44 V_p1_44 (g := (mkF m 73 #[.val (.ref self), .val (.ref p1), .val (.int (4 : Int32)), .val (.int (4 : Int32)), .unset] [(.ref p1), (.ref self)])) rfl rfl (hb hby d1_73) ?_
  show D (T44.setTop (mkF m 74 #[.val (.ref self), .val (.ref p1), .val (.int (4 : Int32)), .val (.int (4 : Int32)), .unset] [(.int (4 : Int32)), (.ref self)]))
  refine Adv.newI A X44 hx hZ (aty := .int) (hw _ (List.mem_of_getElem? (i := 1) rfl)) e44 (n := 4) (by decide) 4 (by decide) (by decide) rfl (ad := "[I") (by decide) (by decide) (by decide) (g := (mkF m 74 #[.val (.ref self), .val (.ref p1), .val (.int (4 : Int32)), .val (.int (4 : Int32)), .unset] [(.int (4 : Int32)), (.ref self)])) rfl rfl (hb hby d1_74) ?_
  intro T48 h48 b48 q_b48 X48 e48 E48 V_b48 EA_b48
  have ne_self_b48 : self ≠ b48 := Nat.ne_of_lt (Nat.lt_of_lt_of_le E_self_44.lt (Nat.le_of_eq q_b48.symm))
  have ne_p1_b48 : p1 ≠ b48 := Nat.ne_of_lt (Nat.lt_of_lt_of_le V_p1_44.lt (Nat.le_of_eq q_b48.symm))
  have ne_b3_b48 : b3 ≠ b48 := Nat.ne_of_lt (Nat.lt_of_lt_of_le Vc47.lt (Nat.le_of_eq q_b48.symm))
  have g_b48 : n0 ≤ b48 := Nat.le_trans Z_44 (Nat.le_of_eq q_b48.symm)
  have sz_b48 : h0.size ≤ b48 := Nat.le_trans KK_44.1 (Nat.le_of_eq q_b48.symm)
  have E_self_48 := E_self_44.ext E48
  have F_start_48 := F_start_44.ext E48
  have F_rows_48 := F_rows_44.ext E48
  have V_p1_48 := V_p1_44.ext E48
  have V_b3_48 := Vc47.ext E48
  have EA_b3_48 := EA_b3_44.ext E48
  have Z_48 : n0 ≤ h48.size := Nat.le_trans Z_44 E48.1
  have KK_48 : Keep h0 h48 [self] := KK_44.ext E48
  show D (T48.setTop (mkF m 76 #[.val (.ref self), .val (.ref p1), .val (.int (4 : Int32)), .val (.int (4 : Int32)), .unset] [(.ref b48), (.ref self)]))
  obtain ⟨T49, h49, X49, e49, W49, st49⟩ := putF X48 hx hZ hown (host := "") (Or.inl (hw _ (List.mem_of_getElem? (i := 13) rfl))) Via.refl e48 F_rows_48 E_self_48 (Or.inr ⟨(hw _ (List.mem_of_getElem? (i := 14) rfl)), rfl, hnm⟩) (hw _ (List.mem_of_getElem? (i := 3) rfl)) (ty := (.array .int)) (by decide) rfl rfl (g := (mkF m 76 #[.val (.ref self), .val (.ref p1), .val (.int (4 : Int32)), .val (.int (4 : Int32)), .unset] [(.ref b48), (.ref self)])) rfl rfl (hb hby d1_76)
  have N49 := Fr.snoc X49 N44 g_self
  have F_rows_49 := F_rows_48.same W49
  have E_self_49 := E_self_48.wr W49
  have F_start_49 := F_start_48.other W49 (Or.inr (slot_ne (Or.inr (hw _ (List.mem_of_getElem? (i := 12) rfl))) (Or.inr (hw _ (List.mem_of_getElem? (i := 14) rfl))) (by decide) (t := (.array .int)) (t' := (.array .int)) (by decide) (by decide)))
  have V_p1_49 := V_p1_48.other W49 (Ne.symm (ne_ari E_self_48 (hw _ (List.mem_of_getElem? (i := 3) rfl)) V_p1_48))
  have V_b3_49 := V_b3_48.other W49 (Ne.symm ne_self_b3)
  have EA_b3_49 := EA_b3_48.wr W49
  have V_b48_49 := V_b48.other W49 (Ne.symm ne_self_b48)
  have EA_b48_49 := EA_b48.wr W49
  have Z_49 : n0 ≤ h49.size := Nat.le_trans Z_48 (Nat.le_of_eq W49.size.symm)
  have KK_49 : Keep h0 h49 [self] := KK_48.wr W49 (Or.inl (List.mem_of_getElem? (i := 0) rfl))
  refine A (st49 _) ?_
  show D (T49.setTop (mkF m 79 #[.val (.ref self), .val (.ref p1), .val (.int (4 : Int32)), .val (.int (4 : Int32)), .unset] []))
  refine A (XS.aloadN X49.here hx rfl (hb hby d1_79) rfl rfl) ?_
  show D (T49.setTop (mkF m 80 #[.val (.ref self), .val (.ref p1), .val (.int (4 : Int32)), .val (.int (4 : Int32)), .unset] [(.ref self)]))
  obtain ⟨T50, X50, e50, st50⟩ := getF X49 hx hZ hown (host := "") (Or.inl (hw _ (List.mem_of_getElem? (i := 11) rfl))) Via.refl e49 F_start_49 (g := (mkF m 80 #[.val (.ref self), .val (.ref p1), .val (.int (4 : Int32)), .val (.int (4 : Int32)), .unset] [(.ref self)])) rfl rfl (hb hby d1_80)
  refine A (st50 _) ?_
  show D (T50.setTop (mkF m 83 #[.val (.ref self), .val (.ref p1), .val (.int (4 : Int32)), .val (.int (4 : Int32)), .unset] [(.ref b3)]))
  refine Adv.cloneI A X50 hx hZ hown (hw _ (List.mem_of_getElem? (i := 15) rfl)) (hw _ (List.mem_of_getElem? (i := 16) rfl)) (hw _ (List.mem_of_getElem? (i := 20) rfl)) (hw _ (List.mem_of_getElem? (i := 18) rfl)) (hw _ (List.mem_of_getElem? (i := 19) rfl)) (hw _ (List.mem_of_getElem? (i := 21) rfl)) e50 V_b3_49 (fun _ _ => rfl) EA_b3_49 0 5 (by decide) (g := (mkF m 83 #[.val (.ref self), .val (.ref p1), .val (.int (4 : Int32)), .val (.int (4 : Int32)), .unset] [(.ref b3)])) rfl (by rw [hml]; rfl) rfl (hb hby d1_83) (by show 2 * 0 + _ ≤ _; exact Nat.le_of_eq rfl) (by decide) (by decide) (by decide) (by decide) ?_
  intro T51 h51 b51 q_b51 X51 e51 E51 V_b51 EA_b51
  have ne_self_b51 : self ≠ b51 := Nat.ne_of_lt (Nat.lt_of_lt_of_le E_self_49.lt (Nat.le_of_eq q_b51.symm))
  have ne_p1_b51 : p1 ≠ b51 := Nat.ne_of_lt (Nat.lt_of_lt_of_le V_p1_49.lt (Nat.le_of_eq q_b51.symm))
  have ne_b3_b51 : b3 ≠ b51 := Nat.ne_of_lt (Nat.lt_of_lt_of_le V_b3_49.lt (Nat.le_of_eq q_b51.symm))
  have ne_b48_b51 : b48 ≠ b51 := Nat.ne_of_lt (Nat.lt_of_lt_of_le V_b48_49.lt (Nat.le_of_eq q_b51.symm))
  have g_b51 : n0 ≤ b51 := Nat.le_trans Z_49 (Nat.le_of_eq q_b51.symm)
  have sz_b51 : h0.size ≤ b51 := Nat.le_trans KK_49.1 (Nat.le_of_eq q_b51.symm)
  have E_self_51 := E_self_49.ext E51
  have F_start_51 := F_start_49.ext E51
  have F_rows_51 := F_rows_49.ext E51
  have V_p1_51 := V_p1_49.ext E51
  have V_b3_51 := V_b3_49.ext E51
  have EA_b3_51 := EA_b3_49.ext E51
  have V_b48_51 := V_b48_49.ext E51
  have EA_b48_51 := EA_b48_49.ext E51
  have Z_51 : n0 ≤ h51.size := Nat.le_trans Z_49 E51.1
  have KK_51 : Keep h0 h51 [self] := KK_49.ext E51
  show D (T51.setTop (mkF m 86 #[.val (.ref self), .val (.ref p1), .val (.int (4 : Int32)), .val (.int (4 : Int32)), .unset] [(.ref b51)]))
  obtain ⟨T52, X52, e52, st52⟩ := castY X51 hx hZ hown (hw _ (List.mem_of_getElem? (i := 22) rfl)) e51 (Ins.self EA_b51) (g := (mkF m 86 #[.val (.ref self), .val (.ref p1), .val (.int (4 : Int32)), .val (.int (4 : Int32)), .unset] [(.ref b51)])) rfl rfl (hb hby d1_86)
  refine A (st52 _) ?_
  show D (T52.setTop (mkF m 89 #[.val (.ref self), .val (.ref p1), .val (.int (4 : Int32)), .val (.int (4 : Int32)), .unset] [(.ref b51)]))
  refine A (XS.astoreN X52.here hx rfl (hb hby d1_89) rfl rfl (l' := #[.val (.ref self), .val (.ref p1), .val (.int (4 : Int32)), .val (.ref b51), .unset]) rfl) ?_
  show D (T52.setTop (mkF m 90 #[.val (.ref self), .val (.ref p1), .val (.int (4 : Int32)), .val (.ref b51), .unset] []))
  refine A (XS.iconst X52.here hx rfl (hb hby d1_90)) ?_
  show D (T52.setTop (mkF m 91 #[.val (.ref self), .val (.ref p1), .val (.int (4 : Int32)), .val (.ref b51), .unset] [(.int (0 : Int32))]))
  refine A (XS.istore X52.here hx rfl (hb hby d1_91) rfl (l' := #[.val (.ref self), .val (.ref p1), .val (.int (4 : Int32)), .val (.ref b51), .val (.int (0 : Int32))]) rfl) ?_
  show D (T52.setTop (mkF m 93 #[.val (.ref self), .val (.ref p1), .val (.int (4 : Int32)), .val (.ref b51), .val (.int (0 : Int32))] []))
  refine A (XS.iload X52.here hx rfl (hb hby d1_93) rfl) ?_
  show D (T52.setTop (mkF m 95 #[.val (.ref self), .val (.ref p1), .val (.int (4 : Int32)), .val (.ref b51), .val (.int (0 : Int32))] [(.int (0 : Int32))]))
  refine A (XS.aloadN X52.here hx rfl (hb hby d1_95) rfl rfl) ?_
  show D (T52.setTop (mkF m 96 #[.val (.ref self), .val (.ref p1), .val (.int (4 : Int32)), .val (.ref b51), .val (.int (0 : Int32))] [(.ref p1), (.int (0 : Int32))]))
  refine Adv.lenI A X52 hx hZ e52 V_p1_51 (g := (mkF m 96 #[.val (.ref self), .val (.ref p1), .val (.int (4 : Int32)), .val (.ref b51), .val (.int (0 : Int32))] [(.ref p1), (.int (0 : Int32))])) rfl rfl (hb hby d1_96) ?_
  show D (T52.setTop (mkF m 97 #[.val (.ref self), .val (.ref p1), .val (.int (4 : Int32)), .val (.ref b51), .val (.int (0 : Int32))] [(.int (4 : Int32)), (.int (0 : Int32))]))
  refine A (XS.icmpNo X52.here hx rfl (hb hby d1_97) rfl (tlt (by decide : (0 : Int32) < (4 : Int32))).2.1) ?_
  show D (T52.setTop (mkF m 100 #[.val (.ref self), .val (.ref p1), .val (.int (4 : Int32)), .val (.ref b51), .val (.int (0 : Int32))] []))
  refine A (XS.aloadN X52.here hx rfl (hb hby d1_100) rfl rfl) ?_
  show D (T52.setTop (mkF m 101 #[.val (.ref self), .val (.ref p1), .val (.int (4 : Int32)), .val (.ref b51), .val (.int (0 : Int32))] [(.ref self)]))
  obtain ⟨T53, X53, e53, st53⟩ := getF X52 hx hZ hown (host := "") (Or.inl (hw _ (List.mem_of_getElem? (i := 13) rfl))) Via.refl e52 F_rows_51 (g := (mkF m 101 #[.val (.ref self), .val (.ref p1), .val (.int (4 : Int32)), .val (.ref b51), .val (.int (0 : Int32))] [(.ref self)])) rfl rfl (hb hby d1_101)
  refine A (st53 _) ?_
  show D (T53.setTop (mkF m 104 #[.val (.ref self), .val (.ref p1), .val (.int (4 : Int32)), .val (.ref b51), .val (.int (0 : Int32))] [(.ref b48)]))
  refine A (XS.aloadN X53.here hx rfl (hb hby d1_104) rfl rfl) ?_
  show D (T53.setTop (mkF m 105 #[.val (.ref self), .val (.ref p1), .val (.int (4 : Int32)), .val (.ref b51), .val (.int (0 : Int32))] [(.ref b51), (.ref b48)]))
  refine A (XS.aloadN X53.here hx rfl (hb hby d1_105) rfl rfl) ?_
  show D (T53.setTop (mkF m 106 #[.val (.ref self), .val (.ref p1), .val (.int (4 : Int32)), .val (.ref b51), .val (.int (0 : Int32))] [(.ref p1), (.ref b51), (.ref b48)]))
  refine A (XS.iload X53.here hx rfl (hb hby d1_106) rfl) ?_
  show D (T53.setTop (mkF m 108 #[.val (.ref self), .val (.ref p1), .val (.int (4 : Int32)), .val (.ref b51), .val (.int (0 : Int32))] [(.int (0 : Int32)), (.ref p1), (.ref b51), (.ref b48)]))
  refine Adv.ldI A X53 hx hZ e53 V_p1_51 (k := 0) (by decide) (by decide) (g := (mkF m 108 #[.val (.ref self), .val (.ref p1), .val (.int (4 : Int32)), .val (.ref b51), .val (.int (0 : Int32))] [(.int (0 : Int32)), (.ref p1), (.ref b51), (.ref b48)])) rfl rfl (hb hby d1_108) ?_
  show D (T53.setTop (mkF m 109 #[.val (.ref self), .val (.ref p1), .val (.int (4 : Int32)), .val (.ref b51), .val (.int (0 : Int32))] [(.int (Int32.ofNat k0)), (.ref b51), (.ref b48)]))
  refine Adv.ldI A X53 hx hZ e53 V_b51 (k := k0) (own_of (by omega)) (by omega) (g := (mkF m 109 #[.val (.ref self), .val (.ref p1), .val (.int (4 : Int32)), .val (.ref b51), .val (.int (0 : Int32))] [(.int (Int32.ofNat k0)), (.ref b51), (.ref b48)])) rfl rfl (hb hby d1_109) ?_
  show D (T53.setTop (mkF m 110 #[.val (.ref self), .val (.ref p1), .val (.int (4 : Int32)), .val (.ref b51), .val (.int (0 : Int32))] [(.int (Int32.ofNat (own_c0 k0 k1 k2 k3 k0))), (.ref b48)]))
  refine A (XS.iload X53.here hx rfl (hb hby d1_110) rfl) ?_
  show D (T53.setTop (mkF m 112 #[.val (.ref self), .val (.ref p1), .val (.int (4 : Int32)), .val (.ref b51), .val (.int (0 : Int32))] [(.int (0 : Int32)), (.int (Int32.ofNat (own_c0 k0 k1 k2 k3 k0))), (.ref b48)]))
  refine Adv.stI A X53 hx hZ e53 V_b48_51 (k := (own_c0 k0 k1 k2 k3 k0)) (own_of (own_b3_0 k0 (by omega) k1 (by omega) k2 (by omega) k3 (by omega))) (own_b3_0 k0 (by omega) k1 (by omega) k2 (by omega) k3 (by omega)) (g := (mkF m 112 #[.val (.ref self), .val (.ref p1), .val (.int (4 : Int32)), .val (.ref b51), .val (.int (0 : Int32))] [(.int (0 : Int32)), (.int (Int32.ofNat (own_c0 k0 k1 k2 k3 k0))), (.ref b48)])) rfl rfl (hb hby d1_112) ?_
  intro T54 h54 X54 e54 W54 Vb48_54
  have N54 := Fr.snoc X54 N49 g_b48
  have E_self_54 := E_self_51.wr W54
  have F_start_54 := F_start_51.other W54 (Or.inl ne_self_b48)
  have F_rows_54 := F_rows_51.other W54 (Or.inl ne_self_b48)
  have V_p1_54 := V_p1_51.other W54 ne_p1_b48
  have V_b3_54 := V_b3_51.other W54 ne_b3_b48
  have EA_b3_54 := EA_b3_51.wr W54
  have EA_b48_54 := EA_b48_51.wr W54
  have V_b51_54 := V_b51.other W54 (Ne.symm ne_b48_b51)
  have EA_b51_54 := EA_b51.wr W54
  have Z_54 : n0 ≤ h54.size := Nat.le_trans Z_51 (Nat.le_of_eq W54.size.symm)
  have KK_54 : Keep h0 h54 [self] := KK_51.wr W54 (Or.inr sz_b48)
  show D (T54.setTop (mkF m 113 #[.val (.ref self), .val (.ref p1), .val (.int (4 : Int32)), .val (.ref b51), .val (.int (0 : Int32))] []))
  obtain ⟨fn55, hfn55⟩ : ∃ z : Nat → Int32, z = (fun ix => if ix = (own_c0 k0 k1 k2 k3 k0) then (0 : Int32) else (fun _ => 0) ix) := ⟨_, rfl⟩
  rw [← hfn55] at Vb48_54
  refine A (XS.aloadN X54.here hx rfl (hb hby d1_113) rfl rfl) ?_
  show D (T54.setTop (mkF m 114 #[.val (.ref self), .val (.ref p1), .val (.int (4 : Int32)), .val (.ref b51), .val (.int (0 : Int32))] [(.ref b51)]))
  refine A (XS.aloadN X54.here hx rfl (hb hby d1_114) rfl rfl) ?_
  show D (T54.setTop (mkF m 115 #[.val (.ref self), .val (.ref p1), .val (.int (4 : Int32)), .val (.ref b51), .val (.int (0 : Int32))] [(.ref p1), (.ref b51)]))
  refine A (XS.iload X54.here hx rfl (hb hby d1_115) rfl) ?_
  show D (T54.setTop (mkF m 117 #[.val (.ref self), .val (.ref p1), .val (.int (4 : Int32)), .val (.ref b51), .val (.int (0 : Int32))] [(.int (0 : Int32)), (.ref p1), (.ref b51)]))
  refine Adv.ldI A X54 hx hZ e54 V_p1_54 (k := 0) (by decide) (by decide) (g := (mkF m 117 #[.val (.ref self), .val (.ref p1), .val (.int (4 : Int32)), .val (.ref b51), .val (.int (0 : Int32))] [(.int (0 : Int32)), (.ref p1), (.ref b51)])) rfl rfl (hb hby d1_117) ?_
  show D (T54.setTop (mkF m 118 #[.val (.ref self), .val (.ref p1), .val (.int (4 : Int32)), .val (.ref b51), .val (.int (0 : Int32))] [(.int (Int32.ofNat k0)), (.ref b51)]))
  refine A (S' := T54.setTop (mkF m 119 #[.val (.ref self), .val (.ref p1), .val (.int (4 : Int32)), .val (.ref b51), .val (.int (0 : Int32))] [(.int (Int32.ofNat k0)), (.ref b51), (.int (Int32.ofNat k0)), (.ref b51)])) (fun {t} kt => ?_) ?_
  · jvm_step X54.here [X54.here.top, hx, (hb hby d1_118), Value.category]
    exact kt
  show D (T54.setTop (mkF m 119 #[.val (.ref self), .val (.ref p1), .val (.int (4 : Int32)), .val (.ref b51), .val (.int (0 : Int32))] [(.int (Int32.ofNat k0)), (.ref b51), (.int (Int32.ofNat k0)), (.ref b51)]))
  refine Adv.ldI A X54 hx hZ e54 V_b51_54 (k := k0) (own_of (by omega)) (by omega) (g := (mkF m 119 #[.val (.ref self), .val (.ref p1), .val (.int (4 : Int32)), .val (.ref b51), .val (.int (0 : Int32))] [(.int (Int32.ofNat k0)), (.ref b51), (.int (Int32.ofNat k0)), (.ref b51)])) rfl rfl (hb hby d1_119) ?_
  show D (T54.setTop (mkF m 120 #[.val (.ref self), .val (.ref p1), .val (.int (4 : Int32)), .val (.ref b51), .val (.int (0 : Int32))] [(.int (Int32.ofNat (own_c0 k0 k1 k2 k3 k0))), (.int (Int32.ofNat k0)), (.ref b51)]))
  refine A (XS.iconst X54.here hx rfl (hb hby d1_120)) ?_
  show D (T54.setTop (mkF m 121 #[.val (.ref self), .val (.ref p1), .val (.int (4 : Int32)), .val (.ref b51), .val (.int (0 : Int32))] [(.int (1 : Int32)), (.int (Int32.ofNat (own_c0 k0 k1 k2 k3 k0))), (.int (Int32.ofNat k0)), (.ref b51)]))
  refine A (XS.iadd X54.here hx rfl (hb hby d1_121) rfl) ?_
  show D (T54.setTop (mkF m 122 #[.val (.ref self), .val (.ref p1), .val (.int (4 : Int32)), .val (.ref b51), .val (.int (0 : Int32))] [(.int ((Int32.ofNat (own_c0 k0 k1 k2 k3 k0)) + (1 : Int32))), (.int (Int32.ofNat k0)), (.ref b51)]))
  refine Adv.stI A X54 hx hZ e54 V_b51_54 (k := k0) (own_of (by omega)) (by omega) (g := (mkF m 122 #[.val (.ref self), .val (.ref p1), .val (.int (4 : Int32)), .val (.ref b51), .val (.int (0 : Int32))] [(.int ((Int32.ofNat (own_c0 k0 k1 k2 k3 k0)) + (1 : Int32))), (.int (Int32.ofNat k0)), (.ref b51)])) rfl rfl (hb hby d1_122) ?_
  intro T56 h56 X56 e56 W56 Vb51_56
  have N56 := Fr.snoc X56 N54 g_b51
  have E_self_56 := E_self_54.wr W56
  have F_start_56 := F_start_54.other W56 (Or.inl ne_self_b51)
  have F_rows_56 := F_rows_54.other W56 (Or.inl ne_self_b51)
  have V_p1_56 := V_p1_54.other W56 ne_p1_b51
  have V_b3_56 := V_b3_54.other W56 ne_b3_b51
  have EA_b3_56 := EA_b3_54.wr W56
  have V_b48_56 := Vb48_54.other W56 ne_b48_b51
  have EA_b48_56 := EA_b48_54.wr W56
  have EA_b51_56 := EA_b51_54.wr W56
  have Z_56 : n0 ≤ h56.size := Nat.le_trans Z_54 (Nat.le_of_eq W56.size.symm)
  have KK_56 : Keep h0 h56 [self] := KK_54.wr W56 (Or.inr sz_b51)
  show D (T56.setTop (mkF m 123 #[.val (.ref self), .val (.ref p1), .val (.int (4 : Int32)), .val (.ref b51), .val (.int (0 : Int32))] []))
  have Vc57 : ArI Z h56 b51 .int 5 (fun i => Int32.ofNat (own_c1 k0 k1 k2 k3 i)) := Vb51_56.eqf (fun i hi => own_l3_0 k0 (by omega) k1 (by omega) k2 (by omega) k3 (by omega) i (by omega))
  refine A (XS.iinc X56.here hx rfl (hb hby d1_123) rfl (l' := #[.val (.ref self), .val (.ref p1), .val (.int (4 : Int32)), .val (.ref b51), .val (.int ((0 : Int32) + (1 : Int32)))]) rfl) ?_
  show D (T56.setTop (mkF m 126 #[.val (.ref self), .val (.ref p1), .val (.int (4 : Int32)), .val (.ref b51), .val (.int ((0 : Int32) + (1 : Int32)))] []))
  suffices Kq58 : ∀ q58 : Int32, q58 = (1 : Int32) → D (T56.setTop (mkF m 126 #[.val (.ref self), .val (.ref p1), .val (.int (4 : Int32)), .val (.ref b51), .val (.int q58)] [])) from Kq58 _ (by decide)
  rintro _ rfl
  show D (T56.setTop (mkF m 126 #[.val (.ref self), .val (.ref p1), .val (.int (4 : Int32)), .val (.ref b51), .val (.int (1 : Int32))] []))
  refine A (XS.goto X56.here hx rfl (pc0 := 126) (pc' := 93) rfl (hb hby d1_126) (by decide) (by decide)) ?_
  show D (T56.setTop (mkF m 93 #[.val (.ref self), .val (.ref p1), .val (.int (4 : Int32)), .val (.ref b51), .val (.int (1 : Int32))] []))
  refine A (XS.iload X56.here hx rfl (hb hby d1_93) rfl) ?_
  show D (T56.setTop (mkF m 95 #[.val (.ref self), .val (.ref p1), .val (.int (4 : Int32)), .val (.ref b51), .val (.int (1 : Int32))] [(.int (1 : Int32))]))
  refine A (XS.aloadN X56.here hx rfl (hb hby d1_95) rfl rfl) ?_
  show D (T56.setTop (mkF m 96 #[.val (.ref self), .val (.ref p1), .val (.int (4 : Int32)), .val (.ref b51), .val (.int (1 : Int32))] [(.ref p1), (.int (1 : Int32))]))
  refine Adv.lenI A X56 hx hZ e56 V_p1_56 (g := (mkF m 96 #[.val (.ref self), .val (.ref p1), .val (.int (4 : Int32)), .val (.ref b51), .val (.int (1 : Int32))] [(.ref p1), (.int (1 : Int32))])) rfl rfl (hb hby d1_96) ?_
  show D (T56.setTop (mkF m 97 #[.val (.ref self), .val (.ref p1), .val (.int (4 : Int32)), .val (.ref b51), .val (.int (1 : Int32))] [(.int (4 : Int32)), (.int (1 : Int32))]))
  refine A (XS.icmpNo X56.here hx rfl (hb hby d1_97) rfl (tlt (by decide : (1 : Int32) < (4 : Int32))).2.1) ?_
  show D (T56.setTop (mkF m 100 #[.val (.ref self), .val (.ref p1), .val (.int (4 : Int32)), .val (.ref b51), .val (.int (1 : Int32))] []))
  refine A (XS.aloadN X56.here hx rfl (hb hby d1_100) rfl rfl) ?_
  show D (T56.setTop (mkF m 101 #[.val (.ref self), .val (.ref p1), .val (.int (4 : Int32)), .val (.ref b51), .val (.int (1 : Int32))] [(.ref self)]))
  obtain ⟨T59, X59, e59, st59⟩ := getF X56 hx hZ hown (host := "") (Or.inl (hw _ (List.mem_of_getElem? (i := 13) rfl))) Via.refl e56 F_rows_56 (g := (mkF m 101 #[.val (.ref self), .val (.ref p1), .val (.int (4 : Int32)), .val (.ref b51), .val (.int (1 : Int32))] [(.ref self)])) rfl rfl (hb hby d1_101)
  refine A (st59 _) ?_
  show D (T59.setTop (mkF m 104 #[.val (.ref self), .val (.ref p1), .val (.int (4 : Int32)), .val (.ref b51), .val (.int (1 : Int32))] [(.ref b48)]))
  refine A (XS.aloadN X59.here hx rfl (hb hby d1_104) rfl rfl) ?_
  show D (T59.setTop (mkF m 105 #[.val (.ref self), .val (.ref p1), .val (.int (4 : Int32)), .val (.ref b51), .val (.int (1 : Int32))] [(.ref b51), (.ref b48)]))
  refine A (XS.aloadN X59.here hx rfl (hb hby d1_105) rfl rfl) ?_
  show D (T59.setTop (mkF m 106 #[.val (.ref self), .val (.ref p1), .val (.int (4 : Int32)), .val (.ref b51), .val (.int (1 : Int32))] [(.ref p1), (.ref b51), (.ref b48)]))
  refine A (XS.iload X59.here hx rfl (hb hby d1_106) rfl) ?_
  show D (T59.setTop (mkF m 108 #[.val (.ref self), .val (.ref p1), .val (.int (4 : Int32)), .val (.ref b51), .val (.int (1 : Int32))] [(.int (1 : Int32)), (.ref p1), (.ref b51), (.ref b48)]))
  refine Adv.ldI A X59 hx hZ e59 V_p1_56 (k := 1) (by decide) (by decide) (g := (mkF m 108 #[.val (.ref self), .val (.ref p1), .val (.int (4 : Int32)), .val (.ref b51), .val (.int (1 : Int32))] [(.int (1 : Int32)), (.ref p1), (.ref b51), (.ref b48)])) rfl rfl (hb hby d1_108) ?_
  show D (T59.setTop (mkF m 109 #[.val (.ref self), .val (.ref p1), .val (.int (4 : Int32)), .val (.ref b51), .val (.int (1 : Int32))] [(.int (Int32.ofNat k1)), (.ref b51), (.ref b48)]))
  refine Adv.ldI A X59 hx hZ e59 Vc57 (k := k1) (own_of (by omega)) (by omega) (g := (mkF m 109 #[.val (.ref self), .val (.ref p1), .val (.int (4 : Int32)), .val (.ref b51), .val (.int (1 : Int32))] [(.int (Int32.ofNat k1)), (.ref b51), (.ref b48)])) rfl rfl (hb hby d1_109) ?_
  show D (T59.setTop (mkF m 110 #[.val (.ref self), .val (.ref p1), .val (.int (4 : Int32)), .val (.ref b51), .val (.int (1 : Int32))] [(.int (Int32.ofNat (own_c1 k0 k1 k2 k3 k1))), (.ref b48)]))
  refine A (XS.iload X59.here hx rfl (hb hby d1_110) rfl) ?_
  show D (T59.setTop (mkF m 112 #[.val (.ref self), .val (.ref p1), .val (.int (4 : Int32)), .val (.ref b51), .val (.int (1 : Int32))] [(.int (1 : Int32)), (.int (Int32.ofNat (own_c1 k0 k1 k2 k3 k1))), (.ref b48)]))
  refine Adv.stI A X59 hx hZ e59 V_b48_56 (k := (own_c1 k0 k1 k2 k3 k1)) (own_of (own_b3_1 k0 (by omega) k1 (by omega) k2 (by omega) k3 (by omega))) (own_b3_1 k0 (by omega) k1 (by omega) k2 (by omega) k3 (by omega)) (g := (mkF m 112 #[.val (.ref self), .val (.ref p1), .val (.int (4 : Int32)), .val (.ref b51), .val (.int (1 : Int32))] [(.int (1 : Int32)), (.int (Int32.ofNat (own_c1 k0 k1 k2 k3 k1))), (.ref b48)])) rfl rfl (hb hby d1_112) ?_
  intro T60 h60 X60 e60 W60 Vb48_60
  have N60 := Fr.snoc X60 N56 g_b48
  have E_self_60 := E_self_56.wr W60
  have F_start_60 := F_start_56.other W60 (Or.inl ne_self_b48)
  have F_rows_60 := F_rows_56.other W60 (Or.inl ne_self_b48)
  have V_p1_60 := V_p1_56.other W60 ne_p1_b48
  have V_b3_60 := V_b3_56.other W60 ne_b3_b48
  have EA_b3_60 := EA_b3_56.wr W60
  have EA_b48_60 := EA_b48_56.wr W60
  have V_b51_60 := Vc57.other W60 (Ne.symm ne_b48_b51)
  have EA_b51_60 := EA_b51_56.wr W60
  have Z_60 : n0 ≤ h60.size := Nat.le_trans Z_56 (Nat.le_of_eq W60.size.symm)
  have KK_60 : Keep h0 h60 [self] := KK_56.wr W60 (Or.inr sz_b48)
  show D (T60.setTop (mkF m 113 #[.val (.ref self), .val (.ref p1), .val (.int (4 : Int32)), .val (.ref b51), .val (.int (1 : Int32))] []))
  obtain ⟨fn61, hfn61⟩ : ∃ z : Nat → Int32, z = (fun ix => if ix = (own_c1 k0 k1 k2 k3 k1) then (1 : Int32) else fn55 ix) := ⟨_, rfl⟩
  rw [← hfn61] at Vb48_60
  refine A (XS.aloadN X60.here hx rfl (hb hby d1_113) rfl rfl) ?_
  show D (T60.setTop (mkF m 114 #[.val (.ref self), .val (.ref p1), .val (.int (4 : Int32)), .val (.ref b51), .val (.int (1 : Int32))] [(.ref b51)]))
  refine A (XS.aloadN X60.here hx rfl (hb hby d1_114) rfl rfl) ?_
  show D (T60.setTop (mkF m 115 #[.val (.ref self), .val (.ref p1), .val (.int (4 : Int32)), .val (.ref b51), .val (.int (1 : Int32))] [(.ref p1), (.ref b51)]))
  refine A (XS.iload X60.here hx rfl (hb hby d1_115) rfl) ?_
  show D (T60.setTop (mkF m 117 #[.val (.ref self), .val (.ref p1), .val (.int (4 : Int32)), .val (.ref b51), .val (.int (1 : Int32))] [(.int (1 : Int32)), (.ref p1), (.ref b51)]))
  refine Adv.ldI A X60 hx hZ e60 V_p1_60 (k := 1) (by decide) (by decide) (g := (mkF m 117 #[.val (.ref self), .val (.ref p1), .val (.int (4 : Int32)), .val (.ref b51), .val (.int (1 : Int32))] [(.int (1 : Int32)), (.ref p1), (.ref b51)])) rfl rfl (hb hby d1_117) ?_
  show D (T60.setTop (mkF m 118 #[.val (.ref self), .val (.ref p1), .val (.int (4 : Int32)), .val (.ref b51), .val (.int (1 : Int32))] [(.int (Int32.ofNat k1)), (.ref b51)]))
  refine A (S' := T60.setTop (mkF m 119 #[.val (.ref self), .val (.ref p1), .val (.int (4 : Int32)), .val (.ref b51), .val (.int (1 : Int32))] [(.int (Int32.ofNat k1)), (.ref b51), (.int (Int32.ofNat k1)), (.ref b51)])) (fun {t} kt => ?_) ?_
  · jvm_step X60.here [X60.here.top, hx, (hb hby d1_118), Value.category]
    exact kt
  show D (T60.setTop (mkF m 119 #[.val (.ref self), .val (.ref p1), .val (.int (4 : Int32)), .val (.ref b51), .val (.int (1 : Int32))] [(.int (Int32.ofNat k1)), (.ref b51), (.int (Int32.ofNat k1)), (.ref b51)]))
  refine Adv.ldI A X60 hx hZ e60 V_b51_60 (k := k1) (own_of (by omega)) (by omega) (g := (mkF m 119 #[.val (.ref self), .val (.ref p1), .val (.int (4 : Int32)), .val (.ref b51), .val (.int (1 : Int32))] [(.int (Int32.ofNat k1)), (.ref b51), (.int (Int32.ofNat k1)), (.ref b51)])) rfl rfl (hb hby d1_119) ?_
  show D (T60.setTop (mkF m 120 #[.val (.ref self), .val (.ref p1), .val (.int (4 : Int32)), .val (.ref b51), .val (.int (1 : Int32))] [(.int (Int32.ofNat (own_c1 k0 k1 k2 k3 k1))), (.int (Int32.ofNat k1)), (.ref b51)]))
  refine A (XS.iconst X60.here hx rfl (hb hby d1_120)) ?_
  show D (T60.setTop (mkF m 121 #[.val (.ref self), .val (.ref p1), .val (.int (4 : Int32)), .val (.ref b51), .val (.int (1 : Int32))] [(.int (1 : Int32)), (.int (Int32.ofNat (own_c1 k0 k1 k2 k3 k1))), (.int (Int32.ofNat k1)), (.ref b51)]))
  refine A (XS.iadd X60.here hx rfl (hb hby d1_121) rfl) ?_
  show D (T60.setTop (mkF m 122 #[.val (.ref self), .val (.ref p1), .val (.int (4 : Int32)), .val (.ref b51), .val (.int (1 : Int32))] [(.int ((Int32.ofNat (own_c1 k0 k1 k2 k3 k1)) + (1 : Int32))), (.int (Int32.ofNat k1)), (.ref b51)]))
  refine Adv.stI A X60 hx hZ e60 V_b51_60 (k := k1) (own_of (by omega)) (by omega) (g := (mkF m 122 #[.val (.ref self), .val (.ref p1), .val (.int (4 : Int32)), .val (.ref b51), .val (.int (1 : Int32))] [(.int ((Int32.ofNat (own_c1 k0 k1 k2 k3 k1)) + (1 : Int32))), (.int (Int32.ofNat k1)), (.ref b51)])) rfl rfl (hb hby d1_122) ?_
  intro T62 h62 X62 e62 W62 Vb51_62
  have N62 := Fr.snoc X62 N60 g_b51
  have E_self_62 := E_self_60.wr W62
  have F_start_62 := F_start_60.other W62 (Or.inl ne_self_b51)
  have F_rows_62 := F_rows_60.other W62 (Or.inl ne_self_b51)
  have V_p1_62 := V_p1_60.other W62 ne_p1_b51
  have V_b3_62 := V_b3_60.other W62 ne_b3_b51
  have EA_b3_62 := EA_b3_60.wr W62
  have V_b48_62 := Vb48_60.other W62 ne_b48_b51
  have EA_b48_62 := EA_b48_60.wr W62
  have EA_b51_62 := EA_b51_60.wr W62
  have Z_62 : n0 ≤ h62.size := Nat.le_trans Z_60 (Nat.le_of_eq W62.size.symm)
  have KK_62 : Keep h0 h62 [self] := KK_60.wr W62 (Or.inr sz_b51)
  show D (T62.setTop (mkF m 123 #[.val (.ref self), .val (.ref p1), .val (.int (4 : Int32)), .val (.ref b51), .val (.int (1 : Int32))] []))
  have Vc63 : ArI Z h62 b51 .int 5 (fun i => Int32.ofNat (own_c2 k0 k1 k2 k3 i)) := Vb51_62.eqf (fun i hi => own_l3_1 k0 (by omega) k1 (by omega) k2 (by omega) k3 (by omega) i (by omega))
  refine A (XS.iinc X62.here hx rfl (hb hby d1_123) rfl (l' := #[.val (.ref self), .val (.ref p1), .val (.int (4 : Int32)), .val (.ref b51), .val (.int ((1 : Int32) + (1 : Int32)))]) rfl) ?_
  show D (T62.setTop (mkF m 126 #[.val (.ref self), .val (.ref p1), .val (.int (4 : Int32)), .val (.ref b51), .val (.int ((1 : Int32) + (1 : Int32)))] []))
  suffices Kq64 : ∀ q64 : Int32, q64 = (2 : Int32) → D (T62.setTop (mkF m 126 #[.val (.ref self), .val (.ref p1), .val (.int (4 : Int32)), .val (.ref b51), .val (.int q64)] [])) from Kq64 _ (by decide)
  rintro _ rfl
  show D (T62.setTop (mkF m 126 #[.val (.ref self), .val (.ref p1), .val (.int (4 : Int32)), .val (.ref b51), .val (.int (2 : Int32))] []))
  refine A (XS.goto X62.here hx rfl (pc0 := 126) (pc' := 93) rfl (hb hby d1_126) (by decide) (by decide)) ?_
  show D (T62.setTop (mkF m 93 #[.val (.ref self), .val (.ref p1), .val (.int (4 : Int32)), .val (.ref b51), .val (.int (2 : Int32))] []))
  refine A (XS.iload X62.here hx rfl (hb hby d1_93) rfl) ?_
  show D (T62.setTop (mkF m 95 #[.val (.ref self), .val (.ref p1), .val (.int (4 : Int32)), .val (.ref b51), .val (.int (2 : Int32))] [(.int (2 : Int32))]))
  refine A (XS.aloadN X62.here hx rfl (hb hby d1_95) rfl rfl) ?_
  show D (T62.setTop (mkF m 96 #[.val (.ref self), .val (.ref p1), .val (.int (4 : Int32)), .val (.ref b51), .val (.int (2 : Int32))] [(.ref p1), (.int (2 : Int32))]))
  refine Adv.lenI A X62 hx hZ e62 V_p1_62 (g := (mkF m 96 #[.val (.ref self), .val (.ref p1), .val (.int (4 : Int32)), .val (.ref b51), .val (.int (2 : Int32))] [(.ref p1), (.int (2 : Int32))])) rfl rfl (hb hby d1_96) ?_
  show D (T62.setTop (mkF m 97 #[.val (.ref self), .val (.ref p1), .val (.int (4 : Int32)), .val (.ref b51), .val (.int (2 : Int32))] [(.int (4 : Int32)), (.int (2 : Int32))]))
  refine A (XS.icmpNo X62.here hx rfl (hb hby d1_97) rfl (tlt (by decide : (2 : Int32) < (4 : Int32))).2.1) ?_
  show D (T62.setTop (mkF m 100 #[.val (.ref self), .val (.ref p1), .val (.int (4 : Int32)), .val (.ref b51), .val (.int (2 : Int32))] []))
  refine A (XS.aloadN X62.here hx rfl (hb hby d1_100) rfl rfl) ?_
  show D (T62.setTop (mkF m 101 #[.val (.ref self), .val (.ref p1), .val (.int (4 : Int32)), .val (.ref b51), .val (.int (2 : Int32))] [(.ref self)]))
  obtain ⟨T65, X65, e65, st65⟩ := getF X62 hx hZ hown (host := "") (Or.inl (hw _ (List.mem_of_getElem? (i := 13) rfl))) Via.refl e62 F_rows_62 (g := (mkF m 101 #[.val (.ref self), .val (.ref p1), .val (.int (4 : Int32)), .val (.ref b51), .val (.int (2 : Int32))] [(.ref self)])) rfl rfl (hb hby d1_101)
  refine A (st65 _) ?_
  show D (T65.setTop (mkF m 104 #[.val (.ref self), .val (.ref p1), .val (.int (4 : Int32)), .val (.ref b51), .val (.int (2 : Int32))] [(.ref b48)]))
  refine A (XS.aloadN X65.here hx rfl (hb hby d1_104) rfl rfl) ?_
  show D (T65.setTop (mkF m 105 #[.val (.ref self), .val (.ref p1), .val (.int (4 : Int32)), .val (.ref b51), .val (.int (2 : Int32))] [(.ref b51), (.ref b48)]))
  refine A (XS.aloadN X65.here hx rfl (hb hby d1_105) rfl rfl) ?_
  show D (T65.setTop (mkF m 106 #[.val (.ref self), .val (.ref p1), .val (.int (4 : Int32)), .val (.ref b51), .val (.int (2 : Int32))] [(.ref p1), (.ref b51), (.ref b48)]))
  refine A (XS.iload X65.here hx rfl (hb hby d1_106) rfl) ?_
  show D (T65.setTop (mkF m 108 #[.val (.ref self), .val (.ref p1), .val (.int (4 : Int32)), .val (.ref b51), .val (.int (2 : Int32))] [(.int (2 : Int32)), (.ref p1), (.ref b51), (.ref b48)]))
  refine Adv.ldI A X65 hx hZ e65 V_p1_62 (k := 2) (by decide) (by decide) (g := (mkF m 108 #[.val (.ref self), .val (.ref p1), .val (.int (4 : Int32)), .val (.ref b51), .val (.int (2 : Int32))] [(.int (2 : Int32)), (.ref p1), (.ref b51), (.ref b48)])) rfl rfl (hb hby d1_108) ?_
  show D (T65.setTop (mkF m 109 #[.val (.ref self), .val (.ref p1), .val (.int (4 : Int32)), .val (.ref b51), .val (.int (2 : Int32))] [(.int (Int32.ofNat k2)), (.ref b51), (.ref b48)]))
  refine Adv.ldI A X65 hx hZ e65 Vc63 (k := k2) (own_of (by omega)) (by omega) (g := (mkF m 109 #[.val (.ref self), .val (.ref p1), .val (.int (4 : Int32)), .val (.ref b51), .val (.int (2 : Int32))] [(.int (Int32.ofNat k2)), (.ref b51), (.ref b48)])) rfl rfl (hb hby d1_109) ?_
  show D (T65.setTop (mkF m 110 #[.val (.ref self), .val (.ref p1), .val (.int (4 : Int32)), .val (.ref b51), .val (.int (2 : Int32))] [(.int (Int32.ofNat (own_c2 k0 k1 k2 k3 k2))), (.ref b48)]))
  refine A (XS.iload X65.here hx rfl (hb hby d1_110) rfl) ?_
  show D (T65.setTop (mkF m 112 #[.val (.ref self), .val (.ref p1), .val (.int (4 : Int32)), .val (.ref b51), .val (.int (2 : Int32))] [(.int (2 : Int32)), (.int (Int32.ofNat (own_c2 k0 k1 k2 k3 k2))), (.ref b48)]))
  refine Adv.stI A X65 hx hZ e65 V_b48_62 (k := (own_c2 k0 k1 k2 k3 k2)) (own_of (own_b3_2 k0 (by omega) k1 (by omega) k2 (by omega) k3 (by omega))) (own_b3_2 k0 (by omega) k1 (by omega) k2 (by omega) k3 (by omega)) (g := (mkF m 112 #[.val (.ref self), .val (.ref p1), .val (.int (4 : Int32)), .val (.ref b51), .val (.int (2 : Int32))] [(.int (2 : Int32)), (.int (Int32.ofNat (own_c2 k0 k1 k2 k3 k2))), (.ref b48)])) rfl rfl (hb hby d1_112) ?_
  intro T66 h66 X66 e66 W66 Vb48_66
  have N66 := Fr.snoc X66 N62 g_b48
  have E_self_66 := E_self_62.wr W66
  have F_start_66 := F_start_62.other W66 (Or.inl ne_self_b48)
  have F_rows_66 := F_rows_62.other W66 (Or.inl ne_self_b48)
  have V_p1_66 := V_p1_62.other W66 ne_p1_b48
  have V_b3_66 := V_b3_62.other W66 ne_b3_b48
  have EA_b3_66 := EA_b3_62.wr W66
  have EA_b48_66 := EA_b48_62.wr W66
  have V_b51_66 := Vc63.other W66 (Ne.symm ne_b48_b51)
  have EA_b51_66 := EA_b51_62.wr W66
  have Z_66 : n0 ≤ h66.size := Nat.le_trans Z_62 (Nat.le_of_eq W66.size.symm)
  have KK_66 : Keep h0 h66 [self] := KK_62.wr W66 (Or.inr sz_b48)
  show D (T66.setTop (mkF m 113 #[.val (.ref self), .val (.ref p1), .val (.int (4 : Int32)), .val (.ref b51), .val (.int (2 : Int32))] []))
  obtain ⟨fn67, hfn67⟩ : ∃ z : Nat → Int32, z = (fun ix => if ix = (own_c2 k0 k1 k2 k3 k2) then (2 : Int32) else fn61 ix) := ⟨_, rfl⟩
  rw [← hfn67] at Vb48_66
  refine A (XS.aloadN X66.here hx rfl (hb hby d1_113) rfl rfl) ?_
  show D (T66.setTop (mkF m 114 #[.val (.ref self), .val (.ref p1), .val (.int (4 : Int32)), .val (.ref b51), .val (.int (2 : Int32))] [(.ref b51)]))
  refine A (XS.aloadN X66.here hx rfl (hb hby d1_114) rfl rfl) ?_
  show D (T66.setTop (mkF m 115 #[.val (.ref self), .val (.ref p1), .val (.int (4 : Int32)), .val (.ref b51), .val (.int (2 : Int32))] [(.ref p1), (.ref b51)]))
  refine A (XS.iload X66.here hx rfl (hb hby d1_115) rfl) ?_
  show D (T66.setTop (mkF m 117 #[.val (.ref self), .val (.ref p1), .val (.int (4 : Int32)), .val (.ref b51), .val (.int (2 : Int32))] [(.int (2 : Int32)), (.ref p1), (.ref b51)]))
  refine Adv.ldI A X66 hx hZ e66 V_p1_66 (k := 2) (by decide) (by decide) (g := (mkF m 117 #[.val (.ref self), .val (.ref p1), .val (.int (4 : Int32)), .val (.ref b51), .val (.int (2 : Int32))] [(.int (2 : Int32)), (.ref p1), (.ref b51)])) rfl rfl (hb hby d1_117) ?_
  show D (T66.setTop (mkF m 118 #[.val (.ref self), .val (.ref p1), .val (.int (4 : Int32)), .val (.ref b51), .val (.int (2 : Int32))] [(.int (Int32.ofNat k2)), (.ref b51)]))
  refine A (S' := T66.setTop (mkF m 119 #[.val (.ref self), .val (.ref p1), .val (.int (4 : Int32)), .val (.ref b51), .val (.int (2 : Int32))] [(.int (Int32.ofNat k2)), (.ref b51), (.int (Int32.ofNat k2)), (.ref b51)])) (fun {t} kt => ?_) ?_
  · jvm_step X66.here [X66.here.top, hx, (hb hby d1_118), Value.category]
    exact kt
  show D (T66.setTop (mkF m 119 #[.val (.ref self), .val (.ref p1), .val (.int (4 : Int32)), .val (.ref b51), .val (.int (2 : Int32))] [(.int (Int32.ofNat k2)), (.ref b51), (.int (Int32.ofNat k2)), (.ref b51)]))
  refine Adv.ldI A X66 hx hZ e66 V_b51_66 (k := k2) (own_of (by omega)) (by omega) (g := (mkF m 119 #[.val (.ref self), .val (.ref p1), .val (.int (4 : Int32)), .val (.ref b51), .val (.int (2 : Int32))] [(.int (Int32.ofNat k2)), (.ref b51), (.int (Int32.ofNat k2)), (.ref b51)])) rfl rfl (hb hby d1_119) ?_
  show D (T66.setTop (mkF m 120 #[.val (.ref self), .val (.ref p1), .val (.int (4 : Int32)), .val (.ref b51), .val (.int (2 : Int32))] [(.int (Int32.ofNat (own_c2 k0 k1 k2 k3 k2))), (.int (Int32.ofNat k2)), (.ref b51)]))
  refine A (XS.iconst X66.here hx rfl (hb hby d1_120)) ?_
  show D (T66.setTop (mkF m 121 #[.val (.ref self), .val (.ref p1), .val (.int (4 : Int32)), .val (.ref b51), .val (.int (2 : Int32))] [(.int (1 : Int32)), (.int (Int32.ofNat (own_c2 k0 k1 k2 k3 k2))), (.int (Int32.ofNat k2)), (.ref b51)]))
  refine A (XS.iadd X66.here hx rfl (hb hby d1_121) rfl) ?_
  show D (T66.setTop (mkF m 122 #[.val (.ref self), .val (.ref p1), .val (.int (4 : Int32)), .val (.ref b51), .val (.int (2 : Int32))] [(.int ((Int32.ofNat (own_c2 k0 k1 k2 k3 k2)) + (1 : Int32))), (.int (Int32.ofNat k2)), (.ref b51)]))
  refine Adv.stI A X66 hx hZ e66 V_b51_66 (k := k2) (own_of (by omega)) (by omega) (g := (mkF m 122 #[.val (.ref self), .val (.ref p1), .val (.int (4 : Int32)), .val (.ref b51), .val (.int (2 : Int32))] [(.int ((Int32.ofNat (own_c2 k0 k1 k2 k3 k2)) + (1 : Int32))), (.int (Int32.ofNat k2)), (.ref b51)])) rfl rfl (hb hby d1_122) ?_
  intro T68 h68 X68 e68 W68 Vb51_68
  have N68 := Fr.snoc X68 N66 g_b51
  have E_self_68 := E_self_66.wr W68
  have F_start_68 := F_start_66.other W68 (Or.inl ne_self_b51)
  have F_rows_68 := F_rows_66.other W68 (Or.inl ne_self_b51)
  have V_p1_68 := V_p1_66.other W68 ne_p1_b51
  have V_b3_68 := V_b3_66.other W68 ne_b3_b51
  have EA_b3_68 := EA_b3_66.wr W68
  have V_b48_68 := Vb48_66.other W68 ne_b48_b51
  have EA_b48_68 := EA_b48_66.wr W68
  have EA_b51_68 := EA_b51_66.wr W68
  have Z_68 : n0 ≤ h68.size := Nat.le_trans Z_66 (Nat.le_of_eq W68.size.symm)
  have KK_68 : Keep h0 h68 [self] := KK_66.wr W68 (Or.inr sz_b51)
  show D (T68.setTop (mkF m 123 #[.val (.ref self), .val (.ref p1), .val (.int (4 : Int32)), .val (.ref b51), .val (.int (2 : Int32))] []))
  have Vc69 : ArI Z h68 b51 .int 5 (fun i => Int32.ofNat (own_c3 k0 k1 k2 k3 i)) := Vb51_68.eqf (fun i hi => own_l3_2 k0 (by omega) k1 (by omega) k2 (by omega) k3 (by omega) i (by omega))
  refine A (XS.iinc X68.here hx rfl (hb hby d1_123) rfl (l' := #[.val (.ref self), .val (.ref p1), .val (.int (4 : Int32)), .val (.ref b51), .val (.int ((2 : Int32) + (1 : Int32)))]) rfl) ?_
  show D (T68.setTop (mkF m 126 #[.val (.ref self), .val (.ref p1), .val (.int (4 : Int32)), .val (.ref b51), .val (.int ((2 : Int32) + (1 : Int32)))] []))
  suffices Kq70 : ∀ q70 : Int32, q70 = (3 : Int32) → D (T68.setTop (mkF m 126 #[.val (.ref self), .val (.ref p1), .val (.int (4 : Int32)), .val (.ref b51), .val (.int q70)] [])) from Kq70 _ (by decide)
  rintro _ rfl
  show D (T68.setTop (mkF m 126 #[.val (.ref self), .val (.ref p1), .val (.int (4 : Int32)), .val (.ref b51), .val (.int (3 : Int32))] []))
  refine A (XS.goto X68.here hx rfl (pc0 := 126) (pc' := 93) rfl (hb hby d1_126) (by decide) (by decide)) ?_
  show D (T68.setTop (mkF m 93 #[.val (.ref self), .val (.ref p1), .val (.int (4 : Int32)), .val (.ref b51), .val (.int (3 : Int32))] []))
  refine A (XS.iload X68.here hx rfl (hb hby d1_93) rfl) ?_
  show D (T68.setTop (mkF m 95 #[.val (.ref self), .val (.ref p1), .val (.int (4 : Int32)), .val (.ref b51), .val (.int (3 : Int32))] [(.int (3 : Int32))]))
  refine A (XS.aloadN X68.here hx rfl (hb hby d1_95) rfl rfl) ?_
  show D (T68.setTop (mkF m 96 #[.val (.ref self), .val (.ref p1), .val (.int (4 : Int32)), .val (.ref b51), .val (.int (3 : Int32))] [(.ref p1), (.int (3 : Int32))]))
  refine Adv.lenI A X68 hx hZ e68 V_p1_68 (g := (mkF m 96 #[.val (.ref self), .val (.ref p1), .val (.int (4 : Int32)), .val (.ref b51), .val (.int (3 : Int32))] [(.ref p1), (.int (3 : Int32))])) rfl rfl (hb hby d1_96) ?_
  show D (T68.setTop (mkF m 97 #[.val (.ref self), .val (.ref p1), .val (.int (4 : Int32)), .val (.ref b51), .val (.int (3 : Int32))] [(.int (4 : Int32)), (.int (3 : Int32))]))
  refine A (XS.icmpNo X68.here hx rfl (hb hby d1_97) rfl (tlt (by decide : (3 : Int32) < (4 : Int32))).2.1) ?_
  show D (T68.setTop (mkF m 100 #[.val (.ref self), .val (.ref p1), .val (.int (4 : Int32)), .val (.ref b51), .val (.int (3 : Int32))] []))
  refine A (XS.aloadN X68.here hx rfl (hb hby d1_100) rfl rfl) ?_
  show D (T68.setTop (mkF m 101 #[.val (.ref self), .val (.ref p1), .val (.int (4 : Int32)), .val (.ref b51), .val (.int (3 : Int32))] [(.ref self)]))
  obtain ⟨T71, X71, e71, st71⟩ := getF X68 hx hZ hown (host := "") (Or.inl (hw _ (List.mem_of_getElem? (i := 13) rfl))) Via.refl e68 F_rows_68 (g := (mkF m 101 #[.val (.ref self), .val (.ref p1), .val (.int (4 : Int32)), .val (.ref b51), .val (.int (3 : Int32))] [(.ref self)])) rfl rfl (hb hby d1_101)
  refine A (st71 _) ?_
  show D (T71.setTop (mkF m 104 #[.val (.ref self), .val (.ref p1), .val (.int (4 : Int32)), .val (.ref b51), .val (.int (3 : Int32))] [(.ref b48)]))
  refine A (XS.aloadN X71.here hx rfl (hb hby d1_104) rfl rfl) ?_
  show D (T71.setTop (mkF m 105 #[.val (.ref self), .val (.ref p1), .val (.int (4 : Int32)), .val (.ref b51), .val (.int (3 : Int32))] [(.ref b51), (.ref b48)]))
  refine A (XS.aloadN X71.here hx rfl (hb hby d1_105) rfl rfl) ?_
  show D (T71.setTop (mkF m 106 #[.val (.ref self), .val (.ref p1), .val (.int (4 : Int32)), .val (.ref b51), .val (.int (3 : Int32))] [(.ref p1), (.ref b51), (.ref b48)]))
  refine A (XS.iload X71.here hx rfl (hb hby d1_106) rfl) ?_
  show D (T71.setTop (mkF m 108 #[.val (.ref self), .val (.ref p1), .val (.int (4 : Int32)), .val (.ref b51), .val (.int (3 : Int32))] [(.int (3 : Int32)), (.ref p1), (.ref b51), (.ref b48)]))
  refine Adv.ldI A X71 hx hZ e71 V_p1_68 (k := 3) (by decide) (by decide) (g := (mkF m 108 #[.val (.ref self), .val (.ref p1), .val (.int (4 : Int32)), .val (.ref b51), .val (.int (3 : Int32))] [(.int (3 : Int32)), (.ref p1), (.ref b51), (.ref b48)])) rfl rfl (hb hby d1_108) ?_
  show D (T71.setTop (mkF m 109 #[.val (.ref self), .val (.ref p1), .val (.int (4 : Int32)), .val (.ref b51), .val (.int (3 : Int32))] [(.int (Int32.ofNat k3)), (.ref b51), (.ref b48)]))
  refine Adv.ldI A X71 hx hZ e71 Vc69 (k := k3) (own_of (by omega)) (by omega) (g := (mkF m 109 #[.val (.ref self), .val (.ref p1), .val (.int (4 : Int32)), .val (.ref b51), .val (.int (3 : Int32))] [(.int (Int32.ofNat k3)), (.ref b51), (.ref b48)])) rfl rfl (hb hby d1_109) ?_
  show D (T71.setTop (mkF m 110 #[.val (.ref self), .val (.ref p1), .val (.int (4 : Int32)), .val (.ref b51), .val (.int (3 : Int32))] [(.int (Int32.ofNat (own_c3 k0 k1 k2 k3 k3))), (.ref b48)]))
  refine A (XS.iload X71.here hx rfl (hb hby d1_110) rfl) ?_
  show D (T71.setTop (mkF m 112 #[.val (.ref self), .val (.ref p1), .val (.int (4 : Int32)), .val (.ref b51), .val (.int (3 : Int32))] [(.int (3 : Int32)), (.int (Int32.ofNat (own_c3 k0 k1 k2 k3 k3))), (.ref b48)]))
  refine Adv.stI A X71 hx hZ e71 V_b48_68 (k := (own_c3 k0 k1 k2 k3 k3)) (own_of (own_b3_3 k0 (by omega) k1 (by omega) k2 (by omega) k3 (by omega))) (own_b3_3 k0 (by omega) k1 (by omega) k2 (by omega) k3 (by omega)) (g := (mkF m 112 #[.val (.ref self), .val (.ref p1), .val (.int (4 : Int32)), .val (.ref b51), .val (.int (3 : Int32))] [(.int (3 : Int32)), (.int (Int32.ofNat (own_c3 k0 k1 k2 k3 k3))), (.ref b48)])) rfl rfl (hb hby d1_112) ?_
  intro T72 h72 X72 e72 W72 Vb48_72
  have N72 := Fr.snoc X72 N68 g_b48
  have E_self_72 := E_self_68.wr W72
  have F_start_72 := F_start_68.other W72 (Or.inl ne_self_b48)
  have F_rows_72 := F_rows_68.other W72 (Or.inl ne_self_b48)
  have V_p1_72 := V_p1_68.other W72 ne_p1_b48
  have V_b3_72 := V_b3_68.other W72 ne_b3_b48
  have EA_b3_72 := EA_b3_68.wr W72
  have EA_b48_72 := EA_b48_68.wr W72
  have V_b51_72 := Vc69.other W72 (Ne.symm ne_b48_b51)
  have EA_b51_72 := EA_b51_68.wr W72
  have Z_72 : n0 ≤ h72.size := Nat.le_trans Z_68 (Nat.le_of_eq W72.size.symm)
  have KK_72 : Keep h0 h72 [self] := KK_68.wr W72 (Or.inr sz_b48)
  show D (T72.setTop (mkF m 113 #[.val (.ref self), .val (.ref p1), .val (.int (4 : Int32)), .val (.ref b51), .val (.int (3 : Int32))] []))
  obtain ⟨fn73, hfn73⟩ : ∃ z : Nat → Int32, z = (fun ix => if ix = (own_c3 k0 k1 k2 k3 k3) then (3 : Int32) else fn67 ix) := ⟨_, rfl⟩
  rw [← hfn73] at Vb48_72
  refine A (XS.aloadN X72.here hx rfl (hb hby d1_113) rfl rfl) ?_
  show D (T72.setTop (mkF m 114 #[.val (.ref self), .val (.ref p1), .val (.int (4 : Int32)), .val (.ref b51), .val (.int (3 : Int32))] [(.ref b51)]))
  refine A (XS.aloadN X72.here hx rfl (hb hby d1_114) rfl rfl) ?_
  show D (T72.setTop (mkF m 115 #[.val (.ref self), .val (.ref p1), .val (.int (4 : Int32)), .val (.ref b51), .val (.int (3 : Int32))] [(.ref p1), (.ref b51)]))
  refine A (XS.iload X72.here hx rfl (hb hby d1_115) rfl) ?_
  show D (T72.setTop (mkF m 117 #[.val (.ref self), .val (.ref p1), .val (.int (4 : Int32)), .val (.ref b51), .val (.int (3 : Int32))] [(.int (3 : Int32)), (.ref p1), (.ref b51)]))
  refine Adv.ldI A X72 hx hZ e72 V_p1_72 (k := 3) (by decide) (by decide) (g := (mkF m 117 #[.val (.ref self), .val (.ref p1), .val (.int (4 : Int32)), .val (.ref b51), .val (.int (3 : Int32))] [(.int (3 : Int32)), (.ref p1), (.ref b51)])) rfl rfl (hb hby d1_117) ?_
  show D (T72.setTop (mkF m 118 #[.val (.ref self), .val (.ref p1), .val (.int (4 : Int32)), .val (.ref b51), .val (.int (3 : Int32))] [(.int (Int32.ofNat k3)), (.ref b51)]))
  refine A (S' := T72.setTop (mkF m 119 #[.val (.ref self), .val (.ref p1), .val (.int (4 : Int32)), .val (.ref b51), .val (.int (3 : Int32))] [(.int (Int32.ofNat k3)), (.ref b51), (.int (Int32.ofNat k3)), (.ref b51)])) (fun {t} kt => ?_) ?_
  · jvm_step X72.here [X72.here.top, hx, (hb hby d1_118), Value.category]
    exact kt
  show D (T72.setTop (mkF m 119 #[.val (.ref self), .val (.ref p1), .val (.int (4 : Int32)), .val (.ref b51), .val (.int (3 : Int32))] [(.int (Int32.ofNat k3)), (.ref b51), (.int (Int32.ofNat k3)), (.ref b51)]))
  refine Adv.ldI A X72 hx hZ e72 V_b51_72 (k := k3) (own_of (by omega)) (by omega) (g := (mkF m 119 #[.val (.ref self), .val (.ref p1), .val (.int (4 : Int32)), .val (.ref b51), .val (.int (3 : Int32))] [(.int (Int32.ofNat k3)), (.ref b51), (.int (Int32.ofNat k3)), (.ref b51)])) rfl rfl (hb hby d1_119) ?_
  show D (T72.setTop (mkF m 120 #[.val (.ref self), .val (.ref p1), .val (.int (4 : Int32)), .val (.ref b51), .val (.int (3 : Int32))] [(.int (Int32.ofNat (own_c3 k0 k1 k2 k3 k3))), (.int (Int32.ofNat k3)), (.ref b51)]))
  refine A (XS.iconst X72.here hx rfl (hb hby d1_120)) ?_
  show D (T72.setTop (mkF m 121 #[.val (.ref self), .val (.ref p1), .val (.int (4 : Int32)), .val (.ref b51), .val (.int (3 : Int32))] [(.int (1 : Int32)), (.int (Int32.ofNat (own_c3 k0 k1 k2 k3 k3))), (.int (Int32.ofNat k3)), (.ref b51)]))
  refine A (XS.iadd X72.here hx rfl (hb hby d1_121) rfl) ?_
  show D (T72.setTop (mkF m 122 #[.val (.ref self), .val (.ref p1), .val (.int (4 : Int32)), .val (.ref b51), .val (.int (3 : Int32))] [(.int ((Int32.ofNat (own_c3 k0 k1 k2 k3 k3)) + (1 : Int32))), (.int (Int32.ofNat k3)), (.ref b51)]))
  refine Adv.stI A X72 hx hZ e72 V_b51_72 (k := k3) (own_of (by omega)) (by omega) (g := (mkF m 122 #[.val (.ref self), .val (.ref p1), .val (.int (4 : Int32)), .val (.ref b51), .val (.int (3 : Int32))] [(.int ((Int32.ofNat (own_c3 k0 k1 k2 k3 k3)) + (1 : Int32))), (.int (Int32.ofNat k3)), (.ref b51)])) rfl rfl (hb hby d1_122) ?_
  intro T74 h74 X74 e74 W74 Vb51_74
  have N74 := Fr.snoc X74 N72 g_b51
  have E_self_74 := E_self_72.wr W74
  have F_start_74 := F_start_72.other W74 (Or.inl ne_self_b51)
  have F_rows_74 := F_rows_72.other W74 (Or.inl ne_self_b51)
  have V_p1_74 := V_p1_72.other W74 ne_p1_b51
  have V_b3_74 := V_b3_72.other W74 ne_b3_b51
  have EA_b3_74 := EA_b3_72.wr W74
  have V_b48_74 := Vb48_72.other W74 ne_b48_b51
  have EA_b48_74 := EA_b48_72.wr W74
  have EA_b51_74 := EA_b51_72.wr W74
  have Z_74 : n0 ≤ h74.size := Nat.le_trans Z_72 (Nat.le_of_eq W74.size.symm)
  have KK_74 : Keep h0 h74 [self] := KK_72.wr W74 (Or.inr sz_b51)
  show D (T74.setTop (mkF m 123 #[.val (.ref self), .val (.ref p1), .val (.int (4 : Int32)), .val (.ref b51), .val (.int (3 : Int32))] []))
  have Vc75 : ArI Z h74 b51 .int 5 (fun i => Int32.ofNat (own_c4 k0 k1 k2 k3 i)) := Vb51_74.eqf (fun i hi => own_l3_3 k0 (by omega) k1 (by omega) k2 (by omega) k3 (by omega) i (by omega))
  refine A (XS.iinc X74.here hx rfl (hb hby d1_123) rfl (l' := #[.val (.ref self), .val (.ref p1), .val (.int (4 : Int32)), .val (.ref b51), .val (.int ((3 : Int32) + (1 : Int32)))]) rfl) ?_
  show D (T74.setTop (mkF m 126 #[.val (.ref self), .val (.ref p1), .val (.int (4 : Int32)), .val (.ref b51), .val (.int ((3 : Int32) + (1 : Int32)))] []))
  suffices Kq76 : ∀ q76 : Int32, q76 = (4 : Int32) → D (T74.setTop (mkF m 126 #[.val (.ref self), .val (.ref p1), .val (.int (4 : Int32)), .val (.ref b51), .val (.int q76)] [])) from Kq76 _ (by decide)
  rintro _ rfl
  show D (T74.setTop (mkF m 126 #[.val (.ref self), .val (.ref p1), .val (.int (4 : Int32)), .val (.ref b51), .val (.int (4 : Int32))] []))
  refine A (XS.goto X74.here hx rfl (pc0 := 126) (pc' := 93) rfl (hb hby d1_126) (by decide) (by decide)) ?_
  show D (T74.setTop (mkF m 93 #[.val (.ref self), .val (.ref p1), .val (.int (4 : Int32)), .val (.ref b51), .val (.int (4 : Int32))] []))
  refine A (XS.iload X74.here hx rfl (hb hby d1_93) rfl) ?_
  show D (T74.setTop (mkF m 95 #[.val (.ref self), .val (.ref p1), .val (.int (4 : Int32)), .val (.ref b51), .val (.int (4 : Int32))] [(.int (4 : Int32))]))
  refine A (XS.aloadN X74.here hx rfl (hb hby d1_95) rfl rfl) ?_
  show D (T74.setTop (mkF m 96 #[.val (.ref self), .val (.ref p1), .val (.int (4 : Int32)), .val (.ref b51), .val (.int (4 : Int32))] [(.ref p1), (.int (4 : Int32))]))
  refine Adv.lenI A X74 hx hZ e74 V_p1_74 (g := (mkF m 96 #[.val (.ref self), .val (.ref p1), .val (.int (4 : Int32)), .val (.ref b51), .val (.int (4 : Int32))] [(.ref p1), (.int (4 : Int32))])) rfl rfl (hb hby d1_96) ?_
  show D (T74.setTop (mkF m 97 #[.val (.ref self), .val (.ref p1), .val (.int (4 : Int32)), .val (.ref b51), .val (.int (4 : Int32))] [(.int (4 : Int32)), (.int (4 : Int32))]))
  refine A (XS.icmpYes X74.here hx rfl (pc0 := 97) (pc' := 129) rfl (hb hby d1_97) rfl (flt (by decide : ¬ ((4 : Int32) < (4 : Int32)))).2.1 (by decide) (by decide)) ?_
  show D (T74.setTop (mkF m 129 #[.val (.ref self), .val (.ref p1), .val (.int (4 : Int32)), .val (.ref b51), .val (.int (4 : Int32))] []))
  exact F _ (Jvm.JW.ret X74 hlk (v := none) (fun _ => rfl) (fun fs hr => X74.returnOut hx hrt (hb hby d1_129) hr) e74 ⟨rfl, b3, N74, KK_74, E_self_74, F_start_74, V_b3_74⟩ (by decide) (by decide))
theorem d4_0 : decode prog_41_method_5_code 0 = .ok (.aload_n 0, 1) := by decide +kernel
theorem d4_1 : decode prog_41_method_5_code 1 = .ok (.getfield 7, 3) := by decide +kernel
theorem d4_4 : decode prog_41_method_5_code 4 = .ok (.iload_n 1, 1) := by decide +kernel
theorem d4_5 : decode prog_41_method_5_code 5 = .ok (.iconst 1, 1) := by decide +kernel
theorem d4_6 : decode prog_41_method_5_code 6 = .ok (.iadd, 1) := by decide +kernel
theorem d4_7 : decode prog_41_method_5_code 7 = .ok (.iaload, 1) := by decide +kernel
theorem d4_8 : decode prog_41_method_5_code 8 = .ok (.aload_n 0, 1) := by decide +kernel
theorem d4_9 : decode prog_41_method_5_code 9 = .ok (.getfield 7, 3) := by decide +kernel
theorem d4_12 : decode prog_41_method_5_code 12 = .ok (.iload_n 1, 1) := by decide +kernel
theorem d4_13 : decode prog_41_method_5_code 13 = .ok (.iaload, 1) := by decide +kernel
theorem d4_14 : decode prog_41_method_5_code 14 = .ok (.isub, 1) := by decide +kernel
theorem d4_15 : decode prog_41_method_5_code 15 = .ok (.ireturn, 1) := by decide +kernel
theorem pn4 : plainFor (⟨"com/example/enklave/enklave/measure/RowGroups", "size", "(I)I"⟩ : MethodName) = true := by decide +kernel
theorem ef4 (self : Addr) (p1 : Int32) (m : MethodId) : entryFrame m #[(.ref self), (.int p1)] 2 = mkF m 0 #[.val (.ref self), .val (.int p1)] [] := by first | (simp [entryFrame, mkF, argsToLocals, Value.category]; done) | rfl
set_option maxRecDepth 65536 in
set_option maxHeartbeats 40000000 in
theorem rm4 (l : Launch) (Z : State) (a0 : Array Value) (hw : ∀ d ∈ tables_1, d.before a0 Z = true) (ws : List Jvm.Cond) (self : Addr) (p1 : Int32) (h0 : Heap) (n0 : Nat) (b : Addr) (n : Nat) (fs : Nat → Int32) (q : Nat) (hq : p1.toInt = q) (hqn : q + 1 < n) (hn5 : n < 6) (F_start : Fld Z h0 self "com/example/enklave/enklave/measure/RowGroups" "start" "[I" (.ref b)) (V_b : ArI Z h0 b .int n fs) :
    JMet l Z (⟨"com/example/enklave/enklave/measure/RowGroups", "size", "(I)I"⟩ : MethodName) prog_41_method_5_code 2 (some .int) ws ({ frames := 0, cells := 0, slots := 0, locals := 0 } : Room) #[(.ref self), (.int p1)] h0 (QP (.int (fs (q + 1) - fs q)) h0 n0) := by
  refine Jvm.JW.body #[.val (.ref self), .val (.int p1)] pn4 (ef4 self p1) ?_
  intro p e s m below meth c T0 D A F X0 hx hZ hby hml hown hnm hrt hlk e0
  refine A (XS.aloadN X0.here hx rfl (hb hby d4_0) rfl rfl) ?_
  show D (T0.setTop (mkF m 1 #[.val (.ref self), .val (.int p1)] [(.ref self)]))
  obtain ⟨T1, X1, e1, st1⟩ := getF X0 hx hZ hown (host := "") (Or.inl (hw _ (List.mem_of_getElem? (i := 11) rfl))) Via.refl e0 F_start (g := (mkF m 1 #[.val (.ref self), .val (.int p1)] [(.ref self)])) rfl rfl (hb hby d4_1)
  refine A (st1 _) ?_
  show D (T1.setTop (mkF m 4 #[.val (.ref self), .val (.int p1)] [(.ref b)]))
  refine A (XS.iloadN X1.here hx rfl (hb hby d4_4) rfl) ?_
  show D (T1.setTop (mkF m 5 #[.val (.ref self), .val (.int p1)] [(.int p1), (.ref b)]))
  refine A (XS.iconst X1.here hx rfl (hb hby d4_5)) ?_
  show D (T1.setTop (mkF m 6 #[.val (.ref self), .val (.int p1)] [(.int (1 : Int32)), (.int p1), (.ref b)]))
  refine A (XS.iadd X1.here hx rfl (hb hby d4_6) rfl) ?_
  show D (T1.setTop (mkF m 7 #[.val (.ref self), .val (.int p1)] [(.int (p1 + (1 : Int32))), (.ref b)]))
  refine Adv.ldI A X1 hx hZ e1 V_b (k := (q + 1)) (ixadd hq (by decide) (by omega)) (by omega) (g := (mkF m 7 #[.val (.ref self), .val (.int p1)] [(.int (p1 + (1 : Int32))), (.ref b)])) rfl rfl (hb hby d4_7) ?_
  show D (T1.setTop (mkF m 8 #[.val (.ref self), .val (.int p1)] [(.int (fs (q + 1)))]))
  refine A (XS.aloadN X1.here hx rfl (hb hby d4_8) rfl rfl) ?_
  show D (T1.setTop (mkF m 9 #[.val (.ref self), .val (.int p1)] [(.ref self), (.int (fs (q + 1)))]))
  obtain ⟨T2, X2, e2, st2⟩ := getF X1 hx hZ hown (host := "") (Or.inl (hw _ (List.mem_of_getElem? (i := 11) rfl))) Via.refl e1 F_start (g := (mkF m 9 #[.val (.ref self), .val (.int p1)] [(.ref self), (.int (fs (q + 1)))])) rfl rfl (hb hby d4_9)
  refine A (st2 _) ?_
  show D (T2.setTop (mkF m 12 #[.val (.ref self), .val (.int p1)] [(.ref b), (.int (fs (q + 1)))]))
  refine A (XS.iloadN X2.here hx rfl (hb hby d4_12) rfl) ?_
  show D (T2.setTop (mkF m 13 #[.val (.ref self), .val (.int p1)] [(.int p1), (.ref b), (.int (fs (q + 1)))]))
  refine Adv.ldI A X2 hx hZ e2 V_b (k := q) hq (by omega) (g := (mkF m 13 #[.val (.ref self), .val (.int p1)] [(.int p1), (.ref b), (.int (fs (q + 1)))])) rfl rfl (hb hby d4_13) ?_
  show D (T2.setTop (mkF m 14 #[.val (.ref self), .val (.int p1)] [(.int (fs q)), (.int (fs (q + 1)))]))
  refine A (XS.isub X2.here hx rfl (hb hby d4_14) rfl) ?_
  show D (T2.setTop (mkF m 15 #[.val (.ref self), .val (.int p1)] [(.int ((fs (q + 1)) - (fs q)))]))
  refine F _ (Jvm.JW.ret X2 hlk (v := some (.int ((fs (q + 1)) - (fs q)))) (fun h => by rw [hrt] at h; cases h) (fun fs hr => retOut X2 hx hrt rfl (Or.inl ⟨rfl, Or.inl rfl, _, rfl⟩) (hb hby d4_15) hr) rfl ?_ (by decide) (by decide))
  exact ⟨rfl, (Fr.nil n0), e2⟩
theorem own_keys {v x : Int32} (h : v = ((x &&& (3 : Int32)) + (1 : Int32))) : v = 1 ∨ v = 2 ∨ v = 3 ∨ v = 4 := by
  have h1 := c_mask x 3 2 (by decide) (by decide)
  have h2 := c_iadd (x &&& 3) 1
  have h3 := rng32 ((x &&& 3) + 1)
  rw [← h] at h2 h3
  simp only [← Int32.toInt_inj, show (1 : Int32).toInt = 1 from rfl, show (2 : Int32).toInt = 2 from rfl, show (3 : Int32).toInt = 3 from rfl, show (4 : Int32).toInt = 4 from rfl] at h2 ⊢
  omega
theorem own_k_1 {v x : Int32} (h : v = ((x &&& (2147483647 : Int32)) % (1 : Int32))) : ∃ k : Nat, k < 1 ∧ v = (Int32.ofNat k) := by
  have h1 := c_mask x 2147483647 31 (by decide) (by decide)
  have h2 := (c_irem (x &&& 2147483647) 1 1 (by decide)).1 (by omega)
  rw [← h] at h2
  refine ⟨v.toInt.toNat, by omega, Int32.toInt_inj.mp ?_⟩
  rw [own_of (by omega)]; omega
theorem own_k_2 {v x : Int32} (h : v = ((x &&& (2147483647 : Int32)) % (2 : Int32))) : ∃ k : Nat, k < 2 ∧ v = (Int32.ofNat k) := by
  have h1 := c_mask x 2147483647 31 (by decide) (by decide)
  have h2 := (c_irem (x &&& 2147483647) 2 2 (by decide)).1 (by omega)
  rw [← h] at h2
  refine ⟨v.toInt.toNat, by omega, Int32.toInt_inj.mp ?_⟩
  rw [own_of (by omega)]; omega
theorem own_k_3 {v x : Int32} (h : v = ((x &&& (2147483647 : Int32)) % (3 : Int32))) : ∃ k : Nat, k < 3 ∧ v = (Int32.ofNat k) := by
  have h1 := c_mask x 2147483647 31 (by decide) (by decide)
  have h2 := (c_irem (x &&& 2147483647) 3 3 (by decide)).1 (by omega)
  rw [← h] at h2
  refine ⟨v.toInt.toNat, by omega, Int32.toInt_inj.mp ?_⟩
  rw [own_of (by omega)]; omega
theorem own_k_4 {v x : Int32} (h : v = ((x &&& (2147483647 : Int32)) % (4 : Int32))) : ∃ k : Nat, k < 4 ∧ v = (Int32.ofNat k) := by
  have h1 := c_mask x 2147483647 31 (by decide) (by decide)
  have h2 := (c_irem (x &&& 2147483647) 4 4 (by decide)).1 (by omega)
  rw [← h] at h2
  refine ⟨v.toInt.toNat, by omega, Int32.toInt_inj.mp ?_⟩
  rw [own_of (by omega)]; omega
theorem pn0 : plainFor x = true := by decide +kernel
theorem pd0_0 : parseMethodDescriptor "([II)V" = some ⟨[(.array .int), .int], none⟩ := by decide +kernel
theorem pd0_1 : parseMethodDescriptor "(II)I" = some ⟨[.int, .int], some .int⟩ := by decide +kernel
theorem pd0_2 : parseMethodDescriptor "(I)I" = some ⟨[.int], some .int⟩ := by decide +kernel
theorem ef0 (p1 : Int32) (p2 : Int32) (p3 : Int32) (p4 : Int32) (p5 : Int32) (p6 : Int32) (m : MethodId) : entryFrame m #[(.int p1), (.int p2), (.int p3), (.int p4), (.int p5), (.int p6)] maxLocals = mkF m 0 #[.val (.int p1), .val (.int p2), .val (.int p3), .val (.int p4), .val (.int p5), .val (.int p6), .unset, .unset, .unset, .unset, .unset, .unset, .unset, .unset, .unset] [] := by first | (simp [entryFrame, mkF, argsToLocals, Value.category, maxLocals]; done) | rfl
set_option maxRecDepth 65536 in
set_option maxHeartbeats 40000000 in
theorem rm0 (l : Launch) (Z : State) (a0 : Array Value) (hw : ∀ d ∈ tables_1, d.before a0 Z = true) (ws : List Jvm.Cond) (p1 : Int32) (p2 : Int32) (p3 : Int32) (p4 : Int32) (p5 : Int32) (p6 : Int32) (h0 : Heap) (n0 : Nat) (Z0 : n0 ≤ h0.size) :
    JMet l Z x code maxLocals ret ws room_1 #[(.int p1), (.int p2), (.int p3), (.int p4), (.int p5), (.int p6)] h0 (QL n0) := by
  refine Jvm.JW.body #[.val (.int p1), .val (.int p2), .val (.int p3), .val (.int p4), .val (.int p5), .val (.int p6), .unset, .unset, .unset, .unset, .unset, .unset, .unset, .unset, .unset] pn0 (ef0 p1 p2 p3 p4 p5 p6) ?_
  intro p e s m below meth c T0 D A F X0 hx hZ hby hml hown hnm hrt hlk e0
  refine A (XS.iloadN X0.here hx rfl (hb hby at_0) rfl) ?_
  show D (T0.setTop (mkF m 1 #[.val (.int p1), .val (.int p2), .val (.int p3), .val (.int p4), .val (.int p5), .val (.int p6), .unset, .unset, .unset, .unset, .unset, .unset, .unset, .unset, .unset] [(.int p1)]))
  refine A (XS.iconst X0.here hx rfl (hb hby at_1)) ?_
  show D (T0.setTop (mkF m 2 #[.val (.int p1), .val (.int p2), .val (.int p3), .val (.int p4), .val (.int p5), .val (.int p6), .unset, .unset, .unset, .unset, .unset, .unset, .unset, .unset, .unset] [(.int (3 : Int32)), (.int p1)]))
  refine A (XS.iand X0.here hx rfl (hb hby at_2) rfl) ?_
  show D (T0.setTop (mkF m 3 #[.val (.int p1), .val (.int p2), .val (.int p3), .val (.int p4), .val (.int p5), .val (.int p6), .unset, .unset, .unset, .unset, .unset, .unset, .unset, .unset, .unset] [(.int (p1 &&& (3 : Int32)))]))
  refine A (XS.iconst X0.here hx rfl (hb hby at_3)) ?_
  show D (T0.setTop (mkF m 4 #[.val (.int p1), .val (.int p2), .val (.int p3), .val (.int p4), .val (.int p5), .val (.int p6), .unset, .unset, .unset, .unset, .unset, .unset, .unset, .unset, .unset] [(.int (1 : Int32)), (.int (p1 &&& (3 : Int32)))]))
  refine A (XS.iadd X0.here hx rfl (hb hby at_4) rfl) ?_
  show D (T0.setTop (mkF m 5 #[.val (.int p1), .val (.int p2), .val (.int p3), .val (.int p4), .val (.int p5), .val (.int p6), .unset, .unset, .unset, .unset, .unset, .unset, .unset, .unset, .unset] [(.int ((p1 &&& (3 : Int32)) + (1 : Int32)))]))
  refine A (XS.istore X0.here hx rfl (hb hby at_5) rfl (l' := #[.val (.int p1), .val (.int p2), .val (.int p3), .val (.int p4), .val (.int p5), .val (.int p6), .val (.int ((p1 &&& (3 : Int32)) + (1 : Int32))), .unset, .unset, .unset, .unset, .unset, .unset, .unset, .unset]) rfl) ?_
  show D (T0.setTop (mkF m 7 #[.val (.int p1), .val (.int p2), .val (.int p3), .val (.int p4), .val (.int p5), .val (.int p6), .val (.int ((p1 &&& (3 : Int32)) + (1 : Int32))), .unset, .unset, .unset, .unset, .unset, .unset, .unset, .unset] []))
  suffices Kky : ∀ ky : Int32, ky = ((p1 &&& (3 : Int32)) + (1 : Int32)) → D (T0.setTop (mkF m 7 #[.val (.int p1), .val (.int p2), .val (.int p3), .val (.int p4), .val (.int p5), .val (.int p6), .val (.int ky), .unset, .unset, .unset, .unset, .unset, .unset, .unset, .unset] [])) from Kky _ rfl
  intro ky hky
  rcases own_keys hky with rfl | rfl | rfl | rfl
  · show D (T0.setTop (mkF m 7 #[.val (.int p1), .val (.int p2), .val (.int p3), .val (.int p4), .val (.int p5), .val (.int p6), .val (.int (1 : Int32)), .unset, .unset, .unset, .unset, .unset, .unset, .unset, .unset] []))
    refine A (XS.iloadN X0.here hx rfl (hb hby at_7) rfl) ?_
    show D (T0.setTop (mkF m 8 #[.val (.int p1), .val (.int p2), .val (.int p3), .val (.int p4), .val (.int p5), .val (.int p6), .val (.int (1 : Int32)), .unset, .unset, .unset, .unset, .unset, .unset, .unset, .unset] [(.int p2)]))
    refine A (X0.ldcInt hx hown (mvT hZ (hw _ (List.mem_of_getElem? (i := 0) rfl))) (g := (mkF m 8 #[.val (.int p1), .val (.int p2), .val (.int p3), .val (.int p4), .val (.int p5), .val (.int p6), .val (.int (1 : Int32)), .unset, .unset, .unset, .unset, .unset, .unset, .unset, .unset] [(.int p2)])) rfl (hb hby at_8) _) ?_
    show D (T0.setTop (mkF m 10 #[.val (.int p1), .val (.int p2), .val (.int p3), .val (.int p4), .val (.int p5), .val (.int p6), .val (.int (1 : Int32)), .unset, .unset, .unset, .unset, .unset, .unset, .unset, .unset] [(.int (2147483647 : Int32)), (.int p2)]))
    refine A (XS.iand X0.here hx rfl (hb hby at_10) rfl) ?_
    show D (T0.setTop (mkF m 11 #[.val (.int p1), .val (.int p2), .val (.int p3), .val (.int p4), .val (.int p5), .val (.int p6), .val (.int (1 : Int32)), .unset, .unset, .unset, .unset, .unset, .unset, .unset, .unset] [(.int (p2 &&& (2147483647 : Int32)))]))
    refine A (XS.iload X0.here hx rfl (hb hby at_11) rfl) ?_
    show D (T0.setTop (mkF m 13 #[.val (.int p1), .val (.int p2), .val (.int p3), .val (.int p4), .val (.int p5), .val (.int p6), .val (.int (1 : Int32)), .unset, .unset, .unset, .unset, .unset, .unset, .unset, .unset] [(.int (1 : Int32)), (.int (p2 &&& (2147483647 : Int32)))]))
    refine A (iremM X0 hx rfl (hb hby at_13) rfl (by decide)) ?_
    show D (T0.setTop (mkF m 14 #[.val (.int p1), .val (.int p2), .val (.int p3), .val (.int p4), .val (.int p5), .val (.int p6), .val (.int (1 : Int32)), .unset, .unset, .unset, .unset, .unset, .unset, .unset, .unset] [(.int ((p2 &&& (2147483647 : Int32)) % (1 : Int32)))]))
    refine A (XS.istore X0.here hx rfl (hb hby at_14) rfl (l' := #[.val (.int p1), .val (.int p2), .val (.int p3), .val (.int p4), .val (.int p5), .val (.int p6), .val (.int (1 : Int32)), .val (.int ((p2 &&& (2147483647 : Int32)) % (1 : Int32))), .unset, .unset, .unset, .unset, .unset, .unset, .unset]) rfl) ?_
    show D (T0.setTop (mkF m 16 #[.val (.int p1), .val (.int p2), .val (.int p3), .val (.int p4), .val (.int p5), .val (.int p6), .val (.int (1 : Int32)), .val (.int ((p2 &&& (2147483647 : Int32)) % (1 : Int32))), .unset, .unset, .unset, .unset, .unset, .unset, .unset] []))
    suffices Kx7_16 : ∀ x7_16 : Int32, x7_16 = ((p2 &&& (2147483647 : Int32)) % (1 : Int32)) → D (T0.setTop (mkF m 16 #[.val (.int p1), .val (.int p2), .val (.int p3), .val (.int p4), .val (.int p5), .val (.int p6), .val (.int (1 : Int32)), .val (.int x7_16), .unset, .unset, .unset, .unset, .unset, .unset, .unset] [])) from Kx7_16 _ rfl
    intro x7_16 hx7_16
    obtain ⟨k0, hk0, rfl⟩ := own_k_1 hx7_16
    show D (T0.setTop (mkF m 16 #[.val (.int p1), .val (.int p2), .val (.int p3), .val (.int p4), .val (.int p5), .val (.int p6), .val (.int (1 : Int32)), .val (.int (Int32.ofNat k0)), .unset, .unset, .unset, .unset, .unset, .unset, .unset] []))
    refine A (XS.iloadN X0.here hx rfl (hb hby at_16) rfl) ?_
    show D (T0.setTop (mkF m 17 #[.val (.int p1), .val (.int p2), .val (.int p3), .val (.int p4), .val (.int p5), .val (.int p6), .val (.int (1 : Int32)), .val (.int (Int32.ofNat k0)), .unset, .unset, .unset, .unset, .unset, .unset, .unset] [(.int p3)]))
    refine A (X0.ldcInt hx hown (mvT hZ (hw _ (List.mem_of_getElem? (i := 0) rfl))) (g := (mkF m 17 #[.val (.int p1), .val (.int p2), .val (.int p3), .val (.int p4), .val (.int p5), .val (.int p6), .val (.int (1 : Int32)), .val (.int (Int32.ofNat k0)), .unset, .unset, .unset, .unset, .unset, .unset, .unset] [(.int p3)])) rfl (hb hby at_17) _) ?_
    show D (T0.setTop (mkF m 19 #[.val (.int p1), .val (.int p2), .val (.int p3), .val (.int p4), .val (.int p5), .val (.int p6), .val (.int (1 : Int32)), .val (.int (Int32.ofNat k0)), .unset, .unset, .unset, .unset, .unset, .unset, .unset] [(.int (2147483647 : Int32)), (.int p3)]))
    refine A (XS.iand X0.here hx rfl (hb hby at_19) rfl) ?_
    show D (T0.setTop (mkF m 20 #[.val (.int p1), .val (.int p2), .val (.int p3), .val (.int p4), .val (.int p5), .val (.int p6), .val (.int (1 : Int32)), .val (.int (Int32.ofNat k0)), .unset, .unset, .unset, .unset, .unset, .unset, .unset] [(.int (p3 &&& (2147483647 : Int32)))]))
    refine A (XS.iload X0.here hx rfl (hb hby at_20) rfl) ?_
    show D (T0.setTop (mkF m 22 #[.val (.int p1), .val (.int p2), .val (.int p3), .val (.int p4), .val (.int p5), .val (.int p6), .val (.int (1 : Int32)), .val (.int (Int32.ofNat k0)), .unset, .unset, .unset, .unset, .unset, .unset, .unset] [(.int (1 : Int32)), (.int (p3 &&& (2147483647 : Int32)))]))
    refine A (iremM X0 hx rfl (hb hby at_22) rfl (by decide)) ?_
    show D (T0.setTop (mkF m 23 #[.val (.int p1), .val (.int p2), .val (.int p3), .val (.int p4), .val (.int p5), .val (.int p6), .val (.int (1 : Int32)), .val (.int (Int32.ofNat k0)), .unset, .unset, .unset, .unset, .unset, .unset, .unset] [(.int ((p3 &&& (2147483647 : Int32)) % (1 : Int32)))]))
    refine A (XS.istore X0.here hx rfl (hb hby at_23) rfl (l' := #[.val (.int p1), .val (.int p2), .val (.int p3), .val (.int p4), .val (.int p5), .val (.int p6), .val (.int (1 : Int32)), .val (.int (Int32.ofNat k0)), .val (.int ((p3 &&& (2147483647 : Int32)) % (1 : Int32))), .unset, .unset, .unset, .unset, .unset, .unset]) rfl) ?_
    show D (T0.setTop (mkF m 25 #[.val (.int p1), .val (.int p2), .val (.int p3), .val (.int p4), .val (.int p5), .val (.int p6), .val (.int (1 : Int32)), .val (.int (Int32.ofNat k0)), .val (.int ((p3 &&& (2147483647 : Int32)) % (1 : Int32))), .unset, .unset, .unset, .unset, .unset, .unset] []))
    suffices Kx8_25 : ∀ x8_25 : Int32, x8_25 = ((p3 &&& (2147483647 : Int32)) % (1 : Int32)) → D (T0.setTop (mkF m 25 #[.val (.int p1), .val (.int p2), .val (.int p3), .val (.int p4), .val (.int p5), .val (.int p6), .val (.int (1 : Int32)), .val (.int (Int32.ofNat k0)), .val (.int x8_25), .unset, .unset, .unset, .unset, .unset, .unset] [])) from Kx8_25 _ rfl
    intro x8_25 hx8_25
    obtain ⟨k1, hk1, rfl⟩ := own_k_1 hx8_25
    show D (T0.setTop (mkF m 25 #[.val (.int p1), .val (.int p2), .val (.int p3), .val (.int p4), .val (.int p5), .val (.int p6), .val (.int (1 : Int32)), .val (.int (Int32.ofNat k0)), .val (.int (Int32.ofNat k1)), .unset, .unset, .unset, .unset, .unset, .unset] []))
    refine A (XS.iloadN X0.here hx rfl (hb hby at_25) rfl) ?_
    show D (T0.setTop (mkF m 26 #[.val (.int p1), .val (.int p2), .val (.int p3), .val (.int p4), .val (.int p5), .val (.int p6), .val (.int (1 : Int32)), .val (.int (Int32.ofNat k0)), .val (.int (Int32.ofNat k1)), .unset, .unset, .unset, .unset, .unset, .unset] [(.int p4)]))
    refine A (X0.ldcInt hx hown (mvT hZ (hw _ (List.mem_of_getElem? (i := 0) rfl))) (g := (mkF m 26 #[.val (.int p1), .val (.int p2), .val (.int p3), .val (.int p4), .val (.int p5), .val (.int p6), .val (.int (1 : Int32)), .val (.int (Int32.ofNat k0)), .val (.int (Int32.ofNat k1)), .unset, .unset, .unset, .unset, .unset, .unset] [(.int p4)])) rfl (hb hby at_26) _) ?_
    show D (T0.setTop (mkF m 28 #[.val (.int p1), .val (.int p2), .val (.int p3), .val (.int p4), .val (.int p5), .val (.int p6), .val (.int (1 : Int32)), .val (.int (Int32.ofNat k0)), .val (.int (Int32.ofNat k1)), .unset, .unset, .unset, .unset, .unset, .unset] [(.int (2147483647 : Int32)), (.int p4)]))
    refine A (XS.iand X0.here hx rfl (hb hby at_28) rfl) ?_
    show D (T0.setTop (mkF m 29 #[.val (.int p1), .val (.int p2), .val (.int p3), .val (.int p4), .val (.int p5), .val (.int p6), .val (.int (1 : Int32)), .val (.int (Int32.ofNat k0)), .val (.int (Int32.ofNat k1)), .unset, .unset, .unset, .unset, .unset, .unset] [(.int (p4 &&& (2147483647 : Int32)))]))
    refine A (XS.iload X0.here hx rfl (hb hby at_29) rfl) ?_
    show D (T0.setTop (mkF m 31 #[.val (.int p1), .val (.int p2), .val (.int p3), .val (.int p4), .val (.int p5), .val (.int p6), .val (.int (1 : Int32)), .val (.int (Int32.ofNat k0)), .val (.int (Int32.ofNat k1)), .unset, .unset, .unset, .unset, .unset, .unset] [(.int (1 : Int32)), (.int (p4 &&& (2147483647 : Int32)))]))
    refine A (iremM X0 hx rfl (hb hby at_31) rfl (by decide)) ?_
    show D (T0.setTop (mkF m 32 #[.val (.int p1), .val (.int p2), .val (.int p3), .val (.int p4), .val (.int p5), .val (.int p6), .val (.int (1 : Int32)), .val (.int (Int32.ofNat k0)), .val (.int (Int32.ofNat k1)), .unset, .unset, .unset, .unset, .unset, .unset] [(.int ((p4 &&& (2147483647 : Int32)) % (1 : Int32)))]))
    refine A (XS.istore X0.here hx rfl (hb hby at_32) rfl (l' := #[.val (.int p1), .val (.int p2), .val (.int p3), .val (.int p4), .val (.int p5), .val (.int p6), .val (.int (1 : Int32)), .val (.int (Int32.ofNat k0)), .val (.int (Int32.ofNat k1)), .val (.int ((p4 &&& (2147483647 : Int32)) % (1 : Int32))), .unset, .unset, .unset, .unset, .unset]) rfl) ?_
    show D (T0.setTop (mkF m 34 #[.val (.int p1), .val (.int p2), .val (.int p3), .val (.int p4), .val (.int p5), .val (.int p6), .val (.int (1 : Int32)), .val (.int (Int32.ofNat k0)), .val (.int (Int32.ofNat k1)), .val (.int ((p4 &&& (2147483647 : Int32)) % (1 : Int32))), .unset, .unset, .unset, .unset, .unset] []))
    suffices Kx9_34 : ∀ x9_34 : Int32, x9_34 = ((p4 &&& (2147483647 : Int32)) % (1 : Int32)) → D (T0.setTop (mkF m 34 #[.val (.int p1), .val (.int p2), .val (.int p3), .val (.int p4), .val (.int p5), .val (.int p6), .val (.int (1 : Int32)), .val (.int (Int32.ofNat k0)), .val (.int (Int32.ofNat k1)), .val (.int x9_34), .unset, .unset, .unset, .unset, .unset] [])) from Kx9_34 _ rfl
    intro x9_34 hx9_34
    obtain ⟨k2, hk2, rfl⟩ := own_k_1 hx9_34
    show D (T0.setTop (mkF m 34 #[.val (.int p1), .val (.int p2), .val (.int p3), .val (.int p4), .val (.int p5), .val (.int p6), .val (.int (1 : Int32)), .val (.int (Int32.ofNat k0)), .val (.int (Int32.ofNat k1)), .val (.int (Int32.ofNat k2)), .unset, .unset, .unset, .unset, .unset] []))
    refine A (XS.iload X0.here hx rfl (hb hby at_34) rfl) ?_
    show D (T0.setTop (mkF m 36 #[.val (.int p1), .val (.int p2), .val (.int p3), .val (.int p4), .val (.int p5), .val (.int p6), .val (.int (1 : Int32)), .val (.int (Int32.ofNat k0)), .val (.int (Int32.ofNat k1)), .val (.int (Int32.ofNat k2)), .unset, .unset, .unset, .unset, .unset] [(.int p5)]))
    refine A (X0.ldcInt hx hown (mvT hZ (hw _ (List.mem_of_getElem? (i := 0) rfl))) (g := (mkF m 36 #[.val (.int p1), .val (.int p2), .val (.int p3), .val (.int p4), .val (.int p5), .val (.int p6), .val (.int (1 : Int32)), .val (.int (Int32.ofNat k0)), .val (.int (Int32.ofNat k1)), .val (.int (Int32.ofNat k2)), .unset, .unset, .unset, .unset, .unset] [(.int p5)])) rfl (hb hby at_36) _) ?_
    show D (T0.setTop (mkF m 38 #[.val (.int p1), .val (.int p2), .val (.int p3), .val (.int p4), .val (.int p5), .val (.int p6), .val (.int (1 : Int32)), .val (.int (Int32.ofNat k0)), .val (.int (Int32.ofNat k1)), .val (.int (Int32.ofNat k2)), .unset, .unset, .unset, .unset, .unset] [(.int (2147483647 : Int32)), (.int p5)]))
    refine A (XS.iand X0.here hx rfl (hb hby at_38) rfl) ?_
    show D (T0.setTop (mkF m 39 #[.val (.int p1), .val (.int p2), .val (.int p3), .val (.int p4), .val (.int p5), .val (.int p6), .val (.int (1 : Int32)), .val (.int (Int32.ofNat k0)), .val (.int (Int32.ofNat k1)), .val (.int (Int32.ofNat k2)), .unset, .unset, .unset, .unset, .unset] [(.int (p5 &&& (2147483647 : Int32)))]))
    refine A (XS.iload X0.here hx rfl (hb hby at_39) rfl) ?_
    show D (T0.setTop (mkF m 41 #[.val (.int p1), .val (.int p2), .val (.int p3), .val (.int p4), .val (.int p5), .val (.int p6), .val (.int (1 : Int32)), .val (.int (Int32.ofNat k0)), .val (.int (Int32.ofNat k1)), .val (.int (Int32.ofNat k2)), .unset, .unset, .unset, .unset, .unset] [(.int (1 : Int32)), (.int (p5 &&& (2147483647 : Int32)))]))
    refine A (iremM X0 hx rfl (hb hby at_41) rfl (by decide)) ?_
    show D (T0.setTop (mkF m 42 #[.val (.int p1), .val (.int p2), .val (.int p3), .val (.int p4), .val (.int p5), .val (.int p6), .val (.int (1 : Int32)), .val (.int (Int32.ofNat k0)), .val (.int (Int32.ofNat k1)), .val (.int (Int32.ofNat k2)), .unset, .unset, .unset, .unset, .unset] [(.int ((p5 &&& (2147483647 : Int32)) % (1 : Int32)))]))
    refine A (XS.istore X0.here hx rfl (hb hby at_42) rfl (l' := #[.val (.int p1), .val (.int p2), .val (.int p3), .val (.int p4), .val (.int p5), .val (.int p6), .val (.int (1 : Int32)), .val (.int (Int32.ofNat k0)), .val (.int (Int32.ofNat k1)), .val (.int (Int32.ofNat k2)), .val (.int ((p5 &&& (2147483647 : Int32)) % (1 : Int32))), .unset, .unset, .unset, .unset]) rfl) ?_
    show D (T0.setTop (mkF m 44 #[.val (.int p1), .val (.int p2), .val (.int p3), .val (.int p4), .val (.int p5), .val (.int p6), .val (.int (1 : Int32)), .val (.int (Int32.ofNat k0)), .val (.int (Int32.ofNat k1)), .val (.int (Int32.ofNat k2)), .val (.int ((p5 &&& (2147483647 : Int32)) % (1 : Int32))), .unset, .unset, .unset, .unset] []))
    suffices Kx10_44 : ∀ x10_44 : Int32, x10_44 = ((p5 &&& (2147483647 : Int32)) % (1 : Int32)) → D (T0.setTop (mkF m 44 #[.val (.int p1), .val (.int p2), .val (.int p3), .val (.int p4), .val (.int p5), .val (.int p6), .val (.int (1 : Int32)), .val (.int (Int32.ofNat k0)), .val (.int (Int32.ofNat k1)), .val (.int (Int32.ofNat k2)), .val (.int x10_44), .unset, .unset, .unset, .unset] [])) from Kx10_44 _ rfl
    intro x10_44 hx10_44
    obtain ⟨k3, hk3, rfl⟩ := own_k_1 hx10_44
    show D (T0.setTop (mkF m 44 #[.val (.int p1), .val (.int p2), .val (.int p3), .val (.int p4), .val (.int p5), .val (.int p6), .val (.int (1 : Int32)), .val (.int (Int32.ofNat k0)), .val (.int (Int32.ofNat k1)), .val (.int (Int32.ofNat k2)), .val (.int (Int32.ofNat k3)), .unset, .unset, .unset, .unset] []))
    refine A (XS.iload X0.here hx rfl (hb hby at_44) rfl) ?_
    show D (T0.setTop (mkF m 46 #[.val (.int p1), .val (.int p2), .val (.int p3), .val (.int p4), .val (.int p5), .val (.int p6), .val (.int (1 : Int32)), .val (.int (Int32.ofNat k0)), .val (.int (Int32.ofNat k1)), .val (.int (Int32.ofNat k2)), .val (.int (Int32.ofNat k3)), .unset, .unset, .unset, .unset] [(.int p6)]))
    refine A (X0.ldcInt hx hown (mvT hZ (hw _ (List.mem_of_getElem? (i := 0) rfl))) (g := (mkF m 46 #[.val (.int p1), .val (.int p2), .val (.int p3), .val (.int p4), .val (.int p5), .val (.int p6), .val (.int (1 : Int32)), .val (.int (Int32.ofNat k0)), .val (.int (Int32.ofNat k1)), .val (.int (Int32.ofNat k2)), .val (.int (Int32.ofNat k3)), .unset, .unset, .unset, .unset] [(.int p6)])) rfl (hb hby at_46) _) ?_
    show D (T0.setTop (mkF m 48 #[.val (.int p1), .val (.int p2), .val (.int p3), .val (.int p4), .val (.int p5), .val (.int p6), .val (.int (1 : Int32)), .val (.int (Int32.ofNat k0)), .val (.int (Int32.ofNat k1)), .val (.int (Int32.ofNat k2)), .val (.int (Int32.ofNat k3)), .unset, .unset, .unset, .unset] [(.int (2147483647 : Int32)), (.int p6)]))
    refine A (XS.iand X0.here hx rfl (hb hby at_48) rfl) ?_
    show D (T0.setTop (mkF m 49 #[.val (.int p1), .val (.int p2), .val (.int p3), .val (.int p4), .val (.int p5), .val (.int p6), .val (.int (1 : Int32)), .val (.int (Int32.ofNat k0)), .val (.int (Int32.ofNat k1)), .val (.int (Int32.ofNat k2)), .val (.int (Int32.ofNat k3)), .unset, .unset, .unset, .unset] [(.int (p6 &&& (2147483647 : Int32)))]))
    refine A (XS.iload X0.here hx rfl (hb hby at_49) rfl) ?_
    show D (T0.setTop (mkF m 51 #[.val (.int p1), .val (.int p2), .val (.int p3), .val (.int p4), .val (.int p5), .val (.int p6), .val (.int (1 : Int32)), .val (.int (Int32.ofNat k0)), .val (.int (Int32.ofNat k1)), .val (.int (Int32.ofNat k2)), .val (.int (Int32.ofNat k3)), .unset, .unset, .unset, .unset] [(.int (1 : Int32)), (.int (p6 &&& (2147483647 : Int32)))]))
    refine A (iremM X0 hx rfl (hb hby at_51) rfl (by decide)) ?_
    show D (T0.setTop (mkF m 52 #[.val (.int p1), .val (.int p2), .val (.int p3), .val (.int p4), .val (.int p5), .val (.int p6), .val (.int (1 : Int32)), .val (.int (Int32.ofNat k0)), .val (.int (Int32.ofNat k1)), .val (.int (Int32.ofNat k2)), .val (.int (Int32.ofNat k3)), .unset, .unset, .unset, .unset] [(.int ((p6 &&& (2147483647 : Int32)) % (1 : Int32)))]))
    refine A (XS.istore X0.here hx rfl (hb hby at_52) rfl (l' := #[.val (.int p1), .val (.int p2), .val (.int p3), .val (.int p4), .val (.int p5), .val (.int p6), .val (.int (1 : Int32)), .val (.int (Int32.ofNat k0)), .val (.int (Int32.ofNat k1)), .val (.int (Int32.ofNat k2)), .val (.int (Int32.ofNat k3)), .val (.int ((p6 &&& (2147483647 : Int32)) % (1 : Int32))), .unset, .unset, .unset]) rfl) ?_
    show D (T0.setTop (mkF m 54 #[.val (.int p1), .val (.int p2), .val (.int p3), .val (.int p4), .val (.int p5), .val (.int p6), .val (.int (1 : Int32)), .val (.int (Int32.ofNat k0)), .val (.int (Int32.ofNat k1)), .val (.int (Int32.ofNat k2)), .val (.int (Int32.ofNat k3)), .val (.int ((p6 &&& (2147483647 : Int32)) % (1 : Int32))), .unset, .unset, .unset] []))
    suffices Kx11_54 : ∀ x11_54 : Int32, x11_54 = ((p6 &&& (2147483647 : Int32)) % (1 : Int32)) → D (T0.setTop (mkF m 54 #[.val (.int p1), .val (.int p2), .val (.int p3), .val (.int p4), .val (.int p5), .val (.int p6), .val (.int (1 : Int32)), .val (.int (Int32.ofNat k0)), .val (.int (Int32.ofNat k1)), .val (.int (Int32.ofNat k2)), .val (.int (Int32.ofNat k3)), .val (.int x11_54), .unset, .unset, .unset] [])) from Kx11_54 _ rfl
    intro x11_54 hx11_54
    obtain ⟨q, hq, rfl⟩ := own_k_1 hx11_54
    show D (T0.setTop (mkF m 54 #[.val (.int p1), .val (.int p2), .val (.int p3), .val (.int p4), .val (.int p5), .val (.int p6), .val (.int (1 : Int32)), .val (.int (Int32.ofNat k0)), .val (.int (Int32.ofNat k1)), .val (.int (Int32.ofNat k2)), .val (.int (Int32.ofNat k3)), .val (.int (Int32.ofNat q)), .unset, .unset, .unset] []))
    refine A (XS.iconst X0.here hx rfl (hb hby at_54)) ?_
    show D (T0.setTop (mkF m 55 #[.val (.int p1), .val (.int p2), .val (.int p3), .val (.int p4), .val (.int p5), .val (.int p6), .val (.int (1 : Int32)), .val (.int (Int32.ofNat k0)), .val (.int (Int32.ofNat k1)), .val (.int (Int32.ofNat k2)), .val (.int (Int32.ofNat k3)), .val (.int (Int32.ofNat q)), .unset, .unset, .unset] [(.int (4 : Int32))]))
    refine Adv.newI A X0 hx hZ (aty := .int) (hw _ (List.mem_of_getElem? (i := 1) rfl)) e0 (n := 4) (by decide) 4 (by decide) (by decide) rfl (ad := "[I") (by decide) (by decide) (by decide) (g := (mkF m 55 #[.val (.int p1), .val (.int p2), .val (.int p3), .val (.int p4), .val (.int p5), .val (.int p6), .val (.int (1 : Int32)), .val (.int (Int32.ofNat k0)), .val (.int (Int32.ofNat k1)), .val (.int (Int32.ofNat k2)), .val (.int (Int32.ofNat k3)), .val (.int (Int32.ofNat q)), .unset, .unset, .unset] [(.int (4 : Int32))])) rfl rfl (hb hby at_55) ?_
    intro T1 h1 b1 q_b1 X1 e1 E1 V_b1 EA_b1
    have g_b1 : n0 ≤ b1 := Nat.le_trans Z0 (Nat.le_of_eq q_b1.symm)
    have Z_1 : n0 ≤ h1.size := Nat.le_trans Z0 E1.1
    show D (T1.setTop (mkF m 57 #[.val (.int p1), .val (.int p2), .val (.int p3), .val (.int p4), .val (.int p5), .val (.int p6), .val (.int (1 : Int32)), .val (.int (Int32.ofNat k0)), .val (.int (Int32.ofNat k1)), .val (.int (Int32.ofNat k2)), .val (.int (Int32.ofNat k3)), .val (.int (Int32.ofNat q)), .unset, .unset, .unset] [(.ref b1)]))
    refine A (XS.astore X1.here hx rfl (hb hby at_57) rfl rfl (l' := #[.val (.int p1), .val (.int p2), .val (.int p3), .val (.int p4), .val (.int p5), .val (.int p6), .val (.int (1 : Int32)), .val (.int (Int32.ofNat k0)), .val (.int (Int32.ofNat k1)), .val (.int (Int32.ofNat k2)), .val (.int (Int32.ofNat k3)), .val (.int (Int32.ofNat q)), .val (.ref b1), .unset, .unset]) rfl) ?_
    show D (T1.setTop (mkF m 59 #[.val (.int p1), .val (.int p2), .val (.int p3), .val (.int p4), .val (.int p5), .val (.int p6), .val (.int (1 : Int32)), .val (.int (Int32.ofNat k0)), .val (.int (Int32.ofNat k1)), .val (.int (Int32.ofNat k2)), .val (.int (Int32.ofNat k3)), .val (.int (Int32.ofNat q)), .val (.ref b1), .unset, .unset] []))
    refine A (XS.aload X1.here hx rfl (hb hby at_59) rfl rfl) ?_
    show D (T1.setTop (mkF m 61 #[.val (.int p1), .val (.int p2), .val (.int p3), .val (.int p4), .val (.int p5), .val (.int p6), .val (.int (1 : Int32)), .val (.int (Int32.ofNat k0)), .val (.int (Int32.ofNat k1)), .val (.int (Int32.ofNat k2)), .val (.int (Int32.ofNat k3)), .val (.int (Int32.ofNat q)), .val (.ref b1), .unset, .unset] [(.ref b1)]))
    refine A (XS.iconst X1.here hx rfl (hb hby at_61)) ?_
    show D (T1.setTop (mkF m 62 #[.val (.int p1), .val (.int p2), .val (.int p3), .val (.int p4), .val (.int p5), .val (.int p6), .val (.int (1 : Int32)), .val (.int (Int32.ofNat k0)), .val (.int (Int32.ofNat k1)), .val (.int (Int32.ofNat k2)), .val (.int (Int32.ofNat k3)), .val (.int (Int32.ofNat q)), .val (.ref b1), .unset, .unset] [(.int (0 : Int32)), (.ref b1)]))
    refine A (XS.iload X1.here hx rfl (hb hby at_62) rfl) ?_
    show D (T1.setTop (mkF m 64 #[.val (.int p1), .val (.int p2), .val (.int p3), .val (.int p4), .val (.int p5), .val (.int p6), .val (.int (1 : Int32)), .val (.int (Int32.ofNat k0)), .val (.int (Int32.ofNat k1)), .val (.int (Int32.ofNat k2)), .val (.int (Int32.ofNat k3)), .val (.int (Int32.ofNat q)), .val (.ref b1), .unset, .unset] [(.int (Int32.ofNat k0)), (.int (0 : Int32)), (.ref b1)]))
    refine Adv.stI A X1 hx hZ e1 V_b1 (k := 0) (by decide) (by decide) (g := (mkF m 64 #[.val (.int p1), .val (.int p2), .val (.int p3), .val (.int p4), .val (.int p5), .val (.int p6), .val (.int (1 : Int32)), .val (.int (Int32.ofNat k0)), .val (.int (Int32.ofNat k1)), .val (.int (Int32.ofNat k2)), .val (.int (Int32.ofNat k3)), .val (.int (Int32.ofNat q)), .val (.ref b1), .unset, .unset] [(.int (Int32.ofNat k0)), (.int (0 : Int32)), (.ref b1)])) rfl rfl (hb hby at_64) ?_
    intro T2 h2 X2 e2 W2 Vb1_2
    have N2 := Fr.snoc X2 (Fr.nil n0) g_b1
    have Z_2 : n0 ≤ h2.size := Nat.le_trans Z_1 (Nat.le_of_eq W2.size.symm)
    show D (T2.setTop (mkF m 65 #[.val (.int p1), .val (.int p2), .val (.int p3), .val (.int p4), .val (.int p5), .val (.int p6), .val (.int (1 : Int32)), .val (.int (Int32.ofNat k0)), .val (.int (Int32.ofNat k1)), .val (.int (Int32.ofNat k2)), .val (.int (Int32.ofNat k3)), .val (.int (Int32.ofNat q)), .val (.ref b1), .unset, .unset] []))
    obtain ⟨fn3, hfn3⟩ : ∃ z : Nat → Int32, z = (fun ix => if ix = 0 then (Int32.ofNat k0) else (fun _ => 0) ix) := ⟨_, rfl⟩
    rw [← hfn3] at Vb1_2
    refine A (XS.aload X2.here hx rfl (hb hby at_65) rfl rfl) ?_
    show D (T2.setTop (mkF m 67 #[.val (.int p1), .val (.int p2), .val (.int p3), .val (.int p4), .val (.int p5), .val (.int p6), .val (.int (1 : Int32)), .val (.int (Int32.ofNat k0)), .val (.int (Int32.ofNat k1)), .val (.int (Int32.ofNat k2)), .val (.int (Int32.ofNat k3)), .val (.int (Int32.ofNat q)), .val (.ref b1), .unset, .unset] [(.ref b1)]))
    refine A (XS.iconst X2.here hx rfl (hb hby at_67)) ?_
    show D (T2.setTop (mkF m 68 #[.val (.int p1), .val (.int p2), .val (.int p3), .val (.int p4), .val (.int p5), .val (.int p6), .val (.int (1 : Int32)), .val (.int (Int32.ofNat k0)), .val (.int (Int32.ofNat k1)), .val (.int (Int32.ofNat k2)), .val (.int (Int32.ofNat k3)), .val (.int (Int32.ofNat q)), .val (.ref b1), .unset, .unset] [(.int (1 : Int32)), (.ref b1)]))
    refine A (XS.iload X2.here hx rfl (hb hby at_68) rfl) ?_
    show D (T2.setTop (mkF m 70 #[.val (.int p1), .val (.int p2), .val (.int p3), .val (.int p4), .val (.int p5), .val (.int p6), .val (.int (1 : Int32)), .val (.int (Int32.ofNat k0)), .val (.int (Int32.ofNat k1)), .val (.int (Int32.ofNat k2)), .val (.int (Int32.ofNat k3)), .val (.int (Int32.ofNat q)), .val (.ref b1), .unset, .unset] [(.int (Int32.ofNat k1)), (.int (1 : Int32)), (.ref b1)]))
    refine Adv.stI A X2 hx hZ e2 Vb1_2 (k := 1) (by decide) (by decide) (g := (mkF m 70 #[.val (.int p1), .val (.int p2), .val (.int p3), .val (.int p4), .val (.int p5), .val (.int p6), .val (.int (1 : Int32)), .val (.int (Int32.ofNat k0)), .val (.int (Int32.ofNat k1)), .val (.int (Int32.ofNat k2)), .val (.int (Int32.ofNat k3)), .val (.int (Int32.ofNat q)), .val (.ref b1), .unset, .unset] [(.int (Int32.ofNat k1)), (.int (1 : Int32)), (.ref b1)])) rfl rfl (hb hby at_70) ?_
    intro T4 h4 X4 e4 W4 Vb1_4
    have N4 := Fr.snoc X4 N2 g_b1
    have Z_4 : n0 ≤ h4.size := Nat.le_trans Z_2 (Nat.le_of_eq W4.size.symm)
    show D (T4.setTop (mkF m 71 #[.val (.int p1), .val (.int p2), .val (.int p3), .val (.int p4), .val (.int p5), .val (.int p6), .val (.int (1 : Int32)), .val (.int (Int32.ofNat k0)), .val (.int (Int32.ofNat k1)), .val (.int (Int32.ofNat k2)), .val (.int (Int32.ofNat k3)), .val (.int (Int32.ofNat q)), .val (.ref b1), .unset, .unset] []))
    obtain ⟨fn5, hfn5⟩ : ∃ z : Nat → Int32, z = (fun ix => if ix = 1 then (Int32.ofNat k1) else fn3 ix) := ⟨_, rfl⟩
    rw [← hfn5] at Vb1_4
    refine A (XS.aload X4.here hx rfl (hb hby at_71) rfl rfl) ?_
    show D (T4.setTop (mkF m 73 #[.val (.int p1), .val (.int p2), .val (.int p3), .val (.int p4), .val (.int p5), .val (.int p6), .val (.int (1 : Int32)), .val (.int (Int32.ofNat k0)), .val (.int (Int32.ofNat k1)), .val (.int (Int32.ofNat k2)), .val (.int (Int32.ofNat k3)), .val (.int (Int32.ofNat q)), .val (.ref b1), .unset, .unset] [(.ref b1)]))
    refine A (XS.iconst X4.here hx rfl (hb hby at_73)) ?_
    show D (T4.setTop (mkF m 74 #[.val (.int p1), .val (.int p2), .val (.int p3), .val (.int p4), .val (.int p5), .val (.int p6), .val (.int (1 : Int32)), .val (.int (Int32.ofNat k0)), .val (.int (Int32.ofNat k1)), .val (.int (Int32.ofNat k2)), .val (.int (Int32.ofNat k3)), .val (.int (Int32.ofNat q)), .val (.ref b1), .unset, .unset] [(.int (2 : Int32)), (.ref b1)]))
    refine A (XS.iload X4.here hx rfl (hb hby at_74) rfl) ?_
    show D (T4.setTop (mkF m 76 #[.val (.int p1), .val (.int p2), .val (.int p3), .val (.int p4), .val (.int p5), .val (.int p6), .val (.int (1 : Int32)), .val (.int (Int32.ofNat k0)), .val (.int (Int32.ofNat k1)), .val (.int (Int32.ofNat k2)), .val (.int (Int32.ofNat k3)), .val (.int (Int32.ofNat q)), .val (.ref b1), .unset, .unset] [(.int (Int32.ofNat k2)), (.int (2 : Int32)), (.ref b1)]))
    refine Adv.stI A X4 hx hZ e4 Vb1_4 (k := 2) (by decide) (by decide) (g := (mkF m 76 #[.val (.int p1), .val (.int p2), .val (.int p3), .val (.int p4), .val (.int p5), .val (.int p6), .val (.int (1 : Int32)), .val (.int (Int32.ofNat k0)), .val (.int (Int32.ofNat k1)), .val (.int (Int32.ofNat k2)), .val (.int (Int32.ofNat k3)), .val (.int (Int32.ofNat q)), .val (.ref b1), .unset, .unset] [(.int (Int32.ofNat k2)), (.int (2 : Int32)), (.ref b1)])) rfl rfl (hb hby at_76) ?_
    intro T6 h6 X6 e6 W6 Vb1_6
    have N6 := Fr.snoc X6 N4 g_b1
    have Z_6 : n0 ≤ h6.size := Nat.le_trans Z_4 (Nat.le_of_eq W6.size.symm)
    show D (T6.setTop (mkF m 77 #[.val (.int p1), .val (.int p2), .val (.int p3), .val (.int p4), .val (.int p5), .val (.int p6), .val (.int (1 : Int32)), .val (.int (Int32.ofNat k0)), .val (.int (Int32.ofNat k1)), .val (.int (Int32.ofNat k2)), .val (.int (Int32.ofNat k3)), .val (.int (Int32.ofNat q)), .val (.ref b1), .unset, .unset] []))
    obtain ⟨fn7, hfn7⟩ : ∃ z : Nat → Int32, z = (fun ix => if ix = 2 then (Int32.ofNat k2) else fn5 ix) := ⟨_, rfl⟩
    rw [← hfn7] at Vb1_6
    refine A (XS.aload X6.here hx rfl (hb hby at_77) rfl rfl) ?_
    show D (T6.setTop (mkF m 79 #[.val (.int p1), .val (.int p2), .val (.int p3), .val (.int p4), .val (.int p5), .val (.int p6), .val (.int (1 : Int32)), .val (.int (Int32.ofNat k0)), .val (.int (Int32.ofNat k1)), .val (.int (Int32.ofNat k2)), .val (.int (Int32.ofNat k3)), .val (.int (Int32.ofNat q)), .val (.ref b1), .unset, .unset] [(.ref b1)]))
    refine A (XS.iconst X6.here hx rfl (hb hby at_79)) ?_
    show D (T6.setTop (mkF m 80 #[.val (.int p1), .val (.int p2), .val (.int p3), .val (.int p4), .val (.int p5), .val (.int p6), .val (.int (1 : Int32)), .val (.int (Int32.ofNat k0)), .val (.int (Int32.ofNat k1)), .val (.int (Int32.ofNat k2)), .val (.int (Int32.ofNat k3)), .val (.int (Int32.ofNat q)), .val (.ref b1), .unset, .unset] [(.int (3 : Int32)), (.ref b1)]))
    refine A (XS.iload X6.here hx rfl (hb hby at_80) rfl) ?_
    show D (T6.setTop (mkF m 82 #[.val (.int p1), .val (.int p2), .val (.int p3), .val (.int p4), .val (.int p5), .val (.int p6), .val (.int (1 : Int32)), .val (.int (Int32.ofNat k0)), .val (.int (Int32.ofNat k1)), .val (.int (Int32.ofNat k2)), .val (.int (Int32.ofNat k3)), .val (.int (Int32.ofNat q)), .val (.ref b1), .unset, .unset] [(.int (Int32.ofNat k3)), (.int (3 : Int32)), (.ref b1)]))
    refine Adv.stI A X6 hx hZ e6 Vb1_6 (k := 3) (by decide) (by decide) (g := (mkF m 82 #[.val (.int p1), .val (.int p2), .val (.int p3), .val (.int p4), .val (.int p5), .val (.int p6), .val (.int (1 : Int32)), .val (.int (Int32.ofNat k0)), .val (.int (Int32.ofNat k1)), .val (.int (Int32.ofNat k2)), .val (.int (Int32.ofNat k3)), .val (.int (Int32.ofNat q)), .val (.ref b1), .unset, .unset] [(.int (Int32.ofNat k3)), (.int (3 : Int32)), (.ref b1)])) rfl rfl (hb hby at_82) ?_
    intro T8 h8 X8 e8 W8 Vb1_8
    have N8 := Fr.snoc X8 N6 g_b1
    have Z_8 : n0 ≤ h8.size := Nat.le_trans Z_6 (Nat.le_of_eq W8.size.symm)
    show D (T8.setTop (mkF m 83 #[.val (.int p1), .val (.int p2), .val (.int p3), .val (.int p4), .val (.int p5), .val (.int p6), .val (.int (1 : Int32)), .val (.int (Int32.ofNat k0)), .val (.int (Int32.ofNat k1)), .val (.int (Int32.ofNat k2)), .val (.int (Int32.ofNat k3)), .val (.int (Int32.ofNat q)), .val (.ref b1), .unset, .unset] []))
    obtain ⟨fn9, hfn9⟩ : ∃ z : Nat → Int32, z = (fun ix => if ix = 3 then (Int32.ofNat k3) else fn7 ix) := ⟨_, rfl⟩
    rw [← hfn9] at Vb1_8
    have Vk : ArI Z h8 b1 .int 4 (own_ka k0 k1 k2 k3) := Vb1_8.eqf (fun i hi => by subst hfn9; subst hfn7; subst hfn5; subst hfn3; rcases (by omega : i = 0 ∨ i = 1 ∨ i = 2 ∨ i = 3) with rfl | rfl | rfl | rfl <;> rfl)
    obtain ⟨T10, h10, X10, e10, E10, A10, D10, -, st10⟩ := newO X8 hx hZ hown (hw _ (List.mem_of_getElem? (i := 2) rfl)) (hw _ (List.mem_of_getElem? (i := 3) rfl)) (hw _ (List.mem_of_getElem? (i := 4) rfl)) e8 (g := (mkF m 83 #[.val (.int p1), .val (.int p2), .val (.int p3), .val (.int p4), .val (.int p5), .val (.int p6), .val (.int (1 : Int32)), .val (.int (Int32.ofNat k0)), .val (.int (Int32.ofNat k1)), .val (.int (Int32.ofNat k2)), .val (.int (Int32.ofNat k3)), .val (.int (Int32.ofNat q)), .val (.ref b1), .unset, .unset] [])) rfl (hb hby at_83) (by decide) (by decide)
    obtain ⟨b10, q_b10⟩ : ∃ z, z = h8.size := ⟨_, rfl⟩
    rw [← q_b10] at A10 D10 st10
    have ne_b1_b10 : b1 ≠ b10 := Nat.ne_of_lt (Nat.lt_of_lt_of_le Vk.lt (Nat.le_of_eq q_b10.symm))
    have g_b10 : n0 ≤ b10 := Nat.le_trans Z_8 (Nat.le_of_eq q_b10.symm)
    have Vk_10 := Vk.ext E10
    have Z_10 : n0 ≤ h10.size := Nat.le_trans Z_8 E10.1
    have F_start_b10 : Fld Z h10 b10 "com/example/enklave/enklave/measure/RowGroups" "start" "[I" .null := D10 (Or.inr (hw _ (List.mem_of_getElem? (i := 12) rfl))) (ty := (.array .int)) (by decide)
    have F_rows_b10 : Fld Z h10 b10 "com/example/enklave/enklave/measure/RowGroups" "rows" "[I" .null := D10 (Or.inr (hw _ (List.mem_of_getElem? (i := 14) rfl))) (ty := (.array .int)) (by decide)
    refine A (st10 _) ?_
    show D (T10.setTop (mkF m 86 #[.val (.int p1), .val (.int p2), .val (.int p3), .val (.int p4), .val (.int p5), .val (.int p6), .val (.int (1 : Int32)), .val (.int (Int32.ofNat k0)), .val (.int (Int32.ofNat k1)), .val (.int (Int32.ofNat k2)), .val (.int (Int32.ofNat k3)), .val (.int (Int32.ofNat q)), .val (.ref b1), .unset, .unset] [(.ref b10)]))
    refine A (XS.dup X10.here hx rfl (hb hby at_86) rfl rfl) ?_
    show D (T10.setTop (mkF m 87 #[.val (.int p1), .val (.int p2), .val (.int p3), .val (.int p4), .val (.int p5), .val (.int p6), .val (.int (1 : Int32)), .val (.int (Int32.ofNat k0)), .val (.int (Int32.ofNat k1)), .val (.int (Int32.ofNat k2)), .val (.int (Int32.ofNat k3)), .val (.int (Int32.ofNat q)), .val (.ref b1), .unset, .unset] [(.ref b10), (.ref b10)]))
    refine A (XS.aload X10.here hx rfl (hb hby at_87) rfl rfl) ?_
    show D (T10.setTop (mkF m 89 #[.val (.int p1), .val (.int p2), .val (.int p3), .val (.int p4), .val (.int p5), .val (.int p6), .val (.int (1 : Int32)), .val (.int (Int32.ofNat k0)), .val (.int (Int32.ofNat k1)), .val (.int (Int32.ofNat k2)), .val (.int (Int32.ofNat k3)), .val (.int (Int32.ofNat q)), .val (.ref b1), .unset, .unset] [(.ref b1), (.ref b10), (.ref b10)]))
    refine A (XS.iload X10.here hx rfl (hb hby at_89) rfl) ?_
    show D (T10.setTop (mkF m 91 #[.val (.int p1), .val (.int p2), .val (.int p3), .val (.int p4), .val (.int p5), .val (.int p6), .val (.int (1 : Int32)), .val (.int (Int32.ofNat k0)), .val (.int (Int32.ofNat k1)), .val (.int (Int32.ofNat k2)), .val (.int (Int32.ofNat k3)), .val (.int (Int32.ofNat q)), .val (.ref b1), .unset, .unset] [(.int (1 : Int32)), (.ref b1), (.ref b10), (.ref b10)]))
    refine Adv.callI A X10 hx hZ hown rfl (hw _ (List.mem_of_getElem? (i := 5) rfl)) (hw _ (List.mem_of_getElem? (i := 6) rfl)) (hw _ (List.mem_of_getElem? (i := 4) rfl)) (hw _ (List.mem_of_getElem? (i := 7) rfl)) e10 (rm1_1 l Z a0 hw [] b10 b1 h10 n0 Z_10 g_b10 k0 k1 k2 k3 hk0 hk1 hk2 hk3 A10 F_start_b10 F_rows_b10 Vk_10) 1 (g := (mkF m 91 #[.val (.int p1), .val (.int p2), .val (.int p3), .val (.int p4), .val (.int p5), .val (.int p6), .val (.int (1 : Int32)), .val (.int (Int32.ofNat k0)), .val (.int (Int32.ofNat k1)), .val (.int (Int32.ofNat k2)), .val (.int (Int32.ofNat k3)), .val (.int (Int32.ofNat q)), .val (.ref b1), .unset, .unset] [(.int (1 : Int32)), (.ref b1), (.ref b10), (.ref b10)])) rfl (by rw [hml]; rfl) b10 [(.ref b1), (.int (1 : Int32))] [(.ref b10)] rfl (lenOf pd0_0 rfl) rfl (by show 2 * 0 + _ ≤ _; exact Nat.le_of_eq rfl) (hb hby at_91) (by decide) (by decide) (by decide) (by decide) (by decide) ?_
    rintro T11 L11 _ X11 ⟨rfl, s11, N11_q, K11, -, F11_s, V11_q⟩
    have N11 := Fr.app N8 N11_q
    have Vk_11 := Vk_10.keep K11 (ninS ne_b1_b10 nin0)
    have E_b10_11 := A10.keep K11
    have Z_11 : n0 ≤ T11.heap.size := Nat.le_trans Z_10 K11.1
    show D (T11.setTop (mkF m 94 #[.val (.int p1), .val (.int p2), .val (.int p3), .val (.int p4), .val (.int p5), .val (.int p6), .val (.int (1 : Int32)), .val (.int (Int32.ofNat k0)), .val (.int (Int32.ofNat k1)), .val (.int (Int32.ofNat k2)), .val (.int (Int32.ofNat k3)), .val (.int (Int32.ofNat q)), .val (.ref b1), .unset, .unset] [(.ref b10)]))
    refine A (XS.astore X11.here hx rfl (hb hby at_94) rfl rfl (l' := #[.val (.int p1), .val (.int p2), .val (.int p3), .val (.int p4), .val (.int p5), .val (.int p6), .val (.int (1 : Int32)), .val (.int (Int32.ofNat k0)), .val (.int (Int32.ofNat k1)), .val (.int (Int32.ofNat k2)), .val (.int (Int32.ofNat k3)), .val (.int (Int32.ofNat q)), .val (.ref b1), .val (.ref b10), .unset]) rfl) ?_
    show D (T11.setTop (mkF m 96 #[.val (.int p1), .val (.int p2), .val (.int p3), .val (.int p4), .val (.int p5), .val (.int p6), .val (.int (1 : Int32)), .val (.int (Int32.ofNat k0)), .val (.int (Int32.ofNat k1)), .val (.int (Int32.ofNat k2)), .val (.int (Int32.ofNat k3)), .val (.int (Int32.ofNat q)), .val (.ref b1), .val (.ref b10), .unset] []))
    refine A (XS.iload X11.here hx rfl (hb hby at_96) rfl) ?_
    show D (T11.setTop (mkF m 98 #[.val (.int p1), .val (.int p2), .val (.int p3), .val (.int p4), .val (.int p5), .val (.int p6), .val (.int (1 : Int32)), .val (.int (Int32.ofNat k0)), .val (.int (Int32.ofNat k1)), .val (.int (Int32.ofNat k2)), .val (.int (Int32.ofNat k3)), .val (.int (Int32.ofNat q)), .val (.ref b1), .val (.ref b10), .unset] [(.int (Int32.ofNat k0))]))
    refine A (XS.iload X11.here hx rfl (hb hby at_98) rfl) ?_
    show D (T11.setTop (mkF m 100 #[.val (.int p1), .val (.int p2), .val (.int p3), .val (.int p4), .val (.int p5), .val (.int p6), .val (.int (1 : Int32)), .val (.int (Int32.ofNat k0)), .val (.int (Int32.ofNat k1)), .val (.int (Int32.ofNat k2)), .val (.int (Int32.ofNat k3)), .val (.int (Int32.ofNat q)), .val (.ref b1), .val (.ref b10), .unset] [(.int (Int32.ofNat q)), (.int (Int32.ofNat k0))]))
    refine Adv.callS A X11 hx hZ hown (hw _ (List.mem_of_getElem? (i := 24) rfl)) (hw _ (List.mem_of_getElem? (i := 25) rfl)) (hw _ (List.mem_of_getElem? (i := 26) rfl)) (hw _ (List.mem_of_getElem? (i := 27) rfl)) rfl (rm3 l Z a0 hw [] (Int32.ofNat k0) (Int32.ofNat q) T11.heap n0) 0 (g := (mkF m 100 #[.val (.int p1), .val (.int p2), .val (.int p3), .val (.int p4), .val (.int p5), .val (.int p6), .val (.int (1 : Int32)), .val (.int (Int32.ofNat k0)), .val (.int (Int32.ofNat k1)), .val (.int (Int32.ofNat k2)), .val (.int (Int32.ofNat k3)), .val (.int (Int32.ofNat q)), .val (.ref b1), .val (.ref b10), .unset] [(.int (Int32.ofNat q)), (.int (Int32.ofNat k0))])) rfl (by rw [hml]; rfl) [(.int (Int32.ofNat k0)), (.int (Int32.ofNat q))] [] rfl (lenOf pd0_1 rfl) rfl (by show 2 * 0 + _ ≤ _; exact Nat.le_of_eq rfl) (hb hby at_100) (by decide) (by decide) (by decide) (by decide) (by decide) ?_
    rintro T12 L12 _ X12 ⟨rfl, N12_q, e12⟩
    have N12 := Fr.app N11 N12_q
    show D (T12.setTop (mkF m 103 #[.val (.int p1), .val (.int p2), .val (.int p3), .val (.int p4), .val (.int p5), .val (.int p6), .val (.int (1 : Int32)), .val (.int (Int32.ofNat k0)), .val (.int (Int32.ofNat k1)), .val (.int (Int32.ofNat k2)), .val (.int (Int32.ofNat k3)), .val (.int (Int32.ofNat q)), .val (.ref b1), .val (.ref b10), .unset] [(.int (f3 (Int32.ofNat k0) (Int32.ofNat q)))]))
    refine A (XS.iload X12.here hx rfl (hb hby at_103) rfl) ?_
    show D (T12.setTop (mkF m 105 #[.val (.int p1), .val (.int p2), .val (.int p3), .val (.int p4), .val (.int p5), .val (.int p6), .val (.int (1 : Int32)), .val (.int (Int32.ofNat k0)), .val (.int (Int32.ofNat k1)), .val (.int (Int32.ofNat k2)), .val (.int (Int32.ofNat k3)), .val (.int (Int32.ofNat q)), .val (.ref b1), .val (.ref b10), .unset] [(.int (Int32.ofNat k1)), (.int (f3 (Int32.ofNat k0) (Int32.ofNat q)))]))
    refine A (XS.iload X12.here hx rfl (hb hby at_105) rfl) ?_
    show D (T12.setTop (mkF m 107 #[.val (.int p1), .val (.int p2), .val (.int p3), .val (.int p4), .val (.int p5), .val (.int p6), .val (.int (1 : Int32)), .val (.int (Int32.ofNat k0)), .val (.int (Int32.ofNat k1)), .val (.int (Int32.ofNat k2)), .val (.int (Int32.ofNat k3)), .val (.int (Int32.ofNat q)), .val (.ref b1), .val (.ref b10), .unset] [(.int (Int32.ofNat q)), (.int (Int32.ofNat k1)), (.int (f3 (Int32.ofNat k0) (Int32.ofNat q)))]))
    refine Adv.callS A X12 hx hZ hown (hw _ (List.mem_of_getElem? (i := 24) rfl)) (hw _ (List.mem_of_getElem? (i := 25) rfl)) (hw _ (List.mem_of_getElem? (i := 26) rfl)) (hw _ (List.mem_of_getElem? (i := 27) rfl)) e12 (rm3 l Z a0 hw [] (Int32.ofNat k1) (Int32.ofNat q) T11.heap n0) 1 (g := (mkF m 107 #[.val (.int p1), .val (.int p2), .val (.int p3), .val (.int p4), .val (.int p5), .val (.int p6), .val (.int (1 : Int32)), .val (.int (Int32.ofNat k0)), .val (.int (Int32.ofNat k1)), .val (.int (Int32.ofNat k2)), .val (.int (Int32.ofNat k3)), .val (.int (Int32.ofNat q)), .val (.ref b1), .val (.ref b10), .unset] [(.int (Int32.ofNat q)), (.int (Int32.ofNat k1)), (.int (f3 (Int32.ofNat k0) (Int32.ofNat q)))])) rfl (by rw [hml]; rfl) [(.int (Int32.ofNat k1)), (.int (Int32.ofNat q))] [(.int (f3 (Int32.ofNat k0) (Int32.ofNat q)))] rfl (lenOf pd0_1 rfl) rfl (by show 2 * 0 + _ ≤ _; exact Nat.le_of_eq rfl) (hb hby at_107) (by decide) (by decide) (by decide) (by decide) (by decide) ?_
    rintro T13 L13 _ X13 ⟨rfl, N13_q, e13⟩
    have N13 := Fr.app N12 N13_q
    show D (T13.setTop (mkF m 110 #[.val (.int p1), .val (.int p2), .val (.int p3), .val (.int p4), .val (.int p5), .val (.int p6), .val (.int (1 : Int32)), .val (.int (Int32.ofNat k0)), .val (.int (Int32.ofNat k1)), .val (.int (Int32.ofNat k2)), .val (.int (Int32.ofNat k3)), .val (.int (Int32.ofNat q)), .val (.ref b1), .val (.ref b10), .unset] [(.int (f3 (Int32.ofNat k1) (Int32.ofNat q))), (.int (f3 (Int32.ofNat k0) (Int32.ofNat q)))]))
    refine A (XS.iadd X13.here hx rfl (hb hby at_110) rfl) ?_
    show D (T13.setTop (mkF m 111 #[.val (.int p1), .val (.int p2), .val (.int p3), .val (.int p4), .val (.int p5), .val (.int p6), .val (.int (1 : Int32)), .val (.int (Int32.ofNat k0)), .val (.int (Int32.ofNat k1)), .val (.int (Int32.ofNat k2)), .val (.int (Int32.ofNat k3)), .val (.int (Int32.ofNat q)), .val (.ref b1), .val (.ref b10), .unset] [(.int ((f3 (Int32.ofNat k0) (Int32.ofNat q)) + (f3 (Int32.ofNat k1) (Int32.ofNat q))))]))
    refine A (XS.iload X13.here hx rfl (hb hby at_111) rfl) ?_
    show D (T13.setTop (mkF m 113 #[.val (.int p1), .val (.int p2), .val (.int p3), .val (.int p4), .val (.int p5), .val (.int p6), .val (.int (1 : Int32)), .val (.int (Int32.ofNat k0)), .val (.int (Int32.ofNat k1)), .val (.int (Int32.ofNat k2)), .val (.int (Int32.ofNat k3)), .val (.int (Int32.ofNat q)), .val (.ref b1), .val (.ref b10), .unset] [(.int (Int32.ofNat k2)), (.int ((f3 (Int32.ofNat k0) (Int32.ofNat q)) + (f3 (Int32.ofNat k1) (Int32.ofNat q))))]))
    refine A (XS.iload X13.here hx rfl (hb hby at_113) rfl) ?_
    show D (T13.setTop (mkF m 115 #[.val (.int p1), .val (.int p2), .val (.int p3), .val (.int p4), .val (.int p5), .val (.int p6), .val (.int (1 : Int32)), .val (.int (Int32.ofNat k0)), .val (.int (Int32.ofNat k1)), .val (.int (Int32.ofNat k2)), .val (.int (Int32.ofNat k3)), .val (.int (Int32.ofNat q)), .val (.ref b1), .val (.ref b10), .unset] [(.int (Int32.ofNat q)), (.int (Int32.ofNat k2)), (.int ((f3 (Int32.ofNat k0) (Int32.ofNat q)) + (f3 (Int32.ofNat k1) (Int32.ofNat q))))]))
    refine Adv.callS A X13 hx hZ hown (hw _ (List.mem_of_getElem? (i := 24) rfl)) (hw _ (List.mem_of_getElem? (i := 25) rfl)) (hw _ (List.mem_of_getElem? (i := 26) rfl)) (hw _ (List.mem_of_getElem? (i := 27) rfl)) e13 (rm3 l Z a0 hw [] (Int32.ofNat k2) (Int32.ofNat q) T11.heap n0) 1 (g := (mkF m 115 #[.val (.int p1), .val (.int p2), .val (.int p3), .val (.int p4), .val (.int p5), .val (.int p6), .val (.int (1 : Int32)), .val (.int (Int32.ofNat k0)), .val (.int (Int32.ofNat k1)), .val (.int (Int32.ofNat k2)), .val (.int (Int32.ofNat k3)), .val (.int (Int32.ofNat q)), .val (.ref b1), .val (.ref b10), .unset] [(.int (Int32.ofNat q)), (.int (Int32.ofNat k2)), (.int ((f3 (Int32.ofNat k0) (Int32.ofNat q)) + (f3 (Int32.ofNat k1) (Int32.ofNat q))))])) rfl (by rw [hml]; rfl) [(.int (Int32.ofNat k2)), (.int (Int32.ofNat q))] [(.int ((f3 (Int32.ofNat k0) (Int32.ofNat q)) + (f3 (Int32.ofNat k1) (Int32.ofNat q))))] rfl (lenOf pd0_1 rfl) rfl (by show 2 * 0 + _ ≤ _; exact Nat.le_of_eq rfl) (hb hby at_115) (by decide) (by decide) (by decide) (by decide) (by decide) ?_
    rintro T14 L14 _ X14 ⟨rfl, N14_q, e14⟩
    have N14 := Fr.app N13 N14_q
    show D (T14.setTop (mkF m 118 #[.val (.int p1), .val (.int p2), .val (.int p3), .val (.int p4), .val (.int p5), .val (.int p6), .val (.int (1 : Int32)), .val (.int (Int32.ofNat k0)), .val (.int (Int32.ofNat k1)), .val (.int (Int32.ofNat k2)), .val (.int (Int32.ofNat k3)), .val (.int (Int32.ofNat q)), .val (.ref b1), .val (.ref b10), .unset] [(.int (f3 (Int32.ofNat k2) (Int32.ofNat q))), (.int ((f3 (Int32.ofNat k0) (Int32.ofNat q)) + (f3 (Int32.ofNat k1) (Int32.ofNat q))))]))
    refine A (XS.iadd X14.here hx rfl (hb hby at_118) rfl) ?_
    show D (T14.setTop (mkF m 119 #[.val (.int p1), .val (.int p2), .val (.int p3), .val (.int p4), .val (.int p5), .val (.int p6), .val (.int (1 : Int32)), .val (.int (Int32.ofNat k0)), .val (.int (Int32.ofNat k1)), .val (.int (Int32.ofNat k2)), .val (.int (Int32.ofNat k3)), .val (.int (Int32.ofNat q)), .val (.ref b1), .val (.ref b10), .unset] [(.int (((f3 (Int32.ofNat k0) (Int32.ofNat q)) + (f3 (Int32.ofNat k1) (Int32.ofNat q))) + (f3 (Int32.ofNat k2) (Int32.ofNat q))))]))
    refine A (XS.iload X14.here hx rfl (hb hby at_119) rfl) ?_
    show D (T14.setTop (mkF m 121 #[.val (.int p1), .val (.int p2), .val (.int p3), .val (.int p4), .val (.int p5), .val (.int p6), .val (.int (1 : Int32)), .val (.int (Int32.ofNat k0)), .val (.int (Int32.ofNat k1)), .val (.int (Int32.ofNat k2)), .val (.int (Int32.ofNat k3)), .val (.int (Int32.ofNat q)), .val (.ref b1), .val (.ref b10), .unset] [(.int (Int32.ofNat k3)), (.int (((f3 (Int32.ofNat k0) (Int32.ofNat q)) + (f3 (Int32.ofNat k1) (Int32.ofNat q))) + (f3 (Int32.ofNat k2) (Int32.ofNat q))))]))
    refine A (XS.iload X14.here hx rfl (hb hby at_121) rfl) ?_
    show D (T14.setTop (mkF m 123 #[.val (.int p1), .val (.int p2), .val (.int p3), .val (.int p4), .val (.int p5), .val (.int p6), .val (.int (1 : Int32)), .val (.int (Int32.ofNat k0)), .val (.int (Int32.ofNat k1)), .val (.int (Int32.ofNat k2)), .val (.int (Int32.ofNat k3)), .val (.int (Int32.ofNat q)), .val (.ref b1), .val (.ref b10), .unset] [(.int (Int32.ofNat q)), (.int (Int32.ofNat k3)), (.int (((f3 (Int32.ofNat k0) (Int32.ofNat q)) + (f3 (Int32.ofNat k1) (Int32.ofNat q))) + (f3 (Int32.ofNat k2) (Int32.ofNat q))))]))
    refine Adv.callS A X14 hx hZ hown (hw _ (List.mem_of_getElem? (i := 24) rfl)) (hw _ (List.mem_of_getElem? (i := 25) rfl)) (hw _ (List.mem_of_getElem? (i := 26) rfl)) (hw _ (List.mem_of_getElem? (i := 27) rfl)) e14 (rm3 l Z a0 hw [] (Int32.ofNat k3) (Int32.ofNat q) T11.heap n0) 1 (g := (mkF m 123 #[.val (.int p1), .val (.int p2), .val (.int p3), .val (.int p4), .val (.int p5), .val (.int p6), .val (.int (1 : Int32)), .val (.int (Int32.ofNat k0)), .val (.int (Int32.ofNat k1)), .val (.int (Int32.ofNat k2)), .val (.int (Int32.ofNat k3)), .val (.int (Int32.ofNat q)), .val (.ref b1), .val (.ref b10), .unset] [(.int (Int32.ofNat q)), (.int (Int32.ofNat k3)), (.int (((f3 (Int32.ofNat k0) (Int32.ofNat q)) + (f3 (Int32.ofNat k1) (Int32.ofNat q))) + (f3 (Int32.ofNat k2) (Int32.ofNat q))))])) rfl (by rw [hml]; rfl) [(.int (Int32.ofNat k3)), (.int (Int32.ofNat q))] [(.int (((f3 (Int32.ofNat k0) (Int32.ofNat q)) + (f3 (Int32.ofNat k1) (Int32.ofNat q))) + (f3 (Int32.ofNat k2) (Int32.ofNat q))))] rfl (lenOf pd0_1 rfl) rfl (by show 2 * 0 + _ ≤ _; exact Nat.le_of_eq rfl) (hb hby at_123) (by decide) (by decide) (by decide) (by decide) (by decide) ?_
    rintro T15 L15 _ X15 ⟨rfl, N15_q, e15⟩
    have N15 := Fr.app N14 N15_q
    show D (T15.setTop (mkF m 126 #[.val (.int p1), .val (.int p2), .val (.int p3), .val (.int p4), .val (.int p5), .val (.int p6), .val (.int (1 : Int32)), .val (.int (Int32.ofNat k0)), .val (.int (Int32.ofNat k1)), .val (.int (Int32.ofNat k2)), .val (.int (Int32.ofNat k3)), .val (.int (Int32.ofNat q)), .val (.ref b1), .val (.ref b10), .unset] [(.int (f3 (Int32.ofNat k3) (Int32.ofNat q))), (.int (((f3 (Int32.ofNat k0) (Int32.ofNat q)) + (f3 (Int32.ofNat k1) (Int32.ofNat q))) + (f3 (Int32.ofNat k2) (Int32.ofNat q))))]))
    refine A (XS.iadd X15.here hx rfl (hb hby at_126) rfl) ?_
    show D (T15.setTop (mkF m 127 #[.val (.int p1), .val (.int p2), .val (.int p3), .val (.int p4), .val (.int p5), .val (.int p6), .val (.int (1 : Int32)), .val (.int (Int32.ofNat k0)), .val (.int (Int32.ofNat k1)), .val (.int (Int32.ofNat k2)), .val (.int (Int32.ofNat k3)), .val (.int (Int32.ofNat q)), .val (.ref b1), .val (.ref b10), .unset] [(.int ((((f3 (Int32.ofNat k0) (Int32.ofNat q)) + (f3 (Int32.ofNat k1) (Int32.ofNat q))) + (f3 (Int32.ofNat k2) (Int32.ofNat q))) + (f3 (Int32.ofNat k3) (Int32.ofNat q))))]))
    refine A (XS.istore X15.here hx rfl (hb hby at_127) rfl (l' := #[.val (.int p1), .val (.int p2), .val (.int p3), .val (.int p4), .val (.int p5), .val (.int p6), .val (.int (1 : Int32)), .val (.int (Int32.ofNat k0)), .val (.int (Int32.ofNat k1)), .val (.int (Int32.ofNat k2)), .val (.int (Int32.ofNat k3)), .val (.int (Int32.ofNat q)), .val (.ref b1), .val (.ref b10), .val (.int ((((f3 (Int32.ofNat k0) (Int32.ofNat q)) + (f3 (Int32.ofNat k1) (Int32.ofNat q))) + (f3 (Int32.ofNat k2) (Int32.ofNat q))) + (f3 (Int32.ofNat k3) (Int32.ofNat q))))]) rfl) ?_
    show D (T15.setTop (mkF m 129 #[.val (.int p1), .val (.int p2), .val (.int p3), .val (.int p4), .val (.int p5), .val (.int p6), .val (.int (1 : Int32)), .val (.int (Int32.ofNat k0)), .val (.int (Int32.ofNat k1)), .val (.int (Int32.ofNat k2)), .val (.int (Int32.ofNat k3)), .val (.int (Int32.ofNat q)), .val (.ref b1), .val (.ref b10), .val (.int ((((f3 (Int32.ofNat k0) (Int32.ofNat q)) + (f3 (Int32.ofNat k1) (Int32.ofNat q))) + (f3 (Int32.ofNat k2) (Int32.ofNat q))) + (f3 (Int32.ofNat k3) (Int32.ofNat q))))] []))
    suffices Kx14_129 : ∀ x14_129 : Int32, x14_129 = ((((f3 (Int32.ofNat k0) (Int32.ofNat q)) + (f3 (Int32.ofNat k1) (Int32.ofNat q))) + (f3 (Int32.ofNat k2) (Int32.ofNat q))) + (f3 (Int32.ofNat k3) (Int32.ofNat q))) → D (T15.setTop (mkF m 129 #[.val (.int p1), .val (.int p2), .val (.int p3), .val (.int p4), .val (.int p5), .val (.int p6), .val (.int (1 : Int32)), .val (.int (Int32.ofNat k0)), .val (.int (Int32.ofNat k1)), .val (.int (Int32.ofNat k2)), .val (.int (Int32.ofNat k3)), .val (.int (Int32.ofNat q)), .val (.ref b1), .val (.ref b10), .val (.int x14_129)] [])) from Kx14_129 _ rfl
    intro x14_129 hx14_129
    refine A (XS.aload X15.here hx rfl (hb hby at_129) rfl rfl) ?_
    show D (T15.setTop (mkF m 131 #[.val (.int p1), .val (.int p2), .val (.int p3), .val (.int p4), .val (.int p5), .val (.int p6), .val (.int (1 : Int32)), .val (.int (Int32.ofNat k0)), .val (.int (Int32.ofNat k1)), .val (.int (Int32.ofNat k2)), .val (.int (Int32.ofNat k3)), .val (.int (Int32.ofNat q)), .val (.ref b1), .val (.ref b10), .val (.int x14_129)] [(.ref b10)]))
    refine A (XS.iload X15.here hx rfl (hb hby at_131) rfl) ?_
    show D (T15.setTop (mkF m 133 #[.val (.int p1), .val (.int p2), .val (.int p3), .val (.int p4), .val (.int p5), .val (.int p6), .val (.int (1 : Int32)), .val (.int (Int32.ofNat k0)), .val (.int (Int32.ofNat k1)), .val (.int (Int32.ofNat k2)), .val (.int (Int32.ofNat k3)), .val (.int (Int32.ofNat q)), .val (.ref b1), .val (.ref b10), .val (.int x14_129)] [(.int (Int32.ofNat q)), (.ref b10)]))
    refine Adv.callV A X15 hx hZ hown (hw _ (List.mem_of_getElem? (i := 28) rfl)) (hw _ (List.mem_of_getElem? (i := 29) rfl)) (notFace_of_selects (args := #[]) (mvT hZ (hw _ (List.mem_of_getElem? (i := 31) rfl)))) (hw _ (List.mem_of_getElem? (i := 31) rfl)) (hw _ (List.mem_of_getElem? (i := 30) rfl)) (hw _ (List.mem_of_getElem? (i := 4) rfl)) (hw _ (List.mem_of_getElem? (i := 32) rfl)) e15 E_b10_11 (rm4 l Z a0 hw [] b10 (Int32.ofNat q) T11.heap n0 s11 2 (fun i => Int32.ofNat (own_c0 k0 k1 k2 k3 i)) q (own_of (by omega)) (by omega) (by omega) F11_s V11_q) 0 (g := (mkF m 133 #[.val (.int p1), .val (.int p2), .val (.int p3), .val (.int p4), .val (.int p5), .val (.int p6), .val (.int (1 : Int32)), .val (.int (Int32.ofNat k0)), .val (.int (Int32.ofNat k1)), .val (.int (Int32.ofNat k2)), .val (.int (Int32.ofNat k3)), .val (.int (Int32.ofNat q)), .val (.ref b1), .val (.ref b10), .val (.int x14_129)] [(.int (Int32.ofNat q)), (.ref b10)])) rfl (by rw [hml]; rfl) [(.int (Int32.ofNat q))] [] rfl (lenOf pd0_2 rfl) rfl (by show 2 * 0 + _ ≤ _; exact Nat.le_of_eq rfl) (hb hby at_133) (by decide) (by decide) (by decide) (by decide) (by decide) ?_
    rintro T16 L16 _ X16 ⟨rfl, N16_q, e16⟩
    have N16 := Fr.app N15 N16_q
    show D (T16.setTop (mkF m 136 #[.val (.int p1), .val (.int p2), .val (.int p3), .val (.int p4), .val (.int p5), .val (.int p6), .val (.int (1 : Int32)), .val (.int (Int32.ofNat k0)), .val (.int (Int32.ofNat k1)), .val (.int (Int32.ofNat k2)), .val (.int (Int32.ofNat k3)), .val (.int (Int32.ofNat q)), .val (.ref b1), .val (.ref b10), .val (.int x14_129)] [(.int (Int32.ofNat (own_n2 k0 k1 k2 k3 (q + 1)) - Int32.ofNat (own_n2 k0 k1 k2 k3 q)))]))
    refine A (XS.iload X16.here hx rfl (hb hby at_136) rfl) ?_
    show D (T16.setTop (mkF m 138 #[.val (.int p1), .val (.int p2), .val (.int p3), .val (.int p4), .val (.int p5), .val (.int p6), .val (.int (1 : Int32)), .val (.int (Int32.ofNat k0)), .val (.int (Int32.ofNat k1)), .val (.int (Int32.ofNat k2)), .val (.int (Int32.ofNat k3)), .val (.int (Int32.ofNat q)), .val (.ref b1), .val (.ref b10), .val (.int x14_129)] [(.int x14_129), (.int (Int32.ofNat (own_n2 k0 k1 k2 k3 (q + 1)) - Int32.ofNat (own_n2 k0 k1 k2 k3 q)))]))
    suffices Km146_17 : ∀ (v146s0 : Int32), v146s0 = (if (Int32.ofNat (own_n2 k0 k1 k2 k3 (q + 1)) - Int32.ofNat (own_n2 k0 k1 k2 k3 q)) = x14_129 then (1 : Int32) else (0 : Int32)) → D (T16.setTop (mkF m 146 #[.val (.int p1), .val (.int p2), .val (.int p3), .val (.int p4), .val (.int p5), .val (.int p6), .val (.int (1 : Int32)), .val (.int (Int32.ofNat k0)), .val (.int (Int32.ofNat k1)), .val (.int (Int32.ofNat k2)), .val (.int (Int32.ofNat k3)), .val (.int (Int32.ofNat q)), .val (.ref b1), .val (.ref b10), .val (.int x14_129)] [(.int v146s0)])) by
      by_cases c138_0 : (Int32.ofNat (own_n2 k0 k1 k2 k3 (q + 1)) - Int32.ofNat (own_n2 k0 k1 k2 k3 q)) = x14_129
      · refine A (XS.icmpNo X16.here hx rfl (hb hby at_138) rfl (teq c138_0).2) ?_
        show D (T16.setTop (mkF m 141 #[.val (.int p1), .val (.int p2), .val (.int p3), .val (.int p4), .val (.int p5), .val (.int p6), .val (.int (1 : Int32)), .val (.int (Int32.ofNat k0)), .val (.int (Int32.ofNat k1)), .val (.int (Int32.ofNat k2)), .val (.int (Int32.ofNat k3)), .val (.int (Int32.ofNat q)), .val (.ref b1), .val (.ref b10), .val (.int x14_129)] []))
        refine A (XS.iconst X16.here hx rfl (hb hby at_141)) ?_
        show D (T16.setTop (mkF m 142 #[.val (.int p1), .val (.int p2), .val (.int p3), .val (.int p4), .val (.int p5), .val (.int p6), .val (.int (1 : Int32)), .val (.int (Int32.ofNat k0)), .val (.int (Int32.ofNat k1)), .val (.int (Int32.ofNat k2)), .val (.int (Int32.ofNat k3)), .val (.int (Int32.ofNat q)), .val (.ref b1), .val (.ref b10), .val (.int x14_129)] [(.int (1 : Int32))]))
        refine A (XS.goto X16.here hx rfl (pc0 := 142) (pc' := 146) rfl (hb hby at_142) (by decide) (by decide)) ?_
        show D (T16.setTop (mkF m 146 #[.val (.int p1), .val (.int p2), .val (.int p3), .val (.int p4), .val (.int p5), .val (.int p6), .val (.int (1 : Int32)), .val (.int (Int32.ofNat k0)), .val (.int (Int32.ofNat k1)), .val (.int (Int32.ofNat k2)), .val (.int (Int32.ofNat k3)), .val (.int (Int32.ofNat q)), .val (.ref b1), .val (.ref b10), .val (.int x14_129)] [(.int (1 : Int32))]))
        exact Km146_17 _ ((if_pos c138_0)).symm
      · refine A (XS.icmpYes X16.here hx rfl (pc0 := 138) (pc' := 145) rfl (hb hby at_138) rfl (feq c138_0).2 (by decide) (by decide)) ?_
        show D (T16.setTop (mkF m 145 #[.val (.int p1), .val (.int p2), .val (.int p3), .val (.int p4), .val (.int p5), .val (.int p6), .val (.int (1 : Int32)), .val (.int (Int32.ofNat k0)), .val (.int (Int32.ofNat k1)), .val (.int (Int32.ofNat k2)), .val (.int (Int32.ofNat k3)), .val (.int (Int32.ofNat q)), .val (.ref b1), .val (.ref b10), .val (.int x14_129)] []))
        refine A (XS.iconst X16.here hx rfl (hb hby at_145)) ?_
        show D (T16.setTop (mkF m 146 #[.val (.int p1), .val (.int p2), .val (.int p3), .val (.int p4), .val (.int p5), .val (.int p6), .val (.int (1 : Int32)), .val (.int (Int32.ofNat k0)), .val (.int (Int32.ofNat k1)), .val (.int (Int32.ofNat k2)), .val (.int (Int32.ofNat k3)), .val (.int (Int32.ofNat q)), .val (.ref b1), .val (.ref b10), .val (.int x14_129)] [(.int (0 : Int32))]))
        exact Km146_17 _ ((if_neg c138_0)).symm
    intro v146s0 hv146s0
    show D (T16.setTop (mkF m 146 #[.val (.int p1), .val (.int p2), .val (.int p3), .val (.int p4), .val (.int p5), .val (.int p6), .val (.int (1 : Int32)), .val (.int (Int32.ofNat k0)), .val (.int (Int32.ofNat k1)), .val (.int (Int32.ofNat k2)), .val (.int (Int32.ofNat k3)), .val (.int (Int32.ofNat q)), .val (.ref b1), .val (.ref b10), .val (.int x14_129)] [(.int v146s0)]))
    obtain rfl : v146s0 = (1 : Int32) := by
      rw [hv146s0, hx14_129, if_pos (own_fin k0 (by omega) k1 (by omega) k2 (by omega) k3 (by omega) q (by omega))]
    show D (T16.setTop (mkF m 146 #[.val (.int p1), .val (.int p2), .val (.int p3), .val (.int p4), .val (.int p5), .val (.int p6), .val (.int (1 : Int32)), .val (.int (Int32.ofNat k0)), .val (.int (Int32.ofNat k1)), .val (.int (Int32.ofNat k2)), .val (.int (Int32.ofNat k3)), .val (.int (Int32.ofNat q)), .val (.ref b1), .val (.ref b10), .val (.int x14_129)] [(.int (1 : Int32))]))
    exact F _ (Jvm.JW.ret X16 hlk (v := some (.int (1 : Int32))) (fun h => by rw [hrt] at h; cases h) (fun fs hr => retOut X16 hx hrt rfl (Or.inl ⟨rfl, Or.inr (Or.inl rfl), _, rfl⟩) (hb hby at_146) hr) rfl ⟨rfl, N16⟩ (by decide) (by decide))
  · show D (T0.setTop (mkF m 7 #[.val (.int p1), .val (.int p2), .val (.int p3), .val (.int p4), .val (.int p5), .val (.int p6), .val (.int (2 : Int32)), .unset, .unset, .unset, .unset, .unset, .unset, .unset, .unset] []))
    refine A (XS.iloadN X0.here hx rfl (hb hby at_7) rfl) ?_
    show D (T0.setTop (mkF m 8 #[.val (.int p1), .val (.int p2), .val (.int p3), .val (.int p4), .val (.int p5), .val (.int p6), .val (.int (2 : Int32)), .unset, .unset, .unset, .unset, .unset, .unset, .unset, .unset] [(.int p2)]))
    refine A (X0.ldcInt hx hown (mvT hZ (hw _ (List.mem_of_getElem? (i := 0) rfl))) (g := (mkF m 8 #[.val (.int p1), .val (.int p2), .val (.int p3), .val (.int p4), .val (.int p5), .val (.int p6), .val (.int (2 : Int32)), .unset, .unset, .unset, .unset, .unset, .unset, .unset, .unset] [(.int p2)])) rfl (hb hby at_8) _) ?_
    show D (T0.setTop (mkF m 10 #[.val (.int p1), .val (.int p2), .val (.int p3), .val (.int p4), .val (.int p5), .val (.int p6), .val (.int (2 : Int32)), .unset, .unset, .unset, .unset, .unset, .unset, .unset, .unset] [(.int (2147483647 : Int32)), (.int p2)]))
    refine A (XS.iand X0.here hx rfl (hb hby at_10) rfl) ?_
    show D (T0.setTop (mkF m 11 #[.val (.int p1), .val (.int p2), .val (.int p3), .val (.int p4), .val (.int p5), .val (.int p6), .val (.int (2 : Int32)), .unset, .unset, .unset, .unset, .unset, .unset, .unset, .unset] [(.int (p2 &&& (2147483647 : Int32)))]))
    refine A (XS.iload X0.here hx rfl (hb hby at_11) rfl) ?_
    show D (T0.setTop (mkF m 13 #[.val (.int p1), .val (.int p2), .val (.int p3), .val (.int p4), .val (.int p5), .val (.int p6), .val (.int (2 : Int32)), .unset, .unset, .unset, .unset, .unset, .unset, .unset, .unset] [(.int (2 : Int32)), (.int (p2 &&& (2147483647 : Int32)))]))
    refine A (iremM X0 hx rfl (hb hby at_13) rfl (by decide)) ?_
    show D (T0.setTop (mkF m 14 #[.val (.int p1), .val (.int p2), .val (.int p3), .val (.int p4), .val (.int p5), .val (.int p6), .val (.int (2 : Int32)), .unset, .unset, .unset, .unset, .unset, .unset, .unset, .unset] [(.int ((p2 &&& (2147483647 : Int32)) % (2 : Int32)))]))
    refine A (XS.istore X0.here hx rfl (hb hby at_14) rfl (l' := #[.val (.int p1), .val (.int p2), .val (.int p3), .val (.int p4), .val (.int p5), .val (.int p6), .val (.int (2 : Int32)), .val (.int ((p2 &&& (2147483647 : Int32)) % (2 : Int32))), .unset, .unset, .unset, .unset, .unset, .unset, .unset]) rfl) ?_
    show D (T0.setTop (mkF m 16 #[.val (.int p1), .val (.int p2), .val (.int p3), .val (.int p4), .val (.int p5), .val (.int p6), .val (.int (2 : Int32)), .val (.int ((p2 &&& (2147483647 : Int32)) % (2 : Int32))), .unset, .unset, .unset, .unset, .unset, .unset, .unset] []))
    suffices Kx7_16a : ∀ x7_16a : Int32, x7_16a = ((p2 &&& (2147483647 : Int32)) % (2 : Int32)) → D (T0.setTop (mkF m 16 #[.val (.int p1), .val (.int p2), .val (.int p3), .val (.int p4), .val (.int p5), .val (.int p6), .val (.int (2 : Int32)), .val (.int x7_16a), .unset, .unset, .unset, .unset, .unset, .unset, .unset] [])) from Kx7_16a _ rfl
    intro x7_16a hx7_16a
    obtain ⟨k0, hk0, rfl⟩ := own_k_2 hx7_16a
    show D (T0.setTop (mkF m 16 #[.val (.int p1), .val (.int p2), .val (.int p3), .val (.int p4), .val (.int p5), .val (.int p6), .val (.int (2 : Int32)), .val (.int (Int32.ofNat k0)), .unset, .unset, .unset, .unset, .unset, .unset, .unset] []))
    refine A (XS.iloadN X0.here hx rfl (hb hby at_16) rfl) ?_
    show D (T0.setTop (mkF m 17 #[.val (.int p1), .val (.int p2), .val (.int p3), .val (.int p4), .val (.int p5), .val (.int p6), .val (.int (2 : Int32)), .val (.int (Int32.ofNat k0)), .unset, .unset, .unset, .unset, .unset, .unset, .unset] [(.int p3)]))
    refine A (X0.ldcInt hx hown (mvT hZ (hw _ (List.mem_of_getElem? (i := 0) rfl))) (g := (mkF m 17 #[.val (.int p1), .val (.int p2), .val (.int p3), .val (.int p4), .val (.int p5), .val (.int p6), .val (.int (2 : Int32)), .val (.int (Int32.ofNat k0)), .unset, .unset, .unset, .unset, .unset, .unset, .unset] [(.int p3)])) rfl (hb hby at_17) _) ?_
    show D (T0.setTop (mkF m 19 #[.val (.int p1), .val (.int p2), .val (.int p3), .val (.int p4), .val (.int p5), .val (.int p6), .val (.int (2 : Int32)), .val (.int (Int32.ofNat k0)), .unset, .unset, .unset, .unset, .unset, .unset, .unset] [(.int (2147483647 : Int32)), (.int p3)]))
    refine A (XS.iand X0.here hx rfl (hb hby at_19) rfl) ?_
    show D (T0.setTop (mkF m 20 #[.val (.int p1), .val (.int p2), .val (.int p3), .val (.int p4), .val (.int p5), .val (.int p6), .val (.int (2 : Int32)), .val (.int (Int32.ofNat k0)), .unset, .unset, .unset, .unset, .unset, .unset, .unset] [(.int (p3 &&& (2147483647 : Int32)))]))
    refine A (XS.iload X0.here hx rfl (hb hby at_20) rfl) ?_
    show D (T0.setTop (mkF m 22 #[.val (.int p1), .val (.int p2), .val (.int p3), .val (.int p4), .val (.int p5), .val (.int p6), .val (.int (2 : Int32)), .val (.int (Int32.ofNat k0)), .unset, .unset, .unset, .unset, .unset, .unset, .unset] [(.int (2 : Int32)), (.int (p3 &&& (2147483647 : Int32)))]))
    refine A (iremM X0 hx rfl (hb hby at_22) rfl (by decide)) ?_
    show D (T0.setTop (mkF m 23 #[.val (.int p1), .val (.int p2), .val (.int p3), .val (.int p4), .val (.int p5), .val (.int p6), .val (.int (2 : Int32)), .val (.int (Int32.ofNat k0)), .unset, .unset, .unset, .unset, .unset, .unset, .unset] [(.int ((p3 &&& (2147483647 : Int32)) % (2 : Int32)))]))
    refine A (XS.istore X0.here hx rfl (hb hby at_23) rfl (l' := #[.val (.int p1), .val (.int p2), .val (.int p3), .val (.int p4), .val (.int p5), .val (.int p6), .val (.int (2 : Int32)), .val (.int (Int32.ofNat k0)), .val (.int ((p3 &&& (2147483647 : Int32)) % (2 : Int32))), .unset, .unset, .unset, .unset, .unset, .unset]) rfl) ?_
    show D (T0.setTop (mkF m 25 #[.val (.int p1), .val (.int p2), .val (.int p3), .val (.int p4), .val (.int p5), .val (.int p6), .val (.int (2 : Int32)), .val (.int (Int32.ofNat k0)), .val (.int ((p3 &&& (2147483647 : Int32)) % (2 : Int32))), .unset, .unset, .unset, .unset, .unset, .unset] []))
    suffices Kx8_25a : ∀ x8_25a : Int32, x8_25a = ((p3 &&& (2147483647 : Int32)) % (2 : Int32)) → D (T0.setTop (mkF m 25 #[.val (.int p1), .val (.int p2), .val (.int p3), .val (.int p4), .val (.int p5), .val (.int p6), .val (.int (2 : Int32)), .val (.int (Int32.ofNat k0)), .val (.int x8_25a), .unset, .unset, .unset, .unset, .unset, .unset] [])) from Kx8_25a _ rfl
    intro x8_25a hx8_25a
    obtain ⟨k1, hk1, rfl⟩ := own_k_2 hx8_25a
    show D (T0.setTop (mkF m 25 #[.val (.int p1), .val (.int p2), .val (.int p3), .val (.int p4), .val (.int p5), .val (.int p6), .val (.int (2 : Int32)), .val (.int (Int32.ofNat k0)), .val (.int (Int32.ofNat k1)), .unset, .unset, .unset, .unset, .unset, .unset] []))
    refine A (XS.iloadN X0.here hx rfl (hb hby at_25) rfl) ?_
    show D (T0.setTop (mkF m 26 #[.val (.int p1), .val (.int p2), .val (.int p3), .val (.int p4), .val (.int p5), .val (.int p6), .val (.int (2 : Int32)), .val (.int (Int32.ofNat k0)), .val (.int (Int32.ofNat k1)), .unset, .unset, .unset, .unset, .unset, .unset] [(.int p4)]))
    refine A (X0.ldcInt hx hown (mvT hZ (hw _ (List.mem_of_getElem? (i := 0) rfl))) (g := (mkF m 26 #[.val (.int p1), .val (.int p2), .val (.int p3), .val (.int p4), .val (.int p5), .val (.int p6), .val (.int (2 : Int32)), .val (.int (Int32.ofNat k0)), .val (.int (Int32.ofNat k1)), .unset, .unset, .unset, .unset, .unset, .unset] [(.int p4)])) rfl (hb hby at_26) _) ?_
    show D (T0.setTop (mkF m 28 #[.val (.int p1), .val (.int p2), .val (.int p3), .val (.int p4), .val (.int p5), .val (.int p6), .val (.int (2 : Int32)), .val (.int (Int32.ofNat k0)), .val (.int (Int32.ofNat k1)), .unset, .unset, .unset, .unset, .unset, .unset] [(.int (2147483647 : Int32)), (.int p4)]))
    refine A (XS.iand X0.here hx rfl (hb hby at_28) rfl) ?_
    show D (T0.setTop (mkF m 29 #[.val (.int p1), .val (.int p2), .val (.int p3), .val (.int p4), .val (.int p5), .val (.int p6), .val (.int (2 : Int32)), .val (.int (Int32.ofNat k0)), .val (.int (Int32.ofNat k1)), .unset, .unset, .unset, .unset, .unset, .unset] [(.int (p4 &&& (2147483647 : Int32)))]))
    refine A (XS.iload X0.here hx rfl (hb hby at_29) rfl) ?_
    show D (T0.setTop (mkF m 31 #[.val (.int p1), .val (.int p2), .val (.int p3), .val (.int p4), .val (.int p5), .val (.int p6), .val (.int (2 : Int32)), .val (.int (Int32.ofNat k0)), .val (.int (Int32.ofNat k1)), .unset, .unset, .unset, .unset, .unset, .unset] [(.int (2 : Int32)), (.int (p4 &&& (2147483647 : Int32)))]))
    refine A (iremM X0 hx rfl (hb hby at_31) rfl (by decide)) ?_
    show D (T0.setTop (mkF m 32 #[.val (.int p1), .val (.int p2), .val (.int p3), .val (.int p4), .val (.int p5), .val (.int p6), .val (.int (2 : Int32)), .val (.int (Int32.ofNat k0)), .val (.int (Int32.ofNat k1)), .unset, .unset, .unset, .unset, .unset, .unset] [(.int ((p4 &&& (2147483647 : Int32)) % (2 : Int32)))]))
    refine A (XS.istore X0.here hx rfl (hb hby at_32) rfl (l' := #[.val (.int p1), .val (.int p2), .val (.int p3), .val (.int p4), .val (.int p5), .val (.int p6), .val (.int (2 : Int32)), .val (.int (Int32.ofNat k0)), .val (.int (Int32.ofNat k1)), .val (.int ((p4 &&& (2147483647 : Int32)) % (2 : Int32))), .unset, .unset, .unset, .unset, .unset]) rfl) ?_
    show D (T0.setTop (mkF m 34 #[.val (.int p1), .val (.int p2), .val (.int p3), .val (.int p4), .val (.int p5), .val (.int p6), .val (.int (2 : Int32)), .val (.int (Int32.ofNat k0)), .val (.int (Int32.ofNat k1)), .val (.int ((p4 &&& (2147483647 : Int32)) % (2 : Int32))), .unset, .unset, .unset, .unset, .unset] []))
    suffices Kx9_34a : ∀ x9_34a : Int32, x9_34a = ((p4 &&& (2147483647 : Int32)) % (2 : Int32)) → D (T0.setTop (mkF m 34 #[.val (.int p1), .val (.int p2), .val (.int p3), .val (.int p4), .val (.int p5), .val (.int p6), .val (.int (2 : Int32)), .val (.int (Int32.ofNat k0)), .val (.int (Int32.ofNat k1)), .val (.int x9_34a), .unset, .unset, .unset, .unset, .unset] [])) from Kx9_34a _ rfl
    intro x9_34a hx9_34a
    obtain ⟨k2, hk2, rfl⟩ := own_k_2 hx9_34a
    show D (T0.setTop (mkF m 34 #[.val (.int p1), .val (.int p2), .val (.int p3), .val (.int p4), .val (.int p5), .val (.int p6), .val (.int (2 : Int32)), .val (.int (Int32.ofNat k0)), .val (.int (Int32.ofNat k1)), .val (.int (Int32.ofNat k2)), .unset, .unset, .unset, .unset, .unset] []))
    refine A (XS.iload X0.here hx rfl (hb hby at_34) rfl) ?_
    show D (T0.setTop (mkF m 36 #[.val (.int p1), .val (.int p2), .val (.int p3), .val (.int p4), .val (.int p5), .val (.int p6), .val (.int (2 : Int32)), .val (.int (Int32.ofNat k0)), .val (.int (Int32.ofNat k1)), .val (.int (Int32.ofNat k2)), .unset, .unset, .unset, .unset, .unset] [(.int p5)]))
    refine A (X0.ldcInt hx hown (mvT hZ (hw _ (List.mem_of_getElem? (i := 0) rfl))) (g := (mkF m 36 #[.val (.int p1), .val (.int p2), .val (.int p3), .val (.int p4), .val (.int p5), .val (.int p6), .val (.int (2 : Int32)), .val (.int (Int32.ofNat k0)), .val (.int (Int32.ofNat k1)), .val (.int (Int32.ofNat k2)), .unset, .unset, .unset, .unset, .unset] [(.int p5)])) rfl (hb hby at_36) _) ?_
    show D (T0.setTop (mkF m 38 #[.val (.int p1), .val (.int p2), .val (.int p3), .val (.int p4), .val (.int p5), .val (.int p6), .val (.int (2 : Int32)), .val (.int (Int32.ofNat k0)), .val (.int (Int32.ofNat k1)), .val (.int (Int32.ofNat k2)), .unset, .unset, .unset, .unset, .unset] [(.int (2147483647 : Int32)), (.int p5)]))
    refine A (XS.iand X0.here hx rfl (hb hby at_38) rfl) ?_
    show D (T0.setTop (mkF m 39 #[.val (.int p1), .val (.int p2), .val (.int p3), .val (.int p4), .val (.int p5), .val (.int p6), .val (.int (2 : Int32)), .val (.int (Int32.ofNat k0)), .val (.int (Int32.ofNat k1)), .val (.int (Int32.ofNat k2)), .unset, .unset, .unset, .unset, .unset] [(.int (p5 &&& (2147483647 : Int32)))]))
    refine A (XS.iload X0.here hx rfl (hb hby at_39) rfl) ?_
    show D (T0.setTop (mkF m 41 #[.val (.int p1), .val (.int p2), .val (.int p3), .val (.int p4), .val (.int p5), .val (.int p6), .val (.int (2 : Int32)), .val (.int (Int32.ofNat k0)), .val (.int (Int32.ofNat k1)), .val (.int (Int32.ofNat k2)), .unset, .unset, .unset, .unset, .unset] [(.int (2 : Int32)), (.int (p5 &&& (2147483647 : Int32)))]))
    refine A (iremM X0 hx rfl (hb hby at_41) rfl (by decide)) ?_
    show D (T0.setTop (mkF m 42 #[.val (.int p1), .val (.int p2), .val (.int p3), .val (.int p4), .val (.int p5), .val (.int p6), .val (.int (2 : Int32)), .val (.int (Int32.ofNat k0)), .val (.int (Int32.ofNat k1)), .val (.int (Int32.ofNat k2)), .unset, .unset, .unset, .unset, .unset] [(.int ((p5 &&& (2147483647 : Int32)) % (2 : Int32)))]))
    refine A (XS.istore X0.here hx rfl (hb hby at_42) rfl (l' := #[.val (.int p1), .val (.int p2), .val (.int p3), .val (.int p4), .val (.int p5), .val (.int p6), .val (.int (2 : Int32)), .val (.int (Int32.ofNat k0)), .val (.int (Int32.ofNat k1)), .val (.int (Int32.ofNat k2)), .val (.int ((p5 &&& (2147483647 : Int32)) % (2 : Int32))), .unset, .unset, .unset, .unset]) rfl) ?_
    show D (T0.setTop (mkF m 44 #[.val (.int p1), .val (.int p2), .val (.int p3), .val (.int p4), .val (.int p5), .val (.int p6), .val (.int (2 : Int32)), .val (.int (Int32.ofNat k0)), .val (.int (Int32.ofNat k1)), .val (.int (Int32.ofNat k2)), .val (.int ((p5 &&& (2147483647 : Int32)) % (2 : Int32))), .unset, .unset, .unset, .unset] []))
    suffices Kx10_44a : ∀ x10_44a : Int32, x10_44a = ((p5 &&& (2147483647 : Int32)) % (2 : Int32)) → D (T0.setTop (mkF m 44 #[.val (.int p1), .val (.int p2), .val (.int p3), .val (.int p4), .val (.int p5), .val (.int p6), .val (.int (2 : Int32)), .val (.int (Int32.ofNat k0)), .val (.int (Int32.ofNat k1)), .val (.int (Int32.ofNat k2)), .val (.int x10_44a), .unset, .unset, .unset, .unset] [])) from Kx10_44a _ rfl
    intro x10_44a hx10_44a
    obtain ⟨k3, hk3, rfl⟩ := own_k_2 hx10_44a
    show D (T0.setTop (mkF m 44 #[.val (.int p1), .val (.int p2), .val (.int p3), .val (.int p4), .val (.int p5), .val (.int p6), .val (.int (2 : Int32)), .val (.int (Int32.ofNat k0)), .val (.int (Int32.ofNat k1)), .val (.int (Int32.ofNat k2)), .val (.int (Int32.ofNat k3)), .unset, .unset, .unset, .unset] []))
    refine A (XS.iload X0.here hx rfl (hb hby at_44) rfl) ?_
    show D (T0.setTop (mkF m 46 #[.val (.int p1), .val (.int p2), .val (.int p3), .val (.int p4), .val (.int p5), .val (.int p6), .val (.int (2 : Int32)), .val (.int (Int32.ofNat k0)), .val (.int (Int32.ofNat k1)), .val (.int (Int32.ofNat k2)), .val (.int (Int32.ofNat k3)), .unset, .unset, .unset, .unset] [(.int p6)]))
    refine A (X0.ldcInt hx hown (mvT hZ (hw _ (List.mem_of_getElem? (i := 0) rfl))) (g := (mkF m 46 #[.val (.int p1), .val (.int p2), .val (.int p3), .val (.int p4), .val (.int p5), .val (.int p6), .val (.int (2 : Int32)), .val (.int (Int32.ofNat k0)), .val (.int (Int32.ofNat k1)), .val (.int (Int32.ofNat k2)), .val (.int (Int32.ofNat k3)), .unset, .unset, .unset, .unset] [(.int p6)])) rfl (hb hby at_46) _) ?_
    show D (T0.setTop (mkF m 48 #[.val (.int p1), .val (.int p2), .val (.int p3), .val (.int p4), .val (.int p5), .val (.int p6), .val (.int (2 : Int32)), .val (.int (Int32.ofNat k0)), .val (.int (Int32.ofNat k1)), .val (.int (Int32.ofNat k2)), .val (.int (Int32.ofNat k3)), .unset, .unset, .unset, .unset] [(.int (2147483647 : Int32)), (.int p6)]))
    refine A (XS.iand X0.here hx rfl (hb hby at_48) rfl) ?_
    show D (T0.setTop (mkF m 49 #[.val (.int p1), .val (.int p2), .val (.int p3), .val (.int p4), .val (.int p5), .val (.int p6), .val (.int (2 : Int32)), .val (.int (Int32.ofNat k0)), .val (.int (Int32.ofNat k1)), .val (.int (Int32.ofNat k2)), .val (.int (Int32.ofNat k3)), .unset, .unset, .unset, .unset] [(.int (p6 &&& (2147483647 : Int32)))]))
    refine A (XS.iload X0.here hx rfl (hb hby at_49) rfl) ?_
    show D (T0.setTop (mkF m 51 #[.val (.int p1), .val (.int p2), .val (.int p3), .val (.int p4), .val (.int p5), .val (.int p6), .val (.int (2 : Int32)), .val (.int (Int32.ofNat k0)), .val (.int (Int32.ofNat k1)), .val (.int (Int32.ofNat k2)), .val (.int (Int32.ofNat k3)), .unset, .unset, .unset, .unset] [(.int (2 : Int32)), (.int (p6 &&& (2147483647 : Int32)))]))
    refine A (iremM X0 hx rfl (hb hby at_51) rfl (by decide)) ?_
    show D (T0.setTop (mkF m 52 #[.val (.int p1), .val (.int p2), .val (.int p3), .val (.int p4), .val (.int p5), .val (.int p6), .val (.int (2 : Int32)), .val (.int (Int32.ofNat k0)), .val (.int (Int32.ofNat k1)), .val (.int (Int32.ofNat k2)), .val (.int (Int32.ofNat k3)), .unset, .unset, .unset, .unset] [(.int ((p6 &&& (2147483647 : Int32)) % (2 : Int32)))]))
    refine A (XS.istore X0.here hx rfl (hb hby at_52) rfl (l' := #[.val (.int p1), .val (.int p2), .val (.int p3), .val (.int p4), .val (.int p5), .val (.int p6), .val (.int (2 : Int32)), .val (.int (Int32.ofNat k0)), .val (.int (Int32.ofNat k1)), .val (.int (Int32.ofNat k2)), .val (.int (Int32.ofNat k3)), .val (.int ((p6 &&& (2147483647 : Int32)) % (2 : Int32))), .unset, .unset, .unset]) rfl) ?_
    show D (T0.setTop (mkF m 54 #[.val (.int p1), .val (.int p2), .val (.int p3), .val (.int p4), .val (.int p5), .val (.int p6), .val (.int (2 : Int32)), .val (.int (Int32.ofNat k0)), .val (.int (Int32.ofNat k1)), .val (.int (Int32.ofNat k2)), .val (.int (Int32.ofNat k3)), .val (.int ((p6 &&& (2147483647 : Int32)) % (2 : Int32))), .unset, .unset, .unset] []))
    suffices Kx11_54a : ∀ x11_54a : Int32, x11_54a = ((p6 &&& (2147483647 : Int32)) % (2 : Int32)) → D (T0.setTop (mkF m 54 #[.val (.int p1), .val (.int p2), .val (.int p3), .val (.int p4), .val (.int p5), .val (.int p6), .val (.int (2 : Int32)), .val (.int (Int32.ofNat k0)), .val (.int (Int32.ofNat k1)), .val (.int (Int32.ofNat k2)), .val (.int (Int32.ofNat k3)), .val (.int x11_54a), .unset, .unset, .unset] [])) from Kx11_54a _ rfl
    intro x11_54a hx11_54a
    obtain ⟨q, hq, rfl⟩ := own_k_2 hx11_54a
    show D (T0.setTop (mkF m 54 #[.val (.int p1), .val (.int p2), .val (.int p3), .val (.int p4), .val (.int p5), .val (.int p6), .val (.int (2 : Int32)), .val (.int (Int32.ofNat k0)), .val (.int (Int32.ofNat k1)), .val (.int (Int32.ofNat k2)), .val (.int (Int32.ofNat k3)), .val (.int (Int32.ofNat q)), .unset, .unset, .unset] []))
    refine A (XS.iconst X0.here hx rfl (hb hby at_54)) ?_
    show D (T0.setTop (mkF m 55 #[.val (.int p1), .val (.int p2), .val (.int p3), .val (.int p4), .val (.int p5), .val (.int p6), .val (.int (2 : Int32)), .val (.int (Int32.ofNat k0)), .val (.int (Int32.ofNat k1)), .val (.int (Int32.ofNat k2)), .val (.int (Int32.ofNat k3)), .val (.int (Int32.ofNat q)), .unset, .unset, .unset] [(.int (4 : Int32))]))
    refine Adv.newI A X0 hx hZ (aty := .int) (hw _ (List.mem_of_getElem? (i := 1) rfl)) e0 (n := 4) (by decide) 4 (by decide) (by decide) rfl (ad := "[I") (by decide) (by decide) (by decide) (g := (mkF m 55 #[.val (.int p1), .val (.int p2), .val (.int p3), .val (.int p4), .val (.int p5), .val (.int p6), .val (.int (2 : Int32)), .val (.int (Int32.ofNat k0)), .val (.int (Int32.ofNat k1)), .val (.int (Int32.ofNat k2)), .val (.int (Int32.ofNat k3)), .val (.int (Int32.ofNat q)), .unset, .unset, .unset] [(.int (4 : Int32))])) rfl rfl (hb hby at_55) ?_
    intro T18 h18 b18 q_b18 X18 e18 E18 V_b18 EA_b18
    have g_b18 : n0 ≤ b18 := Nat.le_trans Z0 (Nat.le_of_eq q_b18.symm)
    have Z_18 : n0 ≤ h18.size := Nat.le_trans Z0 E18.1
    show D (T18.setTop (mkF m 57 #[.val (.int p1), .val (.int p2), .val (.int p3), .val (.int p4), .val (.int p5), .val (.int p6), .val (.int (2 : Int32)), .val (.int (Int32.ofNat k0)), .val (.int (Int32.ofNat k1)), .val (.int (Int32.ofNat k2)), .val (.int (Int32.ofNat k3)), .val (.int (Int32.ofNat q)), .unset, .unset, .unset] [(.ref b18)]))
    refine A (XS.astore X18.here hx rfl (hb hby at_57) rfl rfl (l' := #[.val (.int p1), .val (.int p2), .val (.int p3), .val (.int p4), .val (.int p5), .val (.int p6), .val (.int (2 : Int32)), .val (.int (Int32.ofNat k0)), .val (.int (Int32.ofNat k1)), .val (.int (Int32.ofNat k2)), .val (.int (Int32.ofNat k3)), .val (.int (Int32.ofNat q)), .val (.ref b18), .unset, .unset]) rfl) ?_
    show D (T18.setTop (mkF m 59 #[.val (.int p1), .val (.int p2), .val (.int p3), .val (.int p4), .val (.int p5), .val (.int p6), .val (.int (2 : Int32)), .val (.int (Int32.ofNat k0)), .val (.int (Int32.ofNat k1)), .val (.int (Int32.ofNat k2)), .val (.int (Int32.ofNat k3)), .val (.int (Int32.ofNat q)), .val (.ref b18), .unset, .unset] []))
    refine A (XS.aload X18.here hx rfl (hb hby at_59) rfl rfl) ?_
    show D (T18.setTop (mkF m 61 #[.val (.int p1), .val (.int p2), .val (.int p3), .val (.int p4), .val (.int p5), .val (.int p6), .val (.int (2 : Int32)), .val (.int (Int32.ofNat k0)), .val (.int (Int32.ofNat k1)), .val (.int (Int32.ofNat k2)), .val (.int (Int32.ofNat k3)), .val (.int (Int32.ofNat q)), .val (.ref b18), .unset, .unset] [(.ref b18)]))
    refine A (XS.iconst X18.here hx rfl (hb hby at_61)) ?_
    show D (T18.setTop (mkF m 62 #[.val (.int p1), .val (.int p2), .val (.int p3), .val (.int p4), .val (.int p5), .val (.int p6), .val (.int (2 : Int32)), .val (.int (Int32.ofNat k0)), .val (.int (Int32.ofNat k1)), .val (.int (Int32.ofNat k2)), .val (.int (Int32.ofNat k3)), .val (.int (Int32.ofNat q)), .val (.ref b18), .unset, .unset] [(.int (0 : Int32)), (.ref b18)]))
    refine A (XS.iload X18.here hx rfl (hb hby at_62) rfl) ?_
    show D (T18.setTop (mkF m 64 #[.val (.int p1), .val (.int p2), .val (.int p3), .val (.int p4), .val (.int p5), .val (.int p6), .val (.int (2 : Int32)), .val (.int (Int32.ofNat k0)), .val (.int (Int32.ofNat k1)), .val (.int (Int32.ofNat k2)), .val (.int (Int32.ofNat k3)), .val (.int (Int32.ofNat q)), .val (.ref b18), .unset, .unset] [(.int (Int32.ofNat k0)), (.int (0 : Int32)), (.ref b18)]))
    refine Adv.stI A X18 hx hZ e18 V_b18 (k := 0) (by decide) (by decide) (g := (mkF m 64 #[.val (.int p1), .val (.int p2), .val (.int p3), .val (.int p4), .val (.int p5), .val (.int p6), .val (.int (2 : Int32)), .val (.int (Int32.ofNat k0)), .val (.int (Int32.ofNat k1)), .val (.int (Int32.ofNat k2)), .val (.int (Int32.ofNat k3)), .val (.int (Int32.ofNat q)), .val (.ref b18), .unset, .unset] [(.int (Int32.ofNat k0)), (.int (0 : Int32)), (.ref b18)])) rfl rfl (hb hby at_64) ?_
    intro T19 h19 X19 e19 W19 Vb18_19
    have N19 := Fr.snoc X19 (Fr.nil n0) g_b18
    have Z_19 : n0 ≤ h19.size := Nat.le_trans Z_18 (Nat.le_of_eq W19.size.symm)
    show D (T19.setTop (mkF m 65 #[.val (.int p1), .val (.int p2), .val (.int p3), .val (.int p4), .val (.int p5), .val (.int p6), .val (.int (2 : Int32)), .val (.int (Int32.ofNat k0)), .val (.int (Int32.ofNat k1)), .val (.int (Int32.ofNat k2)), .val (.int (Int32.ofNat k3)), .val (.int (Int32.ofNat q)), .val (.ref b18), .unset, .unset] []))
    obtain ⟨fn20, hfn20⟩ : ∃ z : Nat → Int32, z = (fun ix => if ix = 0 then (Int32.ofNat k0) else (fun _ => 0) ix) := ⟨_, rfl⟩
    rw [← hfn20] at Vb18_19
    refine A (XS.aload X19.here hx rfl (hb hby at_65) rfl rfl) ?_
    show D (T19.setTop (mkF m 67 #[.val (.int p1), .val (.int p2), .val (.int p3), .val (.int p4), .val (.int p5), .val (.int p6), .val (.int (2 : Int32)), .val (.int (Int32.ofNat k0)), .val (.int (Int32.ofNat k1)), .val (.int (Int32.ofNat k2)), .val (.int (Int32.ofNat k3)), .val (.int (Int32.ofNat q)), .val (.ref b18), .unset, .unset] [(.ref b18)]))
    refine A (XS.iconst X19.here hx rfl (hb hby at_67)) ?_
    show D (T19.setTop (mkF m 68 #[.val (.int p1), .val (.int p2), .val (.int p3), .val (.int p4), .val (.int p5), .val (.int p6), .val (.int (2 : Int32)), .val (.int (Int32.ofNat k0)), .val (.int (Int32.ofNat k1)), .val (.int (Int32.ofNat k2)), .val (.int (Int32.ofNat k3)), .val (.int (Int32.ofNat q)), .val (.ref b18), .unset, .unset] [(.int (1 : Int32)), (.ref b18)]))
    refine A (XS.iload X19.here hx rfl (hb hby at_68) rfl) ?_
    show D (T19.setTop (mkF m 70 #[.val (.int p1), .val (.int p2), .val (.int p3), .val (.int p4), .val (.int p5), .val (.int p6), .val (.int (2 : Int32)), .val (.int (Int32.ofNat k0)), .val (.int (Int32.ofNat k1)), .val (.int (Int32.ofNat k2)), .val (.int (Int32.ofNat k3)), .val (.int (Int32.ofNat q)), .val (.ref b18), .unset, .unset] [(.int (Int32.ofNat k1)), (.int (1 : Int32)), (.ref b18)]))
    refine Adv.stI A X19 hx hZ e19 Vb18_19 (k := 1) (by decide) (by decide) (g := (mkF m 70 #[.val (.int p1), .val (.int p2), .val (.int p3), .val (.int p4), .val (.int p5), .val (.int p6), .val (.int (2 : Int32)), .val (.int (Int32.ofNat k0)), .val (.int (Int32.ofNat k1)), .val (.int (Int32.ofNat k2)), .val (.int (Int32.ofNat k3)), .val (.int (Int32.ofNat q)), .val (.ref b18), .unset, .unset] [(.int (Int32.ofNat k1)), (.int (1 : Int32)), (.ref b18)])) rfl rfl (hb hby at_70) ?_
    intro T21 h21 X21 e21 W21 Vb18_21
    have N21 := Fr.snoc X21 N19 g_b18
    have Z_21 : n0 ≤ h21.size := Nat.le_trans Z_19 (Nat.le_of_eq W21.size.symm)
    show D (T21.setTop (mkF m 71 #[.val (.int p1), .val (.int p2), .val (.int p3), .val (.int p4), .val (.int p5), .val (.int p6), .val (.int (2 : Int32)), .val (.int (Int32.ofNat k0)), .val (.int (Int32.ofNat k1)), .val (.int (Int32.ofNat k2)), .val (.int (Int32.ofNat k3)), .val (.int (Int32.ofNat q)), .val (.ref b18), .unset, .unset] []))
    obtain ⟨fn22, hfn22⟩ : ∃ z : Nat → Int32, z = (fun ix => if ix = 1 then (Int32.ofNat k1) else fn20 ix) := ⟨_, rfl⟩
    rw [← hfn22] at Vb18_21
    refine A (XS.aload X21.here hx rfl (hb hby at_71) rfl rfl) ?_
    show D (T21.setTop (mkF m 73 #[.val (.int p1), .val (.int p2), .val (.int p3), .val (.int p4), .val (.int p5), .val (.int p6), .val (.int (2 : Int32)), .val (.int (Int32.ofNat k0)), .val (.int (Int32.ofNat k1)), .val (.int (Int32.ofNat k2)), .val (.int (Int32.ofNat k3)), .val (.int (Int32.ofNat q)), .val (.ref b18), .unset, .unset] [(.ref b18)]))
    refine A (XS.iconst X21.here hx rfl (hb hby at_73)) ?_
    show D (T21.setTop (mkF m 74 #[.val (.int p1), .val (.int p2), .val (.int p3), .val (.int p4), .val (.int p5), .val (.int p6), .val (.int (2 : Int32)), .val (.int (Int32.ofNat k0)), .val (.int (Int32.ofNat k1)), .val (.int (Int32.ofNat k2)), .val (.int (Int32.ofNat k3)), .val (.int (Int32.ofNat q)), .val (.ref b18), .unset, .unset] [(.int (2 : Int32)), (.ref b18)]))
    refine A (XS.iload X21.here hx rfl (hb hby at_74) rfl) ?_
    show D (T21.setTop (mkF m 76 #[.val (.int p1), .val (.int p2), .val (.int p3), .val (.int p4), .val (.int p5), .val (.int p6), .val (.int (2 : Int32)), .val (.int (Int32.ofNat k0)), .val (.int (Int32.ofNat k1)), .val (.int (Int32.ofNat k2)), .val (.int (Int32.ofNat k3)), .val (.int (Int32.ofNat q)), .val (.ref b18), .unset, .unset] [(.int (Int32.ofNat k2)), (.int (2 : Int32)), (.ref b18)]))
    refine Adv.stI A X21 hx hZ e21 Vb18_21 (k := 2) (by decide) (by decide) (g := (mkF m 76 #[.val (.int p1), .val (.int p2), .val (.int p3), .val (.int p4), .val (.int p5), .val (.int p6), .val (.int (2 : Int32)), .val (.int (Int32.ofNat k0)), .val (.int (Int32.ofNat k1)), .val (.int (Int32.ofNat k2)), .val (.int (Int32.ofNat k3)), .val (.int (Int32.ofNat q)), .val (.ref b18), .unset, .unset] [(.int (Int32.ofNat k2)), (.int (2 : Int32)), (.ref b18)])) rfl rfl (hb hby at_76) ?_
    intro T23 h23 X23 e23 W23 Vb18_23
    have N23 := Fr.snoc X23 N21 g_b18
    have Z_23 : n0 ≤ h23.size := Nat.le_trans Z_21 (Nat.le_of_eq W23.size.symm)
    show D (T23.setTop (mkF m 77 #[.val (.int p1), .val (.int p2), .val (.int p3), .val (.int p4), .val (.int p5), .val (.int p6), .val (.int (2 : Int32)), .val (.int (Int32.ofNat k0)), .val (.int (Int32.ofNat k1)), .val (.int (Int32.ofNat k2)), .val (.int (Int32.ofNat k3)), .val (.int (Int32.ofNat q)), .val (.ref b18), .unset, .unset] []))
    obtain ⟨fn24, hfn24⟩ : ∃ z : Nat → Int32, z = (fun ix => if ix = 2 then (Int32.ofNat k2) else fn22 ix) := ⟨_, rfl⟩
    rw [← hfn24] at Vb18_23
    refine A (XS.aload X23.here hx rfl (hb hby at_77) rfl rfl) ?_
    show D (T23.setTop (mkF m 79 #[.val (.int p1), .val (.int p2), .val (.int p3), .val (.int p4), .val (.int p5), .val (.int p6), .val (.int (2 : Int32)), .val (.int (Int32.ofNat k0)), .val (.int (Int32.ofNat k1)), .val (.int (Int32.ofNat k2)), .val (.int (Int32.ofNat k3)), .val (.int (Int32.ofNat q)), .val (.ref b18), .unset, .unset] [(.ref b18)]))
    refine A (XS.iconst X23.here hx rfl (hb hby at_79)) ?_
    show D (T23.setTop (mkF m 80 #[.val (.int p1), .val (.int p2), .val (.int p3), .val (.int p4), .val (.int p5), .val (.int p6), .val (.int (2 : Int32)), .val (.int (Int32.ofNat k0)), .val (.int (Int32.ofNat k1)), .val (.int (Int32.ofNat k2)), .val (.int (Int32.ofNat k3)), .val (.int (Int32.ofNat q)), .val (.ref b18), .unset, .unset] [(.int (3 : Int32)), (.ref b18)]))
    refine A (XS.iload X23.here hx rfl (hb hby at_80) rfl) ?_
    show D (T23.setTop (mkF m 82 #[.val (.int p1), .val (.int p2), .val (.int p3), .val (.int p4), .val (.int p5), .val (.int p6), .val (.int (2 : Int32)), .val (.int (Int32.ofNat k0)), .val (.int (Int32.ofNat k1)), .val (.int (Int32.ofNat k2)), .val (.int (Int32.ofNat k3)), .val (.int (Int32.ofNat q)), .val (.ref b18), .unset, .unset] [(.int (Int32.ofNat k3)), (.int (3 : Int32)), (.ref b18)]))
    refine Adv.stI A X23 hx hZ e23 Vb18_23 (k := 3) (by decide) (by decide) (g := (mkF m 82 #[.val (.int p1), .val (.int p2), .val (.int p3), .val (.int p4), .val (.int p5), .val (.int p6), .val (.int (2 : Int32)), .val (.int (Int32.ofNat k0)), .val (.int (Int32.ofNat k1)), .val (.int (Int32.ofNat k2)), .val (.int (Int32.ofNat k3)), .val (.int (Int32.ofNat q)), .val (.ref b18), .unset, .unset] [(.int (Int32.ofNat k3)), (.int (3 : Int32)), (.ref b18)])) rfl rfl (hb hby at_82) ?_
    intro T25 h25 X25 e25 W25 Vb18_25
    have N25 := Fr.snoc X25 N23 g_b18
    have Z_25 : n0 ≤ h25.size := Nat.le_trans Z_23 (Nat.le_of_eq W25.size.symm)
    show D (T25.setTop (mkF m 83 #[.val (.int p1), .val (.int p2), .val (.int p3), .val (.int p4), .val (.int p5), .val (.int p6), .val (.int (2 : Int32)), .val (.int (Int32.ofNat k0)), .val (.int (Int32.ofNat k1)), .val (.int (Int32.ofNat k2)), .val (.int (Int32.ofNat k3)), .val (.int (Int32.ofNat q)), .val (.ref b18), .unset, .unset] []))
    obtain ⟨fn26, hfn26⟩ : ∃ z : Nat → Int32, z = (fun ix => if ix = 3 then (Int32.ofNat k3) else fn24 ix) := ⟨_, rfl⟩
    rw [← hfn26] at Vb18_25
    have Vk : ArI Z h25 b18 .int 4 (own_ka k0 k1 k2 k3) := Vb18_25.eqf (fun i hi => by subst hfn26; subst hfn24; subst hfn22; subst hfn20; rcases (by omega : i = 0 ∨ i = 1 ∨ i = 2 ∨ i = 3) with rfl | rfl | rfl | rfl <;> rfl)
    obtain ⟨T27, h27, X27, e27, E27, A27, D27, -, st27⟩ := newO X25 hx hZ hown (hw _ (List.mem_of_getElem? (i := 2) rfl)) (hw _ (List.mem_of_getElem? (i := 3) rfl)) (hw _ (List.mem_of_getElem? (i := 4) rfl)) e25 (g := (mkF m 83 #[.val (.int p1), .val (.int p2), .val (.int p3), .val (.int p4), .val (.int p5), .val (.int p6), .val (.int (2 : Int32)), .val (.int (Int32.ofNat k0)), .val (.int (Int32.ofNat k1)), .val (.int (Int32.ofNat k2)), .val (.int (Int32.ofNat k3)), .val (.int (Int32.ofNat q)), .val (.ref b18), .unset, .unset] [])) rfl (hb hby at_83) (by decide) (by decide)
    obtain ⟨b27, q_b27⟩ : ∃ z, z = h25.size := ⟨_, rfl⟩
    rw [← q_b27] at A27 D27 st27
    have ne_b18_b27 : b18 ≠ b27 := Nat.ne_of_lt (Nat.lt_of_lt_of_le Vk.lt (Nat.le_of_eq q_b27.symm))
    have g_b27 : n0 ≤ b27 := Nat.le_trans Z_25 (Nat.le_of_eq q_b27.symm)
    have Vk_27 := Vk.ext E27
    have Z_27 : n0 ≤ h27.size := Nat.le_trans Z_25 E27.1
    have F_start_b27 : Fld Z h27 b27 "com/example/enklave/enklave/measure/RowGroups" "start" "[I" .null := D27 (Or.inr (hw _ (List.mem_of_getElem? (i := 12) rfl))) (ty := (.array .int)) (by decide)
    have F_rows_b27 : Fld Z h27 b27 "com/example/enklave/enklave/measure/RowGroups" "rows" "[I" .null := D27 (Or.inr (hw _ (List.mem_of_getElem? (i := 14) rfl))) (ty := (.array .int)) (by decide)
    refine A (st27 _) ?_
    show D (T27.setTop (mkF m 86 #[.val (.int p1), .val (.int p2), .val (.int p3), .val (.int p4), .val (.int p5), .val (.int p6), .val (.int (2 : Int32)), .val (.int (Int32.ofNat k0)), .val (.int (Int32.ofNat k1)), .val (.int (Int32.ofNat k2)), .val (.int (Int32.ofNat k3)), .val (.int (Int32.ofNat q)), .val (.ref b18), .unset, .unset] [(.ref b27)]))
    refine A (XS.dup X27.here hx rfl (hb hby at_86) rfl rfl) ?_
    show D (T27.setTop (mkF m 87 #[.val (.int p1), .val (.int p2), .val (.int p3), .val (.int p4), .val (.int p5), .val (.int p6), .val (.int (2 : Int32)), .val (.int (Int32.ofNat k0)), .val (.int (Int32.ofNat k1)), .val (.int (Int32.ofNat k2)), .val (.int (Int32.ofNat k3)), .val (.int (Int32.ofNat q)), .val (.ref b18), .unset, .unset] [(.ref b27), (.ref b27)]))
    refine A (XS.aload X27.here hx rfl (hb hby at_87) rfl rfl) ?_
    show D (T27.setTop (mkF m 89 #[.val (.int p1), .val (.int p2), .val (.int p3), .val (.int p4), .val (.int p5), .val (.int p6), .val (.int (2 : Int32)), .val (.int (Int32.ofNat k0)), .val (.int (Int32.ofNat k1)), .val (.int (Int32.ofNat k2)), .val (.int (Int32.ofNat k3)), .val (.int (Int32.ofNat q)), .val (.ref b18), .unset, .unset] [(.ref b18), (.ref b27), (.ref b27)]))
    refine A (XS.iload X27.here hx rfl (hb hby at_89) rfl) ?_
    show D (T27.setTop (mkF m 91 #[.val (.int p1), .val (.int p2), .val (.int p3), .val (.int p4), .val (.int p5), .val (.int p6), .val (.int (2 : Int32)), .val (.int (Int32.ofNat k0)), .val (.int (Int32.ofNat k1)), .val (.int (Int32.ofNat k2)), .val (.int (Int32.ofNat k3)), .val (.int (Int32.ofNat q)), .val (.ref b18), .unset, .unset] [(.int (2 : Int32)), (.ref b18), (.ref b27), (.ref b27)]))
    refine Adv.callI A X27 hx hZ hown rfl (hw _ (List.mem_of_getElem? (i := 5) rfl)) (hw _ (List.mem_of_getElem? (i := 6) rfl)) (hw _ (List.mem_of_getElem? (i := 4) rfl)) (hw _ (List.mem_of_getElem? (i := 7) rfl)) e27 (rm1_2 l Z a0 hw [] b27 b18 h27 n0 Z_27 g_b27 k0 k1 k2 k3 hk0 hk1 hk2 hk3 A27 F_start_b27 F_rows_b27 Vk_27) 1 (g := (mkF m 91 #[.val (.int p1), .val (.int p2), .val (.int p3), .val (.int p4), .val (.int p5), .val (.int p6), .val (.int (2 : Int32)), .val (.int (Int32.ofNat k0)), .val (.int (Int32.ofNat k1)), .val (.int (Int32.ofNat k2)), .val (.int (Int32.ofNat k3)), .val (.int (Int32.ofNat q)), .val (.ref b18), .unset, .unset] [(.int (2 : Int32)), (.ref b18), (.ref b27), (.ref b27)])) rfl (by rw [hml]; rfl) b27 [(.ref b18), (.int (2 : Int32))] [(.ref b27)] rfl (lenOf pd0_0 rfl) rfl (by show 2 * 0 + _ ≤ _; exact Nat.le_of_eq rfl) (hb hby at_91) (by decide) (by decide) (by decide) (by decide) (by decide) ?_
    rintro T28 L28 _ X28 ⟨rfl, s28, N28_q, K28, -, F28_s, V28_q⟩
    have N28 := Fr.app N25 N28_q
    have Vk_28 := Vk_27.keep K28 (ninS ne_b18_b27 nin0)
    have E_b27_28 := A27.keep K28
    have Z_28 : n0 ≤ T28.heap.size := Nat.le_trans Z_27 K28.1
    show D (T28.setTop (mkF m 94 #[.val (.int p1), .val (.int p2), .val (.int p3), .val (.int p4), .val (.int p5), .val (.int p6), .val (.int (2 : Int32)), .val (.int (Int32.ofNat k0)), .val (.int (Int32.ofNat k1)), .val (.int (Int32.ofNat k2)), .val (.int (Int32.ofNat k3)), .val (.int (Int32.ofNat q)), .val (.ref b18), .unset, .unset] [(.ref b27)]))
    refine A (XS.astore X28.here hx rfl (hb hby at_94) rfl rfl (l' := #[.val (.int p1), .val (.int p2), .val (.int p3), .val (.int p4), .val (.int p5), .val (.int p6), .val (.int (2 : Int32)), .val (.int (Int32.ofNat k0)), .val (.int (Int32.ofNat k1)), .val (.int (Int32.ofNat k2)), .val (.int (Int32.ofNat k3)), .val (.int (Int32.ofNat q)), .val (.ref b18), .val (.ref b27), .unset]) rfl) ?_
    show D (T28.setTop (mkF m 96 #[.val (.int p1), .val (.int p2), .val (.int p3), .val (.int p4), .val (.int p5), .val (.int p6), .val (.int (2 : Int32)), .val (.int (Int32.ofNat k0)), .val (.int (Int32.ofNat k1)), .val (.int (Int32.ofNat k2)), .val (.int (Int32.ofNat k3)), .val (.int (Int32.ofNat q)), .val (.ref b18), .val (.ref b27), .unset] []))
    refine A (XS.iload X28.here hx rfl (hb hby at_96) rfl) ?_
    show D (T28.setTop (mkF m 98 #[.val (.int p1), .val (.int p2), .val (.int p3), .val (.int p4), .val (.int p5), .val (.int p6), .val (.int (2 : Int32)), .val (.int (Int32.ofNat k0)), .val (.int (Int32.ofNat k1)), .val (.int (Int32.ofNat k2)), .val (.int (Int32.ofNat k3)), .val (.int (Int32.ofNat q)), .val (.ref b18), .val (.ref b27), .unset] [(.int (Int32.ofNat k0))]))
    refine A (XS.iload X28.here hx rfl (hb hby at_98) rfl) ?_
    show D (T28.setTop (mkF m 100 #[.val (.int p1), .val (.int p2), .val (.int p3), .val (.int p4), .val (.int p5), .val (.int p6), .val (.int (2 : Int32)), .val (.int (Int32.ofNat k0)), .val (.int (Int32.ofNat k1)), .val (.int (Int32.ofNat k2)), .val (.int (Int32.ofNat k3)), .val (.int (Int32.ofNat q)), .val (.ref b18), .val (.ref b27), .unset] [(.int (Int32.ofNat q)), (.int (Int32.ofNat k0))]))
    refine Adv.callS A X28 hx hZ hown (hw _ (List.mem_of_getElem? (i := 24) rfl)) (hw _ (List.mem_of_getElem? (i := 25) rfl)) (hw _ (List.mem_of_getElem? (i := 26) rfl)) (hw _ (List.mem_of_getElem? (i := 27) rfl)) rfl (rm3 l Z a0 hw [] (Int32.ofNat k0) (Int32.ofNat q) T28.heap n0) 0 (g := (mkF m 100 #[.val (.int p1), .val (.int p2), .val (.int p3), .val (.int p4), .val (.int p5), .val (.int p6), .val (.int (2 : Int32)), .val (.int (Int32.ofNat k0)), .val (.int (Int32.ofNat k1)), .val (.int (Int32.ofNat k2)), .val (.int (Int32.ofNat k3)), .val (.int (Int32.ofNat q)), .val (.ref b18), .val (.ref b27), .unset] [(.int (Int32.ofNat q)), (.int (Int32.ofNat k0))])) rfl (by rw [hml]; rfl) [(.int (Int32.ofNat k0)), (.int (Int32.ofNat q))] [] rfl (lenOf pd0_1 rfl) rfl (by show 2 * 0 + _ ≤ _; exact Nat.le_of_eq rfl) (hb hby at_100) (by decide) (by decide) (by decide) (by decide) (by decide) ?_
    rintro T29 L29 _ X29 ⟨rfl, N29_q, e29⟩
    have N29 := Fr.app N28 N29_q
    show D (T29.setTop (mkF m 103 #[.val (.int p1), .val (.int p2), .val (.int p3), .val (.int p4), .val (.int p5), .val (.int p6), .val (.int (2 : Int32)), .val (.int (Int32.ofNat k0)), .val (.int (Int32.ofNat k1)), .val (.int (Int32.ofNat k2)), .val (.int (Int32.ofNat k3)), .val (.int (Int32.ofNat q)), .val (.ref b18), .val (.ref b27), .unset] [(.int (f3 (Int32.ofNat k0) (Int32.ofNat q)))]))
    refine A (XS.iload X29.here hx rfl (hb hby at_103) rfl) ?_
    show D (T29.setTop (mkF m 105 #[.val (.int p1), .val (.int p2), .val (.int p3), .val (.int p4), .val (.int p5), .val (.int p6), .val (.int (2 : Int32)), .val (.int (Int32.ofNat k0)), .val (.int (Int32.ofNat k1)), .val (.int (Int32.ofNat k2)), .val (.int (Int32.ofNat k3)), .val (.int (Int32.ofNat q)), .val (.ref b18), .val (.ref b27), .unset] [(.int (Int32.ofNat k1)), (.int (f3 (Int32.ofNat k0) (Int32.ofNat q)))]))
    refine A (XS.iload X29.here hx rfl (hb hby at_105) rfl) ?_
    show D (T29.setTop (mkF m 107 #[.val (.int p1), .val (.int p2), .val (.int p3), .val (.int p4), .val (.int p5), .val (.int p6), .val (.int (2 : Int32)), .val (.int (Int32.ofNat k0)), .val (.int (Int32.ofNat k1)), .val (.int (Int32.ofNat k2)), .val (.int (Int32.ofNat k3)), .val (.int (Int32.ofNat q)), .val (.ref b18), .val (.ref b27), .unset] [(.int (Int32.ofNat q)), (.int (Int32.ofNat k1)), (.int (f3 (Int32.ofNat k0) (Int32.ofNat q)))]))
    refine Adv.callS A X29 hx hZ hown (hw _ (List.mem_of_getElem? (i := 24) rfl)) (hw _ (List.mem_of_getElem? (i := 25) rfl)) (hw _ (List.mem_of_getElem? (i := 26) rfl)) (hw _ (List.mem_of_getElem? (i := 27) rfl)) e29 (rm3 l Z a0 hw [] (Int32.ofNat k1) (Int32.ofNat q) T28.heap n0) 1 (g := (mkF m 107 #[.val (.int p1), .val (.int p2), .val (.int p3), .val (.int p4), .val (.int p5), .val (.int p6), .val (.int (2 : Int32)), .val (.int (Int32.ofNat k0)), .val (.int (Int32.ofNat k1)), .val (.int (Int32.ofNat k2)), .val (.int (Int32.ofNat k3)), .val (.int (Int32.ofNat q)), .val (.ref b18), .val (.ref b27), .unset] [(.int (Int32.ofNat q)), (.int (Int32.ofNat k1)), (.int (f3 (Int32.ofNat k0) (Int32.ofNat q)))])) rfl (by rw [hml]; rfl) [(.int (Int32.ofNat k1)), (.int (Int32.ofNat q))] [(.int (f3 (Int32.ofNat k0) (Int32.ofNat q)))] rfl (lenOf pd0_1 rfl) rfl (by show 2 * 0 + _ ≤ _; exact Nat.le_of_eq rfl) (hb hby at_107) (by decide) (by decide) (by decide) (by decide) (by decide) ?_
    rintro T30 L30 _ X30 ⟨rfl, N30_q, e30⟩
    have N30 := Fr.app N29 N30_q
    show D (T30.setTop (mkF m 110 #[.val (.int p1), .val (.int p2), .val (.int p3), .val (.int p4), .val (.int p5), .val (.int p6), .val (.int (2 : Int32)), .val (.int (Int32.ofNat k0)), .val (.int (Int32.ofNat k1)), .val (.int (Int32.ofNat k2)), .val (.int (Int32.ofNat k3)), .val (.int (Int32.ofNat q)), .val (.ref b18), .val (.ref b27), .unset] [(.int (f3 (Int32.ofNat k1) (Int32.ofNat q))), (.int (f3 (Int32.ofNat k0) (Int32.ofNat q)))]))
    refine A (XS.iadd X30.here hx rfl (hb hby at_110) rfl) ?_
    show D (T30.setTop (mkF m 111 #[.val (.int p1), .val (.int p2), .val (.int p3), .val (.int p4), .val (.int p5), .val (.int p6), .val (.int (2 : Int32)), .val (.int (Int32.ofNat k0)), .val (.int (Int32.ofNat k1)), .val (.int (Int32.ofNat k2)), .val (.int (Int32.ofNat k3)), .val (.int (Int32.ofNat q)), .val (.ref b18), .val (.ref b27), .unset] [(.int ((f3 (Int32.ofNat k0) (Int32.ofNat q)) + (f3 (Int32.ofNat k1) (Int32.ofNat q))))]))
    refine A (XS.iload X30.here hx rfl (hb hby at_111) rfl) ?_
    show D (T30.setTop (mkF m 113 #[.val (.int p1), .val (.int p2), .val (.int p3), .val (.int p4), .val (.int p5), .val (.int p6), .val (.int (2 : Int32)), .val (.int (Int32.ofNat k0)), .val (.int (Int32.ofNat k1)), .val (.int (Int32.ofNat k2)), .val (.int (Int32.ofNat k3)), .val (.int (Int32.ofNat q)), .val (.ref b18), .val (.ref b27), .unset] [(.int (Int32.ofNat k2)), (.int ((f3 (Int32.ofNat k0) (Int32.ofNat q)) + (f3 (Int32.ofNat k1) (Int32.ofNat q))))]))
    refine A (XS.iload X30.here hx rfl (hb hby at_113) rfl) ?_
    show D (T30.setTop (mkF m 115 #[.val (.int p1), .val (.int p2), .val (.int p3), .val (.int p4), .val (.int p5), .val (.int p6), .val (.int (2 : Int32)), .val (.int (Int32.ofNat k0)), .val (.int (Int32.ofNat k1)), .val (.int (Int32.ofNat k2)), .val (.int (Int32.ofNat k3)), .val (.int (Int32.ofNat q)), .val (.ref b18), .val (.ref b27), .unset] [(.int (Int32.ofNat q)), (.int (Int32.ofNat k2)), (.int ((f3 (Int32.ofNat k0) (Int32.ofNat q)) + (f3 (Int32.ofNat k1) (Int32.ofNat q))))]))
    refine Adv.callS A X30 hx hZ hown (hw _ (List.mem_of_getElem? (i := 24) rfl)) (hw _ (List.mem_of_getElem? (i := 25) rfl)) (hw _ (List.mem_of_getElem? (i := 26) rfl)) (hw _ (List.mem_of_getElem? (i := 27) rfl)) e30 (rm3 l Z a0 hw [] (Int32.ofNat k2) (Int32.ofNat q) T28.heap n0) 1 (g := (mkF m 115 #[.val (.int p1), .val (.int p2), .val (.int p3), .val (.int p4), .val (.int p5), .val (.int p6), .val (.int (2 : Int32)), .val (.int (Int32.ofNat k0)), .val (.int (Int32.ofNat k1)), .val (.int (Int32.ofNat k2)), .val (.int (Int32.ofNat k3)), .val (.int (Int32.ofNat q)), .val (.ref b18), .val (.ref b27), .unset] [(.int (Int32.ofNat q)), (.int (Int32.ofNat k2)), (.int ((f3 (Int32.ofNat k0) (Int32.ofNat q)) + (f3 (Int32.ofNat k1) (Int32.ofNat q))))])) rfl (by rw [hml]; rfl) [(.int (Int32.ofNat k2)), (.int (Int32.ofNat q))] [(.int ((f3 (Int32.ofNat k0) (Int32.ofNat q)) + (f3 (Int32.ofNat k1) (Int32.ofNat q))))] rfl (lenOf pd0_1 rfl) rfl (by show 2 * 0 + _ ≤ _; exact Nat.le_of_eq rfl) (hb hby at_115) (by decide) (by decide) (by decide) (by decide) (by decide) ?_
    rintro T31 L31 _ X31 ⟨rfl, N31_q, e31⟩
    have N31 := Fr.app N30 N31_q
    show D (T31.setTop (mkF m 118 #[.val (.int p1), .val (.int p2), .val (.int p3), .val (.int p4), .val (.int p5), .val (.int p6), .val (.int (2 : Int32)), .val (.int (Int32.ofNat k0)), .val (.int (Int32.ofNat k1)), .val (.int (Int32.ofNat k2)), .val (.int (Int32.ofNat k3)), .val (.int (Int32.ofNat q)), .val (.ref b18), .val (.ref b27), .unset] [(.int (f3 (Int32.ofNat k2) (Int32.ofNat q))), (.int ((f3 (Int32.ofNat k0) (Int32.ofNat q)) + (f3 (Int32.ofNat k1) (Int32.ofNat q))))]))
    refine A (XS.iadd X31.here hx rfl (hb hby at_118) rfl) ?_
    show D (T31.setTop (mkF m 119 #[.val (.int p1), .val (.int p2), .val (.int p3), .val (.int p4), .val (.int p5), .val (.int p6), .val (.int (2 : Int32)), .val (.int (Int32.ofNat k0)), .val (.int (Int32.ofNat k1)), .val (.int (Int32.ofNat k2)), .val (.int (Int32.ofNat k3)), .val (.int (Int32.ofNat q)), .val (.ref b18), .val (.ref b27), .unset] [(.int (((f3 (Int32.ofNat k0) (Int32.ofNat q)) + (f3 (Int32.ofNat k1) (Int32.ofNat q))) + (f3 (Int32.ofNat k2) (Int32.ofNat q))))]))
    refine A (XS.iload X31.here hx rfl (hb hby at_119) rfl) ?_
    show D (T31.setTop (mkF m 121 #[.val (.int p1), .val (.int p2), .val (.int p3), .val (.int p4), .val (.int p5), .val (.int p6), .val (.int (2 : Int32)), .val (.int (Int32.ofNat k0)), .val (.int (Int32.ofNat k1)), .val (.int (Int32.ofNat k2)), .val (.int (Int32.ofNat k3)), .val (.int (Int32.ofNat q)), .val (.ref b18), .val (.ref b27), .unset] [(.int (Int32.ofNat k3)), (.int (((f3 (Int32.ofNat k0) (Int32.ofNat q)) + (f3 (Int32.ofNat k1) (Int32.ofNat q))) + (f3 (Int32.ofNat k2) (Int32.ofNat q))))]))
    refine A (XS.iload X31.here hx rfl (hb hby at_121) rfl) ?_
    show D (T31.setTop (mkF m 123 #[.val (.int p1), .val (.int p2), .val (.int p3), .val (.int p4), .val (.int p5), .val (.int p6), .val (.int (2 : Int32)), .val (.int (Int32.ofNat k0)), .val (.int (Int32.ofNat k1)), .val (.int (Int32.ofNat k2)), .val (.int (Int32.ofNat k3)), .val (.int (Int32.ofNat q)), .val (.ref b18), .val (.ref b27), .unset] [(.int (Int32.ofNat q)), (.int (Int32.ofNat k3)), (.int (((f3 (Int32.ofNat k0) (Int32.ofNat q)) + (f3 (Int32.ofNat k1) (Int32.ofNat q))) + (f3 (Int32.ofNat k2) (Int32.ofNat q))))]))
    refine Adv.callS A X31 hx hZ hown (hw _ (List.mem_of_getElem? (i := 24) rfl)) (hw _ (List.mem_of_getElem? (i := 25) rfl)) (hw _ (List.mem_of_getElem? (i := 26) rfl)) (hw _ (List.mem_of_getElem? (i := 27) rfl)) e31 (rm3 l Z a0 hw [] (Int32.ofNat k3) (Int32.ofNat q) T28.heap n0) 1 (g := (mkF m 123 #[.val (.int p1), .val (.int p2), .val (.int p3), .val (.int p4), .val (.int p5), .val (.int p6), .val (.int (2 : Int32)), .val (.int (Int32.ofNat k0)), .val (.int (Int32.ofNat k1)), .val (.int (Int32.ofNat k2)), .val (.int (Int32.ofNat k3)), .val (.int (Int32.ofNat q)), .val (.ref b18), .val (.ref b27), .unset] [(.int (Int32.ofNat q)), (.int (Int32.ofNat k3)), (.int (((f3 (Int32.ofNat k0) (Int32.ofNat q)) + (f3 (Int32.ofNat k1) (Int32.ofNat q))) + (f3 (Int32.ofNat k2) (Int32.ofNat q))))])) rfl (by rw [hml]; rfl) [(.int (Int32.ofNat k3)), (.int (Int32.ofNat q))] [(.int (((f3 (Int32.ofNat k0) (Int32.ofNat q)) + (f3 (Int32.ofNat k1) (Int32.ofNat q))) + (f3 (Int32.ofNat k2) (Int32.ofNat q))))] rfl (lenOf pd0_1 rfl) rfl (by show 2 * 0 + _ ≤ _; exact Nat.le_of_eq rfl) (hb hby at_123) (by decide) (by decide) (by decide) (by decide) (by decide) ?_
    rintro T32 L32 _ X32 ⟨rfl, N32_q, e32⟩
    have N32 := Fr.app N31 N32_q
    show D (T32.setTop (mkF m 126 #[.val (.int p1), .val (.int p2), .val (.int p3), .val (.int p4), .val (.int p5), .val (.int p6), .val (.int (2 : Int32)), .val (.int (Int32.ofNat k0)), .val (.int (Int32.ofNat k1)), .val (.int (Int32.ofNat k2)), .val (.int (Int32.ofNat k3)), .val (.int (Int32.ofNat q)), .val (.ref b18), .val (.ref b27), .unset] [(.int (f3 (Int32.ofNat k3) (Int32.ofNat q))), (.int (((f3 (Int32.ofNat k0) (Int32.ofNat q)) + (f3 (Int32.ofNat k1) (Int32.ofNat q))) + (f3 (Int32.ofNat k2) (Int32.ofNat q))))]))
    refine A (XS.iadd X32.here hx rfl (hb hby at_126) rfl) ?_
    show D (T32.setTop (mkF m 127 #[.val (.int p1), .val (.int p2), .val (.int p3), .val (.int p4), .val (.int p5), .val (.int p6), .val (.int (2 : Int32)), .val (.int (Int32.ofNat k0)), .val (.int (Int32.ofNat k1)), .val (.int (Int32.ofNat k2)), .val (.int (Int32.ofNat k3)), .val (.int (Int32.ofNat q)), .val (.ref b18), .val (.ref b27), .unset] [(.int ((((f3 (Int32.ofNat k0) (Int32.ofNat q)) + (f3 (Int32.ofNat k1) (Int32.ofNat q))) + (f3 (Int32.ofNat k2) (Int32.ofNat q))) + (f3 (Int32.ofNat k3) (Int32.ofNat q))))]))
    refine A (XS.istore X32.here hx rfl (hb hby at_127) rfl (l' := #[.val (.int p1), .val (.int p2), .val (.int p3), .val (.int p4), .val (.int p5), .val (.int p6), .val (.int (2 : Int32)), .val (.int (Int32.ofNat k0)), .val (.int (Int32.ofNat k1)), .val (.int (Int32.ofNat k2)), .val (.int (Int32.ofNat k3)), .val (.int (Int32.ofNat q)), .val (.ref b18), .val (.ref b27), .val (.int ((((f3 (Int32.ofNat k0) (Int32.ofNat q)) + (f3 (Int32.ofNat k1) (Int32.ofNat q))) + (f3 (Int32.ofNat k2) (Int32.ofNat q))) + (f3 (Int32.ofNat k3) (Int32.ofNat q))))]) rfl) ?_
    show D (T32.setTop (mkF m 129 #[.val (.int p1), .val (.int p2), .val (.int p3), .val (.int p4), .val (.int p5), .val (.int p6), .val (.int (2 : Int32)), .val (.int (Int32.ofNat k0)), .val (.int (Int32.ofNat k1)), .val (.int (Int32.ofNat k2)), .val (.int (Int32.ofNat k3)), .val (.int (Int32.ofNat q)), .val (.ref b18), .val (.ref b27), .val (.int ((((f3 (Int32.ofNat k0) (Int32.ofNat q)) + (f3 (Int32.ofNat k1) (Int32.ofNat q))) + (f3 (Int32.ofNat k2) (Int32.ofNat q))) + (f3 (Int32.ofNat k3) (Int32.ofNat q))))] []))
    suffices Kx14_129a : ∀ x14_129a : Int32, x14_129a = ((((f3 (Int32.ofNat k0) (Int32.ofNat q)) + (f3 (Int32.ofNat k1) (Int32.ofNat q))) + (f3 (Int32.ofNat k2) (Int32.ofNat q))) + (f3 (Int32.ofNat k3) (Int32.ofNat q))) → D (T32.setTop (mkF m 129 #[.val (.int p1), .val (.int p2), .val (.int p3), .val (.int p4), .val (.int p5), .val (.int p6), .val (.int (2 : Int32)), .val (.int (Int32.ofNat k0)), .val (.int (Int32.ofNat k1)), .val (.int (Int32.ofNat k2)), .val (.int (Int32.ofNat k3)), .val (.int (Int32.ofNat q)), .val (.ref b18), .val (.ref b27), .val (.int x14_129a)] [])) from Kx14_129a _ rfl
    intro x14_129a hx14_129a
    refine A (XS.aload X32.here hx rfl (hb hby at_129) rfl rfl) ?_
    show D (T32.setTop (mkF m 131 #[.val (.int p1), .val (.int p2), .val (.int p3), .val (.int p4), .val (.int p5), .val (.int p6), .val (.int (2 : Int32)), .val (.int (Int32.ofNat k0)), .val (.int (Int32.ofNat k1)), .val (.int (Int32.ofNat k2)), .val (.int (Int32.ofNat k3)), .val (.int (Int32.ofNat q)), .val (.ref b18), .val (.ref b27), .val (.int x14_129a)] [(.ref b27)]))
    refine A (XS.iload X32.here hx rfl (hb hby at_131) rfl) ?_
    show D (T32.setTop (mkF m 133 #[.val (.int p1), .val (.int p2), .val (.int p3), .val (.int p4), .val (.int p5), .val (.int p6), .val (.int (2 : Int32)), .val (.int (Int32.ofNat k0)), .val (.int (Int32.ofNat k1)), .val (.int (Int32.ofNat k2)), .val (.int (Int32.ofNat k3)), .val (.int (Int32.ofNat q)), .val (.ref b18), .val (.ref b27), .val (.int x14_129a)] [(.int (Int32.ofNat q)), (.ref b27)]))
    refine Adv.callV A X32 hx hZ hown (hw _ (List.mem_of_getElem? (i := 28) rfl)) (hw _ (List.mem_of_getElem? (i := 29) rfl)) (notFace_of_selects (args := #[]) (mvT hZ (hw _ (List.mem_of_getElem? (i := 31) rfl)))) (hw _ (List.mem_of_getElem? (i := 31) rfl)) (hw _ (List.mem_of_getElem? (i := 30) rfl)) (hw _ (List.mem_of_getElem? (i := 4) rfl)) (hw _ (List.mem_of_getElem? (i := 32) rfl)) e32 E_b27_28 (rm4 l Z a0 hw [] b27 (Int32.ofNat q) T28.heap n0 s28 3 (fun i => Int32.ofNat (own_c0 k0 k1 k2 k3 i)) q (own_of (by omega)) (by omega) (by omega) F28_s V28_q) 0 (g := (mkF m 133 #[.val (.int p1), .val (.int p2), .val (.int p3), .val (.int p4), .val (.int p5), .val (.int p6), .val (.int (2 : Int32)), .val (.int (Int32.ofNat k0)), .val (.int (Int32.ofNat k1)), .val (.int (Int32.ofNat k2)), .val (.int (Int32.ofNat k3)), .val (.int (Int32.ofNat q)), .val (.ref b18), .val (.ref b27), .val (.int x14_129a)] [(.int (Int32.ofNat q)), (.ref b27)])) rfl (by rw [hml]; rfl) [(.int (Int32.ofNat q))] [] rfl (lenOf pd0_2 rfl) rfl (by show 2 * 0 + _ ≤ _; exact Nat.le_of_eq rfl) (hb hby at_133) (by decide) (by decide) (by decide) (by decide) (by decide) ?_
    rintro T33 L33 _ X33 ⟨rfl, N33_q, e33⟩
    have N33 := Fr.app N32 N33_q
    show D (T33.setTop (mkF m 136 #[.val (.int p1), .val (.int p2), .val (.int p3), .val (.int p4), .val (.int p5), .val (.int p6), .val (.int (2 : Int32)), .val (.int (Int32.ofNat k0)), .val (.int (Int32.ofNat k1)), .val (.int (Int32.ofNat k2)), .val (.int (Int32.ofNat k3)), .val (.int (Int32.ofNat q)), .val (.ref b18), .val (.ref b27), .val (.int x14_129a)] [(.int (Int32.ofNat (own_n2 k0 k1 k2 k3 (q + 1)) - Int32.ofNat (own_n2 k0 k1 k2 k3 q)))]))
    refine A (XS.iload X33.here hx rfl (hb hby at_136) rfl) ?_
    show D (T33.setTop (mkF m 138 #[.val (.int p1), .val (.int p2), .val (.int p3), .val (.int p4), .val (.int p5), .val (.int p6), .val (.int (2 : Int32)), .val (.int (Int32.ofNat k0)), .val (.int (Int32.ofNat k1)), .val (.int (Int32.ofNat k2)), .val (.int (Int32.ofNat k3)), .val (.int (Int32.ofNat q)), .val (.ref b18), .val (.ref b27), .val (.int x14_129a)] [(.int x14_129a), (.int (Int32.ofNat (own_n2 k0 k1 k2 k3 (q + 1)) - Int32.ofNat (own_n2 k0 k1 k2 k3 q)))]))
    suffices Km146_34 : ∀ (v146s0a : Int32), v146s0a = (if (Int32.ofNat (own_n2 k0 k1 k2 k3 (q + 1)) - Int32.ofNat (own_n2 k0 k1 k2 k3 q)) = x14_129a then (1 : Int32) else (0 : Int32)) → D (T33.setTop (mkF m 146 #[.val (.int p1), .val (.int p2), .val (.int p3), .val (.int p4), .val (.int p5), .val (.int p6), .val (.int (2 : Int32)), .val (.int (Int32.ofNat k0)), .val (.int (Int32.ofNat k1)), .val (.int (Int32.ofNat k2)), .val (.int (Int32.ofNat k3)), .val (.int (Int32.ofNat q)), .val (.ref b18), .val (.ref b27), .val (.int x14_129a)] [(.int v146s0a)])) by
      by_cases c138_0 : (Int32.ofNat (own_n2 k0 k1 k2 k3 (q + 1)) - Int32.ofNat (own_n2 k0 k1 k2 k3 q)) = x14_129a
      · refine A (XS.icmpNo X33.here hx rfl (hb hby at_138) rfl (teq c138_0).2) ?_
        show D (T33.setTop (mkF m 141 #[.val (.int p1), .val (.int p2), .val (.int p3), .val (.int p4), .val (.int p5), .val (.int p6), .val (.int (2 : Int32)), .val (.int (Int32.ofNat k0)), .val (.int (Int32.ofNat k1)), .val (.int (Int32.ofNat k2)), .val (.int (Int32.ofNat k3)), .val (.int (Int32.ofNat q)), .val (.ref b18), .val (.ref b27), .val (.int x14_129a)] []))
        refine A (XS.iconst X33.here hx rfl (hb hby at_141)) ?_
        show D (T33.setTop (mkF m 142 #[.val (.int p1), .val (.int p2), .val (.int p3), .val (.int p4), .val (.int p5), .val (.int p6), .val (.int (2 : Int32)), .val (.int (Int32.ofNat k0)), .val (.int (Int32.ofNat k1)), .val (.int (Int32.ofNat k2)), .val (.int (Int32.ofNat k3)), .val (.int (Int32.ofNat q)), .val (.ref b18), .val (.ref b27), .val (.int x14_129a)] [(.int (1 : Int32))]))
        refine A (XS.goto X33.here hx rfl (pc0 := 142) (pc' := 146) rfl (hb hby at_142) (by decide) (by decide)) ?_
        show D (T33.setTop (mkF m 146 #[.val (.int p1), .val (.int p2), .val (.int p3), .val (.int p4), .val (.int p5), .val (.int p6), .val (.int (2 : Int32)), .val (.int (Int32.ofNat k0)), .val (.int (Int32.ofNat k1)), .val (.int (Int32.ofNat k2)), .val (.int (Int32.ofNat k3)), .val (.int (Int32.ofNat q)), .val (.ref b18), .val (.ref b27), .val (.int x14_129a)] [(.int (1 : Int32))]))
        exact Km146_34 _ ((if_pos c138_0)).symm
      · refine A (XS.icmpYes X33.here hx rfl (pc0 := 138) (pc' := 145) rfl (hb hby at_138) rfl (feq c138_0).2 (by decide) (by decide)) ?_
        show D (T33.setTop (mkF m 145 #[.val (.int p1), .val (.int p2), .val (.int p3), .val (.int p4), .val (.int p5), .val (.int p6), .val (.int (2 : Int32)), .val (.int (Int32.ofNat k0)), .val (.int (Int32.ofNat k1)), .val (.int (Int32.ofNat k2)), .val (.int (Int32.ofNat k3)), .val (.int (Int32.ofNat q)), .val (.ref b18), .val (.ref b27), .val (.int x14_129a)] []))
        refine A (XS.iconst X33.here hx rfl (hb hby at_145)) ?_
        show D (T33.setTop (mkF m 146 #[.val (.int p1), .val (.int p2), .val (.int p3), .val (.int p4), .val (.int p5), .val (.int p6), .val (.int (2 : Int32)), .val (.int (Int32.ofNat k0)), .val (.int (Int32.ofNat k1)), .val (.int (Int32.ofNat k2)), .val (.int (Int32.ofNat k3)), .val (.int (Int32.ofNat q)), .val (.ref b18), .val (.ref b27), .val (.int x14_129a)] [(.int (0 : Int32))]))
        exact Km146_34 _ ((if_neg c138_0)).symm
    intro v146s0a hv146s0a
    show D (T33.setTop (mkF m 146 #[.val (.int p1), .val (.int p2), .val (.int p3), .val (.int p4), .val (.int p5), .val (.int p6), .val (.int (2 : Int32)), .val (.int (Int32.ofNat k0)), .val (.int (Int32.ofNat k1)), .val (.int (Int32.ofNat k2)), .val (.int (Int32.ofNat k3)), .val (.int (Int32.ofNat q)), .val (.ref b18), .val (.ref b27), .val (.int x14_129a)] [(.int v146s0a)]))
    obtain rfl : v146s0a = (1 : Int32) := by
      rw [hv146s0a, hx14_129a, if_pos (own_fin k0 (by omega) k1 (by omega) k2 (by omega) k3 (by omega) q (by omega))]
    show D (T33.setTop (mkF m 146 #[.val (.int p1), .val (.int p2), .val (.int p3), .val (.int p4), .val (.int p5), .val (.int p6), .val (.int (2 : Int32)), .val (.int (Int32.ofNat k0)), .val (.int (Int32.ofNat k1)), .val (.int (Int32.ofNat k2)), .val (.int (Int32.ofNat k3)), .val (.int (Int32.ofNat q)), .val (.ref b18), .val (.ref b27), .val (.int x14_129a)] [(.int (1 : Int32))]))
    exact F _ (Jvm.JW.ret X33 hlk (v := some (.int (1 : Int32))) (fun h => by rw [hrt] at h; cases h) (fun fs hr => retOut X33 hx hrt rfl (Or.inl ⟨rfl, Or.inr (Or.inl rfl), _, rfl⟩) (hb hby at_146) hr) rfl ⟨rfl, N33⟩ (by decide) (by decide))
  · show D (T0.setTop (mkF m 7 #[.val (.int p1), .val (.int p2), .val (.int p3), .val (.int p4), .val (.int p5), .val (.int p6), .val (.int (3 : Int32)), .unset, .unset, .unset, .unset, .unset, .unset, .unset, .unset] []))
    refine A (XS.iloadN X0.here hx rfl (hb hby at_7) rfl) ?_
    show D (T0.setTop (mkF m 8 #[.val (.int p1), .val (.int p2), .val (.int p3), .val (.int p4), .val (.int p5), .val (.int p6), .val (.int (3 : Int32)), .unset, .unset, .unset, .unset, .unset, .unset, .unset, .unset] [(.int p2)]))
    refine A (X0.ldcInt hx hown (mvT hZ (hw _ (List.mem_of_getElem? (i := 0) rfl))) (g := (mkF m 8 #[.val (.int p1), .val (.int p2), .val (.int p3), .val (.int p4), .val (.int p5), .val (.int p6), .val (.int (3 : Int32)), .unset, .unset, .unset, .unset, .unset, .unset, .unset, .unset] [(.int p2)])) rfl (hb hby at_8) _) ?_
    show D (T0.setTop (mkF m 10 #[.val (.int p1), .val (.int p2), .val (.int p3), .val (.int p4), .val (.int p5), .val (.int p6), .val (.int (3 : Int32)), .unset, .unset, .unset, .unset, .unset, .unset, .unset, .unset] [(.int (2147483647 : Int32)), (.int p2)]))
    refine A (XS.iand X0.here hx rfl (hb hby at_10) rfl) ?_
    show D (T0.setTop (mkF m 11 #[.val (.int p1), .val (.int p2), .val (.int p3), .val (.int p4), .val (.int p5), .val (.int p6), .val (.int (3 : Int32)), .unset, .unset, .unset, .unset, .unset, .unset, .unset, .unset] [(.int (p2 &&& (2147483647 : Int32)))]))
    refine A (XS.iload X0.here hx rfl (hb hby at_11) rfl) ?_
    show D (T0.setTop (mkF m 13 #[.val (.int p1), .val (.int p2), .val (.int p3), .val (.int p4), .val (.int p5), .val (.int p6), .val (.int (3 : Int32)), .unset, .unset, .unset, .unset, .unset, .unset, .unset, .unset] [(.int (3 : Int32)), (.int (p2 &&& (2147483647 : Int32)))]))
    refine A (iremM X0 hx rfl (hb hby at_13) rfl (by decide)) ?_
    show D (T0.setTop (mkF m 14 #[.val (.int p1), .val (.int p2), .val (.int p3), .val (.int p4), .val (.int p5), .val (.int p6), .val (.int (3 : Int32)), .unset, .unset, .unset, .unset, .unset, .unset, .unset, .unset] [(.int ((p2 &&& (2147483647 : Int32)) % (3 : Int32)))]))
    refine A (XS.istore X0.here hx rfl (hb hby at_14) rfl (l' := #[.val (.int p1), .val (.int p2), .val (.int p3), .val (.int p4), .val (.int p5), .val (.int p6), .val (.int (3 : Int32)), .val (.int ((p2 &&& (2147483647 : Int32)) % (3 : Int32))), .unset, .unset, .unset, .unset, .unset, .unset, .unset]) rfl) ?_
    show D (T0.setTop (mkF m 16 #[.val (.int p1), .val (.int p2), .val (.int p3), .val (.int p4), .val (.int p5), .val (.int p6), .val (.int (3 : Int32)), .val (.int ((p2 &&& (2147483647 : Int32)) % (3 : Int32))), .unset, .unset, .unset, .unset, .unset, .unset, .unset] []))
    suffices Kx7_16aa : ∀ x7_16aa : Int32, x7_16aa = ((p2 &&& (2147483647 : Int32)) % (3 : Int32)) → D (T0.setTop (mkF m 16 #[.val (.int p1), .val (.int p2), .val (.int p3), .val (.int p4), .val (.int p5), .val (.int p6), .val (.int (3 : Int32)), .val (.int x7_16aa), .unset, .unset, .unset, .unset, .unset, .unset, .unset] [])) from Kx7_16aa _ rfl
    intro x7_16aa hx7_16aa
    obtain ⟨k0, hk0, rfl⟩ := own_k_3 hx7_16aa
    show D (T0.setTop (mkF m 16 #[.val (.int p1), .val (.int p2), .val (.int p3), .val (.int p4), .val (.int p5), .val (.int p6), .val (.int (3 : Int32)), .val (.int (Int32.ofNat k0)), .unset, .unset, .unset, .unset, .unset, .unset, .unset] []))
    refine A (XS.iloadN X0.here hx rfl (hb hby at_16) rfl) ?_
    show D (T0.setTop (mkF m 17 #[.val (.int p1), .val (.int p2), .val (.int p3), .val (.int p4), .val (.int p5), .val (.int p6), .val (.int (3 : Int32)), .val (.int (Int32.ofNat k0)), .unset, .unset, .unset, .unset, .unset, .unset, .unset] [(.int p3)]))
    refine A (X0.ldcInt hx hown (mvT hZ (hw _ (List.mem_of_getElem? (i := 0) rfl))) (g := (mkF m 17 #[.val (.int p1), .val (.int p2), .val (.int p3), .val (.int p4), .val (.int p5), .val (.int p6), .val (.int (3 : Int32)), .val (.int (Int32.ofNat k0)), .unset, .unset, .unset, .unset, .unset, .unset, .unset] [(.int p3)])) rfl (hb hby at_17) _) ?_
    show D (T0.setTop (mkF m 19 #[.val (.int p1), .val (.int p2), .val (.int p3), .val (.int p4), .val (.int p5), .val (.int p6), .val (.int (3 : Int32)), .val (.int (Int32.ofNat k0)), .unset, .unset, .unset, .unset, .unset, .unset, .unset] [(.int (2147483647 : Int32)), (.int p3)]))
    refine A (XS.iand X0.here hx rfl (hb hby at_19) rfl) ?_
    show D (T0.setTop (mkF m 20 #[.val (.int p1), .val (.int p2), .val (.int p3), .val (.int p4), .val (.int p5), .val (.int p6), .val (.int (3 : Int32)), .val (.int (Int32.ofNat k0)), .unset, .unset, .unset, .unset, .unset, .unset, .unset] [(.int (p3 &&& (2147483647 : Int32)))]))
    refine A (XS.iload X0.here hx rfl (hb hby at_20) rfl) ?_
    show D (T0.setTop (mkF m 22 #[.val (.int p1), .val (.int p2), .val (.int p3), .val (.int p4), .val (.int p5), .val (.int p6), .val (.int (3 : Int32)), .val (.int (Int32.ofNat k0)), .unset, .unset, .unset, .unset, .unset, .unset, .unset] [(.int (3 : Int32)), (.int (p3 &&& (2147483647 : Int32)))]))
    refine A (iremM X0 hx rfl (hb hby at_22) rfl (by decide)) ?_
    show D (T0.setTop (mkF m 23 #[.val (.int p1), .val (.int p2), .val (.int p3), .val (.int p4), .val (.int p5), .val (.int p6), .val (.int (3 : Int32)), .val (.int (Int32.ofNat k0)), .unset, .unset, .unset, .unset, .unset, .unset, .unset] [(.int ((p3 &&& (2147483647 : Int32)) % (3 : Int32)))]))
    refine A (XS.istore X0.here hx rfl (hb hby at_23) rfl (l' := #[.val (.int p1), .val (.int p2), .val (.int p3), .val (.int p4), .val (.int p5), .val (.int p6), .val (.int (3 : Int32)), .val (.int (Int32.ofNat k0)), .val (.int ((p3 &&& (2147483647 : Int32)) % (3 : Int32))), .unset, .unset, .unset, .unset, .unset, .unset]) rfl) ?_
    show D (T0.setTop (mkF m 25 #[.val (.int p1), .val (.int p2), .val (.int p3), .val (.int p4), .val (.int p5), .val (.int p6), .val (.int (3 : Int32)), .val (.int (Int32.ofNat k0)), .val (.int ((p3 &&& (2147483647 : Int32)) % (3 : Int32))), .unset, .unset, .unset, .unset, .unset, .unset] []))
    suffices Kx8_25aa : ∀ x8_25aa : Int32, x8_25aa = ((p3 &&& (2147483647 : Int32)) % (3 : Int32)) → D (T0.setTop (mkF m 25 #[.val (.int p1), .val (.int p2), .val (.int p3), .val (.int p4), .val (.int p5), .val (.int p6), .val (.int (3 : Int32)), .val (.int (Int32.ofNat k0)), .val (.int x8_25aa), .unset, .unset, .unset, .unset, .unset, .unset] [])) from Kx8_25aa _ rfl
    intro x8_25aa hx8_25aa
    obtain ⟨k1, hk1, rfl⟩ := own_k_3 hx8_25aa
    show D (T0.setTop (mkF m 25 #[.val (.int p1), .val (.int p2), .val (.int p3), .val (.int p4), .val (.int p5), .val (.int p6), .val (.int (3 : Int32)), .val (.int (Int32.ofNat k0)), .val (.int (Int32.ofNat k1)), .unset, .unset, .unset, .unset, .unset, .unset] []))
    refine A (XS.iloadN X0.here hx rfl (hb hby at_25) rfl) ?_
    show D (T0.setTop (mkF m 26 #[.val (.int p1), .val (.int p2), .val (.int p3), .val (.int p4), .val (.int p5), .val (.int p6), .val (.int (3 : Int32)), .val (.int (Int32.ofNat k0)), .val (.int (Int32.ofNat k1)), .unset, .unset, .unset, .unset, .unset, .unset] [(.int p4)]))
    refine A (X0.ldcInt hx hown (mvT hZ (hw _ (List.mem_of_getElem? (i := 0) rfl))) (g := (mkF m 26 #[.val (.int p1), .val (.int p2), .val (.int p3), .val (.int p4), .val (.int p5), .val (.int p6), .val (.int (3 : Int32)), .val (.int (Int32.ofNat k0)), .val (.int (Int32.ofNat k1)), .unset, .unset, .unset, .unset, .unset, .unset] [(.int p4)])) rfl (hb hby at_26) _) ?_
    show D (T0.setTop (mkF m 28 #[.val (.int p1), .val (.int p2), .val (.int p3), .val (.int p4), .val (.int p5), .val (.int p6), .val (.int (3 : Int32)), .val (.int (Int32.ofNat k0)), .val (.int (Int32.ofNat k1)), .unset, .unset, .unset, .unset, .unset, .unset] [(.int (2147483647 : Int32)), (.int p4)]))
    refine A (XS.iand X0.here hx rfl (hb hby at_28) rfl) ?_
    show D (T0.setTop (mkF m 29 #[.val (.int p1), .val (.int p2), .val (.int p3), .val (.int p4), .val (.int p5), .val (.int p6), .val (.int (3 : Int32)), .val (.int (Int32.ofNat k0)), .val (.int (Int32.ofNat k1)), .unset, .unset, .unset, .unset, .unset, .unset] [(.int (p4 &&& (2147483647 : Int32)))]))
    refine A (XS.iload X0.here hx rfl (hb hby at_29) rfl) ?_
    show D (T0.setTop (mkF m 31 #[.val (.int p1), .val (.int p2), .val (.int p3), .val (.int p4), .val (.int p5), .val (.int p6), .val (.int (3 : Int32)), .val (.int (Int32.ofNat k0)), .val (.int (Int32.ofNat k1)), .unset, .unset, .unset, .unset, .unset, .unset] [(.int (3 : Int32)), (.int (p4 &&& (2147483647 : Int32)))]))
    refine A (iremM X0 hx rfl (hb hby at_31) rfl (by decide)) ?_
    show D (T0.setTop (mkF m 32 #[.val (.int p1), .val (.int p2), .val (.int p3), .val (.int p4), .val (.int p5), .val (.int p6), .val (.int (3 : Int32)), .val (.int (Int32.ofNat k0)), .val (.int (Int32.ofNat k1)), .unset, .unset, .unset, .unset, .unset, .unset] [(.int ((p4 &&& (2147483647 : Int32)) % (3 : Int32)))]))
    refine A (XS.istore X0.here hx rfl (hb hby at_32) rfl (l' := #[.val (.int p1), .val (.int p2), .val (.int p3), .val (.int p4), .val (.int p5), .val (.int p6), .val (.int (3 : Int32)), .val (.int (Int32.ofNat k0)), .val (.int (Int32.ofNat k1)), .val (.int ((p4 &&& (2147483647 : Int32)) % (3 : Int32))), .unset, .unset, .unset, .unset, .unset]) rfl) ?_
    show D (T0.setTop (mkF m 34 #[.val (.int p1), .val (.int p2), .val (.int p3), .val (.int p4), .val (.int p5), .val (.int p6), .val (.int (3 : Int32)), .val (.int (Int32.ofNat k0)), .val (.int (Int32.ofNat k1)), .val (.int ((p4 &&& (2147483647 : Int32)) % (3 : Int32))), .unset, .unset, .unset, .unset, .unset] []))
    suffices Kx9_34aa : ∀ x9_34aa : Int32, x9_34aa = ((p4 &&& (2147483647 : Int32)) % (3 : Int32)) → D (T0.setTop (mkF m 34 #[.val (.int p1), .val (.int p2), .val (.int p3), .val (.int p4), .val (.int p5), .val (.int p6), .val (.int (3 : Int32)), .val (.int (Int32.ofNat k0)), .val (.int (Int32.ofNat k1)), .val (.int x9_34aa), .unset, .unset, .unset, .unset, .unset] [])) from Kx9_34aa _ rfl
    intro x9_34aa hx9_34aa
    obtain ⟨k2, hk2, rfl⟩ := own_k_3 hx9_34aa
    show D (T0.setTop (mkF m 34 #[.val (.int p1), .val (.int p2), .val (.int p3), .val (.int p4), .val (.int p5), .val (.int p6), .val (.int (3 : Int32)), .val (.int (Int32.ofNat k0)), .val (.int (Int32.ofNat k1)), .val (.int (Int32.ofNat k2)), .unset, .unset, .unset, .unset, .unset] []))
    refine A (XS.iload X0.here hx rfl (hb hby at_34) rfl) ?_
    show D (T0.setTop (mkF m 36 #[.val (.int p1), .val (.int p2), .val (.int p3), .val (.int p4), .val (.int p5), .val (.int p6), .val (.int (3 : Int32)), .val (.int (Int32.ofNat k0)), .val (.int (Int32.ofNat k1)), .val (.int (Int32.ofNat k2)), .unset, .unset, .unset, .unset, .unset] [(.int p5)]))
    refine A (X0.ldcInt hx hown (mvT hZ (hw _ (List.mem_of_getElem? (i := 0) rfl))) (g := (mkF m 36 #[.val (.int p1), .val (.int p2), .val (.int p3), .val (.int p4), .val (.int p5), .val (.int p6), .val (.int (3 : Int32)), .val (.int (Int32.ofNat k0)), .val (.int (Int32.ofNat k1)), .val (.int (Int32.ofNat k2)), .unset, .unset, .unset, .unset, .unset] [(.int p5)])) rfl (hb hby at_36) _) ?_
    show D (T0.setTop (mkF m 38 #[.val (.int p1), .val (.int p2), .val (.int p3), .val (.int p4), .val (.int p5), .val (.int p6), .val (.int (3 : Int32)), .val (.int (Int32.ofNat k0)), .val (.int (Int32.ofNat k1)), .val (.int (Int32.ofNat k2)), .unset, .unset, .unset, .unset, .unset] [(.int (2147483647 : Int32)), (.int p5)]))
    refine A (XS.iand X0.here hx rfl (hb hby at_38) rfl) ?_
    show D (T0.setTop (mkF m 39 #[.val (.int p1), .val (.int p2), .val (.int p3), .val (.int p4), .val (.int p5), .val (.int p6), .val (.int (3 : Int32)), .val (.int (Int32.ofNat k0)), .val (.int (Int32.ofNat k1)), .val (.int (Int32.ofNat k2)), .unset, .unset, .unset, .unset, .unset] [(.int (p5 &&& (2147483647 : Int32)))]))
    refine A (XS.iload X0.here hx rfl (hb hby at_39) rfl) ?_
    show D (T0.setTop (mkF m 41 #[.val (.int p1), .val (.int p2), .val (.int p3), .val (.int p4), .val (.int p5), .val (.int p6), .val (.int (3 : Int32)), .val (.int (Int32.ofNat k0)), .val (.int (Int32.ofNat k1)), .val (.int (Int32.ofNat k2)), .unset, .unset, .unset, .unset, .unset] [(.int (3 : Int32)), (.int (p5 &&& (2147483647 : Int32)))]))
    refine A (iremM X0 hx rfl (hb hby at_41) rfl (by decide)) ?_
    show D (T0.setTop (mkF m 42 #[.val (.int p1), .val (.int p2), .val (.int p3), .val (.int p4), .val (.int p5), .val (.int p6), .val (.int (3 : Int32)), .val (.int (Int32.ofNat k0)), .val (.int (Int32.ofNat k1)), .val (.int (Int32.ofNat k2)), .unset, .unset, .unset, .unset, .unset] [(.int ((p5 &&& (2147483647 : Int32)) % (3 : Int32)))]))
    refine A (XS.istore X0.here hx rfl (hb hby at_42) rfl (l' := #[.val (.int p1), .val (.int p2), .val (.int p3), .val (.int p4), .val (.int p5), .val (.int p6), .val (.int (3 : Int32)), .val (.int (Int32.ofNat k0)), .val (.int (Int32.ofNat k1)), .val (.int (Int32.ofNat k2)), .val (.int ((p5 &&& (2147483647 : Int32)) % (3 : Int32))), .unset, .unset, .unset, .unset]) rfl) ?_
    show D (T0.setTop (mkF m 44 #[.val (.int p1), .val (.int p2), .val (.int p3), .val (.int p4), .val (.int p5), .val (.int p6), .val (.int (3 : Int32)), .val (.int (Int32.ofNat k0)), .val (.int (Int32.ofNat k1)), .val (.int (Int32.ofNat k2)), .val (.int ((p5 &&& (2147483647 : Int32)) % (3 : Int32))), .unset, .unset, .unset, .unset] []))
    suffices Kx10_44aa : ∀ x10_44aa : Int32, x10_44aa = ((p5 &&& (2147483647 : Int32)) % (3 : Int32)) → D (T0.setTop (mkF m 44 #[.val (.int p1), .val (.int p2), .val (.int p3), .val (.int p4), .val (.int p5), .val (.int p6), .val (.int (3 : Int32)), .val (.int (Int32.ofNat k0)), .val (.int (Int32.ofNat k1)), .val (.int (Int32.ofNat k2)), .val (.int x10_44aa), .unset, .unset, .unset, .unset] [])) from Kx10_44aa _ rfl
    intro x10_44aa hx10_44aa
    obtain ⟨k3, hk3, rfl⟩ := own_k_3 hx10_44aa
    show D (T0.setTop (mkF m 44 #[.val (.int p1), .val (.int p2), .val (.int p3), .val (.int p4), .val (.int p5), .val (.int p6), .val (.int (3 : Int32)), .val (.int (Int32.ofNat k0)), .val (.int (Int32.ofNat k1)), .val (.int (Int32.ofNat k2)), .val (.int (Int32.ofNat k3)), .unset, .unset, .unset, .unset] []))
    refine A (XS.iload X0.here hx rfl (hb hby at_44) rfl) ?_
    show D (T0.setTop (mkF m 46 #[.val (.int p1), .val (.int p2), .val (.int p3), .val (.int p4), .val (.int p5), .val (.int p6), .val (.int (3 : Int32)), .val (.int (Int32.ofNat k0)), .val (.int (Int32.ofNat k1)), .val (.int (Int32.ofNat k2)), .val (.int (Int32.ofNat k3)), .unset, .unset, .unset, .unset] [(.int p6)]))
    refine A (X0.ldcInt hx hown (mvT hZ (hw _ (List.mem_of_getElem? (i := 0) rfl))) (g := (mkF m 46 #[.val (.int p1), .val (.int p2), .val (.int p3), .val (.int p4), .val (.int p5), .val (.int p6), .val (.int (3 : Int32)), .val (.int (Int32.ofNat k0)), .val (.int (Int32.ofNat k1)), .val (.int (Int32.ofNat k2)), .val (.int (Int32.ofNat k3)), .unset, .unset, .unset, .unset] [(.int p6)])) rfl (hb hby at_46) _) ?_
    show D (T0.setTop (mkF m 48 #[.val (.int p1), .val (.int p2), .val (.int p3), .val (.int p4), .val (.int p5), .val (.int p6), .val (.int (3 : Int32)), .val (.int (Int32.ofNat k0)), .val (.int (Int32.ofNat k1)), .val (.int (Int32.ofNat k2)), .val (.int (Int32.ofNat k3)), .unset, .unset, .unset, .unset] [(.int (2147483647 : Int32)), (.int p6)]))
    refine A (XS.iand X0.here hx rfl (hb hby at_48) rfl) ?_
    show D (T0.setTop (mkF m 49 #[.val (.int p1), .val (.int p2), .val (.int p3), .val (.int p4), .val (.int p5), .val (.int p6), .val (.int (3 : Int32)), .val (.int (Int32.ofNat k0)), .val (.int (Int32.ofNat k1)), .val (.int (Int32.ofNat k2)), .val (.int (Int32.ofNat k3)), .unset, .unset, .unset, .unset] [(.int (p6 &&& (2147483647 : Int32)))]))
    refine A (XS.iload X0.here hx rfl (hb hby at_49) rfl) ?_
    show D (T0.setTop (mkF m 51 #[.val (.int p1), .val (.int p2), .val (.int p3), .val (.int p4), .val (.int p5), .val (.int p6), .val (.int (3 : Int32)), .val (.int (Int32.ofNat k0)), .val (.int (Int32.ofNat k1)), .val (.int (Int32.ofNat k2)), .val (.int (Int32.ofNat k3)), .unset, .unset, .unset, .unset] [(.int (3 : Int32)), (.int (p6 &&& (2147483647 : Int32)))]))
    refine A (iremM X0 hx rfl (hb hby at_51) rfl (by decide)) ?_
    show D (T0.setTop (mkF m 52 #[.val (.int p1), .val (.int p2), .val (.int p3), .val (.int p4), .val (.int p5), .val (.int p6), .val (.int (3 : Int32)), .val (.int (Int32.ofNat k0)), .val (.int (Int32.ofNat k1)), .val (.int (Int32.ofNat k2)), .val (.int (Int32.ofNat k3)), .unset, .unset, .unset, .unset] [(.int ((p6 &&& (2147483647 : Int32)) % (3 : Int32)))]))
    refine A (XS.istore X0.here hx rfl (hb hby at_52) rfl (l' := #[.val (.int p1), .val (.int p2), .val (.int p3), .val (.int p4), .val (.int p5), .val (.int p6), .val (.int (3 : Int32)), .val (.int (Int32.ofNat k0)), .val (.int (Int32.ofNat k1)), .val (.int (Int32.ofNat k2)), .val (.int (Int32.ofNat k3)), .val (.int ((p6 &&& (2147483647 : Int32)) % (3 : Int32))), .unset, .unset, .unset]) rfl) ?_
    show D (T0.setTop (mkF m 54 #[.val (.int p1), .val (.int p2), .val (.int p3), .val (.int p4), .val (.int p5), .val (.int p6), .val (.int (3 : Int32)), .val (.int (Int32.ofNat k0)), .val (.int (Int32.ofNat k1)), .val (.int (Int32.ofNat k2)), .val (.int (Int32.ofNat k3)), .val (.int ((p6 &&& (2147483647 : Int32)) % (3 : Int32))), .unset, .unset, .unset] []))
    suffices Kx11_54aa : ∀ x11_54aa : Int32, x11_54aa = ((p6 &&& (2147483647 : Int32)) % (3 : Int32)) → D (T0.setTop (mkF m 54 #[.val (.int p1), .val (.int p2), .val (.int p3), .val (.int p4), .val (.int p5), .val (.int p6), .val (.int (3 : Int32)), .val (.int (Int32.ofNat k0)), .val (.int (Int32.ofNat k1)), .val (.int (Int32.ofNat k2)), .val (.int (Int32.ofNat k3)), .val (.int x11_54aa), .unset, .unset, .unset] [])) from Kx11_54aa _ rfl
    intro x11_54aa hx11_54aa
    obtain ⟨q, hq, rfl⟩ := own_k_3 hx11_54aa
    show D (T0.setTop (mkF m 54 #[.val (.int p1), .val (.int p2), .val (.int p3), .val (.int p4), .val (.int p5), .val (.int p6), .val (.int (3 : Int32)), .val (.int (Int32.ofNat k0)), .val (.int (Int32.ofNat k1)), .val (.int (Int32.ofNat k2)), .val (.int (Int32.ofNat k3)), .val (.int (Int32.ofNat q)), .unset, .unset, .unset] []))
    refine A (XS.iconst X0.here hx rfl (hb hby at_54)) ?_
    show D (T0.setTop (mkF m 55 #[.val (.int p1), .val (.int p2), .val (.int p3), .val (.int p4), .val (.int p5), .val (.int p6), .val (.int (3 : Int32)), .val (.int (Int32.ofNat k0)), .val (.int (Int32.ofNat k1)), .val (.int (Int32.ofNat k2)), .val (.int (Int32.ofNat k3)), .val (.int (Int32.ofNat q)), .unset, .unset, .unset] [(.int (4 : Int32))]))
    refine Adv.newI A X0 hx hZ (aty := .int) (hw _ (List.mem_of_getElem? (i := 1) rfl)) e0 (n := 4) (by decide) 4 (by decide) (by decide) rfl (ad := "[I") (by decide) (by decide) (by decide) (g := (mkF m 55 #[.val (.int p1), .val (.int p2), .val (.int p3), .val (.int p4), .val (.int p5), .val (.int p6), .val (.int (3 : Int32)), .val (.int (Int32.ofNat k0)), .val (.int (Int32.ofNat k1)), .val (.int (Int32.ofNat k2)), .val (.int (Int32.ofNat k3)), .val (.int (Int32.ofNat q)), .unset, .unset, .unset] [(.int (4 : Int32))])) rfl rfl (hb hby at_55) ?_
    intro T35 h35 b35 q_b35 X35 e35 E35 V_b35 EA_b35
    have g_b35 : n0 ≤ b35 := Nat.le_trans Z0 (Nat.le_of_eq q_b35.symm)
    have Z_35 : n0 ≤ h35.size := Nat.le_trans Z0 E35.1
    show D (T35.setTop (mkF m 57 #[.val (.int p1), .val (.int p2), .val (.int p3), .val (.int p4), .val (.int p5), .val (.int p6), .val (.int (3 : Int32)), .val (.int (Int32.ofNat k0)), .val (.int (Int32.ofNat k1)), .val (.int (Int32.ofNat k2)), .val (.int (Int32.ofNat k3)), .val (.int (Int32.ofNat q)), .unset, .unset, .unset] [(.ref b35)]))
    refine A (XS.astore X35.here hx rfl (hb hby at_57) rfl rfl (l' := #[.val (.int p1), .val (.int p2), .val (.int p3), .val (.int p4), .val (.int p5), .val (.int p6), .val (.int (3 : Int32)), .val (.int (Int32.ofNat k0)), .val (.int (Int32.ofNat k1)), .val (.int (Int32.ofNat k2)), .val (.int (Int32.ofNat k3)), .val (.int (Int32.ofNat q)), .val (.ref b35), .unset, .unset]) rfl) ?_
    show D (T35.setTop (mkF m 59 #[.val (.int p1), .val (.int p2), .val (.int p3), .val (.int p4), .val (.int p5), .val (.int p6), .val (.int (3 : Int32)), .val (.int (Int32.ofNat k0)), .val (.int (Int32.ofNat k1)), .val (.int (Int32.ofNat k2)), .val (.int (Int32.ofNat k3)), .val (.int (Int32.ofNat q)), .val (.ref b35), .unset, .unset] []))
    refine A (XS.aload X35.here hx rfl (hb hby at_59) rfl rfl) ?_
    show D (T35.setTop (mkF m 61 #[.val (.int p1), .val (.int p2), .val (.int p3), .val (.int p4), .val (.int p5), .val (.int p6), .val (.int (3 : Int32)), .val (.int (Int32.ofNat k0)), .val (.int (Int32.ofNat k1)), .val (.int (Int32.ofNat k2)), .val (.int (Int32.ofNat k3)), .val (.int (Int32.ofNat q)), .val (.ref b35), .unset, .unset] [(.ref b35)]))
    refine A (XS.iconst X35.here hx rfl (hb hby at_61)) ?_
    show D (T35.setTop (mkF m 62 #[.val (.int p1), .val (.int p2), .val (.int p3), .val (.int p4), .val (.int p5), .val (.int p6), .val (.int (3 : Int32)), .val (.int (Int32.ofNat k0)), .val (.int (Int32.ofNat k1)), .val (.int (Int32.ofNat k2)), .val (.int (Int32.ofNat k3)), .val (.int (Int32.ofNat q)), .val (.ref b35), .unset, .unset] [(.int (0 : Int32)), (.ref b35)]))
    refine A (XS.iload X35.here hx rfl (hb hby at_62) rfl) ?_
    show D (T35.setTop (mkF m 64 #[.val (.int p1), .val (.int p2), .val (.int p3), .val (.int p4), .val (.int p5), .val (.int p6), .val (.int (3 : Int32)), .val (.int (Int32.ofNat k0)), .val (.int (Int32.ofNat k1)), .val (.int (Int32.ofNat k2)), .val (.int (Int32.ofNat k3)), .val (.int (Int32.ofNat q)), .val (.ref b35), .unset, .unset] [(.int (Int32.ofNat k0)), (.int (0 : Int32)), (.ref b35)]))
    refine Adv.stI A X35 hx hZ e35 V_b35 (k := 0) (by decide) (by decide) (g := (mkF m 64 #[.val (.int p1), .val (.int p2), .val (.int p3), .val (.int p4), .val (.int p5), .val (.int p6), .val (.int (3 : Int32)), .val (.int (Int32.ofNat k0)), .val (.int (Int32.ofNat k1)), .val (.int (Int32.ofNat k2)), .val (.int (Int32.ofNat k3)), .val (.int (Int32.ofNat q)), .val (.ref b35), .unset, .unset] [(.int (Int32.ofNat k0)), (.int (0 : Int32)), (.ref b35)])) rfl rfl (hb hby at_64) ?_
    intro T36 h36 X36 e36 W36 Vb35_36
    have N36 := Fr.snoc X36 (Fr.nil n0) g_b35
    have Z_36 : n0 ≤ h36.size := Nat.le_trans Z_35 (Nat.le_of_eq W36.size.symm)
    show D (T36.setTop (mkF m 65 #[.val (.int p1), .val (.int p2), .val (.int p3), .val (.int p4), .val (.int p5), .val (.int p6), .val (.int (3 : Int32)), .val (.int (Int32.ofNat k0)), .val (.int (Int32.ofNat k1)), .val (.int (Int32.ofNat k2)), .val (.int (Int32.ofNat k3)), .val (.int (Int32.ofNat q)), .val (.ref b35), .unset, .unset] []))
    obtain ⟨fn37, hfn37⟩ : ∃ z : Nat → Int32, z = (fun ix => if ix = 0 then (Int32.ofNat k0) else (fun _ => 0) ix) := ⟨_, rfl⟩
    rw [← hfn37] at Vb35_36
    refine A (XS.aload X36.here hx rfl (hb hby at_65) rfl rfl) ?_
    show D (T36.setTop (mkF m 67 #[.val (.int p1), .val (.int p2), .val (.int p3), .val (.int p4), .val (.int p5), .val (.int p6), .val (.int (3 : Int32)), .val (.int (Int32.ofNat k0)), .val (.int (Int32.ofNat k1)), .val (.int (Int32.ofNat k2)), .val (.int (Int32.ofNat k3)), .val (.int (Int32.ofNat q)), .val (.ref b35), .unset, .unset] [(.ref b35)]))
    refine A (XS.iconst X36.here hx rfl (hb hby at_67)) ?_
    show D (T36.setTop (mkF m 68 #[.val (.int p1), .val (.int p2), .val (.int p3), .val (.int p4), .val (.int p5), .val (.int p6), .val (.int (3 : Int32)), .val (.int (Int32.ofNat k0)), .val (.int (Int32.ofNat k1)), .val (.int (Int32.ofNat k2)), .val (.int (Int32.ofNat k3)), .val (.int (Int32.ofNat q)), .val (.ref b35), .unset, .unset] [(.int (1 : Int32)), (.ref b35)]))
    refine A (XS.iload X36.here hx rfl (hb hby at_68) rfl) ?_
    show D (T36.setTop (mkF m 70 #[.val (.int p1), .val (.int p2), .val (.int p3), .val (.int p4), .val (.int p5), .val (.int p6), .val (.int (3 : Int32)), .val (.int (Int32.ofNat k0)), .val (.int (Int32.ofNat k1)), .val (.int (Int32.ofNat k2)), .val (.int (Int32.ofNat k3)), .val (.int (Int32.ofNat q)), .val (.ref b35), .unset, .unset] [(.int (Int32.ofNat k1)), (.int (1 : Int32)), (.ref b35)]))
    refine Adv.stI A X36 hx hZ e36 Vb35_36 (k := 1) (by decide) (by decide) (g := (mkF m 70 #[.val (.int p1), .val (.int p2), .val (.int p3), .val (.int p4), .val (.int p5), .val (.int p6), .val (.int (3 : Int32)), .val (.int (Int32.ofNat k0)), .val (.int (Int32.ofNat k1)), .val (.int (Int32.ofNat k2)), .val (.int (Int32.ofNat k3)), .val (.int (Int32.ofNat q)), .val (.ref b35), .unset, .unset] [(.int (Int32.ofNat k1)), (.int (1 : Int32)), (.ref b35)])) rfl rfl (hb hby at_70) ?_
    intro T38 h38 X38 e38 W38 Vb35_38
    have N38 := Fr.snoc X38 N36 g_b35
    have Z_38 : n0 ≤ h38.size := Nat.le_trans Z_36 (Nat.le_of_eq W38.size.symm)
    show D (T38.setTop (mkF m 71 #[.val (.int p1), .val (.int p2), .val (.int p3), .val (.int p4), .val (.int p5), .val (.int p6), .val (.int (3 : Int32)), .val (.int (Int32.ofNat k0)), .val (.int (Int32.ofNat k1)), .val (.int (Int32.ofNat k2)), .val (.int (Int32.ofNat k3)), .val (.int (Int32.ofNat q)), .val (.ref b35), .unset, .unset] []))
    obtain ⟨fn39, hfn39⟩ : ∃ z : Nat → Int32, z = (fun ix => if ix = 1 then (Int32.ofNat k1) else fn37 ix) := ⟨_, rfl⟩
    rw [← hfn39] at Vb35_38
    refine A (XS.aload X38.here hx rfl (hb hby at_71) rfl rfl) ?_
    show D (T38.setTop (mkF m 73 #[.val (.int p1), .val (.int p2), .val (.int p3), .val (.int p4), .val (.int p5), .val (.int p6), .val (.int (3 : Int32)), .val (.int (Int32.ofNat k0)), .val (.int (Int32.ofNat k1)), .val (.int (Int32.ofNat k2)), .val (.int (Int32.ofNat k3)), .val (.int (Int32.ofNat q)), .val (.ref b35), .unset, .unset] [(.ref b35)]))
    refine A (XS.iconst X38.here hx rfl (hb hby at_73)) ?_
    show D (T38.setTop (mkF m 74 #[.val (.int p1), .val (.int p2), .val (.int p3), .val (.int p4), .val (.int p5), .val (.int p6), .val (.int (3 : Int32)), .val (.int (Int32.ofNat k0)), .val (.int (Int32.ofNat k1)), .val (.int (Int32.ofNat k2)), .val (.int (Int32.ofNat k3)), .val (.int (Int32.ofNat q)), .val (.ref b35), .unset, .unset] [(.int (2 : Int32)), (.ref b35)]))
    refine A (XS.iload X38.here hx rfl (hb hby at_74) rfl) ?_
    show D (T38.setTop (mkF m 76 #[.val (.int p1), .val (.int p2), .val (.int p3), .val (.int p4), .val (.int p5), .val (.int p6), .val (.int (3 : Int32)), .val (.int (Int32.ofNat k0)), .val (.int (Int32.ofNat k1)), .val (.int (Int32.ofNat k2)), .val (.int (Int32.ofNat k3)), .val (.int (Int32.ofNat q)), .val (.ref b35), .unset, .unset] [(.int (Int32.ofNat k2)), (.int (2 : Int32)), (.ref b35)]))
    refine Adv.stI A X38 hx hZ e38 Vb35_38 (k := 2) (by decide) (by decide) (g := (mkF m 76 #[.val (.int p1), .val (.int p2), .val (.int p3), .val (.int p4), .val (.int p5), .val (.int p6), .val (.int (3 : Int32)), .val (.int (Int32.ofNat k0)), .val (.int (Int32.ofNat k1)), .val (.int (Int32.ofNat k2)), .val (.int (Int32.ofNat k3)), .val (.int (Int32.ofNat q)), .val (.ref b35), .unset, .unset] [(.int (Int32.ofNat k2)), (.int (2 : Int32)), (.ref b35)])) rfl rfl (hb hby at_76) ?_
    intro T40 h40 X40 e40 W40 Vb35_40
    have N40 := Fr.snoc X40 N38 g_b35
    have Z_40 : n0 ≤ h40.size := Nat.le_trans Z_38 (Nat.le_of_eq W40.size.symm)
    show D (T40.setTop (mkF m 77 #[.val (.int p1), .val (.int p2), .val (.int p3), .val (.int p4), .val (.int p5), .val (.int p6), .val (.int (3 : Int32)), .val (.int (Int32.ofNat k0)), .val (.int (Int32.ofNat k1)), .val (.int (Int32.ofNat k2)), .val (.int (Int32.ofNat k3)), .val (.int (Int32.ofNat q)), .val (.ref b35), .unset, .unset] []))
    obtain ⟨fn41, hfn41⟩ : ∃ z : Nat → Int32, z = (fun ix => if ix = 2 then (Int32.ofNat k2) else fn39 ix) := ⟨_, rfl⟩
    rw [← hfn41] at Vb35_40
    refine A (XS.aload X40.here hx rfl (hb hby at_77) rfl rfl) ?_
    show D (T40.setTop (mkF m 79 #[.val (.int p1), .val (.int p2), .val (.int p3), .val (.int p4), .val (.int p5), .val (.int p6), .val (.int (3 : Int32)), .val (.int (Int32.ofNat k0)), .val (.int (Int32.ofNat k1)), .val (.int (Int32.ofNat k2)), .val (.int (Int32.ofNat k3)), .val (.int (Int32.ofNat q)), .val (.ref b35), .unset, .unset] [(.ref b35)]))
    refine A (XS.iconst X40.here hx rfl (hb hby at_79)) ?_
    show D (T40.setTop (mkF m 80 #[.val (.int p1), .val (.int p2), .val (.int p3), .val (.int p4), .val (.int p5), .val (.int p6), .val (.int (3 : Int32)), .val (.int (Int32.ofNat k0)), .val (.int (Int32.ofNat k1)), .val (.int (Int32.ofNat k2)), .val (.int (Int32.ofNat k3)), .val (.int (Int32.ofNat q)), .val (.ref b35), .unset, .unset] [(.int (3 : Int32)), (.ref b35)]))
    refine A (XS.iload X40.here hx rfl (hb hby at_80) rfl) ?_
    show D (T40.setTop (mkF m 82 #[.val (.int p1), .val (.int p2), .val (.int p3), .val (.int p4), .val (.int p5), .val (.int p6), .val (.int (3 : Int32)), .val (.int (Int32.ofNat k0)), .val (.int (Int32.ofNat k1)), .val (.int (Int32.ofNat k2)), .val (.int (Int32.ofNat k3)), .val (.int (Int32.ofNat q)), .val (.ref b35), .unset, .unset] [(.int (Int32.ofNat k3)), (.int (3 : Int32)), (.ref b35)]))
    refine Adv.stI A X40 hx hZ e40 Vb35_40 (k := 3) (by decide) (by decide) (g := (mkF m 82 #[.val (.int p1), .val (.int p2), .val (.int p3), .val (.int p4), .val (.int p5), .val (.int p6), .val (.int (3 : Int32)), .val (.int (Int32.ofNat k0)), .val (.int (Int32.ofNat k1)), .val (.int (Int32.ofNat k2)), .val (.int (Int32.ofNat k3)), .val (.int (Int32.ofNat q)), .val (.ref b35), .unset, .unset] [(.int (Int32.ofNat k3)), (.int (3 : Int32)), (.ref b35)])) rfl rfl (hb hby at_82) ?_
    intro T42 h42 X42 e42 W42 Vb35_42
    have N42 := Fr.snoc X42 N40 g_b35
    have Z_42 : n0 ≤ h42.size := Nat.le_trans Z_40 (Nat.le_of_eq W42.size.symm)
    show D (T42.setTop (mkF m 83 #[.val (.int p1), .val (.int p2), .val (.int p3), .val (.int p4), .val (.int p5), .val (.int p6), .val (.int (3 : Int32)), .val (.int (Int32.ofNat k0)), .val (.int (Int32.ofNat k1)), .val (.int (Int32.ofNat k2)), .val (.int (Int32.ofNat k3)), .val (.int (Int32.ofNat q)), .val (.ref b35), .unset, .unset] []))
    obtain ⟨fn43, hfn43⟩ : ∃ z : Nat → Int32, z = (fun ix => if ix = 3 then (Int32.ofNat k3) else fn41 ix) := ⟨_, rfl⟩
    rw [← hfn43] at Vb35_42
    have Vk : ArI Z h42 b35 .int 4 (own_ka k0 k1 k2 k3) := Vb35_42.eqf (fun i hi => by subst hfn43; subst hfn41; subst hfn39; subst hfn37; rcases (by omega : i = 0 ∨ i = 1 ∨ i = 2 ∨ i = 3) with rfl | rfl | rfl | rfl <;> rfl)
    obtain ⟨T44, h44, X44, e44, E44, A44, D44, -, st44⟩ := newO X42 hx hZ hown (hw _ (List.mem_of_getElem? (i := 2) rfl)) (hw _ (List.mem_of_getElem? (i := 3) rfl)) (hw _ (List.mem_of_getElem? (i := 4) rfl)) e42 (g := (mkF m 83 #[.val (.int p1), .val (.int p2), .val (.int p3), .val (.int p4), .val (.int p5), .val (.int p6), .val (.int (3 : Int32)), .val (.int (Int32.ofNat k0)), .val (.int (Int32.ofNat k1)), .val (.int (Int32.ofNat k2)), .val (.int (Int32.ofNat k3)), .val (.int (Int32.ofNat q)), .val (.ref b35), .unset, .unset] [])) rfl (hb hby at_83) (by decide) (by decide)
    obtain ⟨b44, q_b44⟩ : ∃ z, z = h42.size := ⟨_, rfl⟩
    rw [← q_b44] at A44 D44 st44
    have ne_b35_b44 : b35 ≠ b44 := Nat.ne_of_lt (Nat.lt_of_lt_of_le Vk.lt (Nat.le_of_eq q_b44.symm))
    have g_b44 : n0 ≤ b44 := Nat.le_trans Z_42 (Nat.le_of_eq q_b44.symm)
    have Vk_44 := Vk.ext E44
    have Z_44 : n0 ≤ h44.size := Nat.le_trans Z_42 E44.1
    have F_start_b44 : Fld Z h44 b44 "com/example/enklave/enklave/measure/RowGroups" "start" "[I" .null := D44 (Or.inr (hw _ (List.mem_of_getElem? (i := 12) rfl))) (ty := (.array .int)) (by decide)
    have F_rows_b44 : Fld Z h44 b44 "com/example/enklave/enklave/measure/RowGroups" "rows" "[I" .null := D44 (Or.inr (hw _ (List.mem_of_getElem? (i := 14) rfl))) (ty := (.array .int)) (by decide)
    refine A (st44 _) ?_
    show D (T44.setTop (mkF m 86 #[.val (.int p1), .val (.int p2), .val (.int p3), .val (.int p4), .val (.int p5), .val (.int p6), .val (.int (3 : Int32)), .val (.int (Int32.ofNat k0)), .val (.int (Int32.ofNat k1)), .val (.int (Int32.ofNat k2)), .val (.int (Int32.ofNat k3)), .val (.int (Int32.ofNat q)), .val (.ref b35), .unset, .unset] [(.ref b44)]))
    refine A (XS.dup X44.here hx rfl (hb hby at_86) rfl rfl) ?_
    show D (T44.setTop (mkF m 87 #[.val (.int p1), .val (.int p2), .val (.int p3), .val (.int p4), .val (.int p5), .val (.int p6), .val (.int (3 : Int32)), .val (.int (Int32.ofNat k0)), .val (.int (Int32.ofNat k1)), .val (.int (Int32.ofNat k2)), .val (.int (Int32.ofNat k3)), .val (.int (Int32.ofNat q)), .val (.ref b35), .unset, .unset] [(.ref b44), (.ref b44)]))
    refine A (XS.aload X44.here hx rfl (hb hby at_87) rfl rfl) ?_
    show D (T44.setTop (mkF m 89 #[.val (.int p1), .val (.int p2), .val (.int p3), .val (.int p4), .val (.int p5), .val (.int p6), .val (.int (3 : Int32)), .val (.int (Int32.ofNat k0)), .val (.int (Int32.ofNat k1)), .val (.int (Int32.ofNat k2)), .val (.int (Int32.ofNat k3)), .val (.int (Int32.ofNat q)), .val (.ref b35), .unset, .unset] [(.ref b35), (.ref b44), (.ref b44)]))
    refine A (XS.iload X44.here hx rfl (hb hby at_89) rfl) ?_
    show D (T44.setTop (mkF m 91 #[.val (.int p1), .val (.int p2), .val (.int p3), .val (.int p4), .val (.int p5), .val (.int p6), .val (.int (3 : Int32)), .val (.int (Int32.ofNat k0)), .val (.int (Int32.ofNat k1)), .val (.int (Int32.ofNat k2)), .val (.int (Int32.ofNat k3)), .val (.int (Int32.ofNat q)), .val (.ref b35), .unset, .unset] [(.int (3 : Int32)), (.ref b35), (.ref b44), (.ref b44)]))
    refine Adv.callI A X44 hx hZ hown rfl (hw _ (List.mem_of_getElem? (i := 5) rfl)) (hw _ (List.mem_of_getElem? (i := 6) rfl)) (hw _ (List.mem_of_getElem? (i := 4) rfl)) (hw _ (List.mem_of_getElem? (i := 7) rfl)) e44 (rm1_3 l Z a0 hw [] b44 b35 h44 n0 Z_44 g_b44 k0 k1 k2 k3 hk0 hk1 hk2 hk3 A44 F_start_b44 F_rows_b44 Vk_44) 1 (g := (mkF m 91 #[.val (.int p1), .val (.int p2), .val (.int p3), .val (.int p4), .val (.int p5), .val (.int p6), .val (.int (3 : Int32)), .val (.int (Int32.ofNat k0)), .val (.int (Int32.ofNat k1)), .val (.int (Int32.ofNat k2)), .val (.int (Int32.ofNat k3)), .val (.int (Int32.ofNat q)), .val (.ref b35), .unset, .unset] [(.int (3 : Int32)), (.ref b35), (.ref b44), (.ref b44)])) rfl (by rw [hml]; rfl) b44 [(.ref b35), (.int (3 : Int32))] [(.ref b44)] rfl (lenOf pd0_0 rfl) rfl (by show 2 * 0 + _ ≤ _; exact Nat.le_of_eq rfl) (hb hby at_91) (by decide) (by decide) (by decide) (by decide) (by decide) ?_
    rintro T45 L45 _ X45 ⟨rfl, s45, N45_q, K45, -, F45_s, V45_q⟩
    have N45 := Fr.app N42 N45_q
    have Vk_45 := Vk_44.keep K45 (ninS ne_b35_b44 nin0)
    have E_b44_45 := A44.keep K45
    have Z_45 : n0 ≤ T45.heap.size := Nat.le_trans Z_44 K45.1
    show D (T45.setTop (mkF m 94 #[.val (.int p1), .val (.int p2), .val (.int p3), .val (.int p4), .val (.int p5), .val (.int p6), .val (.int (3 : Int32)), .val (.int (Int32.ofNat k0)), .val (.int (Int32.ofNat k1)), .val (.int (Int32.ofNat k2)), .val (.int (Int32.ofNat k3)), .val (.int (Int32.ofNat q)), .val (.ref b35), .unset, .unset] [(.ref b44)]))
    refine A (XS.astore X45.here hx rfl (hb hby at_94) rfl rfl (l' := #[.val (.int p1), .val (.int p2), .val (.int p3), .val (.int p4), .val (.int p5), .val (.int p6), .val (.int (3 : Int32)), .val (.int (Int32.ofNat k0)), .val (.int (Int32.ofNat k1)), .val (.int (Int32.ofNat k2)), .val (.int (Int32.ofNat k3)), .val (.int (Int32.ofNat q)), .val (.ref b35), .val (.ref b44), .unset]) rfl) ?_
    show D (T45.setTop (mkF m 96 #[.val (.int p1), .val (.int p2), .val (.int p3), .val (.int p4), .val (.int p5), .val (.int p6), .val (.int (3 : Int32)), .val (.int (Int32.ofNat k0)), .val (.int (Int32.ofNat k1)), .val (.int (Int32.ofNat k2)), .val (.int (Int32.ofNat k3)), .val (.int (Int32.ofNat q)), .val (.ref b35), .val (.ref b44), .unset] []))
    refine A (XS.iload X45.here hx rfl (hb hby at_96) rfl) ?_
    show D (T45.setTop (mkF m 98 #[.val (.int p1), .val (.int p2), .val (.int p3), .val (.int p4), .val (.int p5), .val (.int p6), .val (.int (3 : Int32)), .val (.int (Int32.ofNat k0)), .val (.int (Int32.ofNat k1)), .val (.int (Int32.ofNat k2)), .val (.int (Int32.ofNat k3)), .val (.int (Int32.ofNat q)), .val (.ref b35), .val (.ref b44), .unset] [(.int (Int32.ofNat k0))]))
    refine A (XS.iload X45.here hx rfl (hb hby at_98) rfl) ?_
    show D (T45.setTop (mkF m 100 #[.val (.int p1), .val (.int p2), .val (.int p3), .val (.int p4), .val (.int p5), .val (.int p6), .val (.int (3 : Int32)), .val (.int (Int32.ofNat k0)), .val (.int (Int32.ofNat k1)), .val (.int (Int32.ofNat k2)), .val (.int (Int32.ofNat k3)), .val (.int (Int32.ofNat q)), .val (.ref b35), .val (.ref b44), .unset] [(.int (Int32.ofNat q)), (.int (Int32.ofNat k0))]))
    refine Adv.callS A X45 hx hZ hown (hw _ (List.mem_of_getElem? (i := 24) rfl)) (hw _ (List.mem_of_getElem? (i := 25) rfl)) (hw _ (List.mem_of_getElem? (i := 26) rfl)) (hw _ (List.mem_of_getElem? (i := 27) rfl)) rfl (rm3 l Z a0 hw [] (Int32.ofNat k0) (Int32.ofNat q) T45.heap n0) 0 (g := (mkF m 100 #[.val (.int p1), .val (.int p2), .val (.int p3), .val (.int p4), .val (.int p5), .val (.int p6), .val (.int (3 : Int32)), .val (.int (Int32.ofNat k0)), .val (.int (Int32.ofNat k1)), .val (.int (Int32.ofNat k2)), .val (.int (Int32.ofNat k3)), .val (.int (Int32.ofNat q)), .val (.ref b35), .val (.ref b44), .unset] [(.int (Int32.ofNat q)), (.int (Int32.ofNat k0))])) rfl (by rw [hml]; rfl) [(.int (Int32.ofNat k0)), (.int (Int32.ofNat q))] [] rfl (lenOf pd0_1 rfl) rfl (by show 2 * 0 + _ ≤ _; exact Nat.le_of_eq rfl) (hb hby at_100) (by decide) (by decide) (by decide) (by decide) (by decide) ?_
    rintro T46 L46 _ X46 ⟨rfl, N46_q, e46⟩
    have N46 := Fr.app N45 N46_q
    show D (T46.setTop (mkF m 103 #[.val (.int p1), .val (.int p2), .val (.int p3), .val (.int p4), .val (.int p5), .val (.int p6), .val (.int (3 : Int32)), .val (.int (Int32.ofNat k0)), .val (.int (Int32.ofNat k1)), .val (.int (Int32.ofNat k2)), .val (.int (Int32.ofNat k3)), .val (.int (Int32.ofNat q)), .val (.ref b35), .val (.ref b44), .unset] [(.int (f3 (Int32.ofNat k0) (Int32.ofNat q)))]))
    refine A (XS.iload X46.here hx rfl (hb hby at_103) rfl) ?_
    show D (T46.setTop (mkF m 105 #[.val (.int p1), .val (.int p2), .val (.int p3), .val (.int p4), .val (.int p5), .val (.int p6), .val (.int (3 : Int32)), .val (.int (Int32.ofNat k0)), .val (.int (Int32.ofNat k1)), .val (.int (Int32.ofNat k2)), .val (.int (Int32.ofNat k3)), .val (.int (Int32.ofNat q)), .val (.ref b35), .val (.ref b44), .unset] [(.int (Int32.ofNat k1)), (.int (f3 (Int32.ofNat k0) (Int32.ofNat q)))]))
    refine A (XS.iload X46.here hx rfl (hb hby at_105) rfl) ?_
    show D (T46.setTop (mkF m 107 #[.val (.int p1), .val (.int p2), .val (.int p3), .val (.int p4), .val (.int p5), .val (.int p6), .val (.int (3 : Int32)), .val (.int (Int32.ofNat k0)), .val (.int (Int32.ofNat k1)), .val (.int (Int32.ofNat k2)), .val (.int (Int32.ofNat k3)), .val (.int (Int32.ofNat q)), .val (.ref b35), .val (.ref b44), .unset] [(.int (Int32.ofNat q)), (.int (Int32.ofNat k1)), (.int (f3 (Int32.ofNat k0) (Int32.ofNat q)))]))
    refine Adv.callS A X46 hx hZ hown (hw _ (List.mem_of_getElem? (i := 24) rfl)) (hw _ (List.mem_of_getElem? (i := 25) rfl)) (hw _ (List.mem_of_getElem? (i := 26) rfl)) (hw _ (List.mem_of_getElem? (i := 27) rfl)) e46 (rm3 l Z a0 hw [] (Int32.ofNat k1) (Int32.ofNat q) T45.heap n0) 1 (g := (mkF m 107 #[.val (.int p1), .val (.int p2), .val (.int p3), .val (.int p4), .val (.int p5), .val (.int p6), .val (.int (3 : Int32)), .val (.int (Int32.ofNat k0)), .val (.int (Int32.ofNat k1)), .val (.int (Int32.ofNat k2)), .val (.int (Int32.ofNat k3)), .val (.int (Int32.ofNat q)), .val (.ref b35), .val (.ref b44), .unset] [(.int (Int32.ofNat q)), (.int (Int32.ofNat k1)), (.int (f3 (Int32.ofNat k0) (Int32.ofNat q)))])) rfl (by rw [hml]; rfl) [(.int (Int32.ofNat k1)), (.int (Int32.ofNat q))] [(.int (f3 (Int32.ofNat k0) (Int32.ofNat q)))] rfl (lenOf pd0_1 rfl) rfl (by show 2 * 0 + _ ≤ _; exact Nat.le_of_eq rfl) (hb hby at_107) (by decide) (by decide) (by decide) (by decide) (by decide) ?_
    rintro T47 L47 _ X47 ⟨rfl, N47_q, e47⟩
    have N47 := Fr.app N46 N47_q
    show D (T47.setTop (mkF m 110 #[.val (.int p1), .val (.int p2), .val (.int p3), .val (.int p4), .val (.int p5), .val (.int p6), .val (.int (3 : Int32)), .val (.int (Int32.ofNat k0)), .val (.int (Int32.ofNat k1)), .val (.int (Int32.ofNat k2)), .val (.int (Int32.ofNat k3)), .val (.int (Int32.ofNat q)), .val (.ref b35), .val (.ref b44), .unset] [(.int (f3 (Int32.ofNat k1) (Int32.ofNat q))), (.int (f3 (Int32.ofNat k0) (Int32.ofNat q)))]))
    refine A (XS.iadd X47.here hx rfl (hb hby at_110) rfl) ?_
    show D (T47.setTop (mkF m 111 #[.val (.int p1), .val (.int p2), .val (.int p3), .val (.int p4), .val (.int p5), .val (.int p6), .val (.int (3 : Int32)), .val (.int (Int32.ofNat k0)), .val (.int (Int32.ofNat k1)), .val (.int (Int32.ofNat k2)), .val (.int (Int32.ofNat k3)), .val (.int (Int32.ofNat q)), .val (.ref b35), .val (.ref b44), .unset] [(.int ((f3 (Int32.ofNat k0) (Int32.ofNat q)) + (f3 (Int32.ofNat k1) (Int32.ofNat q))))]))
    refine A (XS.iload X47.here hx rfl (hb hby at_111) rfl) ?_
    show D (T47.setTop (mkF m 113 #[.val (.int p1), .val (.int p2), .val (.int p3), .val (.int p4), .val (.int p5), .val (.int p6), .val (.int (3 : Int32)), .val (.int (Int32.ofNat k0)), .val (.int (Int32.ofNat k1)), .val (.int (Int32.ofNat k2)), .val (.int (Int32.ofNat k3)), .val (.int (Int32.ofNat q)), .val (.ref b35), .val (.ref b44), .unset] [(.int (Int32.ofNat k2)), (.int ((f3 (Int32.ofNat k0) (Int32.ofNat q)) + (f3 (Int32.ofNat k1) (Int32.ofNat q))))]))
    refine A (XS.iload X47.here hx rfl (hb hby at_113) rfl) ?_
    show D (T47.setTop (mkF m 115 #[.val (.int p1), .val (.int p2), .val (.int p3), .val (.int p4), .val (.int p5), .val (.int p6), .val (.int (3 : Int32)), .val (.int (Int32.ofNat k0)), .val (.int (Int32.ofNat k1)), .val (.int (Int32.ofNat k2)), .val (.int (Int32.ofNat k3)), .val (.int (Int32.ofNat q)), .val (.ref b35), .val (.ref b44), .unset] [(.int (Int32.ofNat q)), (.int (Int32.ofNat k2)), (.int ((f3 (Int32.ofNat k0) (Int32.ofNat q)) + (f3 (Int32.ofNat k1) (Int32.ofNat q))))]))
    refine Adv.callS A X47 hx hZ hown (hw _ (List.mem_of_getElem? (i := 24) rfl)) (hw _ (List.mem_of_getElem? (i := 25) rfl)) (hw _ (List.mem_of_getElem? (i := 26) rfl)) (hw _ (List.mem_of_getElem? (i := 27) rfl)) e47 (rm3 l Z a0 hw [] (Int32.ofNat k2) (Int32.ofNat q) T45.heap n0) 1 (g := (mkF m 115 #[.val (.int p1), .val (.int p2), .val (.int p3), .val (.int p4), .val (.int p5), .val (.int p6), .val (.int (3 : Int32)), .val (.int (Int32.ofNat k0)), .val (.int (Int32.ofNat k1)), .val (.int (Int32.ofNat k2)), .val (.int (Int32.ofNat k3)), .val (.int (Int32.ofNat q)), .val (.ref b35), .val (.ref b44), .unset] [(.int (Int32.ofNat q)), (.int (Int32.ofNat k2)), (.int ((f3 (Int32.ofNat k0) (Int32.ofNat q)) + (f3 (Int32.ofNat k1) (Int32.ofNat q))))])) rfl (by rw [hml]; rfl) [(.int (Int32.ofNat k2)), (.int (Int32.ofNat q))] [(.int ((f3 (Int32.ofNat k0) (Int32.ofNat q)) + (f3 (Int32.ofNat k1) (Int32.ofNat q))))] rfl (lenOf pd0_1 rfl) rfl (by show 2 * 0 + _ ≤ _; exact Nat.le_of_eq rfl) (hb hby at_115) (by decide) (by decide) (by decide) (by decide) (by decide) ?_
    rintro T48 L48 _ X48 ⟨rfl, N48_q, e48⟩
    have N48 := Fr.app N47 N48_q
    show D (T48.setTop (mkF m 118 #[.val (.int p1), .val (.int p2), .val (.int p3), .val (.int p4), .val (.int p5), .val (.int p6), .val (.int (3 : Int32)), .val (.int (Int32.ofNat k0)), .val (.int (Int32.ofNat k1)), .val (.int (Int32.ofNat k2)), .val (.int (Int32.ofNat k3)), .val (.int (Int32.ofNat q)), .val (.ref b35), .val (.ref b44), .unset] [(.int (f3 (Int32.ofNat k2) (Int32.ofNat q))), (.int ((f3 (Int32.ofNat k0) (Int32.ofNat q)) + (f3 (Int32.ofNat k1) (Int32.ofNat q))))]))
    refine A (XS.iadd X48.here hx rfl (hb hby at_118) rfl) ?_
    show D (T48.setTop (mkF m 119 #[.val (.int p1), .val (.int p2), .val (.int p3), .val (.int p4), .val (.int p5), .val (.int p6), .val (.int (3 : Int32)), .val (.int (Int32.ofNat k0)), .val (.int (Int32.ofNat k1)), .val (.int (Int32.ofNat k2)), .val (.int (Int32.ofNat k3)), .val (.int (Int32.ofNat q)), .val (.ref b35), .val (.ref b44), .unset] [(.int (((f3 (Int32.ofNat k0) (Int32.ofNat q)) + (f3 (Int32.ofNat k1) (Int32.ofNat q))) + (f3 (Int32.ofNat k2) (Int32.ofNat q))))]))
    refine A (XS.iload X48.here hx rfl (hb hby at_119) rfl) ?_
    show D (T48.setTop (mkF m 121 #[.val (.int p1), .val (.int p2), .val (.int p3), .val (.int p4), .val (.int p5), .val (.int p6), .val (.int (3 : Int32)), .val (.int (Int32.ofNat k0)), .val (.int (Int32.ofNat k1)), .val (.int (Int32.ofNat k2)), .val (.int (Int32.ofNat k3)), .val (.int (Int32.ofNat q)), .val (.ref b35), .val (.ref b44), .unset] [(.int (Int32.ofNat k3)), (.int (((f3 (Int32.ofNat k0) (Int32.ofNat q)) + (f3 (Int32.ofNat k1) (Int32.ofNat q))) + (f3 (Int32.ofNat k2) (Int32.ofNat q))))]))
    refine A (XS.iload X48.here hx rfl (hb hby at_121) rfl) ?_
    show D (T48.setTop (mkF m 123 #[.val (.int p1), .val (.int p2), .val (.int p3), .val (.int p4), .val (.int p5), .val (.int p6), .val (.int (3 : Int32)), .val (.int (Int32.ofNat k0)), .val (.int (Int32.ofNat k1)), .val (.int (Int32.ofNat k2)), .val (.int (Int32.ofNat k3)), .val (.int (Int32.ofNat q)), .val (.ref b35), .val (.ref b44), .unset] [(.int (Int32.ofNat q)), (.int (Int32.ofNat k3)), (.int (((f3 (Int32.ofNat k0) (Int32.ofNat q)) + (f3 (Int32.ofNat k1) (Int32.ofNat q))) + (f3 (Int32.ofNat k2) (Int32.ofNat q))))]))
    refine Adv.callS A X48 hx hZ hown (hw _ (List.mem_of_getElem? (i := 24) rfl)) (hw _ (List.mem_of_getElem? (i := 25) rfl)) (hw _ (List.mem_of_getElem? (i := 26) rfl)) (hw _ (List.mem_of_getElem? (i := 27) rfl)) e48 (rm3 l Z a0 hw [] (Int32.ofNat k3) (Int32.ofNat q) T45.heap n0) 1 (g := (mkF m 123 #[.val (.int p1), .val (.int p2), .val (.int p3), .val (.int p4), .val (.int p5), .val (.int p6), .val (.int (3 : Int32)), .val (.int (Int32.ofNat k0)), .val (.int (Int32.ofNat k1)), .val (.int (Int32.ofNat k2)), .val (.int (Int32.ofNat k3)), .val (.int (Int32.ofNat q)), .val (.ref b35), .val (.ref b44), .unset] [(.int (Int32.ofNat q)), (.int (Int32.ofNat k3)), (.int (((f3 (Int32.ofNat k0) (Int32.ofNat q)) + (f3 (Int32.ofNat k1) (Int32.ofNat q))) + (f3 (Int32.ofNat k2) (Int32.ofNat q))))])) rfl (by rw [hml]; rfl) [(.int (Int32.ofNat k3)), (.int (Int32.ofNat q))] [(.int (((f3 (Int32.ofNat k0) (Int32.ofNat q)) + (f3 (Int32.ofNat k1) (Int32.ofNat q))) + (f3 (Int32.ofNat k2) (Int32.ofNat q))))] rfl (lenOf pd0_1 rfl) rfl (by show 2 * 0 + _ ≤ _; exact Nat.le_of_eq rfl) (hb hby at_123) (by decide) (by decide) (by decide) (by decide) (by decide) ?_
    rintro T49 L49 _ X49 ⟨rfl, N49_q, e49⟩
    have N49 := Fr.app N48 N49_q
    show D (T49.setTop (mkF m 126 #[.val (.int p1), .val (.int p2), .val (.int p3), .val (.int p4), .val (.int p5), .val (.int p6), .val (.int (3 : Int32)), .val (.int (Int32.ofNat k0)), .val (.int (Int32.ofNat k1)), .val (.int (Int32.ofNat k2)), .val (.int (Int32.ofNat k3)), .val (.int (Int32.ofNat q)), .val (.ref b35), .val (.ref b44), .unset] [(.int (f3 (Int32.ofNat k3) (Int32.ofNat q))), (.int (((f3 (Int32.ofNat k0) (Int32.ofNat q)) + (f3 (Int32.ofNat k1) (Int32.ofNat q))) + (f3 (Int32.ofNat k2) (Int32.ofNat q))))]))
    refine A (XS.iadd X49.here hx rfl (hb hby at_126) rfl) ?_
    show D (T49.setTop (mkF m 127 #[.val (.int p1), .val (.int p2), .val (.int p3), .val (.int p4), .val (.int p5), .val (.int p6), .val (.int (3 : Int32)), .val (.int (Int32.ofNat k0)), .val (.int (Int32.ofNat k1)), .val (.int (Int32.ofNat k2)), .val (.int (Int32.ofNat k3)), .val (.int (Int32.ofNat q)), .val (.ref b35), .val (.ref b44), .unset] [(.int ((((f3 (Int32.ofNat k0) (Int32.ofNat q)) + (f3 (Int32.ofNat k1) (Int32.ofNat q))) + (f3 (Int32.ofNat k2) (Int32.ofNat q))) + (f3 (Int32.ofNat k3) (Int32.ofNat q))))]))
    refine A (XS.istore X49.here hx rfl (hb hby at_127) rfl (l' := #[.val (.int p1), .val (.int p2), .val (.int p3), .val (.int p4), .val (.int p5), .val (.int p6), .val (.int (3 : Int32)), .val (.int (Int32.ofNat k0)), .val (.int (Int32.ofNat k1)), .val (.int (Int32.ofNat k2)), .val (.int (Int32.ofNat k3)), .val (.int (Int32.ofNat q)), .val (.ref b35), .val (.ref b44), .val (.int ((((f3 (Int32.ofNat k0) (Int32.ofNat q)) + (f3 (Int32.ofNat k1) (Int32.ofNat q))) + (f3 (Int32.ofNat k2) (Int32.ofNat q))) + (f3 (Int32.ofNat k3) (Int32.ofNat q))))]) rfl) ?_
    show D (T49.setTop (mkF m 129 #[.val (.int p1), .val (.int p2), .val (.int p3), .val (.int p4), .val (.int p5), .val (.int p6), .val (.int (3 : Int32)), .val (.int (Int32.ofNat k0)), .val (.int (Int32.ofNat k1)), .val (.int (Int32.ofNat k2)), .val (.int (Int32.ofNat k3)), .val (.int (Int32.ofNat q)), .val (.ref b35), .val (.ref b44), .val (.int ((((f3 (Int32.ofNat k0) (Int32.ofNat q)) + (f3 (Int32.ofNat k1) (Int32.ofNat q))) + (f3 (Int32.ofNat k2) (Int32.ofNat q))) + (f3 (Int32.ofNat k3) (Int32.ofNat q))))] []))
    suffices Kx14_129aa : ∀ x14_129aa : Int32, x14_129aa = ((((f3 (Int32.ofNat k0) (Int32.ofNat q)) + (f3 (Int32.ofNat k1) (Int32.ofNat q))) + (f3 (Int32.ofNat k2) (Int32.ofNat q))) + (f3 (Int32.ofNat k3) (Int32.ofNat q))) → D (T49.setTop (mkF m 129 #[.val (.int p1), .val (.int p2), .val (.int p3), .val (.int p4), .val (.int p5), .val (.int p6), .val (.int (3 : Int32)), .val (.int (Int32.ofNat k0)), .val (.int (Int32.ofNat k1)), .val (.int (Int32.ofNat k2)), .val (.int (Int32.ofNat k3)), .val (.int (Int32.ofNat q)), .val (.ref b35), .val (.ref b44), .val (.int x14_129aa)] [])) from Kx14_129aa _ rfl
    intro x14_129aa hx14_129aa
    refine A (XS.aload X49.here hx rfl (hb hby at_129) rfl rfl) ?_
    show D (T49.setTop (mkF m 131 #[.val (.int p1), .val (.int p2), .val (.int p3), .val (.int p4), .val (.int p5), .val (.int p6), .val (.int (3 : Int32)), .val (.int (Int32.ofNat k0)), .val (.int (Int32.ofNat k1)), .val (.int (Int32.ofNat k2)), .val (.int (Int32.ofNat k3)), .val (.int (Int32.ofNat q)), .val (.ref b35), .val (.ref b44), .val (.int x14_129aa)] [(.ref b44)]))
    refine A (XS.iload X49.here hx rfl (hb hby at_131) rfl) ?_
    show D (T49.setTop (mkF m 133 #[.val (.int p1), .val (.int p2), .val (.int p3), .val (.int p4), .val (.int p5), .val (.int p6), .val (.int (3 : Int32)), .val (.int (Int32.ofNat k0)), .val (.int (Int32.ofNat k1)), .val (.int (Int32.ofNat k2)), .val (.int (Int32.ofNat k3)), .val (.int (Int32.ofNat q)), .val (.ref b35), .val (.ref b44), .val (.int x14_129aa)] [(.int (Int32.ofNat q)), (.ref b44)]))
    refine Adv.callV A X49 hx hZ hown (hw _ (List.mem_of_getElem? (i := 28) rfl)) (hw _ (List.mem_of_getElem? (i := 29) rfl)) (notFace_of_selects (args := #[]) (mvT hZ (hw _ (List.mem_of_getElem? (i := 31) rfl)))) (hw _ (List.mem_of_getElem? (i := 31) rfl)) (hw _ (List.mem_of_getElem? (i := 30) rfl)) (hw _ (List.mem_of_getElem? (i := 4) rfl)) (hw _ (List.mem_of_getElem? (i := 32) rfl)) e49 E_b44_45 (rm4 l Z a0 hw [] b44 (Int32.ofNat q) T45.heap n0 s45 4 (fun i => Int32.ofNat (own_c0 k0 k1 k2 k3 i)) q (own_of (by omega)) (by omega) (by omega) F45_s V45_q) 0 (g := (mkF m 133 #[.val (.int p1), .val (.int p2), .val (.int p3), .val (.int p4), .val (.int p5), .val (.int p6), .val (.int (3 : Int32)), .val (.int (Int32.ofNat k0)), .val (.int (Int32.ofNat k1)), .val (.int (Int32.ofNat k2)), .val (.int (Int32.ofNat k3)), .val (.int (Int32.ofNat q)), .val (.ref b35), .val (.ref b44), .val (.int x14_129aa)] [(.int (Int32.ofNat q)), (.ref b44)])) rfl (by rw [hml]; rfl) [(.int (Int32.ofNat q))] [] rfl (lenOf pd0_2 rfl) rfl (by show 2 * 0 + _ ≤ _; exact Nat.le_of_eq rfl) (hb hby at_133) (by decide) (by decide) (by decide) (by decide) (by decide) ?_
    rintro T50 L50 _ X50 ⟨rfl, N50_q, e50⟩
    have N50 := Fr.app N49 N50_q
    show D (T50.setTop (mkF m 136 #[.val (.int p1), .val (.int p2), .val (.int p3), .val (.int p4), .val (.int p5), .val (.int p6), .val (.int (3 : Int32)), .val (.int (Int32.ofNat k0)), .val (.int (Int32.ofNat k1)), .val (.int (Int32.ofNat k2)), .val (.int (Int32.ofNat k3)), .val (.int (Int32.ofNat q)), .val (.ref b35), .val (.ref b44), .val (.int x14_129aa)] [(.int (Int32.ofNat (own_n2 k0 k1 k2 k3 (q + 1)) - Int32.ofNat (own_n2 k0 k1 k2 k3 q)))]))
    refine A (XS.iload X50.here hx rfl (hb hby at_136) rfl) ?_
    show D (T50.setTop (mkF m 138 #[.val (.int p1), .val (.int p2), .val (.int p3), .val (.int p4), .val (.int p5), .val (.int p6), .val (.int (3 : Int32)), .val (.int (Int32.ofNat k0)), .val (.int (Int32.ofNat k1)), .val (.int (Int32.ofNat k2)), .val (.int (Int32.ofNat k3)), .val (.int (Int32.ofNat q)), .val (.ref b35), .val (.ref b44), .val (.int x14_129aa)] [(.int x14_129aa), (.int (Int32.ofNat (own_n2 k0 k1 k2 k3 (q + 1)) - Int32.ofNat (own_n2 k0 k1 k2 k3 q)))]))
    suffices Km146_51 : ∀ (v146s0aa : Int32), v146s0aa = (if (Int32.ofNat (own_n2 k0 k1 k2 k3 (q + 1)) - Int32.ofNat (own_n2 k0 k1 k2 k3 q)) = x14_129aa then (1 : Int32) else (0 : Int32)) → D (T50.setTop (mkF m 146 #[.val (.int p1), .val (.int p2), .val (.int p3), .val (.int p4), .val (.int p5), .val (.int p6), .val (.int (3 : Int32)), .val (.int (Int32.ofNat k0)), .val (.int (Int32.ofNat k1)), .val (.int (Int32.ofNat k2)), .val (.int (Int32.ofNat k3)), .val (.int (Int32.ofNat q)), .val (.ref b35), .val (.ref b44), .val (.int x14_129aa)] [(.int v146s0aa)])) by
      by_cases c138_0 : (Int32.ofNat (own_n2 k0 k1 k2 k3 (q + 1)) - Int32.ofNat (own_n2 k0 k1 k2 k3 q)) = x14_129aa
      · refine A (XS.icmpNo X50.here hx rfl (hb hby at_138) rfl (teq c138_0).2) ?_
        show D (T50.setTop (mkF m 141 #[.val (.int p1), .val (.int p2), .val (.int p3), .val (.int p4), .val (.int p5), .val (.int p6), .val (.int (3 : Int32)), .val (.int (Int32.ofNat k0)), .val (.int (Int32.ofNat k1)), .val (.int (Int32.ofNat k2)), .val (.int (Int32.ofNat k3)), .val (.int (Int32.ofNat q)), .val (.ref b35), .val (.ref b44), .val (.int x14_129aa)] []))
        refine A (XS.iconst X50.here hx rfl (hb hby at_141)) ?_
        show D (T50.setTop (mkF m 142 #[.val (.int p1), .val (.int p2), .val (.int p3), .val (.int p4), .val (.int p5), .val (.int p6), .val (.int (3 : Int32)), .val (.int (Int32.ofNat k0)), .val (.int (Int32.ofNat k1)), .val (.int (Int32.ofNat k2)), .val (.int (Int32.ofNat k3)), .val (.int (Int32.ofNat q)), .val (.ref b35), .val (.ref b44), .val (.int x14_129aa)] [(.int (1 : Int32))]))
        refine A (XS.goto X50.here hx rfl (pc0 := 142) (pc' := 146) rfl (hb hby at_142) (by decide) (by decide)) ?_
        show D (T50.setTop (mkF m 146 #[.val (.int p1), .val (.int p2), .val (.int p3), .val (.int p4), .val (.int p5), .val (.int p6), .val (.int (3 : Int32)), .val (.int (Int32.ofNat k0)), .val (.int (Int32.ofNat k1)), .val (.int (Int32.ofNat k2)), .val (.int (Int32.ofNat k3)), .val (.int (Int32.ofNat q)), .val (.ref b35), .val (.ref b44), .val (.int x14_129aa)] [(.int (1 : Int32))]))
        exact Km146_51 _ ((if_pos c138_0)).symm
      · refine A (XS.icmpYes X50.here hx rfl (pc0 := 138) (pc' := 145) rfl (hb hby at_138) rfl (feq c138_0).2 (by decide) (by decide)) ?_
        show D (T50.setTop (mkF m 145 #[.val (.int p1), .val (.int p2), .val (.int p3), .val (.int p4), .val (.int p5), .val (.int p6), .val (.int (3 : Int32)), .val (.int (Int32.ofNat k0)), .val (.int (Int32.ofNat k1)), .val (.int (Int32.ofNat k2)), .val (.int (Int32.ofNat k3)), .val (.int (Int32.ofNat q)), .val (.ref b35), .val (.ref b44), .val (.int x14_129aa)] []))
        refine A (XS.iconst X50.here hx rfl (hb hby at_145)) ?_
        show D (T50.setTop (mkF m 146 #[.val (.int p1), .val (.int p2), .val (.int p3), .val (.int p4), .val (.int p5), .val (.int p6), .val (.int (3 : Int32)), .val (.int (Int32.ofNat k0)), .val (.int (Int32.ofNat k1)), .val (.int (Int32.ofNat k2)), .val (.int (Int32.ofNat k3)), .val (.int (Int32.ofNat q)), .val (.ref b35), .val (.ref b44), .val (.int x14_129aa)] [(.int (0 : Int32))]))
        exact Km146_51 _ ((if_neg c138_0)).symm
    intro v146s0aa hv146s0aa
    show D (T50.setTop (mkF m 146 #[.val (.int p1), .val (.int p2), .val (.int p3), .val (.int p4), .val (.int p5), .val (.int p6), .val (.int (3 : Int32)), .val (.int (Int32.ofNat k0)), .val (.int (Int32.ofNat k1)), .val (.int (Int32.ofNat k2)), .val (.int (Int32.ofNat k3)), .val (.int (Int32.ofNat q)), .val (.ref b35), .val (.ref b44), .val (.int x14_129aa)] [(.int v146s0aa)]))
    obtain rfl : v146s0aa = (1 : Int32) := by
      rw [hv146s0aa, hx14_129aa, if_pos (own_fin k0 (by omega) k1 (by omega) k2 (by omega) k3 (by omega) q (by omega))]
    show D (T50.setTop (mkF m 146 #[.val (.int p1), .val (.int p2), .val (.int p3), .val (.int p4), .val (.int p5), .val (.int p6), .val (.int (3 : Int32)), .val (.int (Int32.ofNat k0)), .val (.int (Int32.ofNat k1)), .val (.int (Int32.ofNat k2)), .val (.int (Int32.ofNat k3)), .val (.int (Int32.ofNat q)), .val (.ref b35), .val (.ref b44), .val (.int x14_129aa)] [(.int (1 : Int32))]))
    exact F _ (Jvm.JW.ret X50 hlk (v := some (.int (1 : Int32))) (fun h => by rw [hrt] at h; cases h) (fun fs hr => retOut X50 hx hrt rfl (Or.inl ⟨rfl, Or.inr (Or.inl rfl), _, rfl⟩) (hb hby at_146) hr) rfl ⟨rfl, N50⟩ (by decide) (by decide))
  · show D (T0.setTop (mkF m 7 #[.val (.int p1), .val (.int p2), .val (.int p3), .val (.int p4), .val (.int p5), .val (.int p6), .val (.int (4 : Int32)), .unset, .unset, .unset, .unset, .unset, .unset, .unset, .unset] []))
    refine A (XS.iloadN X0.here hx rfl (hb hby at_7) rfl) ?_
    show D (T0.setTop (mkF m 8 #[.val (.int p1), .val (.int p2), .val (.int p3), .val (.int p4), .val (.int p5), .val (.int p6), .val (.int (4 : Int32)), .unset, .unset, .unset, .unset, .unset, .unset, .unset, .unset] [(.int p2)]))
    refine A (X0.ldcInt hx hown (mvT hZ (hw _ (List.mem_of_getElem? (i := 0) rfl))) (g := (mkF m 8 #[.val (.int p1), .val (.int p2), .val (.int p3), .val (.int p4), .val (.int p5), .val (.int p6), .val (.int (4 : Int32)), .unset, .unset, .unset, .unset, .unset, .unset, .unset, .unset] [(.int p2)])) rfl (hb hby at_8) _) ?_
    show D (T0.setTop (mkF m 10 #[.val (.int p1), .val (.int p2), .val (.int p3), .val (.int p4), .val (.int p5), .val (.int p6), .val (.int (4 : Int32)), .unset, .unset, .unset, .unset, .unset, .unset, .unset, .unset] [(.int (2147483647 : Int32)), (.int p2)]))
    refine A (XS.iand X0.here hx rfl (hb hby at_10) rfl) ?_
    show D (T0.setTop (mkF m 11 #[.val (.int p1), .val (.int p2), .val (.int p3), .val (.int p4), .val (.int p5), .val (.int p6), .val (.int (4 : Int32)), .unset, .unset, .unset, .unset, .unset, .unset, .unset, .unset] [(.int (p2 &&& (2147483647 : Int32)))]))
    refine A (XS.iload X0.here hx rfl (hb hby at_11) rfl) ?_
    show D (T0.setTop (mkF m 13 #[.val (.int p1), .val (.int p2), .val (.int p3), .val (.int p4), .val (.int p5), .val (.int p6), .val (.int (4 : Int32)), .unset, .unset, .unset, .unset, .unset, .unset, .unset, .unset] [(.int (4 : Int32)), (.int (p2 &&& (2147483647 : Int32)))]))
    refine A (iremM X0 hx rfl (hb hby at_13) rfl (by decide)) ?_
    show D (T0.setTop (mkF m 14 #[.val (.int p1), .val (.int p2), .val (.int p3), .val (.int p4), .val (.int p5), .val (.int p6), .val (.int (4 : Int32)), .unset, .unset, .unset, .unset, .unset, .unset, .unset, .unset] [(.int ((p2 &&& (2147483647 : Int32)) % (4 : Int32)))]))
    refine A (XS.istore X0.here hx rfl (hb hby at_14) rfl (l' := #[.val (.int p1), .val (.int p2), .val (.int p3), .val (.int p4), .val (.int p5), .val (.int p6), .val (.int (4 : Int32)), .val (.int ((p2 &&& (2147483647 : Int32)) % (4 : Int32))), .unset, .unset, .unset, .unset, .unset, .unset, .unset]) rfl) ?_
    show D (T0.setTop (mkF m 16 #[.val (.int p1), .val (.int p2), .val (.int p3), .val (.int p4), .val (.int p5), .val (.int p6), .val (.int (4 : Int32)), .val (.int ((p2 &&& (2147483647 : Int32)) % (4 : Int32))), .unset, .unset, .unset, .unset, .unset, .unset, .unset] []))
    suffices Kx7_16aaa : ∀ x7_16aaa : Int32, x7_16aaa = ((p2 &&& (2147483647 : Int32)) % (4 : Int32)) → D (T0.setTop (mkF m 16 #[.val (.int p1), .val (.int p2), .val (.int p3), .val (.int p4), .val (.int p5), .val (.int p6), .val (.int (4 : Int32)), .val (.int x7_16aaa), .unset, .unset, .unset, .unset, .unset, .unset, .unset] [])) from Kx7_16aaa _ rfl
    intro x7_16aaa hx7_16aaa
    obtain ⟨k0, hk0, rfl⟩ := own_k_4 hx7_16aaa
    show D (T0.setTop (mkF m 16 #[.val (.int p1), .val (.int p2), .val (.int p3), .val (.int p4), .val (.int p5), .val (.int p6), .val (.int (4 : Int32)), .val (.int (Int32.ofNat k0)), .unset, .unset, .unset, .unset, .unset, .unset, .unset] []))
    refine A (XS.iloadN X0.here hx rfl (hb hby at_16) rfl) ?_
    show D (T0.setTop (mkF m 17 #[.val (.int p1), .val (.int p2), .val (.int p3), .val (.int p4), .val (.int p5), .val (.int p6), .val (.int (4 : Int32)), .val (.int (Int32.ofNat k0)), .unset, .unset, .unset, .unset, .unset, .unset, .unset] [(.int p3)]))
    refine A (X0.ldcInt hx hown (mvT hZ (hw _ (List.mem_of_getElem? (i := 0) rfl))) (g := (mkF m 17 #[.val (.int p1), .val (.int p2), .val (.int p3), .val (.int p4), .val (.int p5), .val (.int p6), .val (.int (4 : Int32)), .val (.int (Int32.ofNat k0)), .unset, .unset, .unset, .unset, .unset, .unset, .unset] [(.int p3)])) rfl (hb hby at_17) _) ?_
    show D (T0.setTop (mkF m 19 #[.val (.int p1), .val (.int p2), .val (.int p3), .val (.int p4), .val (.int p5), .val (.int p6), .val (.int (4 : Int32)), .val (.int (Int32.ofNat k0)), .unset, .unset, .unset, .unset, .unset, .unset, .unset] [(.int (2147483647 : Int32)), (.int p3)]))
    refine A (XS.iand X0.here hx rfl (hb hby at_19) rfl) ?_
    show D (T0.setTop (mkF m 20 #[.val (.int p1), .val (.int p2), .val (.int p3), .val (.int p4), .val (.int p5), .val (.int p6), .val (.int (4 : Int32)), .val (.int (Int32.ofNat k0)), .unset, .unset, .unset, .unset, .unset, .unset, .unset] [(.int (p3 &&& (2147483647 : Int32)))]))
    refine A (XS.iload X0.here hx rfl (hb hby at_20) rfl) ?_
    show D (T0.setTop (mkF m 22 #[.val (.int p1), .val (.int p2), .val (.int p3), .val (.int p4), .val (.int p5), .val (.int p6), .val (.int (4 : Int32)), .val (.int (Int32.ofNat k0)), .unset, .unset, .unset, .unset, .unset, .unset, .unset] [(.int (4 : Int32)), (.int (p3 &&& (2147483647 : Int32)))]))
    refine A (iremM X0 hx rfl (hb hby at_22) rfl (by decide)) ?_
    show D (T0.setTop (mkF m 23 #[.val (.int p1), .val (.int p2), .val (.int p3), .val (.int p4), .val (.int p5), .val (.int p6), .val (.int (4 : Int32)), .val (.int (Int32.ofNat k0)), .unset, .unset, .unset, .unset, .unset, .unset, .unset] [(.int ((p3 &&& (2147483647 : Int32)) % (4 : Int32)))]))
    refine A (XS.istore X0.here hx rfl (hb hby at_23) rfl (l' := #[.val (.int p1), .val (.int p2), .val (.int p3), .val (.int p4), .val (.int p5), .val (.int p6), .val (.int (4 : Int32)), .val (.int (Int32.ofNat k0)), .val (.int ((p3 &&& (2147483647 : Int32)) % (4 : Int32))), .unset, .unset, .unset, .unset, .unset, .unset]) rfl) ?_
    show D (T0.setTop (mkF m 25 #[.val (.int p1), .val (.int p2), .val (.int p3), .val (.int p4), .val (.int p5), .val (.int p6), .val (.int (4 : Int32)), .val (.int (Int32.ofNat k0)), .val (.int ((p3 &&& (2147483647 : Int32)) % (4 : Int32))), .unset, .unset, .unset, .unset, .unset, .unset] []))
    suffices Kx8_25aaa : ∀ x8_25aaa : Int32, x8_25aaa = ((p3 &&& (2147483647 : Int32)) % (4 : Int32)) → D (T0.setTop (mkF m 25 #[.val (.int p1), .val (.int p2), .val (.int p3), .val (.int p4), .val (.int p5), .val (.int p6), .val (.int (4 : Int32)), .val (.int (Int32.ofNat k0)), .val (.int x8_25aaa), .unset, .unset, .unset, .unset, .unset, .unset] [])) from Kx8_25aaa _ rfl
    intro x8_25aaa hx8_25aaa
    obtain ⟨k1, hk1, rfl⟩ := own_k_4 hx8_25aaa
    show D (T0.setTop (mkF m 25 #[.val (.int p1), .val (.int p2), .val (.int p3), .val (.int p4), .val (.int p5), .val (.int p6), .val (.int (4 : Int32)), .val (.int (Int32.ofNat k0)), .val (.int (Int32.ofNat k1)), .unset, .unset, .unset, .unset, .unset, .unset] []))
    refine A (XS.iloadN X0.here hx rfl (hb hby at_25) rfl) ?_
    show D (T0.setTop (mkF m 26 #[.val (.int p1), .val (.int p2), .val (.int p3), .val (.int p4), .val (.int p5), .val (.int p6), .val (.int (4 : Int32)), .val (.int (Int32.ofNat k0)), .val (.int (Int32.ofNat k1)), .unset, .unset, .unset, .unset, .unset, .unset] [(.int p4)]))
    refine A (X0.ldcInt hx hown (mvT hZ (hw _ (List.mem_of_getElem? (i := 0) rfl))) (g := (mkF m 26 #[.val (.int p1), .val (.int p2), .val (.int p3), .val (.int p4), .val (.int p5), .val (.int p6), .val (.int (4 : Int32)), .val (.int (Int32.ofNat k0)), .val (.int (Int32.ofNat k1)), .unset, .unset, .unset, .unset, .unset, .unset] [(.int p4)])) rfl (hb hby at_26) _) ?_
    show D (T0.setTop (mkF m 28 #[.val (.int p1), .val (.int p2), .val (.int p3), .val (.int p4), .val (.int p5), .val (.int p6), .val (.int (4 : Int32)), .val (.int (Int32.ofNat k0)), .val (.int (Int32.ofNat k1)), .unset, .unset, .unset, .unset, .unset, .unset] [(.int (2147483647 : Int32)), (.int p4)]))
    refine A (XS.iand X0.here hx rfl (hb hby at_28) rfl) ?_
    show D (T0.setTop (mkF m 29 #[.val (.int p1), .val (.int p2), .val (.int p3), .val (.int p4), .val (.int p5), .val (.int p6), .val (.int (4 : Int32)), .val (.int (Int32.ofNat k0)), .val (.int (Int32.ofNat k1)), .unset, .unset, .unset, .unset, .unset, .unset] [(.int (p4 &&& (2147483647 : Int32)))]))
    refine A (XS.iload X0.here hx rfl (hb hby at_29) rfl) ?_
    show D (T0.setTop (mkF m 31 #[.val (.int p1), .val (.int p2), .val (.int p3), .val (.int p4), .val (.int p5), .val (.int p6), .val (.int (4 : Int32)), .val (.int (Int32.ofNat k0)), .val (.int (Int32.ofNat k1)), .unset, .unset, .unset, .unset, .unset, .unset] [(.int (4 : Int32)), (.int (p4 &&& (2147483647 : Int32)))]))
    refine A (iremM X0 hx rfl (hb hby at_31) rfl (by decide)) ?_
    show D (T0.setTop (mkF m 32 #[.val (.int p1), .val (.int p2), .val (.int p3), .val (.int p4), .val (.int p5), .val (.int p6), .val (.int (4 : Int32)), .val (.int (Int32.ofNat k0)), .val (.int (Int32.ofNat k1)), .unset, .unset, .unset, .unset, .unset, .unset] [(.int ((p4 &&& (2147483647 : Int32)) % (4 : Int32)))]))
    refine A (XS.istore X0.here hx rfl (hb hby at_32) rfl (l' := #[.val (.int p1), .val (.int p2), .val (.int p3), .val (.int p4), .val (.int p5), .val (.int p6), .val (.int (4 : Int32)), .val (.int (Int32.ofNat k0)), .val (.int (Int32.ofNat k1)), .val (.int ((p4 &&& (2147483647 : Int32)) % (4 : Int32))), .unset, .unset, .unset, .unset, .unset]) rfl) ?_
    show D (T0.setTop (mkF m 34 #[.val (.int p1), .val (.int p2), .val (.int p3), .val (.int p4), .val (.int p5), .val (.int p6), .val (.int (4 : Int32)), .val (.int (Int32.ofNat k0)), .val (.int (Int32.ofNat k1)), .val (.int ((p4 &&& (2147483647 : Int32)) % (4 : Int32))), .unset, .unset, .unset, .unset, .unset] []))
    suffices Kx9_34aaa : ∀ x9_34aaa : Int32, x9_34aaa = ((p4 &&& (2147483647 : Int32)) % (4 : Int32)) → D (T0.setTop (mkF m 34 #[.val (.int p1), .val (.int p2), .val (.int p3), .val (.int p4), .val (.int p5), .val (.int p6), .val (.int (4 : Int32)), .val (.int (Int32.ofNat k0)), .val (.int (Int32.ofNat k1)), .val (.int x9_34aaa), .unset, .unset, .unset, .unset, .unset] [])) from Kx9_34aaa _ rfl
    intro x9_34aaa hx9_34aaa
    obtain ⟨k2, hk2, rfl⟩ := own_k_4 hx9_34aaa
    show D (T0.setTop (mkF m 34 #[.val (.int p1), .val (.int p2), .val (.int p3), .val (.int p4), .val (.int p5), .val (.int p6), .val (.int (4 : Int32)), .val (.int (Int32.ofNat k0)), .val (.int (Int32.ofNat k1)), .val (.int (Int32.ofNat k2)), .unset, .unset, .unset, .unset, .unset] []))
    refine A (XS.iload X0.here hx rfl (hb hby at_34) rfl) ?_
    show D (T0.setTop (mkF m 36 #[.val (.int p1), .val (.int p2), .val (.int p3), .val (.int p4), .val (.int p5), .val (.int p6), .val (.int (4 : Int32)), .val (.int (Int32.ofNat k0)), .val (.int (Int32.ofNat k1)), .val (.int (Int32.ofNat k2)), .unset, .unset, .unset, .unset, .unset] [(.int p5)]))
    refine A (X0.ldcInt hx hown (mvT hZ (hw _ (List.mem_of_getElem? (i := 0) rfl))) (g := (mkF m 36 #[.val (.int p1), .val (.int p2), .val (.int p3), .val (.int p4), .val (.int p5), .val (.int p6), .val (.int (4 : Int32)), .val (.int (Int32.ofNat k0)), .val (.int (Int32.ofNat k1)), .val (.int (Int32.ofNat k2)), .unset, .unset, .unset, .unset, .unset] [(.int p5)])) rfl (hb hby at_36) _) ?_
    show D (T0.setTop (mkF m 38 #[.val (.int p1), .val (.int p2), .val (.int p3), .val (.int p4), .val (.int p5), .val (.int p6), .val (.int (4 : Int32)), .val (.int (Int32.ofNat k0)), .val (.int (Int32.ofNat k1)), .val (.int (Int32.ofNat k2)), .unset, .unset, .unset, .unset, .unset] [(.int (2147483647 : Int32)), (.int p5)]))
    refine A (XS.iand X0.here hx rfl (hb hby at_38) rfl) ?_
    show D (T0.setTop (mkF m 39 #[.val (.int p1), .val (.int p2), .val (.int p3), .val (.int p4), .val (.int p5), .val (.int p6), .val (.int (4 : Int32)), .val (.int (Int32.ofNat k0)), .val (.int (Int32.ofNat k1)), .val (.int (Int32.ofNat k2)), .unset, .unset, .unset, .unset, .unset] [(.int (p5 &&& (2147483647 : Int32)))]))
    refine A (XS.iload X0.here hx rfl (hb hby at_39) rfl) ?_
    show D (T0.setTop (mkF m 41 #[.val (.int p1), .val (.int p2), .val (.int p3), .val (.int p4), .val (.int p5), .val (.int p6), .val (.int (4 : Int32)), .val (.int (Int32.ofNat k0)), .val (.int (Int32.ofNat k1)), .val (.int (Int32.ofNat k2)), .unset, .unset, .unset, .unset, .unset] [(.int (4 : Int32)), (.int (p5 &&& (2147483647 : Int32)))]))
    refine A (iremM X0 hx rfl (hb hby at_41) rfl (by decide)) ?_
    show D (T0.setTop (mkF m 42 #[.val (.int p1), .val (.int p2), .val (.int p3), .val (.int p4), .val (.int p5), .val (.int p6), .val (.int (4 : Int32)), .val (.int (Int32.ofNat k0)), .val (.int (Int32.ofNat k1)), .val (.int (Int32.ofNat k2)), .unset, .unset, .unset, .unset, .unset] [(.int ((p5 &&& (2147483647 : Int32)) % (4 : Int32)))]))
    refine A (XS.istore X0.here hx rfl (hb hby at_42) rfl (l' := #[.val (.int p1), .val (.int p2), .val (.int p3), .val (.int p4), .val (.int p5), .val (.int p6), .val (.int (4 : Int32)), .val (.int (Int32.ofNat k0)), .val (.int (Int32.ofNat k1)), .val (.int (Int32.ofNat k2)), .val (.int ((p5 &&& (2147483647 : Int32)) % (4 : Int32))), .unset, .unset, .unset, .unset]) rfl) ?_
    show D (T0.setTop (mkF m 44 #[.val (.int p1), .val (.int p2), .val (.int p3), .val (.int p4), .val (.int p5), .val (.int p6), .val (.int (4 : Int32)), .val (.int (Int32.ofNat k0)), .val (.int (Int32.ofNat k1)), .val (.int (Int32.ofNat k2)), .val (.int ((p5 &&& (2147483647 : Int32)) % (4 : Int32))), .unset, .unset, .unset, .unset] []))
    suffices Kx10_44aaa : ∀ x10_44aaa : Int32, x10_44aaa = ((p5 &&& (2147483647 : Int32)) % (4 : Int32)) → D (T0.setTop (mkF m 44 #[.val (.int p1), .val (.int p2), .val (.int p3), .val (.int p4), .val (.int p5), .val (.int p6), .val (.int (4 : Int32)), .val (.int (Int32.ofNat k0)), .val (.int (Int32.ofNat k1)), .val (.int (Int32.ofNat k2)), .val (.int x10_44aaa), .unset, .unset, .unset, .unset] [])) from Kx10_44aaa _ rfl
    intro x10_44aaa hx10_44aaa
    obtain ⟨k3, hk3, rfl⟩ := own_k_4 hx10_44aaa
    show D (T0.setTop (mkF m 44 #[.val (.int p1), .val (.int p2), .val (.int p3), .val (.int p4), .val (.int p5), .val (.int p6), .val (.int (4 : Int32)), .val (.int (Int32.ofNat k0)), .val (.int (Int32.ofNat k1)), .val (.int (Int32.ofNat k2)), .val (.int (Int32.ofNat k3)), .unset, .unset, .unset, .unset] []))
    refine A (XS.iload X0.here hx rfl (hb hby at_44) rfl) ?_
    show D (T0.setTop (mkF m 46 #[.val (.int p1), .val (.int p2), .val (.int p3), .val (.int p4), .val (.int p5), .val (.int p6), .val (.int (4 : Int32)), .val (.int (Int32.ofNat k0)), .val (.int (Int32.ofNat k1)), .val (.int (Int32.ofNat k2)), .val (.int (Int32.ofNat k3)), .unset, .unset, .unset, .unset] [(.int p6)]))
    refine A (X0.ldcInt hx hown (mvT hZ (hw _ (List.mem_of_getElem? (i := 0) rfl))) (g := (mkF m 46 #[.val (.int p1), .val (.int p2), .val (.int p3), .val (.int p4), .val (.int p5), .val (.int p6), .val (.int (4 : Int32)), .val (.int (Int32.ofNat k0)), .val (.int (Int32.ofNat k1)), .val (.int (Int32.ofNat k2)), .val (.int (Int32.ofNat k3)), .unset, .unset, .unset, .unset] [(.int p6)])) rfl (hb hby at_46) _) ?_
    show D (T0.setTop (mkF m 48 #[.val (.int p1), .val (.int p2), .val (.int p3), .val (.int p4), .val (.int p5), .val (.int p6), .val (.int (4 : Int32)), .val (.int (Int32.ofNat k0)), .val (.int (Int32.ofNat k1)), .val (.int (Int32.ofNat k2)), .val (.int (Int32.ofNat k3)), .unset, .unset, .unset, .unset] [(.int (2147483647 : Int32)), (.int p6)]))
    refine A (XS.iand X0.here hx rfl (hb hby at_48) rfl) ?_
    show D (T0.setTop (mkF m 49 #[.val (.int p1), .val (.int p2), .val (.int p3), .val (.int p4), .val (.int p5), .val (.int p6), .val (.int (4 : Int32)), .val (.int (Int32.ofNat k0)), .val (.int (Int32.ofNat k1)), .val (.int (Int32.ofNat k2)), .val (.int (Int32.ofNat k3)), .unset, .unset, .unset, .unset] [(.int (p6 &&& (2147483647 : Int32)))]))
    refine A (XS.iload X0.here hx rfl (hb hby at_49) rfl) ?_
    show D (T0.setTop (mkF m 51 #[.val (.int p1), .val (.int p2), .val (.int p3), .val (.int p4), .val (.int p5), .val (.int p6), .val (.int (4 : Int32)), .val (.int (Int32.ofNat k0)), .val (.int (Int32.ofNat k1)), .val (.int (Int32.ofNat k2)), .val (.int (Int32.ofNat k3)), .unset, .unset, .unset, .unset] [(.int (4 : Int32)), (.int (p6 &&& (2147483647 : Int32)))]))
    refine A (iremM X0 hx rfl (hb hby at_51) rfl (by decide)) ?_
    show D (T0.setTop (mkF m 52 #[.val (.int p1), .val (.int p2), .val (.int p3), .val (.int p4), .val (.int p5), .val (.int p6), .val (.int (4 : Int32)), .val (.int (Int32.ofNat k0)), .val (.int (Int32.ofNat k1)), .val (.int (Int32.ofNat k2)), .val (.int (Int32.ofNat k3)), .unset, .unset, .unset, .unset] [(.int ((p6 &&& (2147483647 : Int32)) % (4 : Int32)))]))
    refine A (XS.istore X0.here hx rfl (hb hby at_52) rfl (l' := #[.val (.int p1), .val (.int p2), .val (.int p3), .val (.int p4), .val (.int p5), .val (.int p6), .val (.int (4 : Int32)), .val (.int (Int32.ofNat k0)), .val (.int (Int32.ofNat k1)), .val (.int (Int32.ofNat k2)), .val (.int (Int32.ofNat k3)), .val (.int ((p6 &&& (2147483647 : Int32)) % (4 : Int32))), .unset, .unset, .unset]) rfl) ?_
    show D (T0.setTop (mkF m 54 #[.val (.int p1), .val (.int p2), .val (.int p3), .val (.int p4), .val (.int p5), .val (.int p6), .val (.int (4 : Int32)), .val (.int (Int32.ofNat k0)), .val (.int (Int32.ofNat k1)), .val (.int (Int32.ofNat k2)), .val (.int (Int32.ofNat k3)), .val (.int ((p6 &&& (2147483647 : Int32)) % (4 : Int32))), .unset, .unset, .unset] []))
    suffices Kx11_54aaa : ∀ x11_54aaa : Int32, x11_54aaa = ((p6 &&& (2147483647 : Int32)) % (4 : Int32)) → D (T0.setTop (mkF m 54 #[.val (.int p1), .val (.int p2), .val (.int p3), .val (.int p4), .val (.int p5), .val (.int p6), .val (.int (4 : Int32)), .val (.int (Int32.ofNat k0)), .val (.int (Int32.ofNat k1)), .val (.int (Int32.ofNat k2)), .val (.int (Int32.ofNat k3)), .val (.int x11_54aaa), .unset, .unset, .unset] [])) from Kx11_54aaa _ rfl
    intro x11_54aaa hx11_54aaa
    obtain ⟨q, hq, rfl⟩ := own_k_4 hx11_54aaa
    show D (T0.setTop (mkF m 54 #[.val (.int p1), .val (.int p2), .val (.int p3), .val (.int p4), .val (.int p5), .val (.int p6), .val (.int (4 : Int32)), .val (.int (Int32.ofNat k0)), .val (.int (Int32.ofNat k1)), .val (.int (Int32.ofNat k2)), .val (.int (Int32.ofNat k3)), .val (.int (Int32.ofNat q)), .unset, .unset, .unset] []))
    refine A (XS.iconst X0.here hx rfl (hb hby at_54)) ?_
    show D (T0.setTop (mkF m 55 #[.val (.int p1), .val (.int p2), .val (.int p3), .val (.int p4), .val (.int p5), .val (.int p6), .val (.int (4 : Int32)), .val (.int (Int32.ofNat k0)), .val (.int (Int32.ofNat k1)), .val (.int (Int32.ofNat k2)), .val (.int (Int32.ofNat k3)), .val (.int (Int32.ofNat q)), .unset, .unset, .unset] [(.int (4 : Int32))]))
    refine Adv.newI A X0 hx hZ (aty := .int) (hw _ (List.mem_of_getElem? (i := 1) rfl)) e0 (n := 4) (by decide) 4 (by decide) (by decide) rfl (ad := "[I") (by decide) (by decide) (by decide) (g := (mkF m 55 #[.val (.int p1), .val (.int p2), .val (.int p3), .val (.int p4), .val (.int p5), .val (.int p6), .val (.int (4 : Int32)), .val (.int (Int32.ofNat k0)), .val (.int (Int32.ofNat k1)), .val (.int (Int32.ofNat k2)), .val (.int (Int32.ofNat k3)), .val (.int (Int32.ofNat q)), .unset, .unset, .unset] [(.int (4 : Int32))])) rfl rfl (hb hby at_55) ?_
    intro T52 h52 b52 q_b52 X52 e52 E52 V_b52 EA_b52
    have g_b52 : n0 ≤ b52 := Nat.le_trans Z0 (Nat.le_of_eq q_b52.symm)
    have Z_52 : n0 ≤ h52.size := Nat.le_trans Z0 E52.1
    show D (T52.setTop (mkF m 57 #[.val (.int p1), .val (.int p2), .val (.int p3), .val (.int p4), .val (.int p5), .val (.int p6), .val (.int (4 : Int32)), .val (.int (Int32.ofNat k0)), .val (.int (Int32.ofNat k1)), .val (.int (Int32.ofNat k2)), .val (.int (Int32.ofNat k3)), .val (.int (Int32.ofNat q)), .unset, .unset, .unset] [(.ref b52)]))
    refine A (XS.astore X52.here hx rfl (hb hby at_57) rfl rfl (l' := #[.val (.int p1), .val (.int p2), .val (.int p3), .val (.int p4), .val (.int p5), .val (.int p6), .val (.int (4 : Int32)), .val (.int (Int32.ofNat k0)), .val (.int (Int32.ofNat k1)), .val (.int (Int32.ofNat k2)), .val (.int (Int32.ofNat k3)), .val (.int (Int32.ofNat q)), .val (.ref b52), .unset, .unset]) rfl) ?_
    show D (T52.setTop (mkF m 59 #[.val (.int p1), .val (.int p2), .val (.int p3), .val (.int p4), .val (.int p5), .val (.int p6), .val (.int (4 : Int32)), .val (.int (Int32.ofNat k0)), .val (.int (Int32.ofNat k1)), .val (.int (Int32.ofNat k2)), .val (.int (Int32.ofNat k3)), .val (.int (Int32.ofNat q)), .val (.ref b52), .unset, .unset] []))
    refine A (XS.aload X52.here hx rfl (hb hby at_59) rfl rfl) ?_
    show D (T52.setTop (mkF m 61 #[.val (.int p1), .val (.int p2), .val (.int p3), .val (.int p4), .val (.int p5), .val (.int p6), .val (.int (4 : Int32)), .val (.int (Int32.ofNat k0)), .val (.int (Int32.ofNat k1)), .val (.int (Int32.ofNat k2)), .val (.int (Int32.ofNat k3)), .val (.int (Int32.ofNat q)), .val (.ref b52), .unset, .unset] [(.ref b52)]))
    refine A (XS.iconst X52.here hx rfl (hb hby at_61)) ?_
    show D (T52.setTop (mkF m 62 #[.val (.int p1), .val (.int p2), .val (.int p3), .val (.int p4), .val (.int p5), .val (.int p6), .val (.int (4 : Int32)), .val (.int (Int32.ofNat k0)), .val (.int (Int32.ofNat k1)), .val (.int (Int32.ofNat k2)), .val (.int (Int32.ofNat k3)), .val (.int (Int32.ofNat q)), .val (.ref b52), .unset, .unset] [(.int (0 : Int32)), (.ref b52)]))
    refine A (XS.iload X52.here hx rfl (hb hby at_62) rfl) ?_
    show D (T52.setTop (mkF m 64 #[.val (.int p1), .val (.int p2), .val (.int p3), .val (.int p4), .val (.int p5), .val (.int p6), .val (.int (4 : Int32)), .val (.int (Int32.ofNat k0)), .val (.int (Int32.ofNat k1)), .val (.int (Int32.ofNat k2)), .val (.int (Int32.ofNat k3)), .val (.int (Int32.ofNat q)), .val (.ref b52), .unset, .unset] [(.int (Int32.ofNat k0)), (.int (0 : Int32)), (.ref b52)]))
    refine Adv.stI A X52 hx hZ e52 V_b52 (k := 0) (by decide) (by decide) (g := (mkF m 64 #[.val (.int p1), .val (.int p2), .val (.int p3), .val (.int p4), .val (.int p5), .val (.int p6), .val (.int (4 : Int32)), .val (.int (Int32.ofNat k0)), .val (.int (Int32.ofNat k1)), .val (.int (Int32.ofNat k2)), .val (.int (Int32.ofNat k3)), .val (.int (Int32.ofNat q)), .val (.ref b52), .unset, .unset] [(.int (Int32.ofNat k0)), (.int (0 : Int32)), (.ref b52)])) rfl rfl (hb hby at_64) ?_
    intro T53 h53 X53 e53 W53 Vb52_53
    have N53 := Fr.snoc X53 (Fr.nil n0) g_b52
    have Z_53 : n0 ≤ h53.size := Nat.le_trans Z_52 (Nat.le_of_eq W53.size.symm)
    show D (T53.setTop (mkF m 65 #[.val (.int p1), .val (.int p2), .val (.int p3), .val (.int p4), .val (.int p5), .val (.int p6), .val (.int (4 : Int32)), .val (.int (Int32.ofNat k0)), .val (.int (Int32.ofNat k1)), .val (.int (Int32.ofNat k2)), .val (.int (Int32.ofNat k3)), .val (.int (Int32.ofNat q)), .val (.ref b52), .unset, .unset] []))
    obtain ⟨fn54, hfn54⟩ : ∃ z : Nat → Int32, z = (fun ix => if ix = 0 then (Int32.ofNat k0) else (fun _ => 0) ix) := ⟨_, rfl⟩
    rw [← hfn54] at Vb52_53
    refine A (XS.aload X53.here hx rfl (hb hby at_65) rfl rfl) ?_
    show D (T53.setTop (mkF m 67 #[.val (.int p1), .val (.int p2), .val (.int p3), .val (.int p4), .val (.int p5), .val (.int p6), .val (.int (4 : Int32)), .val (.int (Int32.ofNat k0)), .val (.int (Int32.ofNat k1)), .val (.int (Int32.ofNat k2)), .val (.int (Int32.ofNat k3)), .val (.int (Int32.ofNat q)), .val (.ref b52), .unset, .unset] [(.ref b52)]))
    refine A (XS.iconst X53.here hx rfl (hb hby at_67)) ?_
    show D (T53.setTop (mkF m 68 #[.val (.int p1), .val (.int p2), .val (.int p3), .val (.int p4), .val (.int p5), .val (.int p6), .val (.int (4 : Int32)), .val (.int (Int32.ofNat k0)), .val (.int (Int32.ofNat k1)), .val (.int (Int32.ofNat k2)), .val (.int (Int32.ofNat k3)), .val (.int (Int32.ofNat q)), .val (.ref b52), .unset, .unset] [(.int (1 : Int32)), (.ref b52)]))
    refine A (XS.iload X53.here hx rfl (hb hby at_68) rfl) ?_
    show D (T53.setTop (mkF m 70 #[.val (.int p1), .val (.int p2), .val (.int p3), .val (.int p4), .val (.int p5), .val (.int p6), .val (.int (4 : Int32)), .val (.int (Int32.ofNat k0)), .val (.int (Int32.ofNat k1)), .val (.int (Int32.ofNat k2)), .val (.int (Int32.ofNat k3)), .val (.int (Int32.ofNat q)), .val (.ref b52), .unset, .unset] [(.int (Int32.ofNat k1)), (.int (1 : Int32)), (.ref b52)]))
    refine Adv.stI A X53 hx hZ e53 Vb52_53 (k := 1) (by decide) (by decide) (g := (mkF m 70 #[.val (.int p1), .val (.int p2), .val (.int p3), .val (.int p4), .val (.int p5), .val (.int p6), .val (.int (4 : Int32)), .val (.int (Int32.ofNat k0)), .val (.int (Int32.ofNat k1)), .val (.int (Int32.ofNat k2)), .val (.int (Int32.ofNat k3)), .val (.int (Int32.ofNat q)), .val (.ref b52), .unset, .unset] [(.int (Int32.ofNat k1)), (.int (1 : Int32)), (.ref b52)])) rfl rfl (hb hby at_70) ?_
    intro T55 h55 X55 e55 W55 Vb52_55
    have N55 := Fr.snoc X55 N53 g_b52
    have Z_55 : n0 ≤ h55.size := Nat.le_trans Z_53 (Nat.le_of_eq W55.size.symm)
    show D (T55.setTop (mkF m 71 #[.val (.int p1), .val (.int p2), .val (.int p3), .val (.int p4), .val (.int p5), .val (.int p6), .val (.int (4 : Int32)), .val (.int (Int32.ofNat k0)), .val (.int (Int32.ofNat k1)), .val (.int (Int32.ofNat k2)), .val (.int (Int32.ofNat k3)), .val (.int (Int32.ofNat q)), .val (.ref b52), .unset, .unset] []))
    obtain ⟨fn56, hfn56⟩ : ∃ z : Nat → Int32, z = (fun ix => if ix = 1 then (Int32.ofNat k1) else fn54 ix) := ⟨_, rfl⟩
    rw [← hfn56] at Vb52_55
    refine A (XS.aload X55.here hx rfl (hb hby at_71) rfl rfl) ?_
    show D (T55.setTop (mkF m 73 #[.val (.int p1), .val (.int p2), .val (.int p3), .val (.int p4), .val (.int p5), .val (.int p6), .val (.int (4 : Int32)), .val (.int (Int32.ofNat k0)), .val (.int (Int32.ofNat k1)), .val (.int (Int32.ofNat k2)), .val (.int (Int32.ofNat k3)), .val (.int (Int32.ofNat q)), .val (.ref b52), .unset, .unset] [(.ref b52)]))
    refine A (XS.iconst X55.here hx rfl (hb hby at_73)) ?_
    show D (T55.setTop (mkF m 74 #[.val (.int p1), .val (.int p2), .val (.int p3), .val (.int p4), .val (.int p5), .val (.int p6), .val (.int (4 : Int32)), .val (.int (Int32.ofNat k0)), .val (.int (Int32.ofNat k1)), .val (.int (Int32.ofNat k2)), .val (.int (Int32.ofNat k3)), .val (.int (Int32.ofNat q)), .val (.ref b52), .unset, .unset] [(.int (2 : Int32)), (.ref b52)]))
    refine A (XS.iload X55.here hx rfl (hb hby at_74) rfl) ?_
    show D (T55.setTop (mkF m 76 #[.val (.int p1), .val (.int p2), .val (.int p3), .val (.int p4), .val (.int p5), .val (.int p6), .val (.int (4 : Int32)), .val (.int (Int32.ofNat k0)), .val (.int (Int32.ofNat k1)), .val (.int (Int32.ofNat k2)), .val (.int (Int32.ofNat k3)), .val (.int (Int32.ofNat q)), .val (.ref b52), .unset, .unset] [(.int (Int32.ofNat k2)), (.int (2 : Int32)), (.ref b52)]))
    refine Adv.stI A X55 hx hZ e55 Vb52_55 (k := 2) (by decide) (by decide) (g := (mkF m 76 #[.val (.int p1), .val (.int p2), .val (.int p3), .val (.int p4), .val (.int p5), .val (.int p6), .val (.int (4 : Int32)), .val (.int (Int32.ofNat k0)), .val (.int (Int32.ofNat k1)), .val (.int (Int32.ofNat k2)), .val (.int (Int32.ofNat k3)), .val (.int (Int32.ofNat q)), .val (.ref b52), .unset, .unset] [(.int (Int32.ofNat k2)), (.int (2 : Int32)), (.ref b52)])) rfl rfl (hb hby at_76) ?_
    intro T57 h57 X57 e57 W57 Vb52_57
    have N57 := Fr.snoc X57 N55 g_b52
    have Z_57 : n0 ≤ h57.size := Nat.le_trans Z_55 (Nat.le_of_eq W57.size.symm)
    show D (T57.setTop (mkF m 77 #[.val (.int p1), .val (.int p2), .val (.int p3), .val (.int p4), .val (.int p5), .val (.int p6), .val (.int (4 : Int32)), .val (.int (Int32.ofNat k0)), .val (.int (Int32.ofNat k1)), .val (.int (Int32.ofNat k2)), .val (.int (Int32.ofNat k3)), .val (.int (Int32.ofNat q)), .val (.ref b52), .unset, .unset] []))
    obtain ⟨fn58, hfn58⟩ : ∃ z : Nat → Int32, z = (fun ix => if ix = 2 then (Int32.ofNat k2) else fn56 ix) := ⟨_, rfl⟩
    rw [← hfn58] at Vb52_57
    refine A (XS.aload X57.here hx rfl (hb hby at_77) rfl rfl) ?_
    show D (T57.setTop (mkF m 79 #[.val (.int p1), .val (.int p2), .val (.int p3), .val (.int p4), .val (.int p5), .val (.int p6), .val (.int (4 : Int32)), .val (.int (Int32.ofNat k0)), .val (.int (Int32.ofNat k1)), .val (.int (Int32.ofNat k2)), .val (.int (Int32.ofNat k3)), .val (.int (Int32.ofNat q)), .val (.ref b52), .unset, .unset] [(.ref b52)]))
    refine A (XS.iconst X57.here hx rfl (hb hby at_79)) ?_
    show D (T57.setTop (mkF m 80 #[.val (.int p1), .val (.int p2), .val (.int p3), .val (.int p4), .val (.int p5), .val (.int p6), .val (.int (4 : Int32)), .val (.int (Int32.ofNat k0)), .val (.int (Int32.ofNat k1)), .val (.int (Int32.ofNat k2)), .val (.int (Int32.ofNat k3)), .val (.int (Int32.ofNat q)), .val (.ref b52), .unset, .unset] [(.int (3 : Int32)), (.ref b52)]))
    refine A (XS.iload X57.here hx rfl (hb hby at_80) rfl) ?_
    show D (T57.setTop (mkF m 82 #[.val (.int p1), .val (.int p2), .val (.int p3), .val (.int p4), .val (.int p5), .val (.int p6), .val (.int (4 : Int32)), .val (.int (Int32.ofNat k0)), .val (.int (Int32.ofNat k1)), .val (.int (Int32.ofNat k2)), .val (.int (Int32.ofNat k3)), .val (.int (Int32.ofNat q)), .val (.ref b52), .unset, .unset] [(.int (Int32.ofNat k3)), (.int (3 : Int32)), (.ref b52)]))
    refine Adv.stI A X57 hx hZ e57 Vb52_57 (k := 3) (by decide) (by decide) (g := (mkF m 82 #[.val (.int p1), .val (.int p2), .val (.int p3), .val (.int p4), .val (.int p5), .val (.int p6), .val (.int (4 : Int32)), .val (.int (Int32.ofNat k0)), .val (.int (Int32.ofNat k1)), .val (.int (Int32.ofNat k2)), .val (.int (Int32.ofNat k3)), .val (.int (Int32.ofNat q)), .val (.ref b52), .unset, .unset] [(.int (Int32.ofNat k3)), (.int (3 : Int32)), (.ref b52)])) rfl rfl (hb hby at_82) ?_
    intro T59 h59 X59 e59 W59 Vb52_59
    have N59 := Fr.snoc X59 N57 g_b52
    have Z_59 : n0 ≤ h59.size := Nat.le_trans Z_57 (Nat.le_of_eq W59.size.symm)
    show D (T59.setTop (mkF m 83 #[.val (.int p1), .val (.int p2), .val (.int p3), .val (.int p4), .val (.int p5), .val (.int p6), .val (.int (4 : Int32)), .val (.int (Int32.ofNat k0)), .val (.int (Int32.ofNat k1)), .val (.int (Int32.ofNat k2)), .val (.int (Int32.ofNat k3)), .val (.int (Int32.ofNat q)), .val (.ref b52), .unset, .unset] []))
    obtain ⟨fn60, hfn60⟩ : ∃ z : Nat → Int32, z = (fun ix => if ix = 3 then (Int32.ofNat k3) else fn58 ix) := ⟨_, rfl⟩
    rw [← hfn60] at Vb52_59
    have Vk : ArI Z h59 b52 .int 4 (own_ka k0 k1 k2 k3) := Vb52_59.eqf (fun i hi => by subst hfn60; subst hfn58; subst hfn56; subst hfn54; rcases (by omega : i = 0 ∨ i = 1 ∨ i = 2 ∨ i = 3) with rfl | rfl | rfl | rfl <;> rfl)
    obtain ⟨T61, h61, X61, e61, E61, A61, D61, -, st61⟩ := newO X59 hx hZ hown (hw _ (List.mem_of_getElem? (i := 2) rfl)) (hw _ (List.mem_of_getElem? (i := 3) rfl)) (hw _ (List.mem_of_getElem? (i := 4) rfl)) e59 (g := (mkF m 83 #[.val (.int p1), .val (.int p2), .val (.int p3), .val (.int p4), .val (.int p5), .val (.int p6), .val (.int (4 : Int32)), .val (.int (Int32.ofNat k0)), .val (.int (Int32.ofNat k1)), .val (.int (Int32.ofNat k2)), .val (.int (Int32.ofNat k3)), .val (.int (Int32.ofNat q)), .val (.ref b52), .unset, .unset] [])) rfl (hb hby at_83) (by decide) (by decide)
    obtain ⟨b61, q_b61⟩ : ∃ z, z = h59.size := ⟨_, rfl⟩
    rw [← q_b61] at A61 D61 st61
    have ne_b52_b61 : b52 ≠ b61 := Nat.ne_of_lt (Nat.lt_of_lt_of_le Vk.lt (Nat.le_of_eq q_b61.symm))
    have g_b61 : n0 ≤ b61 := Nat.le_trans Z_59 (Nat.le_of_eq q_b61.symm)
    have Vk_61 := Vk.ext E61
    have Z_61 : n0 ≤ h61.size := Nat.le_trans Z_59 E61.1
    have F_start_b61 : Fld Z h61 b61 "com/example/enklave/enklave/measure/RowGroups" "start" "[I" .null := D61 (Or.inr (hw _ (List.mem_of_getElem? (i := 12) rfl))) (ty := (.array .int)) (by decide)
    have F_rows_b61 : Fld Z h61 b61 "com/example/enklave/enklave/measure/RowGroups" "rows" "[I" .null := D61 (Or.inr (hw _ (List.mem_of_getElem? (i := 14) rfl))) (ty := (.array .int)) (by decide)
    refine A (st61 _) ?_
    show D (T61.setTop (mkF m 86 #[.val (.int p1), .val (.int p2), .val (.int p3), .val (.int p4), .val (.int p5), .val (.int p6), .val (.int (4 : Int32)), .val (.int (Int32.ofNat k0)), .val (.int (Int32.ofNat k1)), .val (.int (Int32.ofNat k2)), .val (.int (Int32.ofNat k3)), .val (.int (Int32.ofNat q)), .val (.ref b52), .unset, .unset] [(.ref b61)]))
    refine A (XS.dup X61.here hx rfl (hb hby at_86) rfl rfl) ?_
    show D (T61.setTop (mkF m 87 #[.val (.int p1), .val (.int p2), .val (.int p3), .val (.int p4), .val (.int p5), .val (.int p6), .val (.int (4 : Int32)), .val (.int (Int32.ofNat k0)), .val (.int (Int32.ofNat k1)), .val (.int (Int32.ofNat k2)), .val (.int (Int32.ofNat k3)), .val (.int (Int32.ofNat q)), .val (.ref b52), .unset, .unset] [(.ref b61), (.ref b61)]))
    refine A (XS.aload X61.here hx rfl (hb hby at_87) rfl rfl) ?_
    show D (T61.setTop (mkF m 89 #[.val (.int p1), .val (.int p2), .val (.int p3), .val (.int p4), .val (.int p5), .val (.int p6), .val (.int (4 : Int32)), .val (.int (Int32.ofNat k0)), .val (.int (Int32.ofNat k1)), .val (.int (Int32.ofNat k2)), .val (.int (Int32.ofNat k3)), .val (.int (Int32.ofNat q)), .val (.ref b52), .unset, .unset] [(.ref b52), (.ref b61), (.ref b61)]))
    refine A (XS.iload X61.here hx rfl (hb hby at_89) rfl) ?_
    show D (T61.setTop (mkF m 91 #[.val (.int p1), .val (.int p2), .val (.int p3), .val (.int p4), .val (.int p5), .val (.int p6), .val (.int (4 : Int32)), .val (.int (Int32.ofNat k0)), .val (.int (Int32.ofNat k1)), .val (.int (Int32.ofNat k2)), .val (.int (Int32.ofNat k3)), .val (.int (Int32.ofNat q)), .val (.ref b52), .unset, .unset] [(.int (4 : Int32)), (.ref b52), (.ref b61), (.ref b61)]))
    refine Adv.callI A X61 hx hZ hown rfl (hw _ (List.mem_of_getElem? (i := 5) rfl)) (hw _ (List.mem_of_getElem? (i := 6) rfl)) (hw _ (List.mem_of_getElem? (i := 4) rfl)) (hw _ (List.mem_of_getElem? (i := 7) rfl)) e61 (rm1_4 l Z a0 hw [] b61 b52 h61 n0 Z_61 g_b61 k0 k1 k2 k3 hk0 hk1 hk2 hk3 A61 F_start_b61 F_rows_b61 Vk_61) 1 (g := (mkF m 91 #[.val (.int p1), .val (.int p2), .val (.int p3), .val (.int p4), .val (.int p5), .val (.int p6), .val (.int (4 : Int32)), .val (.int (Int32.ofNat k0)), .val (.int (Int32.ofNat k1)), .val (.int (Int32.ofNat k2)), .val (.int (Int32.ofNat k3)), .val (.int (Int32.ofNat q)), .val (.ref b52), .unset, .unset] [(.int (4 : Int32)), (.ref b52), (.ref b61), (.ref b61)])) rfl (by rw [hml]; rfl) b61 [(.ref b52), (.int (4 : Int32))] [(.ref b61)] rfl (lenOf pd0_0 rfl) rfl (by show 2 * 0 + _ ≤ _; exact Nat.le_of_eq rfl) (hb hby at_91) (by decide) (by decide) (by decide) (by decide) (by decide) ?_
    rintro T62 L62 _ X62 ⟨rfl, s62, N62_q, K62, -, F62_s, V62_q⟩
    have N62 := Fr.app N59 N62_q
    have Vk_62 := Vk_61.keep K62 (ninS ne_b52_b61 nin0)
    have E_b61_62 := A61.keep K62
    have Z_62 : n0 ≤ T62.heap.size := Nat.le_trans Z_61 K62.1
    show D (T62.setTop (mkF m 94 #[.val (.int p1), .val (.int p2), .val (.int p3), .val (.int p4), .val (.int p5), .val (.int p6), .val (.int (4 : Int32)), .val (.int (Int32.ofNat k0)), .val (.int (Int32.ofNat k1)), .val (.int (Int32.ofNat k2)), .val (.int (Int32.ofNat k3)), .val (.int (Int32.ofNat q)), .val (.ref b52), .unset, .unset] [(.ref b61)]))
    refine A (XS.astore X62.here hx rfl (hb hby at_94) rfl rfl (l' := #[.val (.int p1), .val (.int p2), .val (.int p3), .val (.int p4), .val (.int p5), .val (.int p6), .val (.int (4 : Int32)), .val (.int (Int32.ofNat k0)), .val (.int (Int32.ofNat k1)), .val (.int (Int32.ofNat k2)), .val (.int (Int32.ofNat k3)), .val (.int (Int32.ofNat q)), .val (.ref b52), .val (.ref b61), .unset]) rfl) ?_
    show D (T62.setTop (mkF m 96 #[.val (.int p1), .val (.int p2), .val (.int p3), .val (.int p4), .val (.int p5), .val (.int p6), .val (.int (4 : Int32)), .val (.int (Int32.ofNat k0)), .val (.int (Int32.ofNat k1)), .val (.int (Int32.ofNat k2)), .val (.int (Int32.ofNat k3)), .val (.int (Int32.ofNat q)), .val (.ref b52), .val (.ref b61), .unset] []))
    refine A (XS.iload X62.here hx rfl (hb hby at_96) rfl) ?_
    show D (T62.setTop (mkF m 98 #[.val (.int p1), .val (.int p2), .val (.int p3), .val (.int p4), .val (.int p5), .val (.int p6), .val (.int (4 : Int32)), .val (.int (Int32.ofNat k0)), .val (.int (Int32.ofNat k1)), .val (.int (Int32.ofNat k2)), .val (.int (Int32.ofNat k3)), .val (.int (Int32.ofNat q)), .val (.ref b52), .val (.ref b61), .unset] [(.int (Int32.ofNat k0))]))
    refine A (XS.iload X62.here hx rfl (hb hby at_98) rfl) ?_
    show D (T62.setTop (mkF m 100 #[.val (.int p1), .val (.int p2), .val (.int p3), .val (.int p4), .val (.int p5), .val (.int p6), .val (.int (4 : Int32)), .val (.int (Int32.ofNat k0)), .val (.int (Int32.ofNat k1)), .val (.int (Int32.ofNat k2)), .val (.int (Int32.ofNat k3)), .val (.int (Int32.ofNat q)), .val (.ref b52), .val (.ref b61), .unset] [(.int (Int32.ofNat q)), (.int (Int32.ofNat k0))]))
    refine Adv.callS A X62 hx hZ hown (hw _ (List.mem_of_getElem? (i := 24) rfl)) (hw _ (List.mem_of_getElem? (i := 25) rfl)) (hw _ (List.mem_of_getElem? (i := 26) rfl)) (hw _ (List.mem_of_getElem? (i := 27) rfl)) rfl (rm3 l Z a0 hw [] (Int32.ofNat k0) (Int32.ofNat q) T62.heap n0) 0 (g := (mkF m 100 #[.val (.int p1), .val (.int p2), .val (.int p3), .val (.int p4), .val (.int p5), .val (.int p6), .val (.int (4 : Int32)), .val (.int (Int32.ofNat k0)), .val (.int (Int32.ofNat k1)), .val (.int (Int32.ofNat k2)), .val (.int (Int32.ofNat k3)), .val (.int (Int32.ofNat q)), .val (.ref b52), .val (.ref b61), .unset] [(.int (Int32.ofNat q)), (.int (Int32.ofNat k0))])) rfl (by rw [hml]; rfl) [(.int (Int32.ofNat k0)), (.int (Int32.ofNat q))] [] rfl (lenOf pd0_1 rfl) rfl (by show 2 * 0 + _ ≤ _; exact Nat.le_of_eq rfl) (hb hby at_100) (by decide) (by decide) (by decide) (by decide) (by decide) ?_
    rintro T63 L63 _ X63 ⟨rfl, N63_q, e63⟩
    have N63 := Fr.app N62 N63_q
    show D (T63.setTop (mkF m 103 #[.val (.int p1), .val (.int p2), .val (.int p3), .val (.int p4), .val (.int p5), .val (.int p6), .val (.int (4 : Int32)), .val (.int (Int32.ofNat k0)), .val (.int (Int32.ofNat k1)), .val (.int (Int32.ofNat k2)), .val (.int (Int32.ofNat k3)), .val (.int (Int32.ofNat q)), .val (.ref b52), .val (.ref b61), .unset] [(.int (f3 (Int32.ofNat k0) (Int32.ofNat q)))]))
    refine A (XS.iload X63.here hx rfl (hb hby at_103) rfl) ?_
    show D (T63.setTop (mkF m 105 #[.val (.int p1), .val (.int p2), .val (.int p3), .val (.int p4), .val (.int p5), .val (.int p6), .val (.int (4 : Int32)), .val (.int (Int32.ofNat k0)), .val (.int (Int32.ofNat k1)), .val (.int (Int32.ofNat k2)), .val (.int (Int32.ofNat k3)), .val (.int (Int32.ofNat q)), .val (.ref b52), .val (.ref b61), .unset] [(.int (Int32.ofNat k1)), (.int (f3 (Int32.ofNat k0) (Int32.ofNat q)))]))
    refine A (XS.iload X63.here hx rfl (hb hby at_105) rfl) ?_
    show D (T63.setTop (mkF m 107 #[.val (.int p1), .val (.int p2), .val (.int p3), .val (.int p4), .val (.int p5), .val (.int p6), .val (.int (4 : Int32)), .val (.int (Int32.ofNat k0)), .val (.int (Int32.ofNat k1)), .val (.int (Int32.ofNat k2)), .val (.int (Int32.ofNat k3)), .val (.int (Int32.ofNat q)), .val (.ref b52), .val (.ref b61), .unset] [(.int (Int32.ofNat q)), (.int (Int32.ofNat k1)), (.int (f3 (Int32.ofNat k0) (Int32.ofNat q)))]))
    refine Adv.callS A X63 hx hZ hown (hw _ (List.mem_of_getElem? (i := 24) rfl)) (hw _ (List.mem_of_getElem? (i := 25) rfl)) (hw _ (List.mem_of_getElem? (i := 26) rfl)) (hw _ (List.mem_of_getElem? (i := 27) rfl)) e63 (rm3 l Z a0 hw [] (Int32.ofNat k1) (Int32.ofNat q) T62.heap n0) 1 (g := (mkF m 107 #[.val (.int p1), .val (.int p2), .val (.int p3), .val (.int p4), .val (.int p5), .val (.int p6), .val (.int (4 : Int32)), .val (.int (Int32.ofNat k0)), .val (.int (Int32.ofNat k1)), .val (.int (Int32.ofNat k2)), .val (.int (Int32.ofNat k3)), .val (.int (Int32.ofNat q)), .val (.ref b52), .val (.ref b61), .unset] [(.int (Int32.ofNat q)), (.int (Int32.ofNat k1)), (.int (f3 (Int32.ofNat k0) (Int32.ofNat q)))])) rfl (by rw [hml]; rfl) [(.int (Int32.ofNat k1)), (.int (Int32.ofNat q))] [(.int (f3 (Int32.ofNat k0) (Int32.ofNat q)))] rfl (lenOf pd0_1 rfl) rfl (by show 2 * 0 + _ ≤ _; exact Nat.le_of_eq rfl) (hb hby at_107) (by decide) (by decide) (by decide) (by decide) (by decide) ?_
    rintro T64 L64 _ X64 ⟨rfl, N64_q, e64⟩
    have N64 := Fr.app N63 N64_q
    show D (T64.setTop (mkF m 110 #[.val (.int p1), .val (.int p2), .val (.int p3), .val (.int p4), .val (.int p5), .val (.int p6), .val (.int (4 : Int32)), .val (.int (Int32.ofNat k0)), .val (.int (Int32.ofNat k1)), .val (.int (Int32.ofNat k2)), .val (.int (Int32.ofNat k3)), .val (.int (Int32.ofNat q)), .val (.ref b52), .val (.ref b61), .unset] [(.int (f3 (Int32.ofNat k1) (Int32.ofNat q))), (.int (f3 (Int32.ofNat k0) (Int32.ofNat q)))]))
    refine A (XS.iadd X64.here hx rfl (hb hby at_110) rfl) ?_
    show D (T64.setTop (mkF m 111 #[.val (.int p1), .val (.int p2), .val (.int p3), .val (.int p4), .val (.int p5), .val (.int p6), .val (.int (4 : Int32)), .val (.int (Int32.ofNat k0)), .val (.int (Int32.ofNat k1)), .val (.int (Int32.ofNat k2)), .val (.int (Int32.ofNat k3)), .val (.int (Int32.ofNat q)), .val (.ref b52), .val (.ref b61), .unset] [(.int ((f3 (Int32.ofNat k0) (Int32.ofNat q)) + (f3 (Int32.ofNat k1) (Int32.ofNat q))))]))
    refine A (XS.iload X64.here hx rfl (hb hby at_111) rfl) ?_
    show D (T64.setTop (mkF m 113 #[.val (.int p1), .val (.int p2), .val (.int p3), .val (.int p4), .val (.int p5), .val (.int p6), .val (.int (4 : Int32)), .val (.int (Int32.ofNat k0)), .val (.int (Int32.ofNat k1)), .val (.int (Int32.ofNat k2)), .val (.int (Int32.ofNat k3)), .val (.int (Int32.ofNat q)), .val (.ref b52), .val (.ref b61), .unset] [(.int (Int32.ofNat k2)), (.int ((f3 (Int32.ofNat k0) (Int32.ofNat q)) + (f3 (Int32.ofNat k1) (Int32.ofNat q))))]))
    refine A (XS.iload X64.here hx rfl (hb hby at_113) rfl) ?_
    show D (T64.setTop (mkF m 115 #[.val (.int p1), .val (.int p2), .val (.int p3), .val (.int p4), .val (.int p5), .val (.int p6), .val (.int (4 : Int32)), .val (.int (Int32.ofNat k0)), .val (.int (Int32.ofNat k1)), .val (.int (Int32.ofNat k2)), .val (.int (Int32.ofNat k3)), .val (.int (Int32.ofNat q)), .val (.ref b52), .val (.ref b61), .unset] [(.int (Int32.ofNat q)), (.int (Int32.ofNat k2)), (.int ((f3 (Int32.ofNat k0) (Int32.ofNat q)) + (f3 (Int32.ofNat k1) (Int32.ofNat q))))]))
    refine Adv.callS A X64 hx hZ hown (hw _ (List.mem_of_getElem? (i := 24) rfl)) (hw _ (List.mem_of_getElem? (i := 25) rfl)) (hw _ (List.mem_of_getElem? (i := 26) rfl)) (hw _ (List.mem_of_getElem? (i := 27) rfl)) e64 (rm3 l Z a0 hw [] (Int32.ofNat k2) (Int32.ofNat q) T62.heap n0) 1 (g := (mkF m 115 #[.val (.int p1), .val (.int p2), .val (.int p3), .val (.int p4), .val (.int p5), .val (.int p6), .val (.int (4 : Int32)), .val (.int (Int32.ofNat k0)), .val (.int (Int32.ofNat k1)), .val (.int (Int32.ofNat k2)), .val (.int (Int32.ofNat k3)), .val (.int (Int32.ofNat q)), .val (.ref b52), .val (.ref b61), .unset] [(.int (Int32.ofNat q)), (.int (Int32.ofNat k2)), (.int ((f3 (Int32.ofNat k0) (Int32.ofNat q)) + (f3 (Int32.ofNat k1) (Int32.ofNat q))))])) rfl (by rw [hml]; rfl) [(.int (Int32.ofNat k2)), (.int (Int32.ofNat q))] [(.int ((f3 (Int32.ofNat k0) (Int32.ofNat q)) + (f3 (Int32.ofNat k1) (Int32.ofNat q))))] rfl (lenOf pd0_1 rfl) rfl (by show 2 * 0 + _ ≤ _; exact Nat.le_of_eq rfl) (hb hby at_115) (by decide) (by decide) (by decide) (by decide) (by decide) ?_
    rintro T65 L65 _ X65 ⟨rfl, N65_q, e65⟩
    have N65 := Fr.app N64 N65_q
    show D (T65.setTop (mkF m 118 #[.val (.int p1), .val (.int p2), .val (.int p3), .val (.int p4), .val (.int p5), .val (.int p6), .val (.int (4 : Int32)), .val (.int (Int32.ofNat k0)), .val (.int (Int32.ofNat k1)), .val (.int (Int32.ofNat k2)), .val (.int (Int32.ofNat k3)), .val (.int (Int32.ofNat q)), .val (.ref b52), .val (.ref b61), .unset] [(.int (f3 (Int32.ofNat k2) (Int32.ofNat q))), (.int ((f3 (Int32.ofNat k0) (Int32.ofNat q)) + (f3 (Int32.ofNat k1) (Int32.ofNat q))))]))
    refine A (XS.iadd X65.here hx rfl (hb hby at_118) rfl) ?_
    show D (T65.setTop (mkF m 119 #[.val (.int p1), .val (.int p2), .val (.int p3), .val (.int p4), .val (.int p5), .val (.int p6), .val (.int (4 : Int32)), .val (.int (Int32.ofNat k0)), .val (.int (Int32.ofNat k1)), .val (.int (Int32.ofNat k2)), .val (.int (Int32.ofNat k3)), .val (.int (Int32.ofNat q)), .val (.ref b52), .val (.ref b61), .unset] [(.int (((f3 (Int32.ofNat k0) (Int32.ofNat q)) + (f3 (Int32.ofNat k1) (Int32.ofNat q))) + (f3 (Int32.ofNat k2) (Int32.ofNat q))))]))
    refine A (XS.iload X65.here hx rfl (hb hby at_119) rfl) ?_
    show D (T65.setTop (mkF m 121 #[.val (.int p1), .val (.int p2), .val (.int p3), .val (.int p4), .val (.int p5), .val (.int p6), .val (.int (4 : Int32)), .val (.int (Int32.ofNat k0)), .val (.int (Int32.ofNat k1)), .val (.int (Int32.ofNat k2)), .val (.int (Int32.ofNat k3)), .val (.int (Int32.ofNat q)), .val (.ref b52), .val (.ref b61), .unset] [(.int (Int32.ofNat k3)), (.int (((f3 (Int32.ofNat k0) (Int32.ofNat q)) + (f3 (Int32.ofNat k1) (Int32.ofNat q))) + (f3 (Int32.ofNat k2) (Int32.ofNat q))))]))
    refine A (XS.iload X65.here hx rfl (hb hby at_121) rfl) ?_
    show D (T65.setTop (mkF m 123 #[.val (.int p1), .val (.int p2), .val (.int p3), .val (.int p4), .val (.int p5), .val (.int p6), .val (.int (4 : Int32)), .val (.int (Int32.ofNat k0)), .val (.int (Int32.ofNat k1)), .val (.int (Int32.ofNat k2)), .val (.int (Int32.ofNat k3)), .val (.int (Int32.ofNat q)), .val (.ref b52), .val (.ref b61), .unset] [(.int (Int32.ofNat q)), (.int (Int32.ofNat k3)), (.int (((f3 (Int32.ofNat k0) (Int32.ofNat q)) + (f3 (Int32.ofNat k1) (Int32.ofNat q))) + (f3 (Int32.ofNat k2) (Int32.ofNat q))))]))
    refine Adv.callS A X65 hx hZ hown (hw _ (List.mem_of_getElem? (i := 24) rfl)) (hw _ (List.mem_of_getElem? (i := 25) rfl)) (hw _ (List.mem_of_getElem? (i := 26) rfl)) (hw _ (List.mem_of_getElem? (i := 27) rfl)) e65 (rm3 l Z a0 hw [] (Int32.ofNat k3) (Int32.ofNat q) T62.heap n0) 1 (g := (mkF m 123 #[.val (.int p1), .val (.int p2), .val (.int p3), .val (.int p4), .val (.int p5), .val (.int p6), .val (.int (4 : Int32)), .val (.int (Int32.ofNat k0)), .val (.int (Int32.ofNat k1)), .val (.int (Int32.ofNat k2)), .val (.int (Int32.ofNat k3)), .val (.int (Int32.ofNat q)), .val (.ref b52), .val (.ref b61), .unset] [(.int (Int32.ofNat q)), (.int (Int32.ofNat k3)), (.int (((f3 (Int32.ofNat k0) (Int32.ofNat q)) + (f3 (Int32.ofNat k1) (Int32.ofNat q))) + (f3 (Int32.ofNat k2) (Int32.ofNat q))))])) rfl (by rw [hml]; rfl) [(.int (Int32.ofNat k3)), (.int (Int32.ofNat q))] [(.int (((f3 (Int32.ofNat k0) (Int32.ofNat q)) + (f3 (Int32.ofNat k1) (Int32.ofNat q))) + (f3 (Int32.ofNat k2) (Int32.ofNat q))))] rfl (lenOf pd0_1 rfl) rfl (by show 2 * 0 + _ ≤ _; exact Nat.le_of_eq rfl) (hb hby at_123) (by decide) (by decide) (by decide) (by decide) (by decide) ?_
    rintro T66 L66 _ X66 ⟨rfl, N66_q, e66⟩
    have N66 := Fr.app N65 N66_q
    show D (T66.setTop (mkF m 126 #[.val (.int p1), .val (.int p2), .val (.int p3), .val (.int p4), .val (.int p5), .val (.int p6), .val (.int (4 : Int32)), .val (.int (Int32.ofNat k0)), .val (.int (Int32.ofNat k1)), .val (.int (Int32.ofNat k2)), .val (.int (Int32.ofNat k3)), .val (.int (Int32.ofNat q)), .val (.ref b52), .val (.ref b61), .unset] [(.int (f3 (Int32.ofNat k3) (Int32.ofNat q))), (.int (((f3 (Int32.ofNat k0) (Int32.ofNat q)) + (f3 (Int32.ofNat k1) (Int32.ofNat q))) + (f3 (Int32.ofNat k2) (Int32.ofNat q))))]))
    refine A (XS.iadd X66.here hx rfl (hb hby at_126) rfl) ?_
    show D (T66.setTop (mkF m 127 #[.val (.int p1), .val (.int p2), .val (.int p3), .val (.int p4), .val (.int p5), .val (.int p6), .val (.int (4 : Int32)), .val (.int (Int32.ofNat k0)), .val (.int (Int32.ofNat k1)), .val (.int (Int32.ofNat k2)), .val (.int (Int32.ofNat k3)), .val (.int (Int32.ofNat q)), .val (.ref b52), .val (.ref b61), .unset] [(.int ((((f3 (Int32.ofNat k0) (Int32.ofNat q)) + (f3 (Int32.ofNat k1) (Int32.ofNat q))) + (f3 (Int32.ofNat k2) (Int32.ofNat q))) + (f3 (Int32.ofNat k3) (Int32.ofNat q))))]))
    refine A (XS.istore X66.here hx rfl (hb hby at_127) rfl (l' := #[.val (.int p1), .val (.int p2), .val (.int p3), .val (.int p4), .val (.int p5), .val (.int p6), .val (.int (4 : Int32)), .val (.int (Int32.ofNat k0)), .val (.int (Int32.ofNat k1)), .val (.int (Int32.ofNat k2)), .val (.int (Int32.ofNat k3)), .val (.int (Int32.ofNat q)), .val (.ref b52), .val (.ref b61), .val (.int ((((f3 (Int32.ofNat k0) (Int32.ofNat q)) + (f3 (Int32.ofNat k1) (Int32.ofNat q))) + (f3 (Int32.ofNat k2) (Int32.ofNat q))) + (f3 (Int32.ofNat k3) (Int32.ofNat q))))]) rfl) ?_
    show D (T66.setTop (mkF m 129 #[.val (.int p1), .val (.int p2), .val (.int p3), .val (.int p4), .val (.int p5), .val (.int p6), .val (.int (4 : Int32)), .val (.int (Int32.ofNat k0)), .val (.int (Int32.ofNat k1)), .val (.int (Int32.ofNat k2)), .val (.int (Int32.ofNat k3)), .val (.int (Int32.ofNat q)), .val (.ref b52), .val (.ref b61), .val (.int ((((f3 (Int32.ofNat k0) (Int32.ofNat q)) + (f3 (Int32.ofNat k1) (Int32.ofNat q))) + (f3 (Int32.ofNat k2) (Int32.ofNat q))) + (f3 (Int32.ofNat k3) (Int32.ofNat q))))] []))
    suffices Kx14_129aaa : ∀ x14_129aaa : Int32, x14_129aaa = ((((f3 (Int32.ofNat k0) (Int32.ofNat q)) + (f3 (Int32.ofNat k1) (Int32.ofNat q))) + (f3 (Int32.ofNat k2) (Int32.ofNat q))) + (f3 (Int32.ofNat k3) (Int32.ofNat q))) → D (T66.setTop (mkF m 129 #[.val (.int p1), .val (.int p2), .val (.int p3), .val (.int p4), .val (.int p5), .val (.int p6), .val (.int (4 : Int32)), .val (.int (Int32.ofNat k0)), .val (.int (Int32.ofNat k1)), .val (.int (Int32.ofNat k2)), .val (.int (Int32.ofNat k3)), .val (.int (Int32.ofNat q)), .val (.ref b52), .val (.ref b61), .val (.int x14_129aaa)] [])) from Kx14_129aaa _ rfl
    intro x14_129aaa hx14_129aaa
    refine A (XS.aload X66.here hx rfl (hb hby at_129) rfl rfl) ?_
    show D (T66.setTop (mkF m 131 #[.val (.int p1), .val (.int p2), .val (.int p3), .val (.int p4), .val (.int p5), .val (.int p6), .val (.int (4 : Int32)), .val (.int (Int32.ofNat k0)), .val (.int (Int32.ofNat k1)), .val (.int (Int32.ofNat k2)), .val (.int (Int32.ofNat k3)), .val (.int (Int32.ofNat q)), .val (.ref b52), .val (.ref b61), .val (.int x14_129aaa)] [(.ref b61)]))
    refine A (XS.iload X66.here hx rfl (hb hby at_131) rfl) ?_
    show D (T66.setTop (mkF m 133 #[.val (.int p1), .val (.int p2), .val (.int p3), .val (.int p4), .val (.int p5), .val (.int p6), .val (.int (4 : Int32)), .val (.int (Int32.ofNat k0)), .val (.int (Int32.ofNat k1)), .val (.int (Int32.ofNat k2)), .val (.int (Int32.ofNat k3)), .val (.int (Int32.ofNat q)), .val (.ref b52), .val (.ref b61), .val (.int x14_129aaa)] [(.int (Int32.ofNat q)), (.ref b61)]))
    refine Adv.callV A X66 hx hZ hown (hw _ (List.mem_of_getElem? (i := 28) rfl)) (hw _ (List.mem_of_getElem? (i := 29) rfl)) (notFace_of_selects (args := #[]) (mvT hZ (hw _ (List.mem_of_getElem? (i := 31) rfl)))) (hw _ (List.mem_of_getElem? (i := 31) rfl)) (hw _ (List.mem_of_getElem? (i := 30) rfl)) (hw _ (List.mem_of_getElem? (i := 4) rfl)) (hw _ (List.mem_of_getElem? (i := 32) rfl)) e66 E_b61_62 (rm4 l Z a0 hw [] b61 (Int32.ofNat q) T62.heap n0 s62 5 (fun i => Int32.ofNat (own_c0 k0 k1 k2 k3 i)) q (own_of (by omega)) (by omega) (by omega) F62_s V62_q) 0 (g := (mkF m 133 #[.val (.int p1), .val (.int p2), .val (.int p3), .val (.int p4), .val (.int p5), .val (.int p6), .val (.int (4 : Int32)), .val (.int (Int32.ofNat k0)), .val (.int (Int32.ofNat k1)), .val (.int (Int32.ofNat k2)), .val (.int (Int32.ofNat k3)), .val (.int (Int32.ofNat q)), .val (.ref b52), .val (.ref b61), .val (.int x14_129aaa)] [(.int (Int32.ofNat q)), (.ref b61)])) rfl (by rw [hml]; rfl) [(.int (Int32.ofNat q))] [] rfl (lenOf pd0_2 rfl) rfl (by show 2 * 0 + _ ≤ _; exact Nat.le_of_eq rfl) (hb hby at_133) (by decide) (by decide) (by decide) (by decide) (by decide) ?_
    rintro T67 L67 _ X67 ⟨rfl, N67_q, e67⟩
    have N67 := Fr.app N66 N67_q
    show D (T67.setTop (mkF m 136 #[.val (.int p1), .val (.int p2), .val (.int p3), .val (.int p4), .val (.int p5), .val (.int p6), .val (.int (4 : Int32)), .val (.int (Int32.ofNat k0)), .val (.int (Int32.ofNat k1)), .val (.int (Int32.ofNat k2)), .val (.int (Int32.ofNat k3)), .val (.int (Int32.ofNat q)), .val (.ref b52), .val (.ref b61), .val (.int x14_129aaa)] [(.int (Int32.ofNat (own_n2 k0 k1 k2 k3 (q + 1)) - Int32.ofNat (own_n2 k0 k1 k2 k3 q)))]))
    refine A (XS.iload X67.here hx rfl (hb hby at_136) rfl) ?_
    show D (T67.setTop (mkF m 138 #[.val (.int p1), .val (.int p2), .val (.int p3), .val (.int p4), .val (.int p5), .val (.int p6), .val (.int (4 : Int32)), .val (.int (Int32.ofNat k0)), .val (.int (Int32.ofNat k1)), .val (.int (Int32.ofNat k2)), .val (.int (Int32.ofNat k3)), .val (.int (Int32.ofNat q)), .val (.ref b52), .val (.ref b61), .val (.int x14_129aaa)] [(.int x14_129aaa), (.int (Int32.ofNat (own_n2 k0 k1 k2 k3 (q + 1)) - Int32.ofNat (own_n2 k0 k1 k2 k3 q)))]))
    suffices Km146_68 : ∀ (v146s0aaa : Int32), v146s0aaa = (if (Int32.ofNat (own_n2 k0 k1 k2 k3 (q + 1)) - Int32.ofNat (own_n2 k0 k1 k2 k3 q)) = x14_129aaa then (1 : Int32) else (0 : Int32)) → D (T67.setTop (mkF m 146 #[.val (.int p1), .val (.int p2), .val (.int p3), .val (.int p4), .val (.int p5), .val (.int p6), .val (.int (4 : Int32)), .val (.int (Int32.ofNat k0)), .val (.int (Int32.ofNat k1)), .val (.int (Int32.ofNat k2)), .val (.int (Int32.ofNat k3)), .val (.int (Int32.ofNat q)), .val (.ref b52), .val (.ref b61), .val (.int x14_129aaa)] [(.int v146s0aaa)])) by
      by_cases c138_0 : (Int32.ofNat (own_n2 k0 k1 k2 k3 (q + 1)) - Int32.ofNat (own_n2 k0 k1 k2 k3 q)) = x14_129aaa
      · refine A (XS.icmpNo X67.here hx rfl (hb hby at_138) rfl (teq c138_0).2) ?_
        show D (T67.setTop (mkF m 141 #[.val (.int p1), .val (.int p2), .val (.int p3), .val (.int p4), .val (.int p5), .val (.int p6), .val (.int (4 : Int32)), .val (.int (Int32.ofNat k0)), .val (.int (Int32.ofNat k1)), .val (.int (Int32.ofNat k2)), .val (.int (Int32.ofNat k3)), .val (.int (Int32.ofNat q)), .val (.ref b52), .val (.ref b61), .val (.int x14_129aaa)] []))
        refine A (XS.iconst X67.here hx rfl (hb hby at_141)) ?_
        show D (T67.setTop (mkF m 142 #[.val (.int p1), .val (.int p2), .val (.int p3), .val (.int p4), .val (.int p5), .val (.int p6), .val (.int (4 : Int32)), .val (.int (Int32.ofNat k0)), .val (.int (Int32.ofNat k1)), .val (.int (Int32.ofNat k2)), .val (.int (Int32.ofNat k3)), .val (.int (Int32.ofNat q)), .val (.ref b52), .val (.ref b61), .val (.int x14_129aaa)] [(.int (1 : Int32))]))
        refine A (XS.goto X67.here hx rfl (pc0 := 142) (pc' := 146) rfl (hb hby at_142) (by decide) (by decide)) ?_
        show D (T67.setTop (mkF m 146 #[.val (.int p1), .val (.int p2), .val (.int p3), .val (.int p4), .val (.int p5), .val (.int p6), .val (.int (4 : Int32)), .val (.int (Int32.ofNat k0)), .val (.int (Int32.ofNat k1)), .val (.int (Int32.ofNat k2)), .val (.int (Int32.ofNat k3)), .val (.int (Int32.ofNat q)), .val (.ref b52), .val (.ref b61), .val (.int x14_129aaa)] [(.int (1 : Int32))]))
        exact Km146_68 _ ((if_pos c138_0)).symm
      · refine A (XS.icmpYes X67.here hx rfl (pc0 := 138) (pc' := 145) rfl (hb hby at_138) rfl (feq c138_0).2 (by decide) (by decide)) ?_
        show D (T67.setTop (mkF m 145 #[.val (.int p1), .val (.int p2), .val (.int p3), .val (.int p4), .val (.int p5), .val (.int p6), .val (.int (4 : Int32)), .val (.int (Int32.ofNat k0)), .val (.int (Int32.ofNat k1)), .val (.int (Int32.ofNat k2)), .val (.int (Int32.ofNat k3)), .val (.int (Int32.ofNat q)), .val (.ref b52), .val (.ref b61), .val (.int x14_129aaa)] []))
        refine A (XS.iconst X67.here hx rfl (hb hby at_145)) ?_
        show D (T67.setTop (mkF m 146 #[.val (.int p1), .val (.int p2), .val (.int p3), .val (.int p4), .val (.int p5), .val (.int p6), .val (.int (4 : Int32)), .val (.int (Int32.ofNat k0)), .val (.int (Int32.ofNat k1)), .val (.int (Int32.ofNat k2)), .val (.int (Int32.ofNat k3)), .val (.int (Int32.ofNat q)), .val (.ref b52), .val (.ref b61), .val (.int x14_129aaa)] [(.int (0 : Int32))]))
        exact Km146_68 _ ((if_neg c138_0)).symm
    intro v146s0aaa hv146s0aaa
    show D (T67.setTop (mkF m 146 #[.val (.int p1), .val (.int p2), .val (.int p3), .val (.int p4), .val (.int p5), .val (.int p6), .val (.int (4 : Int32)), .val (.int (Int32.ofNat k0)), .val (.int (Int32.ofNat k1)), .val (.int (Int32.ofNat k2)), .val (.int (Int32.ofNat k3)), .val (.int (Int32.ofNat q)), .val (.ref b52), .val (.ref b61), .val (.int x14_129aaa)] [(.int v146s0aaa)]))
    obtain rfl : v146s0aaa = (1 : Int32) := by
      rw [hv146s0aaa, hx14_129aaa, if_pos (own_fin k0 (by omega) k1 (by omega) k2 (by omega) k3 (by omega) q (by omega))]
    show D (T67.setTop (mkF m 146 #[.val (.int p1), .val (.int p2), .val (.int p3), .val (.int p4), .val (.int p5), .val (.int p6), .val (.int (4 : Int32)), .val (.int (Int32.ofNat k0)), .val (.int (Int32.ofNat k1)), .val (.int (Int32.ofNat k2)), .val (.int (Int32.ofNat k3)), .val (.int (Int32.ofNat q)), .val (.ref b52), .val (.ref b61), .val (.int x14_129aaa)] [(.int (1 : Int32))]))
    exact F _ (Jvm.JW.ret X67 hlk (v := some (.int (1 : Int32))) (fun h => by rw [hrt] at h; cases h) (fun fs hr => retOut X67 hx hrt rfl (Or.inl ⟨rfl, Or.inr (Or.inl rfl), _, rfl⟩) (hb hby at_146) hr) rfl ⟨rfl, N67⟩ (by decide) (by decide))
set_option maxRecDepth 65536 in
set_option maxHeartbeats 40000000 in
theorem comes_1 {Post : Tables → Env → Array Value → State → Outcome → State → Prop} (hpost : ∀ tb e args s v u, (limb_1_1.after args s (.returned v) u = true ∧ limb_1_2.after args s (.returned v) u = true ∧ True) → FrameEnd s (.returned v) u (Jvm.fieldLocs frame_1_writes args s ++ Jvm.arrayLocs frame_1_arrays args s ++ Jvm.staticLocs frame_1_statics s) 24 128 → Post tb e args s (.returned v) u) :
    ArmFor flags0 classFile x code maxLocals ret World_1 tables_1 room_1 Calls_1 rest_1 Pre_1 Post := by
  intro l hfl _ _ p e ha hc hk s m args below hf hA hF happ hP
  obtain ⟨hcalls, hrest, hpre⟩ := hP
  obtain ⟨-, -, -, hnamed, -, -, -, hat⟩ := (Spec.applies_iff hf).mp happ
  obtain ⟨hg, hn⟩ := and_e (Cond.before_iff.mp (show (Jvm.Cond.and given_1 narrow_1).before args s = true from hpre))
  obtain ⟨g0, g1⟩ := and_e hg
  obtain ⟨t1, g2⟩ := and_e g1
  obtain ⟨t2, g3⟩ := and_e g2
  obtain ⟨t3, g4⟩ := and_e g3
  obtain ⟨t4, g5⟩ := and_e g4
  obtain ⟨t5, g6⟩ := and_e g5
  obtain ⟨w0, w1, w2, w3, w4, w5, rfl⟩ : ∃ w0 w1 w2 w3 w4 w5 : Value, args = #[w0, w1, w2, w3, w4, w5] := by
    have hs : args.size = 6 := by simpa [Cond.value, given_1] using g0
    obtain ⟨L⟩ := args
    match L, hs with
    | [w0, w1, w2, w3, w4, w5], _ => exact ⟨w0, w1, w2, w3, w4, w5, rfl⟩
  have hw := fun d (hd : d ∈ tables_1) => atoms_spec (ws := Jvm.Cond.code x code maxLocals ret :: tables_1) hat d (List.mem_cons_of_mem _ hd)
  obtain ⟨i0, q0⟩ := is_v t1
  obtain rfl : w0 = (.int i0) := Option.some.inj q0
  obtain ⟨i1, q1⟩ := is_v t2
  obtain rfl : w1 = (.int i1) := Option.some.inj q1
  obtain ⟨i2, q2⟩ := is_v t3
  obtain rfl : w2 = (.int i2) := Option.some.inj q2
  obtain ⟨i3, q3⟩ := is_v t4
  obtain rfl : w3 = (.int i3) := Option.some.inj q3
  obtain ⟨i4, q4⟩ := is_v t5
  obtain rfl : w4 = (.int i4) := Option.some.inj q4
  obtain ⟨i5, q5⟩ := is_v g6
  obtain rfl : w5 = (.int i5) := Option.some.inj q5
  obtain ⟨n, o, h1, h2, h3, _, L, rfl, ⟨rfl, N⟩, hq⟩ := rm0 l s _ hw tables_1 i0 i1 i2 i3 i4 i5 s.heap s.heap.size (Nat.le_refl _) p e ha hc hk s m _ below hf ((Spec.applies_iff_loose hf).mp happ).1 ⟨rfl, State.Warmed39.refl s, rfl⟩ trivial
  refine ⟨n, _, h1, h2, h3, hpost _ _ _ _ _ _ ⟨Cond.after_iff.mpr rfl, Cond.after_iff.mpr (eq_i res_at (Term.int_eval (1)) rfl), trivial⟩ ⟨hq.1, hq.2.1, (hq.2.2.sift fun y hy => Or.inr (N y hy)).mono (by decide) (by decide)⟩⟩
theorem main_1_1 : Claimed_1_1 := comes_1 fun _ _ _ _ _ _ h hF => ⟨h.1, hF⟩
theorem main_1_2 : Claimed_1_2 := comes_1 fun _ _ _ _ _ _ h hF => ⟨h.2.1, hF⟩
end Jvm.Pilot.@@N@@
namespace Jvm.Pilot.@@N@@
open Jvm Jvm.ClassFile Sem Op Lib Jvm.Free Jvm.Stand Jvm.Pilot.@@N@@.Jvm.D
/-! MADE BY PROGRAM (witnessworld.py) out of the Statement's table words and the real class files: 9 classes; the members and pool entries that the words name. The judged class is class 1, her method 2. -/
namespace start1
open Jvm.ClassFile
def u (s : String) : CpInfo := .utf8 (stringToUtf16 s)
/-- a pool by its gaps: so many unusable entries, then the entry; so many at the end -/
def gap : Nat → List CpInfo → List CpInfo
  | 0, r => r
  | n + 1, r => .unusable :: gap n r
def poolList (es : List (Nat × CpInfo)) (last : Nat) : List CpInfo := es.foldr (fun e r => gap e.1 (e.2 :: r)) (gap last [])
def pool (es : List (Nat × CpInfo)) (last : Nat) : Array CpInfo := ⟨poolList es last⟩
def fileOf (pool : Array CpInfo) (this : Nat) (attrs : Array Attribute := #[]) (ms : Array MethodInfo := #[]) (fl : Nat := 33) (sup : Nat := 0) (ifs : Array Nat := #[]) (fds : Array FieldInfo := #[]) : ClassFile where
  minorVersion := 0
  majorVersion := 65
  constantPool := pool
  accessFlags := fl
  thisClass := this
  superClass := sup
  interfaces := ifs
  fields := fds
  methods := ms
  attributes := attrs
def plain (name : String) (sup : Option ClassId) : Class where
  name := name
  kind := .ordinary
  loader := none
  accessFlags := 33
  super := sup
  interfaces := #[]
  cf := none
  fields := #[]
  methods := #[]
  instanceTypes := #[]
  staticTypes := #[]
  resolved := #[]
  callSites := []
  init := .initialized
  statics := none
  mirror := none

def pool0 : Array CpInfo := pool [(5, u "<init>"), (0, u "()V"), (1, .class_ 10), (1, u "java/lang/Object"), (85, u "clone"), (0, u "()Ljava/lang/Object;")] 26

def k0c0 : Code := { maxStack := 0, maxLocals := 1, code := object_method_1_code, exceptionTable := #[], attributes := #[] }
def k0m0 : Method := { name := "<init>", desc := "()V", sig := { parameters := [], returnType := none }, accessFlags := 1, code := some k0c0 }
def k0m1 : Method := { name := "clone", desc := "()Ljava/lang/Object;", sig := { parameters := [], returnType := some (.object "java/lang/Object") }, accessFlags := 260, code := none }
/-- java/lang/Object -/
def k0 : Class := { plain "java/lang/Object" none with
  accessFlags := 33
  interfaces := #[]
  cf := some (fileOf pool0 8 #[] #[{ accessFlags := 1, nameIndex := 5, descriptorIndex := 6, attributes := #[] }, { accessFlags := 260, nameIndex := 96, descriptorIndex := 97, attributes := #[] }] 33 0 #[] #[])
  fields := #[]
  methods := #[k0m0, k0m1]
  instanceTypes := #[]
  staticTypes := #[]
  resolved := Array.replicate 124 none
  statics := none }

def pool1 : Array CpInfo := pool [(2, .class_ 4), (1, u "java/lang/Object"), (0, u "<init>"), (0, u "()V"), (0, .integer 2147483647), (0, .class_ 9), (0, u "com/example/enklave/enklave/measure/RowGroups"), (0, .methodref 8 11), (0, .nameAndType 5 12), (0, u "([II)V"), (0, .methodref 14 15), (0, .class_ 16), (0, .nameAndType 17 18), (0, u "com/example/enklave/enklave/measure/RowGroupsSizePinLaw"), (0, u "hit"), (0, u "(II)I"), (0, .methodref 8 20), (0, .nameAndType 21 22), (0, u "size"), (0, u "(I)I"), (3, u "law"), (0, u "(IIIIII)Z")] 4

def k1m0 : Method := { name := "<init>", desc := "()V", sig := { parameters := [], returnType := none }, accessFlags := 1, code := none }
def k1c1 : Code := { maxStack := 2, maxLocals := 2, code := method_2_code, exceptionTable := #[], attributes := #[] }
def k1m1 : Method := { name := "hit", desc := "(II)I", sig := { parameters := [.int, .int], returnType := some .int }, accessFlags := 10, code := some k1c1 }
def k1c2 : Code := { maxStack := 4, maxLocals := 15, code := code, exceptionTable := #[], attributes := #[] }
def k1m2 : Method := { name := "law", desc := "(IIIIII)Z", sig := { parameters := [.int, .int, .int, .int, .int, .int], returnType := some .boolean }, accessFlags := 9, code := some k1c2 }
/-- com/example/enklave/enklave/measure/RowGroupsSizePinLaw -/
def k1 : Class := { plain "com/example/enklave/enklave/measure/RowGroupsSizePinLaw" (some 0) with
  accessFlags := 49
  interfaces := #[]
  cf := some (fileOf pool1 14 #[] #[{ accessFlags := 1, nameIndex := 5, descriptorIndex := 6, attributes := #[] }, { accessFlags := 10, nameIndex := 17, descriptorIndex := 18, attributes := #[] }, { accessFlags := 9, nameIndex := 26, descriptorIndex := 27, attributes := #[] }] 49 2 #[] #[])
  fields := #[]
  methods := #[k1m0, k1m1, k1m2]
  instanceTypes := #[]
  staticTypes := #[]
  resolved := Array.replicate 32 none
  statics := none }

def pool2 : Array CpInfo := pool [(1, .methodref 2 3), (0, .class_ 4), (0, .nameAndType 5 6), (0, u "java/lang/Object"), (0, u "<init>"), (0, u "()V"), (0, .fieldref 8 9), (0, .class_ 10), (0, .nameAndType 11 12), (0, u "com/example/enklave/enklave/measure/RowGroups"), (0, u "start"), (0, u "[I"), (0, .fieldref 8 14), (0, .nameAndType 15 12), (0, u "rows"), (0, .methodref 17 18), (0, .class_ 12), (0, .nameAndType 19 20), (0, u "clone"), (0, u "()Ljava/lang/Object;"), (0, u "([II)V"), (5, u "(I)I"), (1, u "size")] 4

def k2c0 : Code := { maxStack := 5, maxLocals := 5, code := prog_41_method_1_code, exceptionTable := #[], attributes := #[] }
def k2m0 : Method := { name := "<init>", desc := "([II)V", sig := { parameters := [(.array .int), .int], returnType := none }, accessFlags := 0, code := some k2c0 }
def k2c1 : Code := { maxStack := 3, maxLocals := 2, code := prog_41_method_5_code, exceptionTable := #[], attributes := #[] }
def k2m1 : Method := { name := "size", desc := "(I)I", sig := { parameters := [.int], returnType := some .int }, accessFlags := 0, code := some k2c1 }
/-- com/example/enklave/enklave/measure/RowGroups -/
def k2 : Class := { plain "com/example/enklave/enklave/measure/RowGroups" (some 0) with
  accessFlags := 48
  interfaces := #[]
  cf := some (fileOf pool2 8 #[] #[{ accessFlags := 0, nameIndex := 5, descriptorIndex := 21, attributes := #[] }, { accessFlags := 0, nameIndex := 29, descriptorIndex := 27, attributes := #[] }] 48 2 #[] #[{ accessFlags := 18, nameIndex := 11, descriptorIndex := 12, attributes := #[] }, { accessFlags := 18, nameIndex := 15, descriptorIndex := 12, attributes := #[] }])
  fields := #[{ name := "start", type := (.array .int), accessFlags := 18, slot := 0, constantValue := 0 }, { name := "rows", type := (.array .int), accessFlags := 18, slot := 1, constantValue := 0 }]
  methods := #[k2m0, k2m1]
  instanceTypes := #[(.array .int), (.array .int)]
  staticTypes := #[]
  resolved := Array.replicate 34 none
  statics := none }

def pool3 : Array CpInfo := pool [(1, .class_ 2), (0, u "java/lang/Cloneable"), (0, .class_ 4), (0, u "java/lang/Object")] 2

/-- java/lang/Cloneable -/
def k3 : Class := { plain "java/lang/Cloneable" (some 0) with
  accessFlags := 1537
  interfaces := #[]
  cf := some (fileOf pool3 1 #[] #[] 1537 3 #[] #[])
  fields := #[]
  methods := #[]
  instanceTypes := #[]
  staticTypes := #[]
  resolved := Array.replicate 7 none
  statics := none }

def pool4 : Array CpInfo := pool [(1, u "java/io/Serializable"), (0, .class_ 1), (0, u "java/lang/Object"), (0, .class_ 3)] 3

/-- java/io/Serializable -/
def k4 : Class := { plain "java/io/Serializable" (some 0) with
  accessFlags := 1537
  interfaces := #[]
  cf := some (fileOf pool4 2 #[] #[] 1537 4 #[] #[])
  fields := #[]
  methods := #[]
  instanceTypes := #[]
  staticTypes := #[]
  resolved := Array.replicate 8 none
  statics := none }

/-- the primitive byte -/
def k5 : Class := { plain "byte" none with kind := .primitive 'B', accessFlags := 0x411 }
/-- [B -/
def k6 : Class := { plain "[B" (some 0) with kind := .array 5 .byte, interfaces := #[3, 4], accessFlags := 1041 }

/-- the primitive int -/
def k7 : Class := { plain "int" none with kind := .primitive 'I', accessFlags := 0x411 }
/-- [I -/
def k8 : Class := { plain "[I" (some 0) with kind := .array 7 .int, interfaces := #[3, 4], accessFlags := 1041 }

def heap : Heap := #[]
def classes : Array Class := #[k0, k1, k2, k3, k4, k5, k6, k7, k8]
def interned : List (Array UInt16 × Addr) := []
def slotsUsed : Nat := 0
def theMethod : MethodId := ⟨1, 2⟩
def args0 : Array Value := #[.int 3, .int 4, .int 5, .int 6, .int 7, .int 8]
def aboutOver (below : List Frame) : State where
  vm := { classes := classes, interned := interned.toArray }
  heap := heap
  slotsUsed := slotsUsed
  threads := #[{ frames := .invoking theMethod args0 :: below }]
def below0 : List Frame := [.native { method := ⟨0, 0⟩, args := #[] }]
def about1 : State := aboutOver below0
def p0 : Program := .bare "" "" ""
def e0 : Env := launch0.env 0 0 0
theorem w_frames : about1.frames = Frame.invoking theMethod args0 :: below0 := rfl
set_option maxRecDepth 65536 in
theorem w_args : argsFit about1.vm theMethod args0 = true := by decide +kernel
set_option maxRecDepth 65536 in
theorem w_heap : heapFits about1 = true := by decide +kernel
set_option maxRecDepth 65536 in
theorem w_runnable : about1.curStatus? = some .runnable := by decide +kernel
set_option maxRecDepth 65536 in
theorem w_alone : about1.alone = true := by decide +kernel
set_option maxRecDepth 65536 in
theorem w_named : about1.methodNamed? x = some theMethod := by decide +kernel
set_option maxRecDepth 65536 in
theorem w_hears : about1.hears theMethod below0 = true := by decide +kernel
set_option maxRecDepth 65536 in
theorem w_ripe : about1.ripe theMethod args0 below0 = true := by decide +kernel
theorem w_running : about1.status = .running := rfl
set_option maxRecDepth 65536 in
theorem w_room : about1.hasRoom e0.platform room_1 = true :=
  launch0.hasRoom_least _ room_1 (by decide +kernel) (by decide +kernel) (by decide +kernel) (by decide +kernel) (by decide +kernel) (by decide +kernel)
theorem allAtoms_all (ts : List Jvm.Cond) (a : Array Jvm.Value) (st : Jvm.State) : (allAtoms ts).before a st = ts.all (fun c => c.before a st) := by
  induction ts with
  | nil => rfl
  | cons c t ih =>
    show (Jvm.Cond.and c (allAtoms t)).before a st = _
    rw [Jvm.Cond.before_and, ih, List.all_cons]
def words1 : List Jvm.Cond := Jvm.Cond.code x code maxLocals ret :: tables_1
/-- a 'code' word, met by the world's own term for the bytes: nothing is compared byte by byte -/
theorem code_word {y : MethodName} {bytes : ByteArray} {mx : Nat} {rt : Option FieldType} {a : Array Value} {s : State} {m : MethodId} {meth : Method} {c : Code} (h1 : s.methodNamed? y = some m) (h2 : s.vm.method? m = some meth) (h3 : meth.code = some c) (h4 : c.code = bytes)
    (h5 : (c.maxLocals == mx && c.exceptionTable.isEmpty && decide (c.maxStack ≤ mostOperands) && decide (meth.sig.returnType = rt) && !meth.locks && decide (parseMethodDescriptor y.desc = some meth.sig)) = true) : (Jvm.Cond.code y bytes mx rt).before a s = true := by
  simp only [Bool.and_eq_true, beq_iff_eq, Bool.not_eq_true', decide_eq_true_eq] at h5
  obtain ⟨⟨⟨⟨⟨g1, g2⟩, g3⟩, g4⟩, g5⟩, g6⟩ := h5
  simp [Cond.before, Cond.holds, Cond.value, h1, h2, h3, h4, g1, g2, g3, g4, g5, g6]
def isCode : Jvm.Cond → Bool
  | .code _ _ _ _ => true
  | _ => false
theorem all_split {L : List Jvm.Cond} {P : Jvm.Cond → Bool} (h1 : L.all (fun c => isCode c || P c) = true) (h2 : ∀ c ∈ L.filter isCode, P c = true) : L.all P = true := by
  refine List.all_eq_true.mpr fun c hc => ?_
  have h := List.all_eq_true.mp h1 c hc
  rcases Bool.eq_false_or_eq_true (isCode c) with hi | hi
  · exact h2 c (List.mem_filter.mpr ⟨hc, hi⟩)
  · simpa [hi] using h
set_option maxRecDepth 65536 in
theorem w_c0 : (Jvm.Cond.code x code maxLocals ret).before args0 about1 = true := code_word (m := ⟨1, 2⟩) (meth := k1m2) (c := k1c2) (by decide +kernel) rfl rfl rfl (by decide +kernel)
set_option maxRecDepth 65536 in
theorem w_c1 : (Jvm.Cond.code ({ cls := "com/example/enklave/enklave/measure/RowGroups", name := "<init>", desc := "([II)V" } : Jvm.MethodName) prog_41_method_1_code (5 : Nat) (Option.none : Option Jvm.ClassFile.FieldType)).before args0 about1 = true := code_word (m := ⟨2, 0⟩) (meth := k2m0) (c := k2c0) (by decide +kernel) rfl rfl rfl (by decide +kernel)
set_option maxRecDepth 65536 in
theorem w_c2 : (Jvm.Cond.code ({ cls := "java/lang/Object", name := "<init>", desc := "()V" } : Jvm.MethodName) object_method_1_code (1 : Nat) (Option.none : Option Jvm.ClassFile.FieldType)).before args0 about1 = true := code_word (m := ⟨0, 0⟩) (meth := k0m0) (c := k0c0) (by decide +kernel) rfl rfl rfl (by decide +kernel)
set_option maxRecDepth 65536 in
theorem w_c3 : (Jvm.Cond.code ({ cls := "com/example/enklave/enklave/measure/RowGroupsSizePinLaw", name := "hit", desc := "(II)I" } : Jvm.MethodName) method_2_code (2 : Nat) (Option.some Jvm.ClassFile.FieldType.int)).before args0 about1 = true := code_word (m := ⟨1, 1⟩) (meth := k1m1) (c := k1c1) (by decide +kernel) rfl rfl rfl (by decide +kernel)
set_option maxRecDepth 65536 in
theorem w_c4 : (Jvm.Cond.code ({ cls := "com/example/enklave/enklave/measure/RowGroups", name := "size", desc := "(I)I" } : Jvm.MethodName) prog_41_method_5_code (2 : Nat) (Option.some Jvm.ClassFile.FieldType.int)).before args0 about1 = true := code_word (m := ⟨2, 1⟩) (meth := k2m1) (c := k2c1) (by decide +kernel) rfl rfl rfl (by decide +kernel)
def codes1 : List Jvm.Cond := [Jvm.Cond.code x code maxLocals ret, Jvm.Cond.code ({ cls := "com/example/enklave/enklave/measure/RowGroups", name := "<init>", desc := "([II)V" } : Jvm.MethodName) prog_41_method_1_code (5 : Nat) (Option.none : Option Jvm.ClassFile.FieldType), Jvm.Cond.code ({ cls := "java/lang/Object", name := "<init>", desc := "()V" } : Jvm.MethodName) object_method_1_code (1 : Nat) (Option.none : Option Jvm.ClassFile.FieldType), Jvm.Cond.code ({ cls := "com/example/enklave/enklave/measure/RowGroupsSizePinLaw", name := "hit", desc := "(II)I" } : Jvm.MethodName) method_2_code (2 : Nat) (Option.some Jvm.ClassFile.FieldType.int), Jvm.Cond.code ({ cls := "com/example/enklave/enklave/measure/RowGroups", name := "size", desc := "(I)I" } : Jvm.MethodName) prog_41_method_5_code (2 : Nat) (Option.some Jvm.ClassFile.FieldType.int)]
set_option maxRecDepth 65536 in
theorem codes_eq : words1.filter isCode = codes1 := rfl
theorem w_codes : ∀ c ∈ words1.filter isCode, c.before args0 about1 = true := by
  rw [codes_eq]
  intro c hc
  simp only [codes1, List.mem_cons, List.not_mem_nil, or_false] at hc
  rcases hc with rfl | rfl | rfl | rfl | rfl
  · exact w_c0
  · exact w_c1
  · exact w_c2
  · exact w_c3
  · exact w_c4
set_option maxRecDepth 65536 in
theorem w_t1 : (words1.take 24).all (fun c => isCode c || c.before args0 about1) = true := by decide +kernel
set_option maxRecDepth 65536 in
theorem w_t2 : (words1.drop 24).all (fun c => isCode c || c.before args0 about1) = true := by decide +kernel
theorem w_tables : (allAtoms (Jvm.Cond.code x code maxLocals ret :: tables_1)).before args0 about1 = true := by
  rw [allAtoms_all]
  show words1.all (fun c => c.before args0 about1) = true
  refine all_split ?_ w_codes
  rw [← List.take_append_drop 24 words1, List.all_append, w_t1, w_t2]
  rfl
set_option maxRecDepth 65536 in
theorem w_case : (Jvm.Cond.and given_1 narrow_1).before args0 about1 = true := by decide +kernel
theorem w_applies : (headSpec (Jvm.Cond.code x code maxLocals ret :: tables_1) room_1).applies x e0.platform about1 = true :=
  (Spec.applies_iff w_frames).mpr ⟨w_running, w_runnable, w_alone, w_named, w_hears, w_ripe, w_room, w_tables⟩
theorem atStart : AtStart classFile x code maxLocals ret World_1 tables_1 room_1 Calls_1 rest_1 Pre_1 launch0 p0 e0 about1 theMethod args0 below0 :=
  ⟨lists_1, trivial, launch0.admits_env _ _ _, launch0.least_env, fairChoices_fair.cas, fairChoices_fair.clock, w_frames, w_args, w_heap, w_applies, trivial, trivial, w_case⟩
end start1
theorem witness_1 : WitnessClaimed_1 := ⟨start1.p0, start1.e0, start1.about1, start1.theMethod, start1.args0, start1.below0, start1.atStart⟩
end Jvm.Pilot.@@N@@
