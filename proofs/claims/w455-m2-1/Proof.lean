import JvmDerived
import JvmDerived.Pilot.@@N@@Statement
import JvmDerived.Pilot.@@N@@Code
set_option linter.unusedVariables false
set_option linter.unusedSimpArgs false
namespace Jvm.JW
open Sem ClassFile Op Lib Jvm.Stand Jvm.Free Jvm.LawKit Jvm.RoadKit
/-! The walk in continuation form: D holds of a machine state if the run from it ends as the contract says. -/
def Dn (p : Program) (e : Env) (below : List Frame) (s : State) (Q : Option Value → Heap → List Loc → Prop) (k n : Nat) (S : State) : Prop :=
  ∃ s₂ o, Steps p.tables e below S s₂ ∧ s₂.status = .running ∧ Ended s₂ below o ∧ ∃ v L, o = .returned v ∧ Q v s₂.heap L ∧ FrameEnd s o s₂ L k n
def Adv (p : Program) (e : Env) (below : List Frame) (D : State → Prop) : Prop :=
  ∀ {S S' : State}, (∀ {t : State}, Steps p.tables e below S' t → Steps p.tables e below S t) → D S' → D S
theorem Adv.dn {p : Program} {e : Env} {below : List Frame} {s : State} {Q : Option Value → Heap → List Loc → Prop} {k n : Nat} : Adv p e below (Dn p e below s Q k n) := by
  intro S S' h d
  obtain ⟨s2, o, h1, h2⟩ := d
  exact ⟨s2, o, h h1, h2⟩
theorem Adv.tr {p : Program} {e : Env} {below : List Frame} {D : State → Prop} (A : Adv p e below D) {S S' : State} (h : Steps p.tables e below S S') (d : D S') : D S := A (fun k => h.trans k) d
abbrev JMet (l : Launch) (Z : State) (y : MethodName) (bytes : ByteArray) (maxL : Nat) (ret : Option FieldType) (ws : List Cond) (rm : Room) (as' : Array Value) (h0 : Heap) (Q : Option Value → Heap → List Loc → Prop) : Prop :=
  MetFree l y (head1 (Cond.code y bytes maxL ret :: ws) rm) (fun a U => a = as' ∧ Z.Warmed39 U.vm ∧ U.heap = h0) (fun _ _ _ _ _ => True) (fun _ U o U' => ∃ v L, o = .returned v ∧ Q v U'.heap L ∧ FrameEnd U o U' L rm.cells rm.slots)
/-- a body that returns r and leaves the heap as it was -/
def QP (r : Value) (h0 : Heap) (n0 : Nat) (v : Option Value) (h : Heap) (L : List Loc) : Prop := v = some r ∧ Fr n0 L ∧ h = h0
/-- the law: it returns 1; nothing that stood at the start is written -/
def QL (n0 : Nat) (v : Option Value) (h : Heap) (L : List Loc) : Prop := v = some (.int 1) ∧ Fr n0 L
section Kit
variable {p : Program} {l : Launch} {e : Env} {R : Room} {s : State} {m : MethodId} {args : Array Value} {below : List Frame} {meth : Method} {c : Code} {T : State} {locs : List Loc} {cells slots : Nat} {Z : State} {a0 : Array Value} {h : Heap} {D : State → Prop}
theorem ret (X : Stand p l e R s m args below meth c T locs cells slots) (hlk : meth.locks = false) {Q : Option Value → Heap → List Loc → Prop} {k n : Nat} {S : State} {v : Option Value} (hv : meth.sig.returnType = none → v = none)
    (hst : ∀ fs, (∀ (f : JFrame) (acts : List Action), f.method = m → f.locked = none → f.entered = [] → (doReturn e (T.setTop f) acts v).1 = T.setFrames fs) → Steps p.tables e below S (T.setFrames fs))
    {hh : Heap} (eT : T.heap = hh) (hq : Q v hh locs) (hk : cells ≤ k) (hn : slots ≤ n) : Dn p e below s Q k n S := by
  subst eT
  obtain ⟨fs, hr, hrun, hended, hW, hsame⟩ := X.leave (v := v) hv hlk
  exact ⟨_, _, hst fs hr, hrun, hended, _, _, rfl, hq, ⟨_, rfl⟩, hW, hsame.mono hk hn⟩
theorem body {y : MethodName} {bytes : ByteArray} {maxL : Nat} {rt : Option FieldType} {ws : List Cond} {rm : Room} {as' : Array Value} {h0 : Heap} {Q : Option Value → Heap → List Loc → Prop} (Ls : Array Slot) (hpl : plainFor y = true) (hef : ∀ m, entryFrame m as' maxL = mkF m 0 Ls [])
    (bd : ∀ (p : Program) (e : Env) (s : State) (m : MethodId) (below : List Frame) (meth : Method) (c : Code) (T0 : State) (D : State → Prop), Adv p e below D → (∀ S, Dn p e below s Q rm.cells rm.slots S → D S) → Stand p l e rm s m as' below meth c T0 [] 0 0 → p.tables.exec = Jvm.exec → Z.Warmed39 s.vm → c.code = bytes → c.maxLocals = maxL → s.vm.findClass y.cls = some m.cls → meth.name = y.name → meth.sig.returnType = rt → meth.locks = false → T0.heap = h0 → D (T0.setTop (mkF m 0 Ls []))) :
    JMet l Z y bytes maxL rt ws rm as' h0 Q := by
  refine MetFree.of_bodySF hpl hisR ?_
  intro p e s m args below meth c s₁ Bd hml hP hK
  obtain ⟨rfl, hZ, hh⟩ := hP
  have q := bd p e s m below meth c s₁ (Dn p e below s Q rm.cells rm.slots) Adv.dn (fun _ d => d) (Stand.of_body Bd) Bd.exec hZ Bd.bytes hml (findClass_of_methodNamed Bd.named) (name_of_methodNamed Bd.named Bd.method).1 Bd.returns Bd.notSynchronized (by rw [← hh, Bd.state]; rfl)
  rw [← hef m] at q
  exact q
theorem Adv.callS (A : Adv p e below D) (X : Stand p l e R s m args below meth c T locs cells slots) (hx : p.tables.exec = Jvm.exec) (hZ : Z.Warmed39 s.vm) {own : String} {index : Nat} {y : MethodName} {bytes : ByteArray} {maxL : Nat} {rt : Option FieldType} {rm : Room} {as' : Array Value} {Q : Option Value → Heap → List Loc → Prop}
    (hown : s.vm.findClass own = some m.cls) (w1 : (Cond.methodLink own index y).before a0 Z = true) (w2 : (Cond.static y).before a0 Z = true) (w3 : (Cond.initialized y.cls).before a0 Z = true) (w4 : (Cond.code y bytes maxL rt).before a0 Z = true) (eT : T.heap = h)
    (hM : JMet l Z y bytes maxL rt [] rm as' h Q) (W : Nat) {g : JFrame} (hg : g.method = m) (hsz : g.locals.size = c.maxLocals) (argsL rest : List Value) (has : as' = argsL.toArray)
    (hlen : ∀ sig, parseMethodDescriptor y.desc = some sig → argsL.length = sig.parameters.length) (hstack : g.stack = argsL.reverse ++ rest) (hW : 2 * g.monitorRoom + (rest.map fun v => v.category).sum ≤ W)
    (hd : decode c.code g.pc = .ok (.invokestatic index, 3)) (hy : y.cls ≠ "java/lang/invoke/MethodHandle" ∧ y.cls ≠ "java/lang/invoke/VarHandle") (hf : rm.frames + 1 ≤ R.frames) (hl : W + (maxL + 11) + rm.locals ≤ R.locals) (hc : cells + rm.cells ≤ R.cells) (hs : slots + rm.slots ≤ R.slots)
    (k : ∀ (T' : State) (L' : List Loc) (v : Option Value), Stand p l e R s m args below meth c T' (locs ++ L') (cells + rm.cells) (slots + rm.slots) → Q v T'.heap L' → D (T'.setTop { g with pc := g.pc + 3, stack := v.toList ++ rest })) : D (T.setTop g) := by
  subst has
  obtain ⟨v, _, ⟨T', L, k', n'⟩, -, X', ⟨Lc, hQ, l', y', z'⟩, st⟩ := Jvm.LawKit.callS X hx (y := y) hown (mvT hZ w1) (mvT hZ w2) (mvT hZ w3) (mvT hZ w4) hy (backOf (W := W) hM hZ w4 w3 hf hl) (g := g) hg hsz (argsL := argsL) (rest := rest) hlen hstack hW hd (fun _ _ => ⟨rfl, eT, hc, hs⟩)
  dsimp only [Pt.U, Pt.locs, Pt.cells, Pt.slots] at X' l' y' z' st hQ
  subst l' y' z'
  exact A (fun q => st _ q) (k T' Lc v X' hQ)
theorem Adv.callI (A : Adv p e below D) (X : Stand p l e R s m args below meth c T locs cells slots) (hx : p.tables.exec = Jvm.exec) (hZ : Z.Warmed39 s.vm) {own : String} {index : Nat} {y : MethodName} {bytes : ByteArray} {maxL : Nat} {rm : Room} {as' : Array Value} {Q : Option Value → Heap → List Loc → Prop}
    (hown : s.vm.findClass own = some m.cls) (hi : y.name = "<init>") (w1 : (Cond.methodLink own index y).before a0 Z = true) (w2 : (Cond.instanceMethod y).before a0 Z = true) (w3 : (Cond.initialized y.cls).before a0 Z = true) (w4 : (Cond.code y bytes maxL none).before a0 Z = true) (eT : T.heap = h)
    (hM : JMet l Z y bytes maxL none [] rm as' h Q) (W : Nat) {g : JFrame} (hg : g.method = m) (hsz : g.locals.size = c.maxLocals) (a : Addr) (argsL rest : List Value) (has : as' = (.ref a :: argsL).toArray)
    (hlen : ∀ sig, parseMethodDescriptor y.desc = some sig → argsL.length = sig.parameters.length) (hstack : g.stack = argsL.reverse ++ .ref a :: rest) (hW : 2 * g.monitorRoom + (rest.map fun v => v.category).sum ≤ W)
    (hd : decode c.code g.pc = .ok (.invokespecial index, 3)) (hy : y.cls ≠ "java/lang/invoke/MethodHandle" ∧ y.cls ≠ "java/lang/invoke/VarHandle") (hf : rm.frames + 1 ≤ R.frames) (hl : W + (maxL + 11) + rm.locals ≤ R.locals) (hc : cells + rm.cells ≤ R.cells) (hs : slots + rm.slots ≤ R.slots)
    (k : ∀ (T' : State) (L' : List Loc) (v : Option Value), Stand p l e R s m args below meth c T' (locs ++ L') (cells + rm.cells) (slots + rm.slots) → Q v T'.heap L' → D (T'.setTop { g with pc := g.pc + 3, stack := v.toList ++ rest })) : D (T.setTop g) := by
  subst has
  obtain ⟨v, _, ⟨T', L, k', n'⟩, -, X', ⟨Lc, hQ, l', y', z'⟩, st⟩ := X.specialBack hx (y := y) hi hown (mvT hZ w1) (mvT hZ w2) (mvT hZ w4) hy (backOf (W := W) hM hZ w4 w3 hf hl) (g := g) hg hsz (Steps.refl _) (a := a) (argsL := argsL) (rest := rest) hlen hstack hW hd (fun _ _ => ⟨rfl, eT, hc, hs⟩)
  dsimp only [Pt.U, Pt.locs, Pt.cells, Pt.slots] at X' l' y' z' st hQ
  subst l' y' z'
  exact A.tr st (k T' Lc v X' hQ)
theorem Adv.callV (A : Adv p e below D) (X : Stand p l e R s m args below meth c T locs cells slots) (hx : p.tables.exec = Jvm.exec) (hZ : Z.Warmed39 s.vm) {own C : String} {index : Nat} {y z : MethodName} {bytes : ByteArray} {maxL : Nat} {rt : Option FieldType} {rm : Room} {as' : Array Value} {Q : Option Value → Heap → List Loc → Prop} {a : Addr}
    (hown : s.vm.findClass own = some m.cls) (w1 : (Cond.methodLink own index y).before a0 Z = true) (w2 : (Cond.declares y).before a0 Z = true) (nf : NotFace s y) (w5 : (Cond.selects C y z).before a0 Z = true) (w6 : (Cond.instanceMethod z).before a0 Z = true) (w3 : (Cond.initialized z.cls).before a0 Z = true) (w4 : (Cond.code z bytes maxL rt).before a0 Z = true) (eT : T.heap = h) (E : Exa Z h a C)
    (hM : JMet l Z z bytes maxL rt [] rm as' h Q) (W : Nat) {g : JFrame} (hg : g.method = m) (hsz : g.locals.size = c.maxLocals) (argsL rest : List Value) (has : as' = (.ref a :: argsL).toArray)
    (hlen : ∀ sig, parseMethodDescriptor y.desc = some sig → argsL.length = sig.parameters.length) (hstack : g.stack = argsL.reverse ++ .ref a :: rest) (hW : 2 * g.monitorRoom + (rest.map fun v => v.category).sum ≤ W)
    (hd : decode c.code g.pc = .ok (.invokevirtual index, 3)) (hy : y.cls ≠ "java/lang/invoke/MethodHandle" ∧ y.cls ≠ "java/lang/invoke/VarHandle") (hf : rm.frames + 1 ≤ R.frames) (hl : W + (maxL + 11) + rm.locals ≤ R.locals) (hc : cells + rm.cells ≤ R.cells) (hs : slots + rm.slots ≤ R.slots)
    (k : ∀ (T' : State) (L' : List Loc) (v : Option Value), Stand p l e R s m args below meth c T' (locs ++ L') (cells + rm.cells) (slots + rm.slots) → Q v T'.heap L' → D (T'.setTop { g with pc := g.pc + 3, stack := v.toList ++ rest })) : D (T.setTop g) := by
  subst has
  obtain ⟨cq, kq, qa, qb, qc⟩ := isOf hZ eT E
  obtain ⟨v, _, ⟨T', L, k', n'⟩, -, X', ⟨Lc, hQ, l', y', z'⟩, st⟩ := X.virtualBack hx (y := y) (z := z) hown (mvT hZ w1) (mvT hZ w2) nf (mvT hZ w5) (mvT hZ w6) hy (backOf (W := W) hM hZ w4 w3 hf hl) qa qc (g := g) hg hsz (Steps.refl _) (argsL := argsL) (rest := rest) hlen hstack hW hd (fun _ _ => ⟨rfl, eT, hc, hs⟩)
  dsimp only [Pt.U, Pt.locs, Pt.cells, Pt.slots] at X' l' y' z' st hQ
  subst l' y' z'
  exact A.tr st (k T' Lc v X' hQ)
theorem Adv.callU (A : Adv p e below D) (X : Stand p l e R s m args below meth c T locs cells slots) (hx : p.tables.exec = Jvm.exec) (hZ : Z.Warmed39 s.vm) {own C owner : String} {index : Nat} {y z : MethodName} {bytes : ByteArray} {maxL : Nat} {rt : Option FieldType} {rm : Room} {as' : Array Value} {Q : Option Value → Heap → List Loc → Prop} {a : Addr}
    (hown : s.vm.findClass own = some m.cls) (w1 : (Cond.methodLink own index y).before a0 Z = true) (w7 : (Cond.sameMethod y.cls owner y.name y.desc).before a0 Z = true) (w2 : (Cond.declares ⟨owner, y.name, y.desc⟩).before a0 Z = true) (w5 : (Cond.selects C y z).before a0 Z = true) (w6 : (Cond.instanceMethod z).before a0 Z = true) (w3 : (Cond.initialized z.cls).before a0 Z = true) (w4 : (Cond.code z bytes maxL rt).before a0 Z = true) (eT : T.heap = h) (E : Exa Z h a C)
    (hM : JMet l Z z bytes maxL rt [] rm as' h Q) (W : Nat) {g : JFrame} (hg : g.method = m) (hsz : g.locals.size = c.maxLocals) (argsL rest : List Value) (has : as' = (.ref a :: argsL).toArray)
    (hlen : ∀ sig, parseMethodDescriptor y.desc = some sig → argsL.length = sig.parameters.length) (hstack : g.stack = argsL.reverse ++ .ref a :: rest) (hW : 2 * g.monitorRoom + (rest.map fun v => v.category).sum ≤ W)
    (hd : decode c.code g.pc = .ok (.invokevirtual index, 3)) (hy : owner ≠ "java/lang/invoke/MethodHandle" ∧ owner ≠ "java/lang/invoke/VarHandle") (hf : rm.frames + 1 ≤ R.frames) (hl : W + (maxL + 11) + rm.locals ≤ R.locals) (hc : cells + rm.cells ≤ R.cells) (hs : slots + rm.slots ≤ R.slots)
    (k : ∀ (T' : State) (L' : List Loc) (v : Option Value), Stand p l e R s m args below meth c T' (locs ++ L') (cells + rm.cells) (slots + rm.slots) → Q v T'.heap L' → D (T'.setTop { g with pc := g.pc + 3, stack := v.toList ++ rest })) : D (T.setTop g) := by
  subst has
  obtain ⟨cq, kq, qa, qb, qc⟩ := isOf hZ eT E
  obtain ⟨v, _, ⟨T', L, k', n'⟩, -, X', ⟨Lc, hQ, l', y', z'⟩, st⟩ := X.virtualBackUp hx (x := y) (y := z) (owner := owner) hown (mvT hZ w1) (mvT hZ w7) (mvT hZ w2) hy (mvT hZ w5) (mvT hZ w6) (backOf (W := W) hM hZ w4 w3 hf hl) qa qc (g := g) hg hsz (Steps.refl _) (argsL := argsL) (rest := rest) hlen hstack hW hd (fun _ _ => ⟨rfl, eT, hc, hs⟩)
  dsimp only [Pt.U, Pt.locs, Pt.cells, Pt.slots] at X' l' y' z' st hQ
  subst l' y' z'
  exact A.tr st (k T' Lc v X' hQ)
theorem Adv.callP (A : Adv p e below D) (X : Stand p l e R s m args below meth c T locs cells slots) (hx : p.tables.exec = Jvm.exec) (hZ : Z.Warmed39 s.vm) {own C : String} {index kn : Nat} {y : MethodName} {bytes : ByteArray} {maxL : Nat} {rt : Option FieldType} {rm : Room} {as' : Array Value} {Q : Option Value → Heap → List Loc → Prop} {a : Addr}
    (hown : s.vm.findClass own = some m.cls) (w1 : (Cond.methodLink own index y).before a0 Z = true) (w2 : (Cond.instanceMethod y).before a0 Z = true) (wi : (Cond.instantiable y.cls kn).before a0 Z = true) (w5 : (Cond.privateMethod y).before a0 Z = true) (w3 : (Cond.initialized y.cls).before a0 Z = true) (w4 : (Cond.code y bytes maxL rt).before a0 Z = true) (eT : T.heap = h) (E : Exa Z h a C)
    (hM : JMet l Z y bytes maxL rt [] rm as' h Q) (W : Nat) {g : JFrame} (hg : g.method = m) (hsz : g.locals.size = c.maxLocals) (argsL rest : List Value) (has : as' = (.ref a :: argsL).toArray)
    (hlen : ∀ sig, parseMethodDescriptor y.desc = some sig → argsL.length = sig.parameters.length) (hstack : g.stack = argsL.reverse ++ .ref a :: rest) (hW : 2 * g.monitorRoom + (rest.map fun v => v.category).sum ≤ W)
    (hd : decode c.code g.pc = .ok (.invokevirtual index, 3)) (hy : y.cls ≠ "java/lang/invoke/MethodHandle" ∧ y.cls ≠ "java/lang/invoke/VarHandle") (hf : rm.frames + 1 ≤ R.frames) (hl : W + (maxL + 11) + rm.locals ≤ R.locals) (hc : cells + rm.cells ≤ R.cells) (hs : slots + rm.slots ≤ R.slots)
    (k : ∀ (T' : State) (L' : List Loc) (v : Option Value), Stand p l e R s m args below meth c T' (locs ++ L') (cells + rm.cells) (slots + rm.slots) → Q v T'.heap L' → D (T'.setTop { g with pc := g.pc + 3, stack := v.toList ++ rest })) : D (T.setTop g) := by
  subst has
  obtain ⟨ce, hce, hob⟩ := E.cell
  have hpriv : s.PrivateAt y := Cond.privateMethod_at (mvP hZ w5 (args := #[]))
  have hins : (Cond.instanceMethod y).before args s = true := mvT hZ w2
  have hwi : (Cond.instantiable y.cls kn).before args s = true := mvT hZ wi
  obtain ⟨ck, kk, c1, c2, -, c4, -⟩ := Cond.instantiable_spec hwi
  have hsel := selects_self_of_private c1 c2 (Bool.or_eq_false_iff.mp c4).1 hpriv hins hy
  obtain ⟨v, _, ⟨T', L, k', n'⟩, -, X', ⟨Lc, hQ, l', y', z'⟩, st⟩ := X.privateBack hx (y := y) hown (mvT hZ w1) hins hsel hpriv (mvT hZ w4) hy (backOf (W := W) hM hZ w4 w3 hf hl) (g := g) hg hsz (Steps.refl _) (a := a) (cell := ce) (by rw [eT]; exact hce) hob (argsL := argsL) (rest := rest) hlen hstack hW hd (fun _ _ => ⟨rfl, eT, hc, hs⟩)
  dsimp only [Pt.U, Pt.locs, Pt.cells, Pt.slots] at X' l' y' z' st hQ
  subst l' y' z'
  exact A.tr st (k T' Lc v X' hQ)
end Kit
/-! ### arrays by a function of the place -/
section Arrays
variable {p : Program} {l : Launch} {e : Env} {R : Room} {s : State} {m : MethodId} {args : Array Value} {below : List Frame} {meth : Method} {c : Code} {T : State} {locs : List Loc} {cells slots : Nat} {Z : State} {a0 : Array Value} {h h' : Heap} {D : State → Prop} {a b : Addr} {ty : FieldType} {n : Nat} {f : Nat → Int32} {fJ : Nat → Int64} {sl : Nat} {v : Value} {ws : List Addr}
def ArI (Z : State) (h : Heap) (a : Addr) (ty : FieldType) (n : Nat) (f : Nat → Int32) : Prop :=
  n < 2147483648 ∧ ∃ c : Cell, Arr Z h a c ty ∧ c.slots.size = n ∧ ∀ i, i < n → c.slots[i]? = some (.int (f i))
def ArJ (Z : State) (h : Heap) (a : Addr) (n : Nat) (f : Nat → Int64) : Prop :=
  n < 2147483648 ∧ ∃ c : Cell, Arr Z h a c .long ∧ c.slots.size = n ∧ ∀ i, i < n → c.slots[i]? = some (.long (f i))
theorem ArI.lt (F : ArI Z h a ty n f) : a < h.size := by obtain ⟨-, c, A, -⟩ := F; exact A.lt
theorem ArI.ext (F : ArI Z h a ty n f) (E : Ext h h') : ArI Z h' a ty n f := by obtain ⟨q, c, A, r⟩ := F; exact ⟨q, c, A.ext E, r⟩
theorem ArI.other (F : ArI Z h b ty n f) (W : Wr h h' a sl v) (q : b ≠ a) : ArI Z h' b ty n f := by obtain ⟨z, c, A, r⟩ := F; exact ⟨z, c, A.other W q, r⟩
theorem ArI.keep (F : ArI Z h a ty n f) (K : Keep h h' ws) (q : a ∉ ws) : ArI Z h' a ty n f := by obtain ⟨z, c, A, r⟩ := F; exact ⟨z, c, ⟨K.2.1 a c A.1 q, A.2⟩, r⟩
theorem ArI.eqf {g : Nat → Int32} (F : ArI Z h a ty n f) (q : ∀ i, i < n → f i = g i) : ArI Z h a ty n g := by
  obtain ⟨z, c, A, r, H⟩ := F; exact ⟨z, c, A, r, fun i hi => by rw [← q i hi]; exact H i hi⟩
theorem ArJ.lt (F : ArJ Z h a n fJ) : a < h.size := by obtain ⟨-, c, A, -⟩ := F; exact A.lt
theorem ArJ.ext (F : ArJ Z h a n fJ) (E : Ext h h') : ArJ Z h' a n fJ := by obtain ⟨q, c, A, r⟩ := F; exact ⟨q, c, A.ext E, r⟩
theorem ArJ.other (F : ArJ Z h b n fJ) (W : Wr h h' a sl v) (q : b ≠ a) : ArJ Z h' b n fJ := by obtain ⟨z, c, A, r⟩ := F; exact ⟨z, c, A.other W q, r⟩
theorem ArJ.keep (F : ArJ Z h a n fJ) (K : Keep h h' ws) (q : a ∉ ws) : ArJ Z h' a n fJ := by obtain ⟨z, c, A, r⟩ := F; exact ⟨z, c, ⟨K.2.1 a c A.1 q, A.2⟩, r⟩
theorem ArJ.eqf {g : Nat → Int64} (F : ArJ Z h a n fJ) (q : ∀ i, i < n → fJ i = g i) : ArJ Z h a n g := by
  obtain ⟨z, c, A, r, H⟩ := F; exact ⟨z, c, A, r, fun i hi => by rw [← q i hi]; exact H i hi⟩
theorem ne_ari {C : String} {k : Nat} (F : Exa Z h a C) (wi : (Cond.instantiable C k).before a0 Z = true) (G : ArI Z h b ty n f) : a ≠ b := by obtain ⟨-, c, A, -⟩ := G; exact ne_arr F wi A
theorem ne_arj {C : String} {k : Nat} (F : Exa Z h a C) (wi : (Cond.instantiable C k).before a0 Z = true) (G : ArJ Z h b n fJ) : a ≠ b := by obtain ⟨-, c, A, -⟩ := G; exact ne_arr F wi A
theorem ne_arr2 {c1 c2 : Cell} {t1 t2 : FieldType} (F : Arr Z h a c1 t1) (G : Arr Z h b c2 t2) (hn : t1 ≠ t2) : a ≠ b := fun q => by
  subst q
  cases F.1.symm.trans G.1
  obtain ⟨-, k1, j1, comp1, j2⟩ := F.2.1
  obtain ⟨-, k2, i1, comp2, i2⟩ := G.2.1
  cases j1.symm.trans i1
  rw [j2] at i2
  injection i2 with _ q2
  exact hn q2
theorem ne_aij {n' : Nat} (F : ArI Z h a ty n f) (G : ArJ Z h b n' fJ) (hn : ty ≠ .long) : a ≠ b := by obtain ⟨-, c, A, -⟩ := F; obtain ⟨-, c', A', -⟩ := G; exact ne_arr2 A A' hn
theorem to_nat {j : Int32} {k : Nat} (hk : j.toInt = k) : j.toNatClampNeg = k := by simp only [Int32.toNatClampNeg, hk, Int.toNat_natCast]
theorem inb {cl : Cell} {j : Int32} {k : Nat} (hk : j.toInt = k) (hkn : k < n) (hs : cl.slots.size = n) : ¬ (j < 0 ∨ cl.slots.size ≤ j.toNatClampNeg) := by
  rw [to_nat hk, hs, Int32.lt_iff_toInt_lt, hk, show (0 : Int32).toInt = 0 from rfl]; omega
theorem ixadd {x d : Int32} {k j : Nat} (hx : x.toInt = k) (hd : d.toInt = j) (h : k + j < 2147483648) : (x + d).toInt = ((k + j : Nat) : Int) := by
  have h2 := c_iadd x d
  have h3 := rng32 (x + d)
  omega
theorem ArI.mk {k : ClassId} {z : Int32} (A : Arr Z h a (newA k ty z) ty) (hn : z.toInt = n) (hd : defaultValue ty = .int 0) : ArI Z h a ty n (fun _ => 0) := by
  have hz := to_nat hn
  refine ⟨?_, _, A, by rw [sz_new, hz], fun i hi => ?_⟩
  · have := Int32.toInt_lt z; omega
  · simp [newA, hz, hi, hd]
theorem ArJ.mk {k : ClassId} {z : Int32} (A : Arr Z h a (newA k .long z) .long) (hn : z.toInt = n) : ArJ Z h a n (fun _ => 0) := by
  have hz := to_nat hn
  refine ⟨?_, _, A, by rw [sz_new, hz], fun i hi => ?_⟩
  · have := Int32.toInt_lt z; omega
  · simp [newA, hz, hi, defaultValue]
theorem set_at {cl : Cell} {i k : Nat} (hk : k < cl.slots.size) : (cl.setSlot k v).slots[i]? = if i = k then some v else cl.slots[i]? := by
  simp only [Cell.setSlot, Array.getElem?_setIfInBounds]
  by_cases q : i = k
  · subst q; simp [hk]
  · simp [q, Ne.symm q]
theorem ArI.set {x : Int32} {k : Nat} (F : ArI Z h a ty n f) (W : Wr h h' a k (.int x)) (hk : k < n) : ArI Z h' a ty n (fun i => if i = k then x else f i) := by
  obtain ⟨z, c, A, r, H⟩ := F
  refine ⟨z, _, A.same W, by rw [sz_set, r], fun i hi => ?_⟩
  rw [set_at (by omega)]
  by_cases q : i = k
  · simp [q]
  · simp [q, H i hi]
theorem ArJ.set {x : Int64} {k : Nat} (F : ArJ Z h a n fJ) (W : Wr h h' a k (.long x)) (hk : k < n) : ArJ Z h' a n (fun i => if i = k then x else fJ i) := by
  obtain ⟨z, c, A, r, H⟩ := F
  refine ⟨z, _, A.same W, by rw [sz_set, r], fun i hi => ?_⟩
  rw [set_at (by omega)]
  by_cases q : i = k
  · simp [q]
  · simp [q, H i hi]
theorem Adv.ldI (A : Adv p e below D) (X : Stand p l e R s m args below meth c T locs cells slots) (hx : p.tables.exec = Jvm.exec) (hZ : Z.Warmed39 s.vm) (eT : T.heap = h) (F : ArI Z h a .int n f) {j : Int32} {k : Nat} (hk : j.toInt = k) (hkn : k < n) {g : JFrame} (hg : g.method = m) {rest : List Value} (hs : g.stack = .int j :: .ref a :: rest) (hd : decode c.code g.pc = .ok (.iaload, 1))
    (kk : D (T.setTop { g with pc := g.pc + 1, stack := .int (f k) :: rest })) : D (T.setTop g) := by
  obtain ⟨-, cl, Ar, r, H⟩ := F
  exact A (X.iaload hx (j := j) (v := .int (f k)) (by rw [eT]; exact Ar.1) (State.isArrayOf_alike hZ.alike Ar.2.1) Ar.2.2 (inb hk hkn r) (by rw [to_nat hk]; exact H k hkn) (g := g) hg hs hd _) kk
theorem Adv.ldB (A : Adv p e below D) (X : Stand p l e R s m args below meth c T locs cells slots) (hx : p.tables.exec = Jvm.exec) (hZ : Z.Warmed39 s.vm) (eT : T.heap = h) (F : ArI Z h a .byte n f) {j : Int32} {k : Nat} (hk : j.toInt = k) (hkn : k < n) {g : JFrame} (hg : g.method = m) {rest : List Value} (hs : g.stack = .int j :: .ref a :: rest) (hd : decode c.code g.pc = .ok (.baload, 1))
    (kk : D (T.setTop { g with pc := g.pc + 1, stack := .int (f k) :: rest })) : D (T.setTop g) := by
  obtain ⟨-, cl, Ar, r, H⟩ := F
  exact A (X.baloadBytes hx (j := j) (v := .int (f k)) (by rw [eT]; exact Ar.1) (State.isArrayOf_alike hZ.alike Ar.2.1) Ar.2.2 (inb hk hkn r) (by rw [to_nat hk]; exact H k hkn) (g := g) hg hs hd _) kk
theorem Adv.ldJ (A : Adv p e below D) (X : Stand p l e R s m args below meth c T locs cells slots) (hx : p.tables.exec = Jvm.exec) (hZ : Z.Warmed39 s.vm) (eT : T.heap = h) (F : ArJ Z h a n fJ) {j : Int32} {k : Nat} (hk : j.toInt = k) (hkn : k < n) {g : JFrame} (hg : g.method = m) {rest : List Value} (hs : g.stack = .int j :: .ref a :: rest) (hd : decode c.code g.pc = .ok (.laload, 1))
    (kk : D (T.setTop { g with pc := g.pc + 1, stack := .long (fJ k) :: rest })) : D (T.setTop g) := by
  obtain ⟨-, cl, Ar, r, H⟩ := F
  exact A (X.laload hx (j := j) (v := .long (fJ k)) (by rw [eT]; exact Ar.1) (State.isArrayOf_alike hZ.alike Ar.2.1) Ar.2.2 (inb hk hkn r) (by rw [to_nat hk]; exact H k hkn) (g := g) hg hs hd _) kk
theorem len32 {cl : Cell} (z : n < 2147483648) (r : cl.slots.size = n) : cl.slots.size.toInt32 = Int32.ofNat n   := by rw [r]
theorem Adv.lenI (A : Adv p e below D) (X : Stand p l e R s m args below meth c T locs cells slots) (hx : p.tables.exec = Jvm.exec) (hZ : Z.Warmed39 s.vm) (eT : T.heap = h) (F : ArI Z h a ty n f) {g : JFrame} (hg : g.method = m) {rest : List Value} (hs : g.stack = .ref a :: rest) (hd : decode c.code g.pc = .ok (.arraylength, 1))
    (kk : D (T.setTop { g with pc := g.pc + 1, stack := .int (Int32.ofNat n) :: rest })) : D (T.setTop g) := by
  obtain ⟨z, cl, Ar, r, H⟩ := F
  rw [← len32 z r] at kk
  exact A (X.arraylength hx (by rw [eT]; exact Ar.1) (State.isArrayOf_alike hZ.alike Ar.2.1) (g := g) hg hs hd _) kk
theorem Adv.lenJ (A : Adv p e below D) (X : Stand p l e R s m args below meth c T locs cells slots) (hx : p.tables.exec = Jvm.exec) (hZ : Z.Warmed39 s.vm) (eT : T.heap = h) (F : ArJ Z h a n fJ) {g : JFrame} (hg : g.method = m) {rest : List Value} (hs : g.stack = .ref a :: rest) (hd : decode c.code g.pc = .ok (.arraylength, 1))
    (kk : D (T.setTop { g with pc := g.pc + 1, stack := .int (Int32.ofNat n) :: rest })) : D (T.setTop g) := by
  obtain ⟨z, cl, Ar, r, H⟩ := F
  rw [← len32 z r] at kk
  exact A (X.arraylength hx (by rw [eT]; exact Ar.1) (State.isArrayOf_alike hZ.alike Ar.2.1) (g := g) hg hs hd _) kk
theorem Adv.stI (A : Adv p e below D) (X : Stand p l e R s m args below meth c T locs cells slots) (hx : p.tables.exec = Jvm.exec) (hZ : Z.Warmed39 s.vm) (eT : T.heap = h) (F : ArI Z h a .int n f) {j x : Int32} {k : Nat} (hk : j.toInt = k) (hkn : k < n) {g : JFrame} (hg : g.method = m) {rest : List Value} (hs : g.stack = .int x :: .int j :: .ref a :: rest) (hd : decode c.code g.pc = .ok (.iastore, 1))
    (kk : ∀ T' h', Stand p l e R s m args below meth c T' (locs ++ [⟨a, k⟩]) cells slots → T'.heap = h' → Wr h h' a k (.int x) → ArI Z h' a .int n (fun i => if i = k then x else f i) → D (T'.setTop { g with pc := g.pc + 1, stack := rest })) : D (T.setTop g) := by
  obtain ⟨cl, Ar, r, H⟩ := F.2
  obtain ⟨T', h', X', e', W, st⟩ := Jvm.RoadKit.stI X hx hZ eT Ar (j := j) (x := x) (inb hk hkn r) hg hs hd
  rw [to_nat hk] at X' W
  exact A (fun q => st _ q) (kk T' h' X' e' W (F.set W hkn))
theorem Adv.stB (A : Adv p e below D) (X : Stand p l e R s m args below meth c T locs cells slots) (hx : p.tables.exec = Jvm.exec) (hZ : Z.Warmed39 s.vm) (eT : T.heap = h) (F : ArI Z h a .byte n f) {j x : Int32} {k : Nat} (hk : j.toInt = k) (hkn : k < n) {g : JFrame} (hg : g.method = m) {rest : List Value} (hs : g.stack = .int x :: .int j :: .ref a :: rest) (hd : decode c.code g.pc = .ok (.bastore, 1))
    (kk : ∀ T' h', Stand p l e R s m args below meth c T' (locs ++ [⟨a, k⟩]) cells slots → T'.heap = h' → Wr h h' a k (.int x.toInt8.toInt32) → ArI Z h' a .byte n (fun i => if i = k then x.toInt8.toInt32 else f i) → D (T'.setTop { g with pc := g.pc + 1, stack := rest })) : D (T.setTop g) := by
  obtain ⟨cl, Ar, r, H⟩ := F.2
  obtain ⟨T', h', X', e', W, st⟩ := Jvm.RoadKit.stB X hx hZ eT Ar (j := j) (x := x) (inb hk hkn r) hg hs hd
  rw [to_nat hk] at X' W
  exact A (fun q => st _ q) (kk T' h' X' e' W (F.set W hkn))
theorem Adv.stJ (A : Adv p e below D) (X : Stand p l e R s m args below meth c T locs cells slots) (hx : p.tables.exec = Jvm.exec) (hZ : Z.Warmed39 s.vm) (eT : T.heap = h) (F : ArJ Z h a n fJ) {j : Int32} {x : Int64} {k : Nat} (hk : j.toInt = k) (hkn : k < n) {g : JFrame} (hg : g.method = m) {rest : List Value} (hs : g.stack = .long x :: .int j :: .ref a :: rest) (hd : decode c.code g.pc = .ok (.lastore, 1))
    (kk : ∀ T' h', Stand p l e R s m args below meth c T' (locs ++ [⟨a, k⟩]) cells slots → T'.heap = h' → Wr h h' a k (.long x) → ArJ Z h' a n (fun i => if i = k then x else fJ i) → D (T'.setTop { g with pc := g.pc + 1, stack := rest })) : D (T.setTop g) := by
  obtain ⟨cl, Ar, r, H⟩ := F.2
  obtain ⟨T', h', X', e', W, st⟩ := Jvm.RoadKit.stJ X hx hZ eT Ar (j := j) (x := x) (inb hk hkn r) hg hs hd
  rw [to_nat hk] at X' W
  exact A (fun q => st _ q) (kk T' h' X' e' W (F.set W hkn))
theorem Adv.newI (A : Adv p e below D) (X : Stand p l e R s m args below meth c T locs cells slots) (hx : p.tables.exec = Jvm.exec) (hZ : Z.Warmed39 s.vm) {aty : ArrayType} (w : (Cond.arrayClass (newarray.typeOf aty)).before a0 Z = true) (eT : T.heap = h) {z : Int32} (hz : z.toInt = n) (cap : Nat) (hcap : n ≤ cap) (hb : cap * 8 ≤ 536870912) (hdv : defaultValue (newarray.typeOf aty) = .int 0) {ad : String} (had : "[" ++ (newarray.typeOf aty).toString = ad) (hc : cells + 1 ≤ R.cells) (hl : slots + cap ≤ R.slots) {g : JFrame} (hg : g.method = m) {rest : List Value} (hs : g.stack = .int z :: rest) (hd : decode c.code g.pc = .ok (.newarray aty, 2))
    (kk : ∀ T' h' a, a = h.size → Stand p l e R s m args below meth c T' locs (cells + 1) (slots + cap) → T'.heap = h' → Ext h h' → ArI Z h' a (newarray.typeOf aty) n (fun _ => 0) → Exa Z h' a ad → D (T'.setTop { g with pc := g.pc + 2, stack := .ref a :: rest })) : D (T.setTop g) := by
  have q0 : ¬ z < 0 := by rw [Int32.lt_iff_toInt_lt, hz, show (0 : Int32).toInt = 0 from rfl]; omega
  obtain ⟨T', h', k, X', e', E, Ar, Ex, st⟩ := newPE X hx hZ w eT hg hd hs q0 (cap := cap) (by rw [to_nat hz]; exact hcap) hb hc hl had
  exact A (fun q => st _ q) (kk T' h' _ rfl X' e' E (ArI.mk Ar hz hdv) Ex)
theorem Adv.newJ (A : Adv p e below D) (X : Stand p l e R s m args below meth c T locs cells slots) (hx : p.tables.exec = Jvm.exec) (hZ : Z.Warmed39 s.vm) (w : (Cond.arrayClass .long).before a0 Z = true) (eT : T.heap = h) {z : Int32} (hz : z.toInt = n) (cap : Nat) (hcap : n ≤ cap) (hb : cap * 8 ≤ 536870912) (hc : cells + 1 ≤ R.cells) (hl : slots + cap ≤ R.slots) {g : JFrame} (hg : g.method = m) {rest : List Value} (hs : g.stack = .int z :: rest) (hd : decode c.code g.pc = .ok (.newarray .long, 2))
    (kk : ∀ T' h' a, a = h.size → Stand p l e R s m args below meth c T' locs (cells + 1) (slots + cap) → T'.heap = h' → Ext h h' → ArJ Z h' a n (fun _ => 0) → D (T'.setTop { g with pc := g.pc + 2, stack := .ref a :: rest })) : D (T.setTop g) := by
  have q0 : ¬ z < 0 := by rw [Int32.lt_iff_toInt_lt, hz, show (0 : Int32).toInt = 0 from rfl]; omega
  obtain ⟨T', h', k, X', e', E, Ar, st⟩   := newP (aty := .long) X hx hZ w eT hg hd hs q0 (cap := cap) (by rw [to_nat hz]; exact hcap) hb hc hl
  exact A (fun q => st _ q) (kk T' h' _ rfl X' e' E (ArJ.mk Ar hz))
theorem Adv.cloneI (A : Adv p e below D) (X : Stand p l e R s m args below meth c T locs cells slots) (hx : p.tables.exec = Jvm.exec) (hZ : Z.Warmed39 s.vm) {own ad : String} {index : Nat} (hown : s.vm.findClass own = some m.cls)
    (w1 : (Cond.methodLink own index ⟨ad, "clone", "()Ljava/lang/Object;"⟩).before a0 Z = true) (w2 : (Cond.sameMethod ad "java/lang/Object" "clone" "()Ljava/lang/Object;").before a0 Z = true) (w3 : (Cond.native ⟨"java/lang/Object", "clone", "()Ljava/lang/Object;"⟩).before a0 Z = true)
    (w4 : (Cond.instanceMethod ⟨"java/lang/Object", "clone", "()Ljava/lang/Object;"⟩).before a0 Z = true) (w5 : (Cond.selects ad ⟨ad, "clone", "()Ljava/lang/Object;"⟩ ⟨"java/lang/Object", "clone", "()Ljava/lang/Object;"⟩).before a0 Z = true) (w6 : (Cond.castable ad "java/lang/Cloneable").before a0 Z = true)
    (eT : T.heap = h) (F : ArI Z h a ty n f) (hfit : ∀ i, i < n → fits ty (.int (f i)) = true) (E : Exa Z h a ad) (W cap : Nat) (hcap : n ≤ cap) {g : JFrame} (hg : g.method = m) (hsz : g.locals.size = c.maxLocals) {rest : List Value} (hs : g.stack = .ref a :: rest) (hd : decode c.code g.pc = .ok (.invokevirtual index, 3))
    (hW : 2 * g.monitorRoom + (rest.map fun v => v.category).sum ≤ W) (hf : 1 ≤ R.frames) (hl : W + 14 ≤ R.locals) (hc : cells + 1 ≤ R.cells) (hsl : slots + cap ≤ R.slots)
    (kk : ∀ T' h' b, b = h.size → Stand p l e R s m args below meth c T' locs (cells + 1) (slots + cap) → T'.heap = h' → Ext h h' → ArI Z h' b ty n f → Exa Z h' b ad → D (T'.setTop { g with pc := g.pc + 3, stack := .ref b :: rest })) : D (T.setTop g) := by
  obtain ⟨z, cl, Ar, r, H⟩ := F
  have FC : FitC Z cl := fitC_of Ar fun i hi v hv => by rw [H i (by omega)] at hv; cases hv; exact hfit i (by omega)
  obtain ⟨T', h', X', e', Ex, Ar', E', st⟩ := cloneA X hx hZ hown w1 w2 w3 w4 w5 w6 eT Ar E FC hg hsz hs hd hf hW hl (by rw [r]; exact hcap) hc hsl
  exact A (fun q => st _ q) (kk T' h' _ rfl X' e' Ex ⟨z, _, Ar', r, H⟩ E')
theorem ofNat32 (hn : n < 2147483648) : (Int32.ofNat n).toInt = (n : Int) := Int32.toInt_ofNat_of_lt (by omega)
theorem getD_map (vs : Nat → Value) (d : Value) {i : Nat} (hi : i < n) : (((List.range n).map vs).getD i d) = vs i := by
  simp [List.getD, hi]
theorem ArI.arv (F : ArI Z h a ty n f) (hfit : ∀ i, i < n → fits ty (.int (f i)) = true) : ∃ k, Arv Z h a k ty (Int32.ofNat n) ((List.range n).map fun i => .int (f i)) (.int 0) := by
  obtain ⟨z, cl, Ar, r, H⟩ := F
  have e : (Int32.ofNat n).toNatClampNeg = n := to_nat (ofNat32 z)
  refine ⟨cl.cls, cl, Ar, rfl, by rw [r, e], ?_, fun i hi => ?_, fun i hi => ?_⟩
  · rw [Int32.lt_iff_toInt_lt, ofNat32 z, show (0 : Int32).toInt = 0 from rfl]; omega
  · rw [getD_map _ _ (by omega)]; exact H i (by omega)
  · rw [getD_map _ _ (by omega)]; exact hfit i (by omega)
def intOf : Value → Int32
  | .int x => x
  | _ => 0
theorem Arv.toI {k : ClassId} {vs : List Value} {dv : Value} (F : Arv Z h a k ty (Int32.ofNat n) vs dv) (hn : n < 2147483648) (ht : ty = .int ∨ ty = .boolean ∨ ty = .byte ∨ ty = .char ∨ ty = .short) : ArI Z h a ty n (fun i => intOf (vs.getD i dv)) ∧ ∀ i, i < n → fits ty (.int (intOf (vs.getD i dv))) = true := by
  obtain ⟨cl, Ar, -, S, -, H, G⟩ := F
  rw [to_nat (ofNat32 hn)] at S
  have q : ∀ i, i < n → vs.getD i dv = .int (intOf (vs.getD i dv)) := fun i hi => by
    obtain ⟨x, hx⟩ := fit_I (G i (by omega)) ht
    rw [hx]; rfl
  refine ⟨⟨hn, cl, Ar, S, fun i hi => ?_⟩, fun i hi => ?_⟩
  · rw [← q i hi]; exact H i (by omega)
  · rw [← q i hi]; exact G i (by omega)
theorem Adv.copyI (A : Adv p e below D) (X : Stand p l e R s m args below meth c T locs cells slots) (hx : p.tables.exec = Jvm.exec) (hZ : Z.Warmed39 s.vm) {own : String} {index : Nat} (hown : s.vm.findClass own = some m.cls)
    (w1 : (Cond.methodLink own index Jvm.Stand.acN).before a0 Z = true) (w2 : (Cond.native Jvm.Stand.acN).before a0 Z = true) (w3 : (Cond.static Jvm.Stand.acN).before a0 Z = true) (w4 : (Cond.initialized "java/lang/System").before a0 Z = true) (eT : T.heap = h)
    {f' : Nat → Int32} {n' : Nat} (F : ArI Z h a ty n f) (G : ArI Z h b ty n' f') (ff : ∀ i, i < n → fits ty (.int (f i)) = true) (fg : ∀ i, i < n' → fits ty (.int (f' i)) = true) (hty : ty = .int ∨ ty = .byte) {sp dp nn : Int32} (s1 : 0 ≤ sp.toInt) (s2 : 0 ≤ dp.toInt) (s3 : 0 ≤ nn.toInt) (s4 : sp.toInt + nn.toInt ≤ n) (s5 : dp.toInt + nn.toInt ≤ n')
    {n0 : Nat} (N : Fr n0 locs) (ge : n0 ≤ b) {g : JFrame} (hg : g.method = m) (hsz : g.locals.size = c.maxLocals) {rest : List Value} (hs : g.stack = .int nn :: .int dp :: .ref b :: .int sp :: .ref a :: rest) (hd : decode c.code g.pc = .ok (.invokestatic index, 3))
    (W : Nat) (hW : 2 * g.monitorRoom + (rest.map fun v => v.category).sum ≤ W) (hf : 1 ≤ R.frames) (hlo : W + (nativeFrameWords "java/lang/System" "arraycopy" 5 + 11) ≤ R.locals)
    (kk : ∀ T' h' L f'', Stand p l e R s m args below meth c T' L cells slots → T'.heap = h' → Fr n0 L → Keep h h' [b] → ArI Z h' b ty n' f'' → (∀ i, i < n' → fits ty (.int (f'' i)) = true) → D (T'.setTop { g with pc := g.pc + 3, stack := rest })) : D (T.setTop g) := by
  obtain ⟨k1, Av⟩ := F.arv ff
  obtain ⟨k2, Bv⟩ := G.arv fg
  have z0 : (0 : Int32).toInt = 0 := rfl
  have hn1 := F.1
  have hn2 := G.1
  have e1 := to_nat (ofNat32 hn1)
  have e2 := to_nat (ofNat32 hn2)
  obtain ⟨T', h', L, X', e', N', K, Cv, st⟩ := cpA X hx hZ hown w1 w2 w3 w4 eT Av Bv (us := _) (Or.inl ⟨rfl, by rcases hty with rfl | rfl <;> rfl⟩) (sp := sp) (dp := dp) (nn := nn)
    (by rw [Int32.lt_iff_toInt_lt]; omega) (by rw [Int32.lt_iff_toInt_lt]; omega) (by rw [Int32.lt_iff_toInt_lt]; omega) (by rw [e1]; simp only [Int32.toNatClampNeg]; omega) (by rw [e2]; simp only [Int32.toNatClampNeg]; omega) rfl (by rw [List.length_map, List.length_range]; simp only [Int32.toNatClampNeg]; omega) N ge hg hsz hs hd hf hW hlo
  obtain ⟨I1, I2⟩ := Arv.toI Cv hn2 (by rcases hty with rfl | rfl <;> simp)
  exact A (fun q => st _ q) (kk T' h' L _ X' e' N' K I1 I2)
end Arrays
end Jvm.JW
namespace Jvm.Pilot.@@N@@
open Jvm Jvm.ClassFile Sem Op Lib Jvm.Free Jvm.Stand Jvm.LawKit Jvm.RoadKit Bundle Jvm.JW Jvm.Pilot.@@N@@.Jvm.D
def own_hm (k : Int64) : Int32 := ((((k * (-7046029254386353131 : Int64)).toUInt64 >>> ((54 : Int32) &&& 0x3f).toInt64.toUInt64).toInt64).toInt32)
def own_h (k : Int64) : Nat := (own_hm k).toInt.toNat
theorem own_hlt (k : Int64) : (own_hm k).toInt = (own_h k : Int) ∧ own_h k < 1024 := by
  unfold own_h own_hm
  generalize k * (-7046029254386353131 : Int64) = y
  have a := c_lushr y 54 54 (by decide) (by decide)
  generalize ((y.toUInt64 >>> ((54 : Int32) &&& 0x3f).toInt64.toUInt64).toInt64) = w at *
  have b := c_l2i w
  have r := rng32 w.toInt32
  have h0 : (2 ^ 54 : Nat) = 18014398509481984 := by decide
  rw [h0] at a
  omega
def own_ds (a b : Nat) : Nat := (b + 1024 - a) % 1024
abbrev own_CM (K : Nat → Int64) (C : Nat → Int32) (M : Int64 → Int32) : Prop := (∀ i j, i < 1024 → j < 1024 → K i ≠ -1 → K i = K j → i = j) ∧ (∀ i j, i < 1024 → K i ≠ -1 → j < own_ds (own_h (K i)) i → K ((own_h (K i) + j) % 1024) ≠ -1) ∧ (∀ i, i < 1024 → K i ≠ -1 → C i = M (K i)) ∧ (∀ k, k ≠ -1 → (∀ i, i < 1024 → K i ≠ k) → M k = 0)
theorem own_CM.d {K : Nat → Int64} {C : Nat → Int32} {M : Int64 → Int32} (h : own_CM K C M) : ∀ i j, i < 1024 → j < 1024 → K i ≠ -1 → K i = K j → i = j := h.1
theorem own_CM.ch {K : Nat → Int64} {C : Nat → Int32} {M : Int64 → Int32} (h : own_CM K C M) : ∀ i j, i < 1024 → K i ≠ -1 → j < own_ds (own_h (K i)) i → K ((own_h (K i) + j) % 1024) ≠ -1 := h.2.1
theorem own_CM.c {K : Nat → Int64} {C : Nat → Int32} {M : Int64 → Int32} (h : own_CM K C M) : ∀ i, i < 1024 → K i ≠ -1 → C i = M (K i) := h.2.2.1
theorem own_CM.z {K : Nat → Int64} {C : Nat → Int32} {M : Int64 → Int32} (h : own_CM K C M) : ∀ k, k ≠ -1 → (∀ i, i < 1024 → K i ≠ k) → M k = 0 := h.2.2.2
def own_Occ (K : Nat → Int64) (n : Nat) : Prop := ∃ L : List Nat, L.length ≤ n ∧ ∀ i, i < 1024 → K i ≠ -1 → i ∈ L
theorem own_pig : ∀ (n : Nat) (L : List Nat), L.length ≤ n → ∃ j, j ≤ n ∧ j ∉ L
  | 0, L, h => ⟨0, Nat.le_refl _, by have : L = [] := List.length_eq_zero_iff.mp (by omega); rw [this]; simp⟩
  | n + 1, L, h => by
    by_cases q : n + 1 ∈ L
    · obtain ⟨j, hj, hn⟩ := own_pig n (L.erase (n + 1)) (by rw [List.length_erase_of_mem q]; omega)
      exact ⟨j, by omega, fun hm => hn ((List.mem_erase_of_ne (by omega)).mpr hm)⟩
    · exact ⟨n + 1, Nat.le_refl _, q⟩
theorem own_Occ.empty {K : Nat → Int64} {n : Nat} (h : own_Occ K n) (hn : n < 1024) : ∃ z, z < 1024 ∧ K z = -1 := by
  obtain ⟨L, hL, H⟩ := h
  obtain ⟨j, hj, hm⟩ := own_pig n L hL
  exact ⟨j, by omega, Decidable.byContradiction fun q => hm (H j (by omega) q)⟩
theorem own_Occ.add {K : Nat → Int64} {n : Nat} (h : own_Occ K n) (i : Nat) (k : Int64) : own_Occ (fun ix => if ix = i then k else K ix) (n + 1) := by
  obtain ⟨L, hL, H⟩ := h
  refine ⟨i :: L, by simp; omega, fun j hj hk => ?_⟩
  by_cases q : j = i
  · rw [q]; exact List.mem_cons_self
  · simp only [q, if_false] at hk; exact List.mem_cons_of_mem _ (H j hj hk)
theorem own_Occ.up {K : Nat → Int64} {n : Nat} (h : own_Occ K n) : own_Occ K (n + 1) := by
  obtain ⟨L, hL, H⟩ := h
  exact ⟨L, by omega, H⟩
theorem own_Occ.over {K : Nat → Int64} {n g : Nat} (h : own_Occ K n) (hg : g < 1024) (k : Int64) (hk : K g ≠ -1) : own_Occ (fun ix => if ix = g then k else K ix) n := by
  obtain ⟨L, hL, H⟩ := h
  refine ⟨L, hL, fun j hj hk' => ?_⟩
  by_cases q : j = g
  · rw [q]; exact H g hg hk
  · simp only [q, if_false] at hk'; exact H j hj hk'
/-- what find answers -/
def own_Fd (K : Nat → Int64) (k : Int64) (i : Nat) : Prop := i < 1024 ∧ (K i = -1 ∨ K i = k) ∧ ∀ j, j < own_ds (own_h k) i → K ((own_h k + j) % 1024) ≠ -1 ∧ K ((own_h k + j) % 1024) ≠ k
def own_Fi (K : Nat → Int64) (k : Int64) (i : Nat) : Prop := i < 1024 ∧ ∀ j, j < own_ds (own_h k) i → K ((own_h k + j) % 1024) ≠ -1 ∧ K ((own_h k + j) % 1024) ≠ k
theorem own_Fi0 (K : Nat → Int64) (k : Int64) : own_Fi K k (own_h k) := ⟨(own_hlt k).2, fun j hj => by have := (own_hlt k).2; unfold own_ds at hj; omega⟩
theorem own_Fis {K : Nat → Int64} {k : Int64} {i : Nat} (h : own_Fi K k i) (h1 : K i ≠ -1) (h2 : K i ≠ k) : own_Fi K k ((i + 1) % 1024) := by
  obtain ⟨hi, H⟩ := h
  have hk := (own_hlt k).2
  refine ⟨by omega, fun j hj => ?_⟩
  by_cases q : j < own_ds (own_h k) i
  · exact H j q
  · have e : (own_h k + j) % 1024 = i := by unfold own_ds at *; omega
    rw [e]; exact ⟨h1, h2⟩
theorem own_Fie {K : Nat → Int64} {k : Int64} {i : Nat} (h : own_Fi K k i) (h1 : K i = -1 ∨ K i = k) : own_Fd K k i := ⟨h.1, h1, h.2⟩
theorem own_dec {i z : Nat} (hi : i < 1024) (hz : z < 1024) (hne : i ≠ z) : own_ds ((i + 1) % 1024) z < own_ds i z := by unfold own_ds; omega
theorem own_abs {K : Nat → Int64} {C : Nat → Int32} {M : Int64 → Int32} (h : own_CM K C M) {k : Int64} {i : Nat} (f : own_Fd K k i) (hk : k ≠ -1) (h1 : K i = -1) : ∀ i', i' < 1024 → K i' ≠ k := by
  intro i' hi' e
  obtain ⟨hi, -, H⟩ := f
  have hh := (own_hlt k).2
  by_cases q : own_ds (own_h k) i' < own_ds (own_h k) i
  · have := (H _ q).2
    rw [show (own_h k + own_ds (own_h k) i') % 1024 = i' by unfold own_ds; omega] at this
    exact this e
  · by_cases q2 : own_ds (own_h k) i < own_ds (own_h k) i'
    · have := h.ch i' (own_ds (own_h k) i) hi' (by rw [e]; exact hk) (by rw [e]; exact q2)
      rw [e, show (own_h k + own_ds (own_h k) i) % 1024 = i by unfold own_ds; omega] at this
      exact this h1
    · have : i' = i := by unfold own_ds at *; omega
      rw [this, h1] at e
      exact hk e.symm
theorem own_get {K : Nat → Int64} {C : Nat → Int32} {M : Int64 → Int32} (h : own_CM K C M) {k : Int64} {i : Nat} (f : own_Fd K k i) (hk : k ≠ -1) : (if K i = -1 then 0 else C i) = M k := by
  by_cases q : K i = -1
  · rw [if_pos q]; exact (h.z k hk (own_abs h f hk q)).symm
  · rw [if_neg q, h.c i f.1 q, f.2.1.resolve_left q]
def own_up (M : Int64 → Int32) (k : Int64) (v : Int32) : Int64 → Int32 := fun q => if q = k then v else M q
theorem own_new {K : Nat → Int64} {C : Nat → Int32} {M : Int64 → Int32} (h : own_CM K C M) {k : Int64} {i : Nat} (f : own_Fd K k i) (hk : k ≠ -1) (h1 : K i = -1) {C' : Nat → Int32} (hC : ∀ j, j ≠ i → C' j = C j) (hCi : C' i = 1) : own_CM (fun ix => if ix = i then k else K ix) C' (own_up M k (M k + 1)) := by
  have ab := own_abs h f hk h1
  have mz := h.z k hk ab
  have sup : ∀ j, K j ≠ -1 → (if j = i then k else K j) ≠ -1 := fun j hj => by split; exact hk; exact hj
  refine ⟨fun a b ha hb h2 h3 => ?_, fun a j ha h2 hj => ?_, fun a ha h2 => ?_, fun q hq hn => ?_⟩
  · by_cases qa : a = i <;> by_cases qb : b = i
    · omega
    · simp only [qa, qb, if_true, if_false] at h3; exact absurd h3.symm (ab b hb)
    · simp only [qa, qb, if_true, if_false] at h3; exact absurd h3 (ab a ha)
    · simp only [qa, qb, if_false] at h2 h3; exact h.d a b ha hb h2 h3
  · by_cases qa : a = i
    · simp only [qa, if_true] at hj ⊢
      exact sup _ (f.2.2 j hj).1
    · simp only [qa, if_false] at hj h2 ⊢
      exact sup _ (h.ch a j ha h2 hj)
  · by_cases qa : a = i
    · simp only [qa, if_true, own_up, hCi, mz]; rfl
    · simp only [qa, if_false] at h2 ⊢
      rw [hC a qa, h.c a ha h2]
      simp only [own_up, ab a ha, if_false]
  · have hne : q ≠ k := fun e => hn i f.1 (by simp [e])
    simp only [own_up, hne, if_false]
    refine h.z q hq fun a ha e => ?_
    by_cases qa : a = i
    · rw [qa, h1] at e; exact hq e.symm
    · exact hn a ha (by simp only [qa, if_false]; exact e)
theorem own_chg {K : Nat → Int64} {C : Nat → Int32} {M : Int64 → Int32} (h : own_CM K C M) {k : Int64} {i : Nat} (f : own_Fd K k i) (hk : k ≠ -1) (h1 : K i ≠ -1) {v : Int32} : own_CM K (fun ix => if ix = i then v else C ix) (own_up M k v) := by
  have e := f.2.1.resolve_left h1
  refine ⟨h.d, h.ch, fun a ha h2 => ?_, fun q hq hn => ?_⟩
  · by_cases qa : a = i
    · simp only [qa, if_true, own_up, e]
    · have : K a ≠ k := fun q => qa (h.d a i ha f.1 h2 (q.trans e.symm))
      simp only [qa, if_false, own_up, this]
      exact h.c a ha h2
  · have hne : q ≠ k := fun e' => hn i f.1 (e.trans e'.symm)
    simp only [own_up, hne, if_false]
    exact h.z q hq hn
abbrev own_DI (K : Nat → Int64) (C : Nat → Int32) (M : Int64 → Int32) (g x zz : Nat) : Prop := (g < 1024) ∧ (x < 1024) ∧ (zz < 1024) ∧ (K zz = -1) ∧ (K g ≠ -1) ∧ (1 ≤ own_ds g x) ∧ (own_ds g x ≤ own_ds g zz) ∧ (∀ i j, i < 1024 → j < 1024 → i ≠ g → j ≠ g → K i ≠ -1 → K i = K j → i = j) ∧ (∀ i j, i < 1024 → i ≠ g → K i ≠ -1 → j < own_ds (own_h (K i)) i → K ((own_h (K i) + j) % 1024) ≠ -1 ∧ ((own_h (K i) + j) % 1024 = g → own_ds g x ≤ own_ds g i)) ∧ (∀ i, i < 1024 → i ≠ g → K i ≠ -1 → C i = M (K i)) ∧ (∀ k, k ≠ -1 → (∀ i, i < 1024 → i ≠ g → K i ≠ k) → M k = 0)
theorem own_DI.hg {K : Nat → Int64} {C : Nat → Int32} {M : Int64 → Int32} {g x zz : Nat} (h : own_DI K C M g x zz) : g < 1024 := h.1
theorem own_DI.hx {K : Nat → Int64} {C : Nat → Int32} {M : Int64 → Int32} {g x zz : Nat} (h : own_DI K C M g x zz) : x < 1024 := h.2.1
theorem own_DI.hz {K : Nat → Int64} {C : Nat → Int32} {M : Int64 → Int32} {g x zz : Nat} (h : own_DI K C M g x zz) : zz < 1024 := h.2.2.1
theorem own_DI.kz {K : Nat → Int64} {C : Nat → Int32} {M : Int64 → Int32} {g x zz : Nat} (h : own_DI K C M g x zz) : K zz = -1 := h.2.2.2.1
theorem own_DI.kg {K : Nat → Int64} {C : Nat → Int32} {M : Int64 → Int32} {g x zz : Nat} (h : own_DI K C M g x zz) : K g ≠ -1 := h.2.2.2.2.1
theorem own_DI.o1 {K : Nat → Int64} {C : Nat → Int32} {M : Int64 → Int32} {g x zz : Nat} (h : own_DI K C M g x zz) : 1 ≤ own_ds g x := h.2.2.2.2.2.1
theorem own_DI.o2 {K : Nat → Int64} {C : Nat → Int32} {M : Int64 → Int32} {g x zz : Nat} (h : own_DI K C M g x zz) : own_ds g x ≤ own_ds g zz := h.2.2.2.2.2.2.1
theorem own_DI.d {K : Nat → Int64} {C : Nat → Int32} {M : Int64 → Int32} {g x zz : Nat} (h : own_DI K C M g x zz) : ∀ i j, i < 1024 → j < 1024 → i ≠ g → j ≠ g → K i ≠ -1 → K i = K j → i = j := h.2.2.2.2.2.2.2.1
theorem own_DI.ch {K : Nat → Int64} {C : Nat → Int32} {M : Int64 → Int32} {g x zz : Nat} (h : own_DI K C M g x zz) : ∀ i j, i < 1024 → i ≠ g → K i ≠ -1 → j < own_ds (own_h (K i)) i → K ((own_h (K i) + j) % 1024) ≠ -1 ∧ ((own_h (K i) + j) % 1024 = g → own_ds g x ≤ own_ds g i) := h.2.2.2.2.2.2.2.2.1
theorem own_DI.c {K : Nat → Int64} {C : Nat → Int32} {M : Int64 → Int32} {g x zz : Nat} (h : own_DI K C M g x zz) : ∀ i, i < 1024 → i ≠ g → K i ≠ -1 → C i = M (K i) := h.2.2.2.2.2.2.2.2.2.1
theorem own_DI.z {K : Nat → Int64} {C : Nat → Int32} {M : Int64 → Int32} {g x zz : Nat} (h : own_DI K C M g x zz) : ∀ k, k ≠ -1 → (∀ i, i < 1024 → i ≠ g → K i ≠ k) → M k = 0 := h.2.2.2.2.2.2.2.2.2.2
theorem own_DI0 {K : Nat → Int64} {C : Nat → Int32} {M : Int64 → Int32} (h : own_CM K C M) {k : Int64} {i : Nat} (f : own_Fd K k i) (hk : k ≠ -1) (h1 : K i ≠ -1) {n : Nat} (ho : own_Occ K n) (hn : n < 1024) {C' : Nat → Int32} (hC : ∀ j, j ≠ i → C' j = C j) : ∃ zz, own_DI K C' (own_up M k 0) i ((i + 1) % 1024) zz := by
  obtain ⟨zz, hz, kz⟩ := ho.empty hn
  have e := f.2.1.resolve_left h1
  have hi := f.1
  have nz : zz ≠ i := fun q => h1 (q ▸ kz)
  refine ⟨zz, hi, by omega, hz, kz, h1, by unfold own_ds; omega, by unfold own_ds; omega, fun a b ha hb _ _ => h.d a b ha hb, fun a j ha hne h2 hj => ⟨h.ch a j ha h2 hj, fun _ => by unfold own_ds; omega⟩, fun a ha hne h2 => ?_, fun q hq hn => ?_⟩
  · have : K a ≠ k := fun q => hne (h.d a i ha f.1 h2 (q.trans e.symm))
    simp only [own_up, this, if_false]
    rw [hC a hne]; exact h.c a ha h2
  · by_cases q2 : q = k
    · simp only [own_up, q2, if_true]
    · simp only [own_up, q2, if_false]
      refine h.z q hq fun a ha e' => ?_
      by_cases qa : a = i
      · rw [qa, e] at e'; exact q2 e'.symm
      · exact hn a ha qa e'
theorem own_DIe {K : Nat → Int64} {C : Nat → Int32} {M : Int64 → Int32} {g x zz : Nat} (h : own_DI K C M g x zz) (h1 : K x = -1) : own_CM (fun ix => if ix = g then (-1 : Int64) else K ix) C M := by
  have hg := h.hg
  have hx := h.hx
  have o1 := h.o1
  refine ⟨fun a b ha hb h2 h3 => ?_, fun a j ha h2 hj => ?_, fun a ha h2 => ?_, fun q hq hn => ?_⟩
  · by_cases qa : a = g <;> by_cases qb : b = g
    · omega
    · simp [qa] at h2
    · simp only [qa, qb, if_true, if_false] at h2 h3; exact absurd h3 h2
    · simp only [qa, qb, if_false] at h2 h3; exact h.d a b ha hb qa qb h2 h3
  · by_cases qa : a = g
    · simp [qa] at h2
    · simp only [qa, if_false] at hj h2 ⊢
      have hh := (own_hlt (K a)).2
      have c1 := h.ch a j ha qa h2 hj
      by_cases qs : (own_h (K a) + j) % 1024 = g
      · have c2 := c1.2 qs
        have nax : a ≠ x := fun q => h2 (q ▸ h1)
        have c3 := h.ch a (j + own_ds g x) ha qa h2 (by unfold own_ds at *; omega)
        rw [show (own_h (K a) + (j + own_ds g x)) % 1024 = x by unfold own_ds at *; omega] at c3
        exact absurd h1 c3.1
      · simp only [qs, if_false]; exact c1.1
  · by_cases qa : a = g
    · simp [qa] at h2
    · simp only [qa, if_false] at h2 ⊢
      exact h.c a ha qa h2
  · exact h.z q hq fun a ha hne e => hn a ha (by simp only [hne, if_false]; exact e)
theorem own_DIs {K : Nat → Int64} {C : Nat → Int32} {M : Int64 → Int32} {g x zz : Nat} (h : own_DI K C M g x zz) (h1 : K x ≠ -1) (hm : own_ds (own_h (K x)) x < own_ds g x) : own_DI K C M g ((x + 1) % 1024) zz := by
  have hg := h.hg
  have hx := h.hx
  have hz := h.hz
  have o1 := h.o1
  have o2 := h.o2
  have nxz : x ≠ zz := fun q => h1 (q ▸ h.kz)
  refine ⟨hg, by omega, hz, h.kz, h.kg, by unfold own_ds at *; omega, by unfold own_ds at *; omega, h.d, fun a j ha hne h2 hj => ⟨(h.ch a j ha hne h2 hj).1, fun e => ?_⟩, h.c, h.z⟩
  have c1 := (h.ch a j ha hne h2 hj).2 e
  have hh := (own_hlt (K a)).2
  by_cases q : a = x
  · subst q
    exfalso
    unfold own_ds at *; omega
  · unfold own_ds at *; omega
theorem own_DIm {K : Nat → Int64} {C : Nat → Int32} {M : Int64 → Int32} {g x zz : Nat} (h : own_DI K C M g x zz) (h1 : K x ≠ -1) (hm : own_ds g x ≤ own_ds (own_h (K x)) x) : own_DI (fun ix => if ix = g then K x else K ix) (fun ix => if ix = g then C x else C ix) M x ((x + 1) % 1024) zz := by
  have hg := h.hg
  have hx := h.hx
  have hz := h.hz
  have o1 := h.o1
  have o2 := h.o2
  have nxz : x ≠ zz := fun q => h1 (q ▸ h.kz)
  have nxg : x ≠ g := fun q => by unfold own_ds at *; omega
  have nzg : zz ≠ g := fun q => by unfold own_ds at *; omega
  have hhx := (own_hlt (K x)).2
  have sup : ∀ j, K j ≠ -1 → (if j = g then K x else K j) ≠ -1 := fun j hj => by split; exact h1; exact hj
  refine ⟨hx, by omega, hz, by simp only [nzg, if_false]; exact h.kz, by simp only [nxg, if_false]; exact h1, by unfold own_ds at *; omega, by unfold own_ds at *; omega, fun a b ha hb hax hbx h2 h3 => ?_, fun a j ha hne h2 hj => ?_, fun a ha hne h2 => ?_, fun q hq hn => ?_⟩
  · by_cases qa : a = g <;> by_cases qb : b = g
    · omega
    · simp only [qa, qb, if_true, if_false] at h3; exact absurd (h.d x b hx hb nxg qb h1 h3).symm hbx
    · simp only [qa, qb, if_true, if_false] at h2 h3; exact absurd (h.d a x ha hx qa nxg h2 h3) hax
    · simp only [qa, qb, if_false] at h2 h3; exact h.d a b ha hb qa qb h2 h3
  · refine ⟨?_, fun _ => by unfold own_ds at *; omega⟩
    by_cases qa : a = g
    · simp only [qa, if_true] at hj ⊢
      exact sup _ (h.ch x j hx nxg h1 (by unfold own_ds at *; omega)).1
    · simp only [qa, if_false] at hj h2 ⊢
      exact sup _ (h.ch a j ha qa h2 hj).1
  · by_cases qa : a = g
    · simp only [qa, if_true]; exact h.c x hx nxg h1
    · simp only [qa, if_false] at h2 ⊢; exact h.c a ha qa h2
  · refine h.z q hq fun a ha hne e => ?_
    by_cases qa : a = x
    · exact hn g hg (fun q => nxg q.symm) (by simp only [if_true]; rw [← qa]; exact e)
    · exact hn a ha qa (by simp only [hne, if_false]; exact e)
theorem own_CM0 : own_CM (fun _ => (-1 : Int64)) (fun _ => 0) (fun _ => 0) := ⟨fun _ _ _ _ h => absurd rfl h, fun _ _ _ h => absurd rfl h, fun _ _ h => absurd rfl h, fun _ _ _ => rfl⟩
theorem own_Occ0 : own_Occ (fun _ => (-1 : Int64)) 0 := ⟨[], Nat.le_refl _, fun _ _ h => absurd rfl h⟩
theorem own_nx {s : Int32} {i : Nat} (h : s.toInt = i) (hi : i < 1024) : ((s + (1 : Int32)) &&& (1023 : Int32)).toInt = (((i + 1) % 1024 : Nat) : Int) := by
  have a := ixadd h (show (1 : Int32).toInt = ((1 : Nat) : Int) by decide) (by omega)
  have m := c_mask (s + 1) 1023 10 (by decide) (by decide)
  have e : (2 ^ 10 : Nat) = 1024 := rfl
  rw [e, a] at m
  rw [m]; omega
theorem own_sub {s t : Int32} {i j : Nat} (h : s.toInt = i) (ht : t.toInt = j) (hi : i < 1024) (hj : j < 1024) : ((s - t) &&& (1023 : Int32)).toInt = (own_ds j i : Int) := by
  have a := c_isub s t
  have r := rng32 (s - t)
  have m := c_mask (s - t) 1023 10 (by decide) (by decide)
  have e : (2 ^ 10 : Nat) = 1024 := rfl
  rw [e] at m
  rw [m]; unfold own_ds; omega
theorem own_lw {a b : Int64} : (lcmpW a b) = (0 : Int32) ↔ a = b := lw_eq a b
theorem own_nn (x : Int64) : (x &&& (9223372036854775807 : Int64)) ≠ -1 := by
  have := c_maskL x 9223372036854775807 63 (by decide) (by decide)
  intro q
  rw [q, show (-1 : Int64).toInt = -1 from rfl] at this
  omega
def own_Sz (s : Int32) (n : Nat) : Prop := -(n : Int) ≤ s.toInt ∧ s.toInt ≤ n
theorem own_Sz.up {s : Int32} {n : Nat} (h : own_Sz s n) : own_Sz s (n + 1) := by unfold own_Sz at *; omega
theorem own_Sz.inc {s : Int32} {n : Nat} (h : own_Sz s n) (hn : n < 100) : own_Sz (s + (1 : Int32)) (n + 1) := by
  have a := c_iadd s 1
  have r := rng32 (s + 1)
  have e : (1 : Int32).toInt = 1 := rfl
  unfold own_Sz at *; omega
theorem own_Sz.dec {s : Int32} {n : Nat} (h : own_Sz s n) (hn : n < 100) : own_Sz (s - (1 : Int32)) (n + 1) := by
  have a := c_isub s 1
  have r := rng32 (s - 1)
  have e : (1 : Int32).toInt = 1 := rfl
  unfold own_Sz at *; omega
theorem own_Sz.small {s : Int32} {n : Nat} (h : own_Sz s n) (hn : n < 102) : ¬ (1024 : Int32) < ((2 : Int32) * s) := by
  have e : (2 : Int32) * s = s + s := by rw [show (2 : Int32) = 1 + 1 by decide, Int32.add_mul, Int32.one_mul]
  have a := c_iadd s s
  have r := rng32 (s + s)
  have e2 : (1024 : Int32).toInt = 1024 := rfl
  rw [Int32.lt_iff_toInt_lt, e, e2]
  unfold own_Sz at *; omega
theorem own_Sz0 : own_Sz 0 0 := ⟨by decide, by decide⟩
theorem own_val {K : Nat → Int64} {C : Nat → Int32} {M : Int64 → Int32} (h : own_CM K C M) {k : Int64} {i : Nat} (f : own_Fd K k i) (h1 : K i ≠ -1) : C i = M k := by rw [h.c i f.1 h1, f.2.1.resolve_left h1]
theorem own_chgv {K : Nat → Int64} {C : Nat → Int32} {M : Int64 → Int32} (h : own_CM K C M) {k : Int64} {i : Nat} (f : own_Fd K k i) (hk : k ≠ -1) (h1 : K i ≠ -1) {v w : Int32} (hv : v = w) : own_CM K (fun ix => if ix = i then v else C ix) (own_up M k w) := hv ▸ own_chg h f hk h1
theorem own_pres {K : Nat → Int64} {C : Nat → Int32} {M : Int64 → Int32} (h : own_CM K C M) {k : Int64} {i : Nat} (f : own_Fd K k i) (hk : k ≠ -1) (hm : M k ≠ 0) : K i ≠ -1 := fun q => hm (h.z k hk (own_abs h f hk q))
theorem own_mv {s t u : Int32} {i j k : Nat} (h : s.toInt = i) (ht : t.toInt = j) (hu : u.toInt = k) (hi : i < 1024) (hj : j < 1024) (hk : k < 1024) : (((s - t) &&& (1023 : Int32)) < ((s - u) &&& (1023 : Int32))) ↔ own_ds j i < own_ds k i := by
  rw [Int32.lt_iff_toInt_lt, own_sub h ht hi hj, own_sub h hu hi hk]; omega
theorem own_lt24 {i : Int32} {ii : Nat} (h : i < (1024 : Int32)) (hi : i.toInt = ii) : ii < 1024 := by rw [Int32.lt_iff_toInt_lt, show (1024 : Int32).toInt = 1024 from rfl] at h; omega
theorem own_ge24 {i : Int32} {ii : Nat} (h : ¬ i < (1024 : Int32)) (hi : i.toInt = ii) : 1024 ≤ ii := by rw [Int32.lt_iff_toInt_lt, show (1024 : Int32).toInt = 1024 from rfl] at h; omega
theorem own_dz {K : Nat → Int64} {C : Nat → Int32} {M : Int64 → Int32} {k : Int64} {x : Int32} (hcv : x = M k) (h : x - (1 : Int32) = 0) (hc : own_CM K C (own_up M k 0)) : own_CM K C (own_up M k (M k - 1)) := by rw [← hcv, h]; exact hc
theorem d7_0 : decode jdk_33_method_47_code 0 = .ok (.iload_n 0, 1) := by decide +kernel
theorem d7_1 : decode jdk_33_method_47_code 1 = .ok (.ifCond .gt 14, 3) := by decide +kernel
theorem d7_4 : decode jdk_33_method_47_code 4 = .ok (.iload_n 0, 1) := by decide +kernel
theorem d7_5 : decode jdk_33_method_47_code 5 = .ok (.ifCond .ne 8, 3) := by decide +kernel
theorem d7_8 : decode jdk_33_method_47_code 8 = .ok (.bipush 32, 2) := by decide +kernel
theorem d7_10 : decode jdk_33_method_47_code 10 = .ok (.goto 4, 3) := by decide +kernel
theorem d7_13 : decode jdk_33_method_47_code 13 = .ok (.iconst 0, 1) := by decide +kernel
theorem d7_14 : decode jdk_33_method_47_code 14 = .ok (.ireturn, 1) := by decide +kernel
theorem d7_15 : decode jdk_33_method_47_code 15 = .ok (.bipush 31, 2) := by decide +kernel
theorem d7_17 : decode jdk_33_method_47_code 17 = .ok (.istore_n 1, 1) := by decide +kernel
theorem d7_18 : decode jdk_33_method_47_code 18 = .ok (.iload_n 0, 1) := by decide +kernel
theorem d7_19 : decode jdk_33_method_47_code 19 = .ok (.ldc_w 264, 3) := by decide +kernel
theorem d7_22 : decode jdk_33_method_47_code 22 = .ok (.if_icmp .lt 11, 3) := by decide +kernel
theorem d7_25 : decode jdk_33_method_47_code 25 = .ok (.iinc 1 (-16), 3) := by decide +kernel
theorem d7_28 : decode jdk_33_method_47_code 28 = .ok (.iload_n 0, 1) := by decide +kernel
theorem d7_29 : decode jdk_33_method_47_code 29 = .ok (.bipush 16, 2) := by decide +kernel
theorem d7_31 : decode jdk_33_method_47_code 31 = .ok (.iushr, 1) := by decide +kernel
theorem d7_32 : decode jdk_33_method_47_code 32 = .ok (.istore_n 0, 1) := by decide +kernel
theorem d7_33 : decode jdk_33_method_47_code 33 = .ok (.iload_n 0, 1) := by decide +kernel
theorem d7_34 : decode jdk_33_method_47_code 34 = .ok (.sipush 256, 3) := by decide +kernel
theorem d7_37 : decode jdk_33_method_47_code 37 = .ok (.if_icmp .lt 11, 3) := by decide +kernel
theorem d7_40 : decode jdk_33_method_47_code 40 = .ok (.iinc 1 (-8), 3) := by decide +kernel
theorem d7_43 : decode jdk_33_method_47_code 43 = .ok (.iload_n 0, 1) := by decide +kernel
theorem d7_44 : decode jdk_33_method_47_code 44 = .ok (.bipush 8, 2) := by decide +kernel
theorem d7_46 : decode jdk_33_method_47_code 46 = .ok (.iushr, 1) := by decide +kernel
theorem d7_47 : decode jdk_33_method_47_code 47 = .ok (.istore_n 0, 1) := by decide +kernel
theorem d7_48 : decode jdk_33_method_47_code 48 = .ok (.iload_n 0, 1) := by decide +kernel
theorem d7_49 : decode jdk_33_method_47_code 49 = .ok (.bipush 16, 2) := by decide +kernel
theorem d7_51 : decode jdk_33_method_47_code 51 = .ok (.if_icmp .lt 10, 3) := by decide +kernel
theorem d7_54 : decode jdk_33_method_47_code 54 = .ok (.iinc 1 (-4), 3) := by decide +kernel
theorem d7_57 : decode jdk_33_method_47_code 57 = .ok (.iload_n 0, 1) := by decide +kernel
theorem d7_58 : decode jdk_33_method_47_code 58 = .ok (.iconst 4, 1) := by decide +kernel
theorem d7_59 : decode jdk_33_method_47_code 59 = .ok (.iushr, 1) := by decide +kernel
theorem d7_60 : decode jdk_33_method_47_code 60 = .ok (.istore_n 0, 1) := by decide +kernel
theorem d7_61 : decode jdk_33_method_47_code 61 = .ok (.iload_n 0, 1) := by decide +kernel
theorem d7_62 : decode jdk_33_method_47_code 62 = .ok (.iconst 4, 1) := by decide +kernel
theorem d7_63 : decode jdk_33_method_47_code 63 = .ok (.if_icmp .lt 10, 3) := by decide +kernel
theorem d7_66 : decode jdk_33_method_47_code 66 = .ok (.iinc 1 (-2), 3) := by decide +kernel
theorem d7_69 : decode jdk_33_method_47_code 69 = .ok (.iload_n 0, 1) := by decide +kernel
theorem d7_70 : decode jdk_33_method_47_code 70 = .ok (.iconst 2, 1) := by decide +kernel
theorem d7_71 : decode jdk_33_method_47_code 71 = .ok (.iushr, 1) := by decide +kernel
theorem d7_72 : decode jdk_33_method_47_code 72 = .ok (.istore_n 0, 1) := by decide +kernel
theorem d7_73 : decode jdk_33_method_47_code 73 = .ok (.iload_n 1, 1) := by decide +kernel
theorem d7_74 : decode jdk_33_method_47_code 74 = .ok (.iload_n 0, 1) := by decide +kernel
theorem d7_75 : decode jdk_33_method_47_code 75 = .ok (.iconst 1, 1) := by decide +kernel
theorem d7_76 : decode jdk_33_method_47_code 76 = .ok (.iushr, 1) := by decide +kernel
theorem d7_77 : decode jdk_33_method_47_code 77 = .ok (.isub, 1) := by decide +kernel
theorem d7_78 : decode jdk_33_method_47_code 78 = .ok (.ireturn, 1) := by decide +kernel
theorem pn7 : plainFor (⟨"java/lang/Integer", "numberOfLeadingZeros", "(I)I"⟩ : MethodName) = true := by decide +kernel
theorem ef7 (p1 : Int32) (m : MethodId) : entryFrame m #[(.int p1)] 2 = mkF m 0 #[.val (.int p1), .unset] [] := by first | (simp [entryFrame, mkF, argsToLocals, Value.category]; done) | rfl
def f7 (p1 : Int32) : Int32 := if (0 : Int32) < p1 then (let v33_0 := (if p1 < (65536 : Int32) then p1 else ((p1.toUInt32 >>> ((16 : Int32) &&& 31).toUInt32).toInt32)); let v33_1 := (if p1 < (65536 : Int32) then (31 : Int32) else (15 : Int32)); let v48_0 := (if v33_0 < (256 : Int32) then v33_0 else ((v33_0.toUInt32 >>> ((8 : Int32) &&& 31).toUInt32).toInt32)); let v48_1 := (if v33_0 < (256 : Int32) then v33_1 else (v33_1 + (-8 : Int32))); let v61_0 := (if v48_0 < (16 : Int32) then v48_0 else ((v48_0.toUInt32 >>> ((4 : Int32) &&& 31).toUInt32).toInt32)); let v61_1 := (if v48_0 < (16 : Int32) then v48_1 else (v48_1 + (-4 : Int32))); let v73_0 := (if v61_0 < (4 : Int32) then v61_0 else ((v61_0.toUInt32 >>> ((2 : Int32) &&& 31).toUInt32).toInt32)); let v73_1 := (if v61_0 < (4 : Int32) then v61_1 else (v61_1 + (-2 : Int32))); (v73_1 - ((v73_0.toUInt32 >>> ((1 : Int32) &&& 31).toUInt32).toInt32))) else (if p1 = (0 : Int32) then ((32 : Int32)) else ((0 : Int32)))
set_option maxRecDepth 65536 in
set_option maxHeartbeats 40000000 in
theorem rm7 (l : Launch) (Z : State) (a0 : Array Value) (hw : ∀ d ∈ tables_1, d.before a0 Z = true) (ws : List Jvm.Cond) (p1 : Int32) (h0 : Heap) (n0 : Nat) :
    JMet l Z (⟨"java/lang/Integer", "numberOfLeadingZeros", "(I)I"⟩ : MethodName) jdk_33_method_47_code 2 (some .int) ws ({ frames := 0, cells := 0, slots := 0, locals := 0 } : Room) #[(.int p1)] h0 (QP (.int (f7 p1)) h0 n0) := by
  refine Jvm.JW.body #[.val (.int p1), .unset] pn7 (ef7 p1) ?_
  intro p e s m below meth c T0 D A F X0 hx hZ hby hml hown hnm hrt hlk e0
  refine A (XS.iloadN X0.here hx rfl (hb hby d7_0) rfl) ?_
  show D (T0.setTop (mkF m 1 #[.val (.int p1), .unset] [(.int p1)]))
  by_cases c1_1 : (0 : Int32) < p1
  · refine A (XS.ifYes X0.here hx rfl (pc0 := 1) (pc' := 15) rfl (hb hby d7_1) rfl ((if0 _ _).trans (tlt c1_1).2.2.1) (by decide) (by decide)) ?_
    show D (T0.setTop (mkF m 15 #[.val (.int p1), .unset] []))
    refine A (XS.bipush X0.here hx rfl (hb hby d7_15)) ?_
    show D (T0.setTop (mkF m 17 #[.val (.int p1), .unset] [(.int (31 : Int32))]))
    refine A (XS.istoreN X0.here hx rfl (hb hby d7_17) rfl (l' := #[.val (.int p1), .val (.int (31 : Int32))]) rfl) ?_
    show D (T0.setTop (mkF m 18 #[.val (.int p1), .val (.int (31 : Int32))] []))
    refine A (XS.iloadN X0.here hx rfl (hb hby d7_18) rfl) ?_
    show D (T0.setTop (mkF m 19 #[.val (.int p1), .val (.int (31 : Int32))] [(.int p1)]))
    refine A (X0.ldcwInt hx hown (mvT hZ (hw _ (List.mem_of_getElem? (i := 39) rfl))) (g := (mkF m 19 #[.val (.int p1), .val (.int (31 : Int32))] [(.int p1)])) rfl (hb hby d7_19) _) ?_
    show D (T0.setTop (mkF m 22 #[.val (.int p1), .val (.int (31 : Int32))] [(.int (65536 : Int32)), (.int p1)]))
    suffices Km33_2 : ∀ (v33_0 : Int32) (v33_1 : Int32), v33_0 = (if p1 < (65536 : Int32) then p1 else ((p1.toUInt32 >>> ((16 : Int32) &&& 31).toUInt32).toInt32)) → v33_1 = (if p1 < (65536 : Int32) then (31 : Int32) else (15 : Int32)) → D (T0.setTop (mkF m 33 #[.val (.int v33_0), .val (.int v33_1)] [])) by
      by_cases c22_1 : p1 < (65536 : Int32)
      · refine A (XS.icmpYes X0.here hx rfl (pc0 := 22) (pc' := 33) rfl (hb hby d7_22) rfl (tlt c22_1).1 (by decide) (by decide)) ?_
        show D (T0.setTop (mkF m 33 #[.val (.int p1), .val (.int (31 : Int32))] []))
        exact Km33_2 _ _ ((if_pos c22_1)).symm ((if_pos c22_1)).symm
      · refine A (XS.icmpNo X0.here hx rfl (hb hby d7_22) rfl (flt c22_1).1) ?_
        show D (T0.setTop (mkF m 25 #[.val (.int p1), .val (.int (31 : Int32))] []))
        refine A (XS.iinc X0.here hx rfl (hb hby d7_25) rfl (l' := #[.val (.int p1), .val (.int ((31 : Int32) + (-16 : Int32)))]) rfl) ?_
        show D (T0.setTop (mkF m 28 #[.val (.int p1), .val (.int ((31 : Int32) + (-16 : Int32)))] []))
        suffices Kq3 : ∀ q3 : Int32, q3 = (15 : Int32) → D (T0.setTop (mkF m 28 #[.val (.int p1), .val (.int q3)] [])) from Kq3 _ (by decide)
        rintro _ rfl
        show D (T0.setTop (mkF m 28 #[.val (.int p1), .val (.int (15 : Int32))] []))
        refine A (XS.iloadN X0.here hx rfl (hb hby d7_28) rfl) ?_
        show D (T0.setTop (mkF m 29 #[.val (.int p1), .val (.int (15 : Int32))] [(.int p1)]))
        refine A (XS.bipush X0.here hx rfl (hb hby d7_29)) ?_
        show D (T0.setTop (mkF m 31 #[.val (.int p1), .val (.int (15 : Int32))] [(.int (16 : Int32)), (.int p1)]))
        refine A (XS.iushr X0.here hx rfl (hb hby d7_31) rfl) ?_
        show D (T0.setTop (mkF m 32 #[.val (.int p1), .val (.int (15 : Int32))] [(.int ((p1.toUInt32 >>> ((16 : Int32) &&& 31).toUInt32).toInt32))]))
        refine A (XS.istoreN X0.here hx rfl (hb hby d7_32) rfl (l' := #[.val (.int ((p1.toUInt32 >>> ((16 : Int32) &&& 31).toUInt32).toInt32)), .val (.int (15 : Int32))]) rfl) ?_
        show D (T0.setTop (mkF m 33 #[.val (.int ((p1.toUInt32 >>> ((16 : Int32) &&& 31).toUInt32).toInt32)), .val (.int (15 : Int32))] []))
        exact Km33_2 _ _ ((if_neg c22_1)).symm ((if_neg c22_1)).symm
    intro v33_0 v33_1 hv33_0 hv33_1
    show D (T0.setTop (mkF m 33 #[.val (.int v33_0), .val (.int v33_1)] []))
    refine A (XS.iloadN X0.here hx rfl (hb hby d7_33) rfl) ?_
    show D (T0.setTop (mkF m 34 #[.val (.int v33_0), .val (.int v33_1)] [(.int v33_0)]))
    refine A (XS.sipush X0.here hx rfl (hb hby d7_34)) ?_
    show D (T0.setTop (mkF m 37 #[.val (.int v33_0), .val (.int v33_1)] [(.int (256 : Int32)), (.int v33_0)]))
    suffices Km48_4 : ∀ (v48_0 : Int32) (v48_1 : Int32), v48_0 = (if v33_0 < (256 : Int32) then v33_0 else ((v33_0.toUInt32 >>> ((8 : Int32) &&& 31).toUInt32).toInt32)) → v48_1 = (if v33_0 < (256 : Int32) then v33_1 else (v33_1 + (-8 : Int32))) → D (T0.setTop (mkF m 48 #[.val (.int v48_0), .val (.int v48_1)] [])) by
      by_cases c37_1 : v33_0 < (256 : Int32)
      · refine A (XS.icmpYes X0.here hx rfl (pc0 := 37) (pc' := 48) rfl (hb hby d7_37) rfl (tlt c37_1).1 (by decide) (by decide)) ?_
        show D (T0.setTop (mkF m 48 #[.val (.int v33_0), .val (.int v33_1)] []))
        exact Km48_4 _ _ ((if_pos c37_1)).symm ((if_pos c37_1)).symm
      · refine A (XS.icmpNo X0.here hx rfl (hb hby d7_37) rfl (flt c37_1).1) ?_
        show D (T0.setTop (mkF m 40 #[.val (.int v33_0), .val (.int v33_1)] []))
        refine A (XS.iinc X0.here hx rfl (hb hby d7_40) rfl (l' := #[.val (.int v33_0), .val (.int (v33_1 + (-8 : Int32)))]) rfl) ?_
        show D (T0.setTop (mkF m 43 #[.val (.int v33_0), .val (.int (v33_1 + (-8 : Int32)))] []))
        refine A (XS.iloadN X0.here hx rfl (hb hby d7_43) rfl) ?_
        show D (T0.setTop (mkF m 44 #[.val (.int v33_0), .val (.int (v33_1 + (-8 : Int32)))] [(.int v33_0)]))
        refine A (XS.bipush X0.here hx rfl (hb hby d7_44)) ?_
        show D (T0.setTop (mkF m 46 #[.val (.int v33_0), .val (.int (v33_1 + (-8 : Int32)))] [(.int (8 : Int32)), (.int v33_0)]))
        refine A (XS.iushr X0.here hx rfl (hb hby d7_46) rfl) ?_
        show D (T0.setTop (mkF m 47 #[.val (.int v33_0), .val (.int (v33_1 + (-8 : Int32)))] [(.int ((v33_0.toUInt32 >>> ((8 : Int32) &&& 31).toUInt32).toInt32))]))
        refine A (XS.istoreN X0.here hx rfl (hb hby d7_47) rfl (l' := #[.val (.int ((v33_0.toUInt32 >>> ((8 : Int32) &&& 31).toUInt32).toInt32)), .val (.int (v33_1 + (-8 : Int32)))]) rfl) ?_
        show D (T0.setTop (mkF m 48 #[.val (.int ((v33_0.toUInt32 >>> ((8 : Int32) &&& 31).toUInt32).toInt32)), .val (.int (v33_1 + (-8 : Int32)))] []))
        exact Km48_4 _ _ ((if_neg c37_1)).symm ((if_neg c37_1)).symm
    intro v48_0 v48_1 hv48_0 hv48_1
    show D (T0.setTop (mkF m 48 #[.val (.int v48_0), .val (.int v48_1)] []))
    refine A (XS.iloadN X0.here hx rfl (hb hby d7_48) rfl) ?_
    show D (T0.setTop (mkF m 49 #[.val (.int v48_0), .val (.int v48_1)] [(.int v48_0)]))
    refine A (XS.bipush X0.here hx rfl (hb hby d7_49)) ?_
    show D (T0.setTop (mkF m 51 #[.val (.int v48_0), .val (.int v48_1)] [(.int (16 : Int32)), (.int v48_0)]))
    suffices Km61_5 : ∀ (v61_0 : Int32) (v61_1 : Int32), v61_0 = (if v48_0 < (16 : Int32) then v48_0 else ((v48_0.toUInt32 >>> ((4 : Int32) &&& 31).toUInt32).toInt32)) → v61_1 = (if v48_0 < (16 : Int32) then v48_1 else (v48_1 + (-4 : Int32))) → D (T0.setTop (mkF m 61 #[.val (.int v61_0), .val (.int v61_1)] [])) by
      by_cases c51_1 : v48_0 < (16 : Int32)
      · refine A (XS.icmpYes X0.here hx rfl (pc0 := 51) (pc' := 61) rfl (hb hby d7_51) rfl (tlt c51_1).1 (by decide) (by decide)) ?_
        show D (T0.setTop (mkF m 61 #[.val (.int v48_0), .val (.int v48_1)] []))
        exact Km61_5 _ _ ((if_pos c51_1)).symm ((if_pos c51_1)).symm
      · refine A (XS.icmpNo X0.here hx rfl (hb hby d7_51) rfl (flt c51_1).1) ?_
        show D (T0.setTop (mkF m 54 #[.val (.int v48_0), .val (.int v48_1)] []))
        refine A (XS.iinc X0.here hx rfl (hb hby d7_54) rfl (l' := #[.val (.int v48_0), .val (.int (v48_1 + (-4 : Int32)))]) rfl) ?_
        show D (T0.setTop (mkF m 57 #[.val (.int v48_0), .val (.int (v48_1 + (-4 : Int32)))] []))
        refine A (XS.iloadN X0.here hx rfl (hb hby d7_57) rfl) ?_
        show D (T0.setTop (mkF m 58 #[.val (.int v48_0), .val (.int (v48_1 + (-4 : Int32)))] [(.int v48_0)]))
        refine A (XS.iconst X0.here hx rfl (hb hby d7_58)) ?_
        show D (T0.setTop (mkF m 59 #[.val (.int v48_0), .val (.int (v48_1 + (-4 : Int32)))] [(.int (4 : Int32)), (.int v48_0)]))
        refine A (XS.iushr X0.here hx rfl (hb hby d7_59) rfl) ?_
        show D (T0.setTop (mkF m 60 #[.val (.int v48_0), .val (.int (v48_1 + (-4 : Int32)))] [(.int ((v48_0.toUInt32 >>> ((4 : Int32) &&& 31).toUInt32).toInt32))]))
        refine A (XS.istoreN X0.here hx rfl (hb hby d7_60) rfl (l' := #[.val (.int ((v48_0.toUInt32 >>> ((4 : Int32) &&& 31).toUInt32).toInt32)), .val (.int (v48_1 + (-4 : Int32)))]) rfl) ?_
        show D (T0.setTop (mkF m 61 #[.val (.int ((v48_0.toUInt32 >>> ((4 : Int32) &&& 31).toUInt32).toInt32)), .val (.int (v48_1 + (-4 : Int32)))] []))
        exact Km61_5 _ _ ((if_neg c51_1)).symm ((if_neg c51_1)).symm
    intro v61_0 v61_1 hv61_0 hv61_1
    show D (T0.setTop (mkF m 61 #[.val (.int v61_0), .val (.int v61_1)] []))
    refine A (XS.iloadN X0.here hx rfl (hb hby d7_61) rfl) ?_
    show D (T0.setTop (mkF m 62 #[.val (.int v61_0), .val (.int v61_1)] [(.int v61_0)]))
    refine A (XS.iconst X0.here hx rfl (hb hby d7_62)) ?_
    show D (T0.setTop (mkF m 63 #[.val (.int v61_0), .val (.int v61_1)] [(.int (4 : Int32)), (.int v61_0)]))
    suffices Km73_6 : ∀ (v73_0 : Int32) (v73_1 : Int32), v73_0 = (if v61_0 < (4 : Int32) then v61_0 else ((v61_0.toUInt32 >>> ((2 : Int32) &&& 31).toUInt32).toInt32)) → v73_1 = (if v61_0 < (4 : Int32) then v61_1 else (v61_1 + (-2 : Int32))) → D (T0.setTop (mkF m 73 #[.val (.int v73_0), .val (.int v73_1)] [])) by
      by_cases c63_1 : v61_0 < (4 : Int32)
      · refine A (XS.icmpYes X0.here hx rfl (pc0 := 63) (pc' := 73) rfl (hb hby d7_63) rfl (tlt c63_1).1 (by decide) (by decide)) ?_
        show D (T0.setTop (mkF m 73 #[.val (.int v61_0), .val (.int v61_1)] []))
        exact Km73_6 _ _ ((if_pos c63_1)).symm ((if_pos c63_1)).symm
      · refine A (XS.icmpNo X0.here hx rfl (hb hby d7_63) rfl (flt c63_1).1) ?_
        show D (T0.setTop (mkF m 66 #[.val (.int v61_0), .val (.int v61_1)] []))
        refine A (XS.iinc X0.here hx rfl (hb hby d7_66) rfl (l' := #[.val (.int v61_0), .val (.int (v61_1 + (-2 : Int32)))]) rfl) ?_
        show D (T0.setTop (mkF m 69 #[.val (.int v61_0), .val (.int (v61_1 + (-2 : Int32)))] []))
        refine A (XS.iloadN X0.here hx rfl (hb hby d7_69) rfl) ?_
        show D (T0.setTop (mkF m 70 #[.val (.int v61_0), .val (.int (v61_1 + (-2 : Int32)))] [(.int v61_0)]))
        refine A (XS.iconst X0.here hx rfl (hb hby d7_70)) ?_
        show D (T0.setTop (mkF m 71 #[.val (.int v61_0), .val (.int (v61_1 + (-2 : Int32)))] [(.int (2 : Int32)), (.int v61_0)]))
        refine A (XS.iushr X0.here hx rfl (hb hby d7_71) rfl) ?_
        show D (T0.setTop (mkF m 72 #[.val (.int v61_0), .val (.int (v61_1 + (-2 : Int32)))] [(.int ((v61_0.toUInt32 >>> ((2 : Int32) &&& 31).toUInt32).toInt32))]))
        refine A (XS.istoreN X0.here hx rfl (hb hby d7_72) rfl (l' := #[.val (.int ((v61_0.toUInt32 >>> ((2 : Int32) &&& 31).toUInt32).toInt32)), .val (.int (v61_1 + (-2 : Int32)))]) rfl) ?_
        show D (T0.setTop (mkF m 73 #[.val (.int ((v61_0.toUInt32 >>> ((2 : Int32) &&& 31).toUInt32).toInt32)), .val (.int (v61_1 + (-2 : Int32)))] []))
        exact Km73_6 _ _ ((if_neg c63_1)).symm ((if_neg c63_1)).symm
    intro v73_0 v73_1 hv73_0 hv73_1
    show D (T0.setTop (mkF m 73 #[.val (.int v73_0), .val (.int v73_1)] []))
    refine A (XS.iloadN X0.here hx rfl (hb hby d7_73) rfl) ?_
    show D (T0.setTop (mkF m 74 #[.val (.int v73_0), .val (.int v73_1)] [(.int v73_1)]))
    refine A (XS.iloadN X0.here hx rfl (hb hby d7_74) rfl) ?_
    show D (T0.setTop (mkF m 75 #[.val (.int v73_0), .val (.int v73_1)] [(.int v73_0), (.int v73_1)]))
    refine A (XS.iconst X0.here hx rfl (hb hby d7_75)) ?_
    show D (T0.setTop (mkF m 76 #[.val (.int v73_0), .val (.int v73_1)] [(.int (1 : Int32)), (.int v73_0), (.int v73_1)]))
    refine A (XS.iushr X0.here hx rfl (hb hby d7_76) rfl) ?_
    show D (T0.setTop (mkF m 77 #[.val (.int v73_0), .val (.int v73_1)] [(.int ((v73_0.toUInt32 >>> ((1 : Int32) &&& 31).toUInt32).toInt32)), (.int v73_1)]))
    refine A (XS.isub X0.here hx rfl (hb hby d7_77) rfl) ?_
    show D (T0.setTop (mkF m 78 #[.val (.int v73_0), .val (.int v73_1)] [(.int (v73_1 - ((v73_0.toUInt32 >>> ((1 : Int32) &&& 31).toUInt32).toInt32)))]))
    refine F _ (Jvm.JW.ret X0 hlk (v := some (.int (v73_1 - ((v73_0.toUInt32 >>> ((1 : Int32) &&& 31).toUInt32).toInt32)))) (fun h => by rw [hrt] at h; cases h) (fun fs hr => retOut X0 hx hrt rfl (Or.inl ⟨rfl, Or.inl rfl, _, rfl⟩) (hb hby d7_78) hr) rfl ?_ (by decide) (by decide))
    exact ⟨congrArg (fun z => some (Value.int z)) (by subst hv73_1; subst hv73_0; subst hv61_1; subst hv61_0; subst hv48_1; subst hv48_0; subst hv33_1; subst hv33_0; exact (if_pos c1_1).symm), (Fr.nil n0), e0⟩
  · refine A (XS.ifNo X0.here hx rfl (hb hby d7_1) rfl ((if0 _ _).trans (flt c1_1).2.2.1)) ?_
    show D (T0.setTop (mkF m 4 #[.val (.int p1), .unset] []))
    refine A (XS.iloadN X0.here hx rfl (hb hby d7_4) rfl) ?_
    show D (T0.setTop (mkF m 5 #[.val (.int p1), .unset] [(.int p1)]))
    by_cases c5_7 : p1 = (0 : Int32)
    · refine A (XS.ifNo X0.here hx rfl (hb hby d7_5) rfl ((if0 _ _).trans (teq c5_7).2)) ?_
      show D (T0.setTop (mkF m 8 #[.val (.int p1), .unset] []))
      refine A (XS.bipush X0.here hx rfl (hb hby d7_8)) ?_
      show D (T0.setTop (mkF m 10 #[.val (.int p1), .unset] [(.int (32 : Int32))]))
      refine A (XS.goto X0.here hx rfl (pc0 := 10) (pc' := 14) rfl (hb hby d7_10) (by decide) (by decide)) ?_
      show D (T0.setTop (mkF m 14 #[.val (.int p1), .unset] [(.int (32 : Int32))]))
      refine F _ (Jvm.JW.ret X0 hlk (v := some (.int (32 : Int32))) (fun h => by rw [hrt] at h; cases h) (fun fs hr => retOut X0 hx hrt rfl (Or.inl ⟨rfl, Or.inl rfl, _, rfl⟩) (hb hby d7_14) hr) rfl ?_ (by decide) (by decide))
      exact ⟨congrArg (fun z => some (Value.int z)) (by exact ((if_neg c1_1).trans (if_pos c5_7)).symm), (Fr.nil n0), e0⟩
    · refine A (XS.ifYes X0.here hx rfl (pc0 := 5) (pc' := 13) rfl (hb hby d7_5) rfl ((if0 _ _).trans (feq c5_7).2) (by decide) (by decide)) ?_
      show D (T0.setTop (mkF m 13 #[.val (.int p1), .unset] []))
      refine A (XS.iconst X0.here hx rfl (hb hby d7_13)) ?_
      show D (T0.setTop (mkF m 14 #[.val (.int p1), .unset] [(.int (0 : Int32))]))
      refine F _ (Jvm.JW.ret X0 hlk (v := some (.int (0 : Int32))) (fun h => by rw [hrt] at h; cases h) (fun fs hr => retOut X0 hx hrt rfl (Or.inl ⟨rfl, Or.inl rfl, _, rfl⟩) (hb hby d7_14) hr) rfl ?_ (by decide) (by decide))
      exact ⟨congrArg (fun z => some (Value.int z)) (by exact ((if_neg c1_1).trans (if_neg c5_7)).symm), (Fr.nil n0), e0⟩
theorem d6_0 : decode jdk_35_method_48_code 0 = .ok (.lload_n 0, 1) := by decide +kernel
theorem d6_1 : decode jdk_35_method_48_code 1 = .ok (.bipush 32, 2) := by decide +kernel
theorem d6_3 : decode jdk_35_method_48_code 3 = .ok (.lushr, 1) := by decide +kernel
theorem d6_4 : decode jdk_35_method_48_code 4 = .ok (.l2i, 1) := by decide +kernel
theorem d6_5 : decode jdk_35_method_48_code 5 = .ok (.istore_n 2, 1) := by decide +kernel
theorem d6_6 : decode jdk_35_method_48_code 6 = .ok (.iload_n 2, 1) := by decide +kernel
theorem d6_7 : decode jdk_35_method_48_code 7 = .ok (.ifCond .ne 14, 3) := by decide +kernel
theorem d6_10 : decode jdk_35_method_48_code 10 = .ok (.bipush 32, 2) := by decide +kernel
theorem d6_12 : decode jdk_35_method_48_code 12 = .ok (.lload_n 0, 1) := by decide +kernel
theorem d6_13 : decode jdk_35_method_48_code 13 = .ok (.l2i, 1) := by decide +kernel
theorem d6_14 : decode jdk_35_method_48_code 14 = .ok (.invokestatic 308, 3) := by decide +kernel
theorem d6_17 : decode jdk_35_method_48_code 17 = .ok (.iadd, 1) := by decide +kernel
theorem d6_18 : decode jdk_35_method_48_code 18 = .ok (.goto 7, 3) := by decide +kernel
theorem d6_21 : decode jdk_35_method_48_code 21 = .ok (.iload_n 2, 1) := by decide +kernel
theorem d6_22 : decode jdk_35_method_48_code 22 = .ok (.invokestatic 308, 3) := by decide +kernel
theorem d6_25 : decode jdk_35_method_48_code 25 = .ok (.ireturn, 1) := by decide +kernel
theorem pn6 : plainFor (⟨"java/lang/Long", "numberOfLeadingZeros", "(J)I"⟩ : MethodName) = true := by decide +kernel
theorem pd6_0 : parseMethodDescriptor "(I)I" = some ⟨[.int], some .int⟩ := by decide +kernel
theorem ef6 (p1 : Int64) (m : MethodId) : entryFrame m #[(.long p1)] 3 = mkF m 0 #[.val (.long p1), .second, .unset] [] := by first | (simp [entryFrame, mkF, argsToLocals, Value.category]; done) | rfl
def f6 (p1 : Int64) : Int32 := let x2_6 := (((p1.toUInt64 >>> ((32 : Int32) &&& 0x3f).toInt64.toUInt64).toInt64).toInt32); if x2_6 = (0 : Int32) then (((32 : Int32) + (f7 (p1.toInt32)))) else ((f7 x2_6))
set_option maxRecDepth 65536 in
set_option maxHeartbeats 40000000 in
theorem rm6 (l : Launch) (Z : State) (a0 : Array Value) (hw : ∀ d ∈ tables_1, d.before a0 Z = true) (ws : List Jvm.Cond) (p1 : Int64) (h0 : Heap) (n0 : Nat) :
    JMet l Z (⟨"java/lang/Long", "numberOfLeadingZeros", "(J)I"⟩ : MethodName) jdk_35_method_48_code 3 (some .int) ws ({ frames := 1, cells := 0, slots := 0, locals := 14 } : Room) #[(.long p1)] h0 (QP (.int (f6 p1)) h0 n0) := by
  refine Jvm.JW.body #[.val (.long p1), .second, .unset] pn6 (ef6 p1) ?_
  intro p e s m below meth c T0 D A F X0 hx hZ hby hml hown hnm hrt hlk e0
  refine A (XS.lloadN X0.here hx rfl (hb hby d6_0) rfl) ?_
  show D (T0.setTop (mkF m 1 #[.val (.long p1), .second, .unset] [(.long p1)]))
  refine A (XS.bipush X0.here hx rfl (hb hby d6_1)) ?_
  show D (T0.setTop (mkF m 3 #[.val (.long p1), .second, .unset] [(.int (32 : Int32)), (.long p1)]))
  refine A (XS.lushr X0.here hx rfl (hb hby d6_3) rfl) ?_
  show D (T0.setTop (mkF m 4 #[.val (.long p1), .second, .unset] [(.long ((p1.toUInt64 >>> ((32 : Int32) &&& 0x3f).toInt64.toUInt64).toInt64))]))
  refine A (XS.l2i X0.here hx rfl (hb hby d6_4) rfl) ?_
  show D (T0.setTop (mkF m 5 #[.val (.long p1), .second, .unset] [(.int (((p1.toUInt64 >>> ((32 : Int32) &&& 0x3f).toInt64.toUInt64).toInt64).toInt32))]))
  refine A (XS.istoreN X0.here hx rfl (hb hby d6_5) rfl (l' := #[.val (.long p1), .second, .val (.int (((p1.toUInt64 >>> ((32 : Int32) &&& 0x3f).toInt64.toUInt64).toInt64).toInt32))]) rfl) ?_
  show D (T0.setTop (mkF m 6 #[.val (.long p1), .second, .val (.int (((p1.toUInt64 >>> ((32 : Int32) &&& 0x3f).toInt64.toUInt64).toInt64).toInt32))] []))
  suffices Kx2_6 : ∀ x2_6 : Int32, x2_6 = (((p1.toUInt64 >>> ((32 : Int32) &&& 0x3f).toInt64.toUInt64).toInt64).toInt32) → D (T0.setTop (mkF m 6 #[.val (.long p1), .second, .val (.int x2_6)] [])) from Kx2_6 _ rfl
  intro x2_6 hx2_6
  refine A (XS.iloadN X0.here hx rfl (hb hby d6_6) rfl) ?_
  show D (T0.setTop (mkF m 7 #[.val (.long p1), .second, .val (.int x2_6)] [(.int x2_6)]))
  by_cases c7_1 : x2_6 = (0 : Int32)
  · refine A (XS.ifNo X0.here hx rfl (hb hby d6_7) rfl ((if0 _ _).trans (teq c7_1).2)) ?_
    show D (T0.setTop (mkF m 10 #[.val (.long p1), .second, .val (.int x2_6)] []))
    refine A (XS.bipush X0.here hx rfl (hb hby d6_10)) ?_
    show D (T0.setTop (mkF m 12 #[.val (.long p1), .second, .val (.int x2_6)] [(.int (32 : Int32))]))
    refine A (XS.lloadN X0.here hx rfl (hb hby d6_12) rfl) ?_
    show D (T0.setTop (mkF m 13 #[.val (.long p1), .second, .val (.int x2_6)] [(.long p1), (.int (32 : Int32))]))
    refine A (XS.l2i X0.here hx rfl (hb hby d6_13) rfl) ?_
    show D (T0.setTop (mkF m 14 #[.val (.long p1), .second, .val (.int x2_6)] [(.int (p1.toInt32)), (.int (32 : Int32))]))
    refine Adv.callS A X0 hx hZ hown (hw _ (List.mem_of_getElem? (i := 35) rfl)) (hw _ (List.mem_of_getElem? (i := 36) rfl)) (hw _ (List.mem_of_getElem? (i := 37) rfl)) (hw _ (List.mem_of_getElem? (i := 38) rfl)) e0 (rm7 l Z a0 hw [] (p1.toInt32) h0 n0) 1 (g := (mkF m 14 #[.val (.long p1), .second, .val (.int x2_6)] [(.int (p1.toInt32)), (.int (32 : Int32))])) rfl (by rw [hml]; rfl) [(.int (p1.toInt32))] [(.int (32 : Int32))] rfl (lenOf pd6_0 rfl) rfl (by show 2 * 0 + _ ≤ _; exact Nat.le_of_eq rfl) (hb hby d6_14) (by decide) (by decide) (by decide) (by decide) (by decide) ?_
    rintro T2 L2 _ X2 ⟨rfl, N2q, e2⟩
    have N2 := Fr.app (Fr.nil n0) N2q
    show D (T2.setTop (mkF m 17 #[.val (.long p1), .second, .val (.int x2_6)] [(.int (f7 (p1.toInt32))), (.int (32 : Int32))]))
    refine A (XS.iadd X2.here hx rfl (hb hby d6_17) rfl) ?_
    show D (T2.setTop (mkF m 18 #[.val (.long p1), .second, .val (.int x2_6)] [(.int ((32 : Int32) + (f7 (p1.toInt32))))]))
    refine A (XS.goto X2.here hx rfl (pc0 := 18) (pc' := 25) rfl (hb hby d6_18) (by decide) (by decide)) ?_
    show D (T2.setTop (mkF m 25 #[.val (.long p1), .second, .val (.int x2_6)] [(.int ((32 : Int32) + (f7 (p1.toInt32))))]))
    refine F _ (Jvm.JW.ret X2 hlk (v := some (.int ((32 : Int32) + (f7 (p1.toInt32))))) (fun h => by rw [hrt] at h; cases h) (fun fs hr => retOut X2 hx hrt rfl (Or.inl ⟨rfl, Or.inl rfl, _, rfl⟩) (hb hby d6_25) hr) rfl ?_ (by decide) (by decide))
    exact ⟨congrArg (fun z => some (Value.int z)) (by subst hx2_6; exact (if_pos c7_1).symm), N2, e2⟩
  · refine A (XS.ifYes X0.here hx rfl (pc0 := 7) (pc' := 21) rfl (hb hby d6_7) rfl ((if0 _ _).trans (feq c7_1).2) (by decide) (by decide)) ?_
    show D (T0.setTop (mkF m 21 #[.val (.long p1), .second, .val (.int x2_6)] []))
    refine A (XS.iloadN X0.here hx rfl (hb hby d6_21) rfl) ?_
    show D (T0.setTop (mkF m 22 #[.val (.long p1), .second, .val (.int x2_6)] [(.int x2_6)]))
    refine Adv.callS A X0 hx hZ hown (hw _ (List.mem_of_getElem? (i := 35) rfl)) (hw _ (List.mem_of_getElem? (i := 36) rfl)) (hw _ (List.mem_of_getElem? (i := 37) rfl)) (hw _ (List.mem_of_getElem? (i := 38) rfl)) e0 (rm7 l Z a0 hw [] x2_6 h0 n0) 0 (g := (mkF m 22 #[.val (.long p1), .second, .val (.int x2_6)] [(.int x2_6)])) rfl (by rw [hml]; rfl) [(.int x2_6)] [] rfl (lenOf pd6_0 rfl) rfl (by show 2 * 0 + _ ≤ _; exact Nat.le_of_eq rfl) (hb hby d6_22) (by decide) (by decide) (by decide) (by decide) (by decide) ?_
    rintro T3 L3 _ X3 ⟨rfl, N3q, e3⟩
    have N3 := Fr.app (Fr.nil n0) N3q
    show D (T3.setTop (mkF m 25 #[.val (.long p1), .second, .val (.int x2_6)] [(.int (f7 x2_6))]))
    refine F _ (Jvm.JW.ret X3 hlk (v := some (.int (f7 x2_6))) (fun h => by rw [hrt] at h; cases h) (fun fs hr => retOut X3 hx hrt rfl (Or.inl ⟨rfl, Or.inl rfl, _, rfl⟩) (hb hby d6_25) hr) rfl ?_ (by decide) (by decide))
    exact ⟨congrArg (fun z => some (Value.int z)) (by subst hx2_6; exact (if_neg c7_1).symm), N3, e3⟩
theorem own_nlz : f6 ((1023 : Int32).toInt64) = (54 : Int32) := by decide
theorem d5_0 : decode jdk_65_method_101_code 0 = .ok (.iconst 0, 1) := by decide +kernel
theorem d5_1 : decode jdk_65_method_101_code 1 = .ok (.istore_n 3, 1) := by decide +kernel
theorem d5_2 : decode jdk_65_method_101_code 2 = .ok (.aload_n 0, 1) := by decide +kernel
theorem d5_3 : decode jdk_65_method_101_code 3 = .ok (.arraylength, 1) := by decide +kernel
theorem d5_4 : decode jdk_65_method_101_code 4 = .ok (.istore 4, 2) := by decide +kernel
theorem d5_6 : decode jdk_65_method_101_code 6 = .ok (.iload_n 3, 1) := by decide +kernel
theorem d5_7 : decode jdk_65_method_101_code 7 = .ok (.iload 4, 2) := by decide +kernel
theorem d5_9 : decode jdk_65_method_101_code 9 = .ok (.if_icmp .ge 13, 3) := by decide +kernel
theorem d5_12 : decode jdk_65_method_101_code 12 = .ok (.aload_n 0, 1) := by decide +kernel
theorem d5_13 : decode jdk_65_method_101_code 13 = .ok (.iload_n 3, 1) := by decide +kernel
theorem d5_14 : decode jdk_65_method_101_code 14 = .ok (.lload_n 1, 1) := by decide +kernel
theorem d5_15 : decode jdk_65_method_101_code 15 = .ok (.lastore, 1) := by decide +kernel
theorem d5_16 : decode jdk_65_method_101_code 16 = .ok (.iinc 3 1, 3) := by decide +kernel
theorem d5_19 : decode jdk_65_method_101_code 19 = .ok (.goto (-13), 3) := by decide +kernel
theorem d5_22 : decode jdk_65_method_101_code 22 = .ok (.return_, 1) := by decide +kernel
theorem pn5 : plainFor (⟨"java/util/Arrays", "fill", "([JJ)V"⟩ : MethodName) = true := by decide +kernel
theorem ef5 (p1 : Addr) (p2 : Int64) (m : MethodId) : entryFrame m #[(.ref p1), (.long p2)] 5 = mkF m 0 #[.val (.ref p1), .val (.long p2), .second, .unset, .unset] [] := by first | (simp [entryFrame, mkF, argsToLocals, Value.category]; done) | rfl
set_option maxRecDepth 65536 in
set_option maxHeartbeats 40000000 in
theorem rm5 (l : Launch) (Z : State) (a0 : Array Value) (hw : ∀ d ∈ tables_1, d.before a0 Z = true) (ws : List Jvm.Cond) (p1 : Addr) (p2 : Int64) (h0 : Heap) (n0 : Nat) (f : Nat → Int64) (Z0 : n0 ≤ h0.size) (g_p1 : n0 ≤ p1) (V_p1 : ArJ Z h0 p1 1024 f) :
    JMet l Z (⟨"java/util/Arrays", "fill", "([JJ)V"⟩ : MethodName) jdk_65_method_101_code 5 none ws ({ frames := 0, cells := 0, slots := 0, locals := 0 } : Room) #[(.ref p1), (.long p2)] h0 (fun v h L => v = none ∧ Fr n0 L ∧ Keep h0 h [p1] ∧ ArJ Z h p1 1024 (fun _ => p2)) := by
  refine Jvm.JW.body #[.val (.ref p1), .val (.long p2), .second, .unset, .unset] pn5 (ef5 p1 p2) ?_
  intro p e s m below meth c T0 D A F X0 hx hZ hby hml hown hnm hrt hlk e0
  refine A (XS.iconst X0.here hx rfl (hb hby d5_0)) ?_
  show D (T0.setTop (mkF m 1 #[.val (.ref p1), .val (.long p2), .second, .unset, .unset] [(.int (0 : Int32))]))
  refine A (XS.istoreN X0.here hx rfl (hb hby d5_1) rfl (l' := #[.val (.ref p1), .val (.long p2), .second, .val (.int (0 : Int32)), .unset]) rfl) ?_
  show D (T0.setTop (mkF m 2 #[.val (.ref p1), .val (.long p2), .second, .val (.int (0 : Int32)), .unset] []))
  refine A (XS.aloadN X0.here hx rfl (hb hby d5_2) rfl rfl) ?_
  show D (T0.setTop (mkF m 3 #[.val (.ref p1), .val (.long p2), .second, .val (.int (0 : Int32)), .unset] [(.ref p1)]))
  refine Adv.lenJ A X0 hx hZ e0 V_p1 (g := (mkF m 3 #[.val (.ref p1), .val (.long p2), .second, .val (.int (0 : Int32)), .unset] [(.ref p1)])) rfl rfl (hb hby d5_3) ?_
  show D (T0.setTop (mkF m 4 #[.val (.ref p1), .val (.long p2), .second, .val (.int (0 : Int32)), .unset] [(.int (1024 : Int32))]))
  refine A (XS.istore X0.here hx rfl (hb hby d5_4) rfl (l' := #[.val (.ref p1), .val (.long p2), .second, .val (.int (0 : Int32)), .val (.int (1024 : Int32))]) rfl) ?_
  show D (T0.setTop (mkF m 6 #[.val (.ref p1), .val (.long p2), .second, .val (.int (0 : Int32)), .val (.int (1024 : Int32))] []))
  suffices LP1 : ∀ (kk : Nat) (ii : Nat) (i : Int32) (fi : Nat → Int64) (T1 : State) (H1 : Heap) (lc1 : List Loc), 1024 - ii = kk → (i.toInt = ii) → (∀ j, j < ii → fi j = p2) → (Stand p l e ({ frames := 0, cells := 0, slots := 0, locals := 0 } : Room) s m #[(.ref p1), (.long p2)] below meth c T1 lc1 0 0) → (T1.heap = H1) → (Fr n0 lc1) → (n0 ≤ H1.size) → (Keep h0 H1 [p1]) → (ArJ Z H1 p1 1024 fi) → D (T1.setTop (mkF m 6 #[.val (.ref p1), .val (.long p2), .second, .val (.int i), .val (.int (1024 : Int32))] [])) from LP1 _ 0 (0 : Int32) f _ _ _ rfl rfl (fun _ h => absurd h (Nat.not_lt_zero _)) X0 e0 (Fr.nil n0) Z0 (Keep.refl h0 [p1]) V_p1
  intro kk1
  induction kk1 using Nat.strongRecOn with
  | _ kk1 ih1 =>
    intro ii i fi T1 H1 lc1 hm1 hi hf X1 e1 N1 Zq1 KK_1 V_p1_1
    show D (T1.setTop (mkF m 6 #[.val (.ref p1), .val (.long p2), .second, .val (.int i), .val (.int (1024 : Int32))] []))
    refine A (XS.iloadN X1.here hx rfl (hb hby d5_6) rfl) ?_
    show D (T1.setTop (mkF m 7 #[.val (.ref p1), .val (.long p2), .second, .val (.int i), .val (.int (1024 : Int32))] [(.int i)]))
    refine A (XS.iload X1.here hx rfl (hb hby d5_7) rfl) ?_
    show D (T1.setTop (mkF m 9 #[.val (.ref p1), .val (.long p2), .second, .val (.int i), .val (.int (1024 : Int32))] [(.int (1024 : Int32)), (.int i)]))
    by_cases c9_2 : i < (1024 : Int32)
    · refine A (XS.icmpNo X1.here hx rfl (hb hby d5_9) rfl (tlt c9_2).2.1) ?_
      show D (T1.setTop (mkF m 12 #[.val (.ref p1), .val (.long p2), .second, .val (.int i), .val (.int (1024 : Int32))] []))
      refine A (XS.aloadN X1.here hx rfl (hb hby d5_12) rfl rfl) ?_
      show D (T1.setTop (mkF m 13 #[.val (.ref p1), .val (.long p2), .second, .val (.int i), .val (.int (1024 : Int32))] [(.ref p1)]))
      refine A (XS.iloadN X1.here hx rfl (hb hby d5_13) rfl) ?_
      show D (T1.setTop (mkF m 14 #[.val (.ref p1), .val (.long p2), .second, .val (.int i), .val (.int (1024 : Int32))] [(.int i), (.ref p1)]))
      refine A (XS.lloadN X1.here hx rfl (hb hby d5_14) rfl) ?_
      show D (T1.setTop (mkF m 15 #[.val (.ref p1), .val (.long p2), .second, .val (.int i), .val (.int (1024 : Int32))] [(.long p2), (.int i), (.ref p1)]))
      refine Adv.stJ A X1 hx hZ e1 V_p1_1 (k := ii) hi (own_lt24 c9_2 hi) (g := (mkF m 15 #[.val (.ref p1), .val (.long p2), .second, .val (.int i), .val (.int (1024 : Int32))] [(.long p2), (.int i), (.ref p1)])) rfl rfl (hb hby d5_15) ?_
      intro T3 h3 X3 e3 W3 Vp1_3
      have N3 := Fr.snoc X3 N1 g_p1
      have Z_3 : n0 ≤ h3.size := Nat.le_trans Zq1 (Nat.le_of_eq W3.size.symm)
      have KK_3 : Keep h0 h3 [p1] := KK_1.wr W3 (Or.inl (List.mem_of_getElem? (i := 0) rfl))
      show D (T3.setTop (mkF m 16 #[.val (.ref p1), .val (.long p2), .second, .val (.int i), .val (.int (1024 : Int32))] []))
      refine A (XS.iinc X3.here hx rfl (hb hby d5_16) rfl (l' := #[.val (.ref p1), .val (.long p2), .second, .val (.int (i + (1 : Int32))), .val (.int (1024 : Int32))]) rfl) ?_
      show D (T3.setTop (mkF m 19 #[.val (.ref p1), .val (.long p2), .second, .val (.int (i + (1 : Int32))), .val (.int (1024 : Int32))] []))
      refine A (XS.goto X3.here hx rfl (pc0 := 19) (pc' := 6) rfl (hb hby d5_19) (by decide) (by decide)) ?_
      show D (T3.setTop (mkF m 6 #[.val (.ref p1), .val (.long p2), .second, .val (.int (i + (1 : Int32))), .val (.int (1024 : Int32))] []))
      exact ih1 _ (by have := own_lt24 c9_2 hi; omega) (ii + 1) (i + (1 : Int32)) (fun ix => if ix = ii then p2 else fi ix) _ _ _ rfl (ixadd hi (by decide) (by have := own_lt24 c9_2 hi; omega)) (fun j hj => show (if j = ii then p2 else fi j) = p2 from if q : j = ii then if_pos q else (if_neg q).trans (hf j (by omega))) X3 e3 N3 Z_3 KK_3 Vp1_3
    · refine A (XS.icmpYes X1.here hx rfl (pc0 := 9) (pc' := 22) rfl (hb hby d5_9) rfl (flt c9_2).2.1 (by decide) (by decide)) ?_
      show D (T1.setTop (mkF m 22 #[.val (.ref p1), .val (.long p2), .second, .val (.int i), .val (.int (1024 : Int32))] []))
      exact F _ (Jvm.JW.ret X1 hlk (v := none) (fun _ => rfl) (fun fs hr => X1.returnOut hx hrt (hb hby d5_22) hr) e1 ⟨rfl, N1, KK_1, V_p1_1.eqf (fun i hi' => hf i (by have := own_ge24 c9_2 hi; omega))⟩ (by decide) (by decide))
theorem d4_0 : decode prog_9_method_9_code 0 = .ok (.aload_n 0, 1) := by decide +kernel
theorem d4_1 : decode prog_9_method_9_code 1 = .ok (.iload_n 1, 1) := by decide +kernel
theorem d4_2 : decode prog_9_method_9_code 2 = .ok (.newarray .long, 2) := by decide +kernel
theorem d4_4 : decode prog_9_method_9_code 4 = .ok (.putfield 17, 3) := by decide +kernel
theorem d4_7 : decode prog_9_method_9_code 7 = .ok (.aload_n 0, 1) := by decide +kernel
theorem d4_8 : decode prog_9_method_9_code 8 = .ok (.getfield 17, 3) := by decide +kernel
theorem d4_11 : decode prog_9_method_9_code 11 = .ok (.ldc2_w 21, 3) := by decide +kernel
theorem d4_14 : decode prog_9_method_9_code 14 = .ok (.invokestatic 57, 3) := by decide +kernel
theorem d4_17 : decode prog_9_method_9_code 17 = .ok (.aload_n 0, 1) := by decide +kernel
theorem d4_18 : decode prog_9_method_9_code 18 = .ok (.iload_n 1, 1) := by decide +kernel
theorem d4_19 : decode prog_9_method_9_code 19 = .ok (.newarray .int, 2) := by decide +kernel
theorem d4_21 : decode prog_9_method_9_code 21 = .ok (.putfield 23, 3) := by decide +kernel
theorem d4_24 : decode prog_9_method_9_code 24 = .ok (.aload_n 0, 1) := by decide +kernel
theorem d4_25 : decode prog_9_method_9_code 25 = .ok (.iload_n 1, 1) := by decide +kernel
theorem d4_26 : decode prog_9_method_9_code 26 = .ok (.iconst 1, 1) := by decide +kernel
theorem d4_27 : decode prog_9_method_9_code 27 = .ok (.isub, 1) := by decide +kernel
theorem d4_28 : decode prog_9_method_9_code 28 = .ok (.putfield 49, 3) := by decide +kernel
theorem d4_31 : decode prog_9_method_9_code 31 = .ok (.aload_n 0, 1) := by decide +kernel
theorem d4_32 : decode prog_9_method_9_code 32 = .ok (.aload_n 0, 1) := by decide +kernel
theorem d4_33 : decode prog_9_method_9_code 33 = .ok (.getfield 49, 3) := by decide +kernel
theorem d4_36 : decode prog_9_method_9_code 36 = .ok (.i2l, 1) := by decide +kernel
theorem d4_37 : decode prog_9_method_9_code 37 = .ok (.invokestatic 63, 3) := by decide +kernel
theorem d4_40 : decode prog_9_method_9_code 40 = .ok (.putfield 54, 3) := by decide +kernel
theorem d4_43 : decode prog_9_method_9_code 43 = .ok (.return_, 1) := by decide +kernel
theorem pn4 : plainFor (⟨"com/example/enklave/enklave/anonymize/CountMap", "allocate", "(I)V"⟩ : MethodName) = true := by decide +kernel
theorem pd4_0 : parseMethodDescriptor "([JJ)V" = some ⟨[(.array .long), .long], none⟩ := by decide +kernel
theorem pd4_1 : parseMethodDescriptor "(J)I" = some ⟨[.long], some .int⟩ := by decide +kernel
theorem ef4_1024 (self : Addr) (m : MethodId) : entryFrame m #[(.ref self), (.int (1024 : Int32))] 2 = mkF m 0 #[.val (.ref self), .val (.int (1024 : Int32))] [] := by first | (simp [entryFrame, mkF, argsToLocals, Value.category]; done) | rfl
set_option maxRecDepth 65536 in
set_option maxHeartbeats 40000000 in
theorem rm4 (l : Launch) (Z : State) (a0 : Array Value) (hw : ∀ d ∈ tables_1, d.before a0 Z = true) (ws : List Jvm.Cond) (self : Addr) (h0 : Heap) (n0 : Nat) (Z0 : n0 ≤ h0.size) (g_self : n0 ≤ self) (E_self : Exa Z h0 self "com/example/enklave/enklave/anonymize/CountMap") (F_keys : Fld Z h0 self "com/example/enklave/enklave/anonymize/CountMap" "keys" "[J" .null) (F_counts : Fld Z h0 self "com/example/enklave/enklave/anonymize/CountMap" "counts" "[I" .null) (F_mask : Fld Z h0 self "com/example/enklave/enklave/anonymize/CountMap" "mask" "I" (.int (0 : Int32))) (F_shift : Fld Z h0 self "com/example/enklave/enklave/anonymize/CountMap" "shift" "I" (.int (0 : Int32))) (F_size : Fld Z h0 self "com/example/enklave/enklave/anonymize/CountMap" "size" "I" (.int (0 : Int32))) :
    JMet l Z (⟨"com/example/enklave/enklave/anonymize/CountMap", "allocate", "(I)V"⟩ : MethodName) prog_9_method_9_code 2 none ws ({ frames := 2, cells := 2, slots := 2048, locals := 29 } : Room) #[(.ref self), (.int (1024 : Int32))] h0 (fun v h L => v = none ∧ ∃ ka cb : Addr, Fr n0 L ∧ Keep h0 h [self] ∧ Exa Z h self "com/example/enklave/enklave/anonymize/CountMap" ∧ Fld Z h self "com/example/enklave/enklave/anonymize/CountMap" "keys" "[J" (.ref ka) ∧ Fld Z h self "com/example/enklave/enklave/anonymize/CountMap" "counts" "[I" (.ref cb) ∧ Fld Z h self "com/example/enklave/enklave/anonymize/CountMap" "mask" "I" (.int (1023 : Int32)) ∧ Fld Z h self "com/example/enklave/enklave/anonymize/CountMap" "shift" "I" (.int (54 : Int32)) ∧ Fld Z h self "com/example/enklave/enklave/anonymize/CountMap" "size" "I" (.int (0 : Int32)) ∧ ArJ Z h ka 1024 (fun _ => (-1 : Int64)) ∧ ArI Z h cb .int 1024 (fun _ => 0) ∧ h0.size ≤ ka ∧ h0.size ≤ cb) := by
  refine Jvm.JW.body #[.val (.ref self), .val (.int (1024 : Int32))] pn4 (ef4_1024 self) ?_
  intro p e s m below meth c T0 D A F X0 hx hZ hby hml hown hnm hrt hlk e0
  refine A (XS.aloadN X0.here hx rfl (hb hby d4_0) rfl rfl) ?_
  show D (T0.setTop (mkF m 1 #[.val (.ref self), .val (.int (1024 : Int32))] [(.ref self)]))
  refine A (XS.iloadN X0.here hx rfl (hb hby d4_1) rfl) ?_
  show D (T0.setTop (mkF m 2 #[.val (.ref self), .val (.int (1024 : Int32))] [(.int (1024 : Int32)), (.ref self)]))
  refine Adv.newJ A X0 hx hZ (hw _ (List.mem_of_getElem? (i := 18) rfl)) e0 (n := 1024) (by decide) 1024 (by decide) (by decide) (by decide) (by decide) (g := (mkF m 2 #[.val (.ref self), .val (.int (1024 : Int32))] [(.int (1024 : Int32)), (.ref self)])) rfl rfl (hb hby d4_2) ?_
  intro T1 h1 b1 q_b1 X1 e1 E1 V_b1
  have ne_self_b1 : self ≠ b1 := Nat.ne_of_lt (Nat.lt_of_lt_of_le E_self.lt (Nat.le_of_eq q_b1.symm))
  have g_b1 : n0 ≤ b1 := Nat.le_trans Z0 (Nat.le_of_eq q_b1.symm)
  have sz_b1 : h0.size ≤ b1 := Nat.le_trans (Keep.refl h0 [self]).1 (Nat.le_of_eq q_b1.symm)
  have E_self_1 := E_self.ext E1
  have F_keys_self_1 := F_keys.ext E1
  have F_counts_self_1 := F_counts.ext E1
  have F_mask_self_1 := F_mask.ext E1
  have F_shift_self_1 := F_shift.ext E1
  have F_size_self_1 := F_size.ext E1
  have Z_1 : n0 ≤ h1.size := Nat.le_trans Z0 E1.1
  have KK_1 : Keep h0 h1 [self] := (Keep.refl h0 [self]).ext E1
  show D (T1.setTop (mkF m 4 #[.val (.ref self), .val (.int (1024 : Int32))] [(.ref b1), (.ref self)]))
  obtain ⟨T2, h2, X2, e2, W2, st2⟩ := putF X1 hx hZ hown (host := "") (Or.inl (hw _ (List.mem_of_getElem? (i := 19) rfl))) Via.refl e1 F_keys_self_1 E_self_1 (Or.inl (hw _ (List.mem_of_getElem? (i := 20) rfl))) (hw _ (List.mem_of_getElem? (i := 6) rfl)) (ty := (.array .long)) (by decide) rfl rfl (g := (mkF m 4 #[.val (.ref self), .val (.int (1024 : Int32))] [(.ref b1), (.ref self)])) rfl rfl (hb hby d4_4)
  have N2 := Fr.snoc X2 (Fr.nil n0) g_self
  have F_keys_self_2 := F_keys_self_1.same W2
  have E_self_2 := E_self_1.wr W2
  have F_counts_self_2 := F_counts_self_1.other W2 (Or.inr (slot_ne (Or.inl (hw _ (List.mem_of_getElem? (i := 28) rfl))) (Or.inl (hw _ (List.mem_of_getElem? (i := 20) rfl))) (by decide) (t := (.array .int)) (t' := (.array .long)) (by decide) (by decide)))
  have F_mask_self_2 := F_mask_self_1.other W2 (Or.inr (slot_ne (Or.inl (hw _ (List.mem_of_getElem? (i := 30) rfl))) (Or.inl (hw _ (List.mem_of_getElem? (i := 20) rfl))) (by decide) (t := .int) (t' := (.array .long)) (by decide) (by decide)))
  have F_shift_self_2 := F_shift_self_1.other W2 (Or.inr (slot_ne (Or.inl (hw _ (List.mem_of_getElem? (i := 41) rfl))) (Or.inl (hw _ (List.mem_of_getElem? (i := 20) rfl))) (by decide) (t := .int) (t' := (.array .long)) (by decide) (by decide)))
  have F_size_self_2 := F_size_self_1.other W2 (Or.inr (slot_ne (Or.inl (hw _ (List.mem_of_getElem? (i := 57) rfl))) (Or.inl (hw _ (List.mem_of_getElem? (i := 20) rfl))) (by decide) (t := .int) (t' := (.array .long)) (by decide) (by decide)))
  have V_b1_2 := V_b1.other W2 (Ne.symm ne_self_b1)
  have Z_2 : n0 ≤ h2.size := Nat.le_trans Z_1 (Nat.le_of_eq W2.size.symm)
  have KK_2 : Keep h0 h2 [self] := KK_1.wr W2 (Or.inl (List.mem_of_getElem? (i := 0) rfl))
  refine A (st2 _) ?_
  show D (T2.setTop (mkF m 7 #[.val (.ref self), .val (.int (1024 : Int32))] []))
  refine A (XS.aloadN X2.here hx rfl (hb hby d4_7) rfl rfl) ?_
  show D (T2.setTop (mkF m 8 #[.val (.ref self), .val (.int (1024 : Int32))] [(.ref self)]))
  obtain ⟨T3, X3, e3, st3⟩ := getF X2 hx hZ hown (host := "") (Or.inl (hw _ (List.mem_of_getElem? (i := 19) rfl))) Via.refl e2 F_keys_self_2 (g := (mkF m 8 #[.val (.ref self), .val (.int (1024 : Int32))] [(.ref self)])) rfl rfl (hb hby d4_8)
  refine A (st3 _) ?_
  show D (T3.setTop (mkF m 11 #[.val (.ref self), .val (.int (1024 : Int32))] [(.ref b1)]))
  refine A (X3.ldc2Long hx hown (mvT hZ (hw _ (List.mem_of_getElem? (i := 21) rfl))) (g := (mkF m 11 #[.val (.ref self), .val (.int (1024 : Int32))] [(.ref b1)])) rfl (hb hby d4_11) _) ?_
  show D (T3.setTop (mkF m 14 #[.val (.ref self), .val (.int (1024 : Int32))] [(.long (-1 : Int64)), (.ref b1)]))
  refine Adv.callS A X3 hx hZ hown (hw _ (List.mem_of_getElem? (i := 22) rfl)) (hw _ (List.mem_of_getElem? (i := 23) rfl)) (hw _ (List.mem_of_getElem? (i := 24) rfl)) (hw _ (List.mem_of_getElem? (i := 25) rfl)) e3 (rm5 l Z a0 hw [] b1 (-1 : Int64) h2 n0 (fun _ => 0) Z_2 g_b1 V_b1_2) 0 (g := (mkF m 14 #[.val (.ref self), .val (.int (1024 : Int32))] [(.long (-1 : Int64)), (.ref b1)])) rfl (by rw [hml]; rfl) [(.ref b1), (.long (-1 : Int64))] [] rfl (lenOf pd4_0 rfl) rfl (by show 2 * 0 + _ ≤ _; exact Nat.le_of_eq rfl) (hb hby d4_14) (by decide) (by decide) (by decide) (by decide) (by decide) ?_
  rintro T4 L4 _ X4 ⟨rfl, N4_q, K4, V4_q⟩
  have N4 := Fr.app N2 N4_q
  have E_self_4 := E_self_2.keep K4
  have F_keys_self_4 := F_keys_self_2.keep K4 (ninS ne_self_b1 nin0)
  have F_counts_self_4 := F_counts_self_2.keep K4 (ninS ne_self_b1 nin0)
  have F_mask_self_4 := F_mask_self_2.keep K4 (ninS ne_self_b1 nin0)
  have F_shift_self_4 := F_shift_self_2.keep K4 (ninS ne_self_b1 nin0)
  have F_size_self_4 := F_size_self_2.keep K4 (ninS ne_self_b1 nin0)
  have Z_4 : n0 ≤ T4.heap.size := Nat.le_trans Z_2 K4.1
  have KK_4 : Keep h0 T4.heap [self] := KK_2.trans K4 (allS (Or.inr sz_b1) all0)
  show D (T4.setTop (mkF m 17 #[.val (.ref self), .val (.int (1024 : Int32))] []))
  refine A (XS.aloadN X4.here hx rfl (hb hby d4_17) rfl rfl) ?_
  show D (T4.setTop (mkF m 18 #[.val (.ref self), .val (.int (1024 : Int32))] [(.ref self)]))
  refine A (XS.iloadN X4.here hx rfl (hb hby d4_18) rfl) ?_
  show D (T4.setTop (mkF m 19 #[.val (.ref self), .val (.int (1024 : Int32))] [(.int (1024 : Int32)), (.ref self)]))
  refine Adv.newI A X4 hx hZ (aty := .int) (hw _ (List.mem_of_getElem? (i := 26) rfl)) rfl (n := 1024) (by decide) 1024 (by decide) (by decide) rfl (ad := "[I") (by decide) (by decide) (by decide) (g := (mkF m 19 #[.val (.ref self), .val (.int (1024 : Int32))] [(.int (1024 : Int32)), (.ref self)])) rfl rfl (hb hby d4_19) ?_
  intro T5 h5 b5 q_b5 X5 e5 E5 V_b5 EA_b5
  have ne_self_b5 : self ≠ b5 := Nat.ne_of_lt (Nat.lt_of_lt_of_le E_self_4.lt (Nat.le_of_eq q_b5.symm))
  have ne_b1_b5 : b1 ≠ b5 := Nat.ne_of_lt (Nat.lt_of_lt_of_le V4_q.lt (Nat.le_of_eq q_b5.symm))
  have g_b5 : n0 ≤ b5 := Nat.le_trans Z_4 (Nat.le_of_eq q_b5.symm)
  have sz_b5 : h0.size ≤ b5 := Nat.le_trans KK_4.1 (Nat.le_of_eq q_b5.symm)
  have E_self_5 := E_self_4.ext E5
  have F_keys_self_5 := F_keys_self_4.ext E5
  have F_counts_self_5 := F_counts_self_4.ext E5
  have F_mask_self_5 := F_mask_self_4.ext E5
  have F_shift_self_5 := F_shift_self_4.ext E5
  have F_size_self_5 := F_size_self_4.ext E5
  have V_b1_5 := V4_q.ext E5
  have Z_5 : n0 ≤ h5.size := Nat.le_trans Z_4 E5.1
  have KK_5 : Keep h0 h5 [self] := KK_4.ext E5
  show D (T5.setTop (mkF m 21 #[.val (.ref self), .val (.int (1024 : Int32))] [(.ref b5), (.ref self)]))
  obtain ⟨T6, h6, X6, e6, W6, st6⟩ := putF X5 hx hZ hown (host := "") (Or.inl (hw _ (List.mem_of_getElem? (i := 27) rfl))) Via.refl e5 F_counts_self_5 E_self_5 (Or.inl (hw _ (List.mem_of_getElem? (i := 28) rfl))) (hw _ (List.mem_of_getElem? (i := 6) rfl)) (ty := (.array .int)) (by decide) rfl rfl (g := (mkF m 21 #[.val (.ref self), .val (.int (1024 : Int32))] [(.ref b5), (.ref self)])) rfl rfl (hb hby d4_21)
  have N6 := Fr.snoc X6 N4 g_self
  have F_counts_self_6 := F_counts_self_5.same W6
  have E_self_6 := E_self_5.wr W6
  have F_keys_self_6 := F_keys_self_5.other W6 (Or.inr (slot_ne (Or.inl (hw _ (List.mem_of_getElem? (i := 20) rfl))) (Or.inl (hw _ (List.mem_of_getElem? (i := 28) rfl))) (by decide) (t := (.array .long)) (t' := (.array .int)) (by decide) (by decide)))
  have F_mask_self_6 := F_mask_self_5.other W6 (Or.inr (slot_ne (Or.inl (hw _ (List.mem_of_getElem? (i := 30) rfl))) (Or.inl (hw _ (List.mem_of_getElem? (i := 28) rfl))) (by decide) (t := .int) (t' := (.array .int)) (by decide) (by decide)))
  have F_shift_self_6 := F_shift_self_5.other W6 (Or.inr (slot_ne (Or.inl (hw _ (List.mem_of_getElem? (i := 41) rfl))) (Or.inl (hw _ (List.mem_of_getElem? (i := 28) rfl))) (by decide) (t := .int) (t' := (.array .int)) (by decide) (by decide)))
  have F_size_self_6 := F_size_self_5.other W6 (Or.inr (slot_ne (Or.inl (hw _ (List.mem_of_getElem? (i := 57) rfl))) (Or.inl (hw _ (List.mem_of_getElem? (i := 28) rfl))) (by decide) (t := .int) (t' := (.array .int)) (by decide) (by decide)))
  have V_b1_6 := V_b1_5.other W6 (Ne.symm ne_self_b1)
  have V_b5_6 := V_b5.other W6 (Ne.symm ne_self_b5)
  have Z_6 : n0 ≤ h6.size := Nat.le_trans Z_5 (Nat.le_of_eq W6.size.symm)
  have KK_6 : Keep h0 h6 [self] := KK_5.wr W6 (Or.inl (List.mem_of_getElem? (i := 0) rfl))
  refine A (st6 _) ?_
  show D (T6.setTop (mkF m 24 #[.val (.ref self), .val (.int (1024 : Int32))] []))
  refine A (XS.aloadN X6.here hx rfl (hb hby d4_24) rfl rfl) ?_
  show D (T6.setTop (mkF m 25 #[.val (.ref self), .val (.int (1024 : Int32))] [(.ref self)]))
  refine A (XS.iloadN X6.here hx rfl (hb hby d4_25) rfl) ?_
  show D (T6.setTop (mkF m 26 #[.val (.ref self), .val (.int (1024 : Int32))] [(.int (1024 : Int32)), (.ref self)]))
  refine A (XS.iconst X6.here hx rfl (hb hby d4_26)) ?_
  show D (T6.setTop (mkF m 27 #[.val (.ref self), .val (.int (1024 : Int32))] [(.int (1 : Int32)), (.int (1024 : Int32)), (.ref self)]))
  refine A (XS.isub X6.here hx rfl (hb hby d4_27) rfl) ?_
  show D (T6.setTop (mkF m 28 #[.val (.ref self), .val (.int (1024 : Int32))] [(.int ((1024 : Int32) - (1 : Int32))), (.ref self)]))
  suffices Kq7 : ∀ q7 : Int32, q7 = (1023 : Int32) → D (T6.setTop (mkF m 28 #[.val (.ref self), .val (.int (1024 : Int32))] [(.int q7), (.ref self)])) from Kq7 _ (by decide)
  rintro _ rfl
  show D (T6.setTop (mkF m 28 #[.val (.ref self), .val (.int (1024 : Int32))] [(.int (1023 : Int32)), (.ref self)]))
  obtain ⟨T8, h8, X8, e8, W8, st8⟩ := putF X6 hx hZ hown (host := "") (Or.inl (hw _ (List.mem_of_getElem? (i := 29) rfl))) Via.refl e6 F_mask_self_6 E_self_6 (Or.inl (hw _ (List.mem_of_getElem? (i := 30) rfl))) (hw _ (List.mem_of_getElem? (i := 6) rfl)) (ty := .int) (by decide) rfl rfl (g := (mkF m 28 #[.val (.ref self), .val (.int (1024 : Int32))] [(.int (1023 : Int32)), (.ref self)])) rfl rfl (hb hby d4_28)
  have N8 := Fr.snoc X8 N6 g_self
  have F_mask_self_8 := F_mask_self_6.same W8
  have E_self_8 := E_self_6.wr W8
  have F_keys_self_8 := F_keys_self_6.other W8 (Or.inr (slot_ne (Or.inl (hw _ (List.mem_of_getElem? (i := 20) rfl))) (Or.inl (hw _ (List.mem_of_getElem? (i := 30) rfl))) (by decide) (t := (.array .long)) (t' := .int) (by decide) (by decide)))
  have F_counts_self_8 := F_counts_self_6.other W8 (Or.inr (slot_ne (Or.inl (hw _ (List.mem_of_getElem? (i := 28) rfl))) (Or.inl (hw _ (List.mem_of_getElem? (i := 30) rfl))) (by decide) (t := (.array .int)) (t' := .int) (by decide) (by decide)))
  have F_shift_self_8 := F_shift_self_6.other W8 (Or.inr (slot_ne (Or.inl (hw _ (List.mem_of_getElem? (i := 41) rfl))) (Or.inl (hw _ (List.mem_of_getElem? (i := 30) rfl))) (by decide) (t := .int) (t' := .int) (by decide) (by decide)))
  have F_size_self_8 := F_size_self_6.other W8 (Or.inr (slot_ne (Or.inl (hw _ (List.mem_of_getElem? (i := 57) rfl))) (Or.inl (hw _ (List.mem_of_getElem? (i := 30) rfl))) (by decide) (t := .int) (t' := .int) (by decide) (by decide)))
  have V_b1_8 := V_b1_6.other W8 (Ne.symm ne_self_b1)
  have V_b5_8 := V_b5_6.other W8 (Ne.symm ne_self_b5)
  have Z_8 : n0 ≤ h8.size := Nat.le_trans Z_6 (Nat.le_of_eq W8.size.symm)
  have KK_8 : Keep h0 h8 [self] := KK_6.wr W8 (Or.inl (List.mem_of_getElem? (i := 0) rfl))
  refine A (st8 _) ?_
  show D (T8.setTop (mkF m 31 #[.val (.ref self), .val (.int (1024 : Int32))] []))
  refine A (XS.aloadN X8.here hx rfl (hb hby d4_31) rfl rfl) ?_
  show D (T8.setTop (mkF m 32 #[.val (.ref self), .val (.int (1024 : Int32))] [(.ref self)]))
  refine A (XS.aloadN X8.here hx rfl (hb hby d4_32) rfl rfl) ?_
  show D (T8.setTop (mkF m 33 #[.val (.ref self), .val (.int (1024 : Int32))] [(.ref self), (.ref self)]))
  obtain ⟨T9, X9, e9, st9⟩ := getF X8 hx hZ hown (host := "") (Or.inl (hw _ (List.mem_of_getElem? (i := 29) rfl))) Via.refl e8 F_mask_self_8 (g := (mkF m 33 #[.val (.ref self), .val (.int (1024 : Int32))] [(.ref self), (.ref self)])) rfl rfl (hb hby d4_33)
  refine A (st9 _) ?_
  show D (T9.setTop (mkF m 36 #[.val (.ref self), .val (.int (1024 : Int32))] [(.int (1023 : Int32)), (.ref self)]))
  refine A (XS.i2l X9.here hx rfl (hb hby d4_36) rfl) ?_
  show D (T9.setTop (mkF m 37 #[.val (.ref self), .val (.int (1024 : Int32))] [(.long ((1023 : Int32).toInt64)), (.ref self)]))
  refine Adv.callS A X9 hx hZ hown (hw _ (List.mem_of_getElem? (i := 31) rfl)) (hw _ (List.mem_of_getElem? (i := 32) rfl)) (hw _ (List.mem_of_getElem? (i := 33) rfl)) (hw _ (List.mem_of_getElem? (i := 34) rfl)) e9 (rm6 l Z a0 hw [] ((1023 : Int32).toInt64) h8 n0) 1 (g := (mkF m 37 #[.val (.ref self), .val (.int (1024 : Int32))] [(.long ((1023 : Int32).toInt64)), (.ref self)])) rfl (by rw [hml]; rfl) [(.long ((1023 : Int32).toInt64))] [(.ref self)] rfl (lenOf pd4_1 rfl) rfl (by show 2 * 0 + _ ≤ _; exact Nat.le_of_eq rfl) (hb hby d4_37) (by decide) (by decide) (by decide) (by decide) (by decide) ?_
  rintro T10 L10 _ X10 ⟨rfl, N10_q, e10⟩
  have N10 := Fr.app N8 N10_q
  show D (T10.setTop (mkF m 40 #[.val (.ref self), .val (.int (1024 : Int32))] [(.int (f6 ((1023 : Int32).toInt64))), (.ref self)]))
  obtain ⟨T11, h11, X11, e11, W11, st11⟩ := putF X10 hx hZ hown (host := "") (Or.inl (hw _ (List.mem_of_getElem? (i := 40) rfl))) Via.refl e10 F_shift_self_8 E_self_8 (Or.inl (hw _ (List.mem_of_getElem? (i := 41) rfl))) (hw _ (List.mem_of_getElem? (i := 6) rfl)) (ty := .int) (by decide) rfl rfl (g := (mkF m 40 #[.val (.ref self), .val (.int (1024 : Int32))] [(.int (f6 ((1023 : Int32).toInt64))), (.ref self)])) rfl rfl (hb hby d4_40)
  have N11 := Fr.snoc X11 N10 g_self
  have F_shift_self_11 := F_shift_self_8.same W11
  have E_self_11 := E_self_8.wr W11
  have F_keys_self_11 := F_keys_self_8.other W11 (Or.inr (slot_ne (Or.inl (hw _ (List.mem_of_getElem? (i := 20) rfl))) (Or.inl (hw _ (List.mem_of_getElem? (i := 41) rfl))) (by decide) (t := (.array .long)) (t' := .int) (by decide) (by decide)))
  have F_counts_self_11 := F_counts_self_8.other W11 (Or.inr (slot_ne (Or.inl (hw _ (List.mem_of_getElem? (i := 28) rfl))) (Or.inl (hw _ (List.mem_of_getElem? (i := 41) rfl))) (by decide) (t := (.array .int)) (t' := .int) (by decide) (by decide)))
  have F_mask_self_11 := F_mask_self_8.other W11 (Or.inr (slot_ne (Or.inl (hw _ (List.mem_of_getElem? (i := 30) rfl))) (Or.inl (hw _ (List.mem_of_getElem? (i := 41) rfl))) (by decide) (t := .int) (t' := .int) (by decide) (by decide)))
  have F_size_self_11 := F_size_self_8.other W11 (Or.inr (slot_ne (Or.inl (hw _ (List.mem_of_getElem? (i := 57) rfl))) (Or.inl (hw _ (List.mem_of_getElem? (i := 41) rfl))) (by decide) (t := .int) (t' := .int) (by decide) (by decide)))
  have V_b1_11 := V_b1_8.other W11 (Ne.symm ne_self_b1)
  have V_b5_11 := V_b5_8.other W11 (Ne.symm ne_self_b5)
  have Z_11 : n0 ≤ h11.size := Nat.le_trans Z_8 (Nat.le_of_eq W11.size.symm)
  have KK_11 : Keep h0 h11 [self] := KK_8.wr W11 (Or.inl (List.mem_of_getElem? (i := 0) rfl))
  refine A (st11 _) ?_
  show D (T11.setTop (mkF m 43 #[.val (.ref self), .val (.int (1024 : Int32))] []))
  exact F _ (Jvm.JW.ret X11 hlk (v := none) (fun _ => rfl) (fun fs hr => X11.returnOut hx hrt (hb hby d4_43) hr) e11 ⟨rfl, b1, b5, N11, KK_11, E_self_11, F_keys_self_11, F_counts_self_11, F_mask_self_11, (own_nlz ▸ F_shift_self_11), F_size_self_11, V_b1_11, V_b5_11, sz_b1, sz_b5⟩ (by decide) (by decide))
theorem d2_0 : decode prog_9_method_1_code 0 = .ok (.aload_n 0, 1) := by decide +kernel
theorem d2_1 : decode prog_9_method_1_code 1 = .ok (.invokespecial 1, 3) := by decide +kernel
theorem d2_4 : decode prog_9_method_1_code 4 = .ok (.aload_n 0, 1) := by decide +kernel
theorem d2_5 : decode prog_9_method_1_code 5 = .ok (.sipush 1024, 3) := by decide +kernel
theorem d2_8 : decode prog_9_method_1_code 8 = .ok (.invokevirtual 7, 3) := by decide +kernel
theorem d2_11 : decode prog_9_method_1_code 11 = .ok (.return_, 1) := by decide +kernel
theorem pn2 : plainFor (⟨"com/example/enklave/enklave/anonymize/CountMap", "<init>", "()V"⟩ : MethodName) = true := by decide +kernel
theorem pd2_0 : parseMethodDescriptor "(I)V" = some ⟨[.int], none⟩ := by decide +kernel
theorem ef2 (self : Addr) (m : MethodId) : entryFrame m #[(.ref self)] 1 = mkF m 0 #[.val (.ref self)] [] := by first | (simp [entryFrame, mkF, argsToLocals, Value.category]; done) | rfl
set_option maxRecDepth 65536 in
set_option maxHeartbeats 40000000 in
theorem rm2 (l : Launch) (Z : State) (a0 : Array Value) (hw : ∀ d ∈ tables_1, d.before a0 Z = true) (ws : List Jvm.Cond) (self : Addr) (h0 : Heap) (n0 : Nat) (Z0 : n0 ≤ h0.size) (g_self : n0 ≤ self) (E_self : Exa Z h0 self "com/example/enklave/enklave/anonymize/CountMap") (F_keys : Fld Z h0 self "com/example/enklave/enklave/anonymize/CountMap" "keys" "[J" .null) (F_counts : Fld Z h0 self "com/example/enklave/enklave/anonymize/CountMap" "counts" "[I" .null) (F_mask : Fld Z h0 self "com/example/enklave/enklave/anonymize/CountMap" "mask" "I" (.int (0 : Int32))) (F_shift : Fld Z h0 self "com/example/enklave/enklave/anonymize/CountMap" "shift" "I" (.int (0 : Int32))) (F_size : Fld Z h0 self "com/example/enklave/enklave/anonymize/CountMap" "size" "I" (.int (0 : Int32))) :
    JMet l Z (⟨"com/example/enklave/enklave/anonymize/CountMap", "<init>", "()V"⟩ : MethodName) prog_9_method_1_code 1 none ws ({ frames := 3, cells := 2, slots := 2048, locals := 42 } : Room) #[(.ref self)] h0 (fun v h L => v = none ∧ ∃ ka cb : Addr, Fr n0 L ∧ Keep h0 h [self] ∧ Exa Z h self "com/example/enklave/enklave/anonymize/CountMap" ∧ Fld Z h self "com/example/enklave/enklave/anonymize/CountMap" "keys" "[J" (.ref ka) ∧ Fld Z h self "com/example/enklave/enklave/anonymize/CountMap" "counts" "[I" (.ref cb) ∧ Fld Z h self "com/example/enklave/enklave/anonymize/CountMap" "mask" "I" (.int (1023 : Int32)) ∧ Fld Z h self "com/example/enklave/enklave/anonymize/CountMap" "shift" "I" (.int (54 : Int32)) ∧ Fld Z h self "com/example/enklave/enklave/anonymize/CountMap" "size" "I" (.int (0 : Int32)) ∧ ArJ Z h ka 1024 (fun _ => (-1 : Int64)) ∧ ArI Z h cb .int 1024 (fun _ => 0) ∧ h0.size ≤ ka ∧ h0.size ≤ cb) := by
  refine Jvm.JW.body #[.val (.ref self)] pn2 (ef2 self) ?_
  intro p e s m below meth c T0 D A F X0 hx hZ hby hml hown hnm hrt hlk e0
  refine A (XS.aloadN X0.here hx rfl (hb hby d2_0) rfl rfl) ?_
  show D (T0.setTop (mkF m 1 #[.val (.ref self)] [(.ref self)]))
  obtain ⟨T1, X1, e1, st1⟩ := initO X0 hx hZ hown (hw _ (List.mem_of_getElem? (i := 11) rfl)) (hw _ (List.mem_of_getElem? (i := 12) rfl)) (hw _ (List.mem_of_getElem? (i := 13) rfl)) e0 (g := (mkF m 1 #[.val (.ref self)] [(.ref self)])) rfl (by rw [hml]; rfl) rfl (hb hby d2_1) (by decide) (W := 0) (by show 2 * 0 + _ ≤ _; exact Nat.le_of_eq rfl) (by decide)
  refine A (st1 _) ?_
  show D (T1.setTop (mkF m 4 #[.val (.ref self)] []))
  refine A (XS.aloadN X1.here hx rfl (hb hby d2_4) rfl rfl) ?_
  show D (T1.setTop (mkF m 5 #[.val (.ref self)] [(.ref self)]))
  refine A (XS.sipush X1.here hx rfl (hb hby d2_5)) ?_
  show D (T1.setTop (mkF m 8 #[.val (.ref self)] [(.int (1024 : Int32)), (.ref self)]))
  refine Adv.callP A X1 hx hZ hown (hw _ (List.mem_of_getElem? (i := 14) rfl)) (hw _ (List.mem_of_getElem? (i := 15) rfl)) (hw _ (List.mem_of_getElem? (i := 6) rfl)) (hw _ (List.mem_of_getElem? (i := 16) rfl)) (hw _ (List.mem_of_getElem? (i := 7) rfl)) (hw _ (List.mem_of_getElem? (i := 17) rfl)) e1 E_self (rm4 l Z a0 hw [] self h0 n0 Z0 g_self E_self F_keys F_counts F_mask F_shift F_size) 0 (g := (mkF m 8 #[.val (.ref self)] [(.int (1024 : Int32)), (.ref self)])) rfl (by rw [hml]; rfl) [(.int (1024 : Int32))] [] rfl (lenOf pd2_0 rfl) rfl (by show 2 * 0 + _ ≤ _; exact Nat.le_of_eq rfl) (hb hby d2_8) (by decide) (by decide) (by decide) (by decide) (by decide) ?_
  rintro T2 L2 _ X2 ⟨rfl, ka2, cb2, N2_q, K2, -, F2_keys, F2_counts, F2_mask, F2_shift, F2_size, V2_k, V2_c, szq_ka2, szq_cb2⟩
  have N2 := Fr.app (Fr.nil n0) N2_q
  have ne_self_ka2 : self ≠ ka2 := Nat.ne_of_lt (Nat.lt_of_lt_of_le E_self.lt szq_ka2)
  have g_ka2 : n0 ≤ ka2 := Nat.le_trans Z0 szq_ka2
  have sz_ka2 : h0.size ≤ ka2 := Nat.le_trans (Keep.refl h0 [self]).1 szq_ka2
  have ne_self_cb2 : self ≠ cb2 := Nat.ne_of_lt (Nat.lt_of_lt_of_le E_self.lt szq_cb2)
  have g_cb2 : n0 ≤ cb2 := Nat.le_trans Z0 szq_cb2
  have sz_cb2 : h0.size ≤ cb2 := Nat.le_trans (Keep.refl h0 [self]).1 szq_cb2
  have E_self_2 := E_self.keep K2
  have Z_2 : n0 ≤ T2.heap.size := Nat.le_trans Z0 K2.1
  have KK_2 : Keep h0 T2.heap [self] := (Keep.refl h0 [self]).trans K2 (allS (Or.inl (List.mem_of_getElem? (i := 0) rfl)) all0)
  show D (T2.setTop (mkF m 11 #[.val (.ref self)] []))
  exact F _ (Jvm.JW.ret X2 hlk (v := none) (fun _ => rfl) (fun fs hr => X2.returnOut hx hrt (hb hby d2_11) hr) rfl ⟨rfl, ka2, cb2, N2, KK_2, E_self_2, F2_keys, F2_counts, F2_mask, (F2_shift), F2_size, V2_k, V2_c, sz_ka2, sz_cb2⟩ (by decide) (by decide))
theorem d10_0 : decode prog_9_method_6_code 0 = .ok (.lload_n 1, 1) := by decide +kernel
theorem d10_1 : decode prog_9_method_6_code 1 = .ok (.ldc2_w 52, 3) := by decide +kernel
theorem d10_4 : decode prog_9_method_6_code 4 = .ok (.lmul, 1) := by decide +kernel
theorem d10_5 : decode prog_9_method_6_code 5 = .ok (.aload_n 0, 1) := by decide +kernel
theorem d10_6 : decode prog_9_method_6_code 6 = .ok (.getfield 54, 3) := by decide +kernel
theorem d10_9 : decode prog_9_method_6_code 9 = .ok (.lushr, 1) := by decide +kernel
theorem d10_10 : decode prog_9_method_6_code 10 = .ok (.l2i, 1) := by decide +kernel
theorem d10_11 : decode prog_9_method_6_code 11 = .ok (.ireturn, 1) := by decide +kernel
theorem pn10 : plainFor (⟨"com/example/enklave/enklave/anonymize/CountMap", "home", "(J)I"⟩ : MethodName) = true := by decide +kernel
theorem ef10 (self : Addr) (p1 : Int64) (m : MethodId) : entryFrame m #[(.ref self), (.long p1)] 3 = mkF m 0 #[.val (.ref self), .val (.long p1), .second] [] := by first | (simp [entryFrame, mkF, argsToLocals, Value.category]; done) | rfl
set_option maxRecDepth 65536 in
set_option maxHeartbeats 40000000 in
theorem rm10 (l : Launch) (Z : State) (a0 : Array Value) (hw : ∀ d ∈ tables_1, d.before a0 Z = true) (ws : List Jvm.Cond) (self : Addr) (p1 : Int64) (h0 : Heap) (n0 : Nat) (sz : Int32) (ka cb : Addr) (kf : Nat → Int64) (cf : Nat → Int32) (mp : Int64 → Int32) (nn : Nat) (Z0 : n0 ≤ h0.size) (g_self : n0 ≤ self) (g_ka : n0 ≤ ka) (g_cb : n0 ≤ cb) (E_self : Exa Z h0 self "com/example/enklave/enklave/anonymize/CountMap") (F_keys : Fld Z h0 self "com/example/enklave/enklave/anonymize/CountMap" "keys" "[J" (.ref ka)) (F_counts : Fld Z h0 self "com/example/enklave/enklave/anonymize/CountMap" "counts" "[I" (.ref cb)) (F_mask : Fld Z h0 self "com/example/enklave/enklave/anonymize/CountMap" "mask" "I" (.int (1023 : Int32))) (F_shift : Fld Z h0 self "com/example/enklave/enklave/anonymize/CountMap" "shift" "I" (.int (54 : Int32))) (F_size : Fld Z h0 self "com/example/enklave/enklave/anonymize/CountMap" "size" "I" (.int sz)) (V_ka : ArJ Z h0 ka 1024 kf) (V_cb : ArI Z h0 cb .int 1024 cf) (hoc : own_Occ kf nn) (hnn : nn < 100) (hsz : own_Sz sz nn) :
    JMet l Z (⟨"com/example/enklave/enklave/anonymize/CountMap", "home", "(J)I"⟩ : MethodName) prog_9_method_6_code 3 (some .int) ws ({ frames := 0, cells := 0, slots := 0, locals := 0 } : Room) #[(.ref self), (.long p1)] h0 (QP (.int (own_hm p1)) h0 n0) := by
  refine Jvm.JW.body #[.val (.ref self), .val (.long p1), .second] pn10 (ef10 self p1) ?_
  intro p e s m below meth c T0 D A F X0 hx hZ hby hml hown hnm hrt hlk e0
  refine A (XS.lloadN X0.here hx rfl (hb hby d10_0) rfl) ?_
  show D (T0.setTop (mkF m 1 #[.val (.ref self), .val (.long p1), .second] [(.long p1)]))
  refine A (X0.ldc2Long hx hown (mvT hZ (hw _ (List.mem_of_getElem? (i := 55) rfl))) (g := (mkF m 1 #[.val (.ref self), .val (.long p1), .second] [(.long p1)])) rfl (hb hby d10_1) _) ?_
  show D (T0.setTop (mkF m 4 #[.val (.ref self), .val (.long p1), .second] [(.long (-7046029254386353131 : Int64)), (.long p1)]))
  refine A (XS.lmul X0.here hx rfl (hb hby d10_4) rfl) ?_
  show D (T0.setTop (mkF m 5 #[.val (.ref self), .val (.long p1), .second] [(.long (p1 * (-7046029254386353131 : Int64)))]))
  refine A (XS.aloadN X0.here hx rfl (hb hby d10_5) rfl rfl) ?_
  show D (T0.setTop (mkF m 6 #[.val (.ref self), .val (.long p1), .second] [(.ref self), (.long (p1 * (-7046029254386353131 : Int64)))]))
  obtain ⟨T1, X1, e1, st1⟩ := getF X0 hx hZ hown (host := "") (Or.inl (hw _ (List.mem_of_getElem? (i := 40) rfl))) Via.refl e0 F_shift (g := (mkF m 6 #[.val (.ref self), .val (.long p1), .second] [(.ref self), (.long (p1 * (-7046029254386353131 : Int64)))])) rfl rfl (hb hby d10_6)
  refine A (st1 _) ?_
  show D (T1.setTop (mkF m 9 #[.val (.ref self), .val (.long p1), .second] [(.int (54 : Int32)), (.long (p1 * (-7046029254386353131 : Int64)))]))
  refine A (XS.lushr X1.here hx rfl (hb hby d10_9) rfl) ?_
  show D (T1.setTop (mkF m 10 #[.val (.ref self), .val (.long p1), .second] [(.long (((p1 * (-7046029254386353131 : Int64)).toUInt64 >>> ((54 : Int32) &&& 0x3f).toInt64.toUInt64).toInt64))]))
  refine A (XS.l2i X1.here hx rfl (hb hby d10_10) rfl) ?_
  show D (T1.setTop (mkF m 11 #[.val (.ref self), .val (.long p1), .second] [(.int ((((p1 * (-7046029254386353131 : Int64)).toUInt64 >>> ((54 : Int32) &&& 0x3f).toInt64.toUInt64).toInt64).toInt32))]))
  refine F _ (Jvm.JW.ret X1 hlk (v := some (.int ((((p1 * (-7046029254386353131 : Int64)).toUInt64 >>> ((54 : Int32) &&& 0x3f).toInt64.toUInt64).toInt64).toInt32))) (fun h => by rw [hrt] at h; cases h) (fun fs hr => retOut X1 hx hrt rfl (Or.inl ⟨rfl, Or.inl rfl, _, rfl⟩) (hb hby d10_11) hr) rfl ?_ (by decide) (by decide))
  exact ⟨rfl, (Fr.nil n0), e1⟩
theorem d9_0 : decode prog_9_method_5_code 0 = .ok (.aload_n 0, 1) := by decide +kernel
theorem d9_1 : decode prog_9_method_5_code 1 = .ok (.lload_n 1, 1) := by decide +kernel
theorem d9_2 : decode prog_9_method_5_code 2 = .ok (.invokevirtual 46, 3) := by decide +kernel
theorem d9_5 : decode prog_9_method_5_code 5 = .ok (.istore_n 3, 1) := by decide +kernel
theorem d9_6 : decode prog_9_method_5_code 6 = .ok (.aload_n 0, 1) := by decide +kernel
theorem d9_7 : decode prog_9_method_5_code 7 = .ok (.getfield 17, 3) := by decide +kernel
theorem d9_10 : decode prog_9_method_5_code 10 = .ok (.iload_n 3, 1) := by decide +kernel
theorem d9_11 : decode prog_9_method_5_code 11 = .ok (.laload, 1) := by decide +kernel
theorem d9_12 : decode prog_9_method_5_code 12 = .ok (.ldc2_w 21, 3) := by decide +kernel
theorem d9_15 : decode prog_9_method_5_code 15 = .ok (.lcmp, 1) := by decide +kernel
theorem d9_16 : decode prog_9_method_5_code 16 = .ok (.ifCond .eq 26, 3) := by decide +kernel
theorem d9_19 : decode prog_9_method_5_code 19 = .ok (.aload_n 0, 1) := by decide +kernel
theorem d9_20 : decode prog_9_method_5_code 20 = .ok (.getfield 17, 3) := by decide +kernel
theorem d9_23 : decode prog_9_method_5_code 23 = .ok (.iload_n 3, 1) := by decide +kernel
theorem d9_24 : decode prog_9_method_5_code 24 = .ok (.laload, 1) := by decide +kernel
theorem d9_25 : decode prog_9_method_5_code 25 = .ok (.lload_n 1, 1) := by decide +kernel
theorem d9_26 : decode prog_9_method_5_code 26 = .ok (.lcmp, 1) := by decide +kernel
theorem d9_27 : decode prog_9_method_5_code 27 = .ok (.ifCond .eq 15, 3) := by decide +kernel
theorem d9_30 : decode prog_9_method_5_code 30 = .ok (.iload_n 3, 1) := by decide +kernel
theorem d9_31 : decode prog_9_method_5_code 31 = .ok (.iconst 1, 1) := by decide +kernel
theorem d9_32 : decode prog_9_method_5_code 32 = .ok (.iadd, 1) := by decide +kernel
theorem d9_33 : decode prog_9_method_5_code 33 = .ok (.aload_n 0, 1) := by decide +kernel
theorem d9_34 : decode prog_9_method_5_code 34 = .ok (.getfield 49, 3) := by decide +kernel
theorem d9_37 : decode prog_9_method_5_code 37 = .ok (.iand, 1) := by decide +kernel
theorem d9_38 : decode prog_9_method_5_code 38 = .ok (.istore_n 3, 1) := by decide +kernel
theorem d9_39 : decode prog_9_method_5_code 39 = .ok (.goto (-33), 3) := by decide +kernel
theorem d9_42 : decode prog_9_method_5_code 42 = .ok (.iload_n 3, 1) := by decide +kernel
theorem d9_43 : decode prog_9_method_5_code 43 = .ok (.ireturn, 1) := by decide +kernel
theorem pn9 : plainFor (⟨"com/example/enklave/enklave/anonymize/CountMap", "find", "(J)I"⟩ : MethodName) = true := by decide +kernel
theorem pd9_0 : parseMethodDescriptor "(J)I" = some ⟨[.long], some .int⟩ := by decide +kernel
theorem ef9 (self : Addr) (p1 : Int64) (m : MethodId) : entryFrame m #[(.ref self), (.long p1)] 4 = mkF m 0 #[.val (.ref self), .val (.long p1), .second, .unset] [] := by first | (simp [entryFrame, mkF, argsToLocals, Value.category]; done) | rfl
set_option maxRecDepth 65536 in
set_option maxHeartbeats 40000000 in
theorem rm9 (l : Launch) (Z : State) (a0 : Array Value) (hw : ∀ d ∈ tables_1, d.before a0 Z = true) (ws : List Jvm.Cond) (self : Addr) (p1 : Int64) (h0 : Heap) (n0 : Nat) (sz : Int32) (ka cb : Addr) (kf : Nat → Int64) (cf : Nat → Int32) (mp : Int64 → Int32) (nn : Nat) (Z0 : n0 ≤ h0.size) (g_self : n0 ≤ self) (g_ka : n0 ≤ ka) (g_cb : n0 ≤ cb) (E_self : Exa Z h0 self "com/example/enklave/enklave/anonymize/CountMap") (F_keys : Fld Z h0 self "com/example/enklave/enklave/anonymize/CountMap" "keys" "[J" (.ref ka)) (F_counts : Fld Z h0 self "com/example/enklave/enklave/anonymize/CountMap" "counts" "[I" (.ref cb)) (F_mask : Fld Z h0 self "com/example/enklave/enklave/anonymize/CountMap" "mask" "I" (.int (1023 : Int32))) (F_shift : Fld Z h0 self "com/example/enklave/enklave/anonymize/CountMap" "shift" "I" (.int (54 : Int32))) (F_size : Fld Z h0 self "com/example/enklave/enklave/anonymize/CountMap" "size" "I" (.int sz)) (V_ka : ArJ Z h0 ka 1024 kf) (V_cb : ArI Z h0 cb .int 1024 cf) (hoc : own_Occ kf nn) (hnn : nn < 100) (hsz : own_Sz sz nn) :
    JMet l Z (⟨"com/example/enklave/enklave/anonymize/CountMap", "find", "(J)I"⟩ : MethodName) prog_9_method_5_code 4 (some .int) ws ({ frames := 1, cells := 0, slots := 0, locals := 14 } : Room) #[(.ref self), (.long p1)] h0 (fun v h L => ∃ (r : Int32) (ii : Nat), v = some (.int r) ∧ r.toInt = ii ∧ own_Fd kf p1 ii ∧ Fr n0 L ∧ h = h0) := by
  refine Jvm.JW.body #[.val (.ref self), .val (.long p1), .second, .unset] pn9 (ef9 self p1) ?_
  intro p e s m below meth c T0 D A F X0 hx hZ hby hml hown hnm hrt hlk e0
  obtain ⟨zz, hzz, kzz⟩ := hoc.empty (by omega)
  refine A (XS.aloadN X0.here hx rfl (hb hby d9_0) rfl rfl) ?_
  show D (T0.setTop (mkF m 1 #[.val (.ref self), .val (.long p1), .second, .unset] [(.ref self)]))
  refine A (XS.lloadN X0.here hx rfl (hb hby d9_1) rfl) ?_
  show D (T0.setTop (mkF m 2 #[.val (.ref self), .val (.long p1), .second, .unset] [(.long p1), (.ref self)]))
  refine Adv.callP A X0 hx hZ hown (hw _ (List.mem_of_getElem? (i := 51) rfl)) (hw _ (List.mem_of_getElem? (i := 52) rfl)) (hw _ (List.mem_of_getElem? (i := 6) rfl)) (hw _ (List.mem_of_getElem? (i := 53) rfl)) (hw _ (List.mem_of_getElem? (i := 7) rfl)) (hw _ (List.mem_of_getElem? (i := 54) rfl)) e0 E_self (rm10 l Z a0 hw [] self p1 h0 n0 sz ka cb kf cf mp nn Z0 g_self g_ka g_cb E_self F_keys F_counts F_mask F_shift F_size V_ka V_cb hoc hnn hsz) 0 (g := (mkF m 2 #[.val (.ref self), .val (.long p1), .second, .unset] [(.long p1), (.ref self)])) rfl (by rw [hml]; rfl) [(.long p1)] [] rfl (lenOf pd9_0 rfl) rfl (by show 2 * 0 + _ ≤ _; exact Nat.le_of_eq rfl) (hb hby d9_2) (by decide) (by decide) (by decide) (by decide) (by decide) ?_
  rintro T1 L1 _ X1 ⟨rfl, N1_q, e1⟩
  have N1 := Fr.app (Fr.nil n0) N1_q
  show D (T1.setTop (mkF m 5 #[.val (.ref self), .val (.long p1), .second, .unset] [(.int (own_hm p1))]))
  refine A (XS.istoreN X1.here hx rfl (hb hby d9_5) rfl (l' := #[.val (.ref self), .val (.long p1), .second, .val (.int (own_hm p1))]) rfl) ?_
  show D (T1.setTop (mkF m 6 #[.val (.ref self), .val (.long p1), .second, .val (.int (own_hm p1))] []))
  suffices LP2 : ∀ (kk : Nat) (ii : Nat) (sl : Int32) (T2 : State) (lc2 : List Loc), own_ds ii zz = kk → (sl.toInt = ii) → (own_Fi kf p1 ii) → (Stand p l e ({ frames := 1, cells := 0, slots := 0, locals := 14 } : Room) s m #[(.ref self), (.long p1)] below meth c T2 lc2 0 0) → (T2.heap = h0) → (Fr n0 lc2) → D (T2.setTop (mkF m 6 #[.val (.ref self), .val (.long p1), .second, .val (.int sl)] [])) from LP2 _ (own_h p1) (own_hm p1) _ _ rfl (own_hlt p1).1 (own_Fi0 kf p1) X1 e1 N1
  intro kk2
  induction kk2 using Nat.strongRecOn with
  | _ kk2 ih2 =>
    intro ii sl T2  lc2 hm2 hi hF X2 e2 N2
    show D (T2.setTop (mkF m 6 #[.val (.ref self), .val (.long p1), .second, .val (.int sl)] []))
    refine A (XS.aloadN X2.here hx rfl (hb hby d9_6) rfl rfl) ?_
    show D (T2.setTop (mkF m 7 #[.val (.ref self), .val (.long p1), .second, .val (.int sl)] [(.ref self)]))
    obtain ⟨T3, X3, e3, st3⟩ := getF X2 hx hZ hown (host := "") (Or.inl (hw _ (List.mem_of_getElem? (i := 19) rfl))) Via.refl e2 F_keys (g := (mkF m 7 #[.val (.ref self), .val (.long p1), .second, .val (.int sl)] [(.ref self)])) rfl rfl (hb hby d9_7)
    refine A (st3 _) ?_
    show D (T3.setTop (mkF m 10 #[.val (.ref self), .val (.long p1), .second, .val (.int sl)] [(.ref ka)]))
    refine A (XS.iloadN X3.here hx rfl (hb hby d9_10) rfl) ?_
    show D (T3.setTop (mkF m 11 #[.val (.ref self), .val (.long p1), .second, .val (.int sl)] [(.int sl), (.ref ka)]))
    refine Adv.ldJ A X3 hx hZ e3 V_ka (k := ii) hi hF.1 (g := (mkF m 11 #[.val (.ref self), .val (.long p1), .second, .val (.int sl)] [(.int sl), (.ref ka)])) rfl rfl (hb hby d9_11) ?_
    show D (T3.setTop (mkF m 12 #[.val (.ref self), .val (.long p1), .second, .val (.int sl)] [(.long (kf ii))]))
    refine A (X3.ldc2Long hx hown (mvT hZ (hw _ (List.mem_of_getElem? (i := 21) rfl))) (g := (mkF m 12 #[.val (.ref self), .val (.long p1), .second, .val (.int sl)] [(.long (kf ii))])) rfl (hb hby d9_12) _) ?_
    show D (T3.setTop (mkF m 15 #[.val (.ref self), .val (.long p1), .second, .val (.int sl)] [(.long (-1 : Int64)), (.long (kf ii))]))
    refine A (XS.lcmp X3.here hx rfl (hb hby d9_15) rfl) ?_
    show D (T3.setTop (mkF m 16 #[.val (.ref self), .val (.long p1), .second, .val (.int sl)] [(.int (lcmpW (kf ii) (-1 : Int64)))]))
    by_cases c16_4 : (lcmpW (kf ii) (-1 : Int64)) = (0 : Int32)
    · refine A (XS.ifYes X3.here hx rfl (pc0 := 16) (pc' := 42) rfl (hb hby d9_16) rfl ((if0 _ _).trans (teq c16_4).1) (by decide) (by decide)) ?_
      show D (T3.setTop (mkF m 42 #[.val (.ref self), .val (.long p1), .second, .val (.int sl)] []))
      refine A (XS.iloadN X3.here hx rfl (hb hby d9_42) rfl) ?_
      show D (T3.setTop (mkF m 43 #[.val (.ref self), .val (.long p1), .second, .val (.int sl)] [(.int sl)]))
      refine F _ (Jvm.JW.ret X3 hlk (v := some (.int sl)) (fun h => by rw [hrt] at h; cases h) (fun fs hr => retOut X3 hx hrt rfl (Or.inl ⟨rfl, Or.inl rfl, _, rfl⟩) (hb hby d9_43) hr) rfl ?_ (by decide) (by decide))
      exact ⟨_, ii, rfl, hi, own_Fie hF (Or.inl (own_lw.mp c16_4)), N2, e3⟩
    · refine A (XS.ifNo X3.here hx rfl (hb hby d9_16) rfl ((if0 _ _).trans (feq c16_4).1)) ?_
      show D (T3.setTop (mkF m 19 #[.val (.ref self), .val (.long p1), .second, .val (.int sl)] []))
      refine A (XS.aloadN X3.here hx rfl (hb hby d9_19) rfl rfl) ?_
      show D (T3.setTop (mkF m 20 #[.val (.ref self), .val (.long p1), .second, .val (.int sl)] [(.ref self)]))
      obtain ⟨T5, X5, e5, st5⟩ := getF X3 hx hZ hown (host := "") (Or.inl (hw _ (List.mem_of_getElem? (i := 19) rfl))) Via.refl e3 F_keys (g := (mkF m 20 #[.val (.ref self), .val (.long p1), .second, .val (.int sl)] [(.ref self)])) rfl rfl (hb hby d9_20)
      refine A (st5 _) ?_
      show D (T5.setTop (mkF m 23 #[.val (.ref self), .val (.long p1), .second, .val (.int sl)] [(.ref ka)]))
      refine A (XS.iloadN X5.here hx rfl (hb hby d9_23) rfl) ?_
      show D (T5.setTop (mkF m 24 #[.val (.ref self), .val (.long p1), .second, .val (.int sl)] [(.int sl), (.ref ka)]))
      refine Adv.ldJ A X5 hx hZ e5 V_ka (k := ii) hi hF.1 (g := (mkF m 24 #[.val (.ref self), .val (.long p1), .second, .val (.int sl)] [(.int sl), (.ref ka)])) rfl rfl (hb hby d9_24) ?_
      show D (T5.setTop (mkF m 25 #[.val (.ref self), .val (.long p1), .second, .val (.int sl)] [(.long (kf ii))]))
      refine A (XS.lloadN X5.here hx rfl (hb hby d9_25) rfl) ?_
      show D (T5.setTop (mkF m 26 #[.val (.ref self), .val (.long p1), .second, .val (.int sl)] [(.long p1), (.long (kf ii))]))
      refine A (XS.lcmp X5.here hx rfl (hb hby d9_26) rfl) ?_
      show D (T5.setTop (mkF m 27 #[.val (.ref self), .val (.long p1), .second, .val (.int sl)] [(.int (lcmpW (kf ii) p1))]))
      by_cases c27_6 : (lcmpW (kf ii) p1) = (0 : Int32)
      · refine A (XS.ifYes X5.here hx rfl (pc0 := 27) (pc' := 42) rfl (hb hby d9_27) rfl ((if0 _ _).trans (teq c27_6).1) (by decide) (by decide)) ?_
        show D (T5.setTop (mkF m 42 #[.val (.ref self), .val (.long p1), .second, .val (.int sl)] []))
        refine A (XS.iloadN X5.here hx rfl (hb hby d9_42) rfl) ?_
        show D (T5.setTop (mkF m 43 #[.val (.ref self), .val (.long p1), .second, .val (.int sl)] [(.int sl)]))
        refine F _ (Jvm.JW.ret X5 hlk (v := some (.int sl)) (fun h => by rw [hrt] at h; cases h) (fun fs hr => retOut X5 hx hrt rfl (Or.inl ⟨rfl, Or.inl rfl, _, rfl⟩) (hb hby d9_43) hr) rfl ?_ (by decide) (by decide))
        exact ⟨_, ii, rfl, hi, own_Fie hF (Or.inr (own_lw.mp c27_6)), N2, e5⟩
      · refine A (XS.ifNo X5.here hx rfl (hb hby d9_27) rfl ((if0 _ _).trans (feq c27_6).1)) ?_
        show D (T5.setTop (mkF m 30 #[.val (.ref self), .val (.long p1), .second, .val (.int sl)] []))
        refine A (XS.iloadN X5.here hx rfl (hb hby d9_30) rfl) ?_
        show D (T5.setTop (mkF m 31 #[.val (.ref self), .val (.long p1), .second, .val (.int sl)] [(.int sl)]))
        refine A (XS.iconst X5.here hx rfl (hb hby d9_31)) ?_
        show D (T5.setTop (mkF m 32 #[.val (.ref self), .val (.long p1), .second, .val (.int sl)] [(.int (1 : Int32)), (.int sl)]))
        refine A (XS.iadd X5.here hx rfl (hb hby d9_32) rfl) ?_
        show D (T5.setTop (mkF m 33 #[.val (.ref self), .val (.long p1), .second, .val (.int sl)] [(.int (sl + (1 : Int32)))]))
        refine A (XS.aloadN X5.here hx rfl (hb hby d9_33) rfl rfl) ?_
        show D (T5.setTop (mkF m 34 #[.val (.ref self), .val (.long p1), .second, .val (.int sl)] [(.ref self), (.int (sl + (1 : Int32)))]))
        obtain ⟨T7, X7, e7, st7⟩ := getF X5 hx hZ hown (host := "") (Or.inl (hw _ (List.mem_of_getElem? (i := 29) rfl))) Via.refl e5 F_mask (g := (mkF m 34 #[.val (.ref self), .val (.long p1), .second, .val (.int sl)] [(.ref self), (.int (sl + (1 : Int32)))])) rfl rfl (hb hby d9_34)
        refine A (st7 _) ?_
        show D (T7.setTop (mkF m 37 #[.val (.ref self), .val (.long p1), .second, .val (.int sl)] [(.int (1023 : Int32)), (.int (sl + (1 : Int32)))]))
        refine A (XS.iand X7.here hx rfl (hb hby d9_37) rfl) ?_
        show D (T7.setTop (mkF m 38 #[.val (.ref self), .val (.long p1), .second, .val (.int sl)] [(.int ((sl + (1 : Int32)) &&& (1023 : Int32)))]))
        refine A (XS.istoreN X7.here hx rfl (hb hby d9_38) rfl (l' := #[.val (.ref self), .val (.long p1), .second, .val (.int ((sl + (1 : Int32)) &&& (1023 : Int32)))]) rfl) ?_
        show D (T7.setTop (mkF m 39 #[.val (.ref self), .val (.long p1), .second, .val (.int ((sl + (1 : Int32)) &&& (1023 : Int32)))] []))
        suffices Kx3_39 : ∀ x3_39 : Int32, x3_39 = ((sl + (1 : Int32)) &&& (1023 : Int32)) → D (T7.setTop (mkF m 39 #[.val (.ref self), .val (.long p1), .second, .val (.int x3_39)] [])) from Kx3_39 _ rfl
        intro x3_39 hx3_39
        refine A (XS.goto X7.here hx rfl (pc0 := 39) (pc' := 6) rfl (hb hby d9_39) (by decide) (by decide)) ?_
        show D (T7.setTop (mkF m 6 #[.val (.ref self), .val (.long p1), .second, .val (.int x3_39)] []))
        exact ih2 _ (hm2 ▸ own_dec hF.1 hzz (fun q => c16_4 (own_lw.mpr (by rw [q]; exact kzz)))) ((ii + 1) % 1024) x3_39 _ _ rfl (by rw [hx3_39]; exact own_nx hi hF.1) (own_Fis hF (fun q => c16_4 (own_lw.mpr q)) (fun q => c27_6 (own_lw.mpr q))) X7 e7 N2
theorem d11_0 : decode prog_9_method_2_code 0 = .ok (.aload_n 0, 1) := by decide +kernel
theorem d11_1 : decode prog_9_method_2_code 1 = .ok (.lload_n 1, 1) := by decide +kernel
theorem d11_2 : decode prog_9_method_2_code 2 = .ok (.invokevirtual 13, 3) := by decide +kernel
theorem d11_5 : decode prog_9_method_2_code 5 = .ok (.istore_n 3, 1) := by decide +kernel
theorem d11_6 : decode prog_9_method_2_code 6 = .ok (.aload_n 0, 1) := by decide +kernel
theorem d11_7 : decode prog_9_method_2_code 7 = .ok (.getfield 17, 3) := by decide +kernel
theorem d11_10 : decode prog_9_method_2_code 10 = .ok (.iload_n 3, 1) := by decide +kernel
theorem d11_11 : decode prog_9_method_2_code 11 = .ok (.laload, 1) := by decide +kernel
theorem d11_12 : decode prog_9_method_2_code 12 = .ok (.ldc2_w 21, 3) := by decide +kernel
theorem d11_15 : decode prog_9_method_2_code 15 = .ok (.lcmp, 1) := by decide +kernel
theorem d11_16 : decode prog_9_method_2_code 16 = .ok (.ifCond .ne 7, 3) := by decide +kernel
theorem d11_19 : decode prog_9_method_2_code 19 = .ok (.iconst 0, 1) := by decide +kernel
theorem d11_20 : decode prog_9_method_2_code 20 = .ok (.goto 9, 3) := by decide +kernel
theorem d11_23 : decode prog_9_method_2_code 23 = .ok (.aload_n 0, 1) := by decide +kernel
theorem d11_24 : decode prog_9_method_2_code 24 = .ok (.getfield 23, 3) := by decide +kernel
theorem d11_27 : decode prog_9_method_2_code 27 = .ok (.iload_n 3, 1) := by decide +kernel
theorem d11_28 : decode prog_9_method_2_code 28 = .ok (.iaload, 1) := by decide +kernel
theorem d11_29 : decode prog_9_method_2_code 29 = .ok (.ireturn, 1) := by decide +kernel
theorem pn11 : plainFor (⟨"com/example/enklave/enklave/anonymize/CountMap", "get", "(J)I"⟩ : MethodName) = true := by decide +kernel
theorem pd11_0 : parseMethodDescriptor "(J)I" = some ⟨[.long], some .int⟩ := by decide +kernel
theorem ef11 (self : Addr) (p1 : Int64) (m : MethodId) : entryFrame m #[(.ref self), (.long p1)] 4 = mkF m 0 #[.val (.ref self), .val (.long p1), .second, .unset] [] := by first | (simp [entryFrame, mkF, argsToLocals, Value.category]; done) | rfl
set_option maxRecDepth 65536 in
set_option maxHeartbeats 40000000 in
theorem rm11 (l : Launch) (Z : State) (a0 : Array Value) (hw : ∀ d ∈ tables_1, d.before a0 Z = true) (ws : List Jvm.Cond) (self : Addr) (p1 : Int64) (h0 : Heap) (n0 : Nat) (sz : Int32) (ka cb : Addr) (kf : Nat → Int64) (cf : Nat → Int32) (mp : Int64 → Int32) (nn : Nat) (Z0 : n0 ≤ h0.size) (g_self : n0 ≤ self) (g_ka : n0 ≤ ka) (g_cb : n0 ≤ cb) (E_self : Exa Z h0 self "com/example/enklave/enklave/anonymize/CountMap") (F_keys : Fld Z h0 self "com/example/enklave/enklave/anonymize/CountMap" "keys" "[J" (.ref ka)) (F_counts : Fld Z h0 self "com/example/enklave/enklave/anonymize/CountMap" "counts" "[I" (.ref cb)) (F_mask : Fld Z h0 self "com/example/enklave/enklave/anonymize/CountMap" "mask" "I" (.int (1023 : Int32))) (F_shift : Fld Z h0 self "com/example/enklave/enklave/anonymize/CountMap" "shift" "I" (.int (54 : Int32))) (F_size : Fld Z h0 self "com/example/enklave/enklave/anonymize/CountMap" "size" "I" (.int sz)) (V_ka : ArJ Z h0 ka 1024 kf) (V_cb : ArI Z h0 cb .int 1024 cf) (hoc : own_Occ kf nn) (hnn : nn < 100) (hsz : own_Sz sz nn) (hcm : own_CM kf cf mp) (hk1 : p1 ≠ -1) :
    JMet l Z (⟨"com/example/enklave/enklave/anonymize/CountMap", "get", "(J)I"⟩ : MethodName) prog_9_method_2_code 4 (some .int) ws ({ frames := 2, cells := 0, slots := 0, locals := 29 } : Room) #[(.ref self), (.long p1)] h0 (QP (.int (mp p1)) h0 n0) := by
  refine Jvm.JW.body #[.val (.ref self), .val (.long p1), .second, .unset] pn11 (ef11 self p1) ?_
  intro p e s m below meth c T0 D A F X0 hx hZ hby hml hown hnm hrt hlk e0
  refine A (XS.aloadN X0.here hx rfl (hb hby d11_0) rfl rfl) ?_
  show D (T0.setTop (mkF m 1 #[.val (.ref self), .val (.long p1), .second, .unset] [(.ref self)]))
  refine A (XS.lloadN X0.here hx rfl (hb hby d11_1) rfl) ?_
  show D (T0.setTop (mkF m 2 #[.val (.ref self), .val (.long p1), .second, .unset] [(.long p1), (.ref self)]))
  refine Adv.callP A X0 hx hZ hown (hw _ (List.mem_of_getElem? (i := 47) rfl)) (hw _ (List.mem_of_getElem? (i := 48) rfl)) (hw _ (List.mem_of_getElem? (i := 6) rfl)) (hw _ (List.mem_of_getElem? (i := 49) rfl)) (hw _ (List.mem_of_getElem? (i := 7) rfl)) (hw _ (List.mem_of_getElem? (i := 50) rfl)) e0 E_self (rm9 l Z a0 hw [] self p1 h0 n0 sz ka cb kf cf mp nn Z0 g_self g_ka g_cb E_self F_keys F_counts F_mask F_shift F_size V_ka V_cb hoc hnn hsz) 0 (g := (mkF m 2 #[.val (.ref self), .val (.long p1), .second, .unset] [(.long p1), (.ref self)])) rfl (by rw [hml]; rfl) [(.long p1)] [] rfl (lenOf pd11_0 rfl) rfl (by show 2 * 0 + _ ≤ _; exact Nat.le_of_eq rfl) (hb hby d11_2) (by decide) (by decide) (by decide) (by decide) (by decide) ?_
  rintro T1 L1 _ X1 ⟨sl, ss, rfl, hs, hF, N1_q, e1⟩
  have N1 := Fr.app (Fr.nil n0) N1_q
  show D (T1.setTop (mkF m 5 #[.val (.ref self), .val (.long p1), .second, .unset] [(.int sl)]))
  refine A (XS.istoreN X1.here hx rfl (hb hby d11_5) rfl (l' := #[.val (.ref self), .val (.long p1), .second, .val (.int sl)]) rfl) ?_
  show D (T1.setTop (mkF m 6 #[.val (.ref self), .val (.long p1), .second, .val (.int sl)] []))
  refine A (XS.aloadN X1.here hx rfl (hb hby d11_6) rfl rfl) ?_
  show D (T1.setTop (mkF m 7 #[.val (.ref self), .val (.long p1), .second, .val (.int sl)] [(.ref self)]))
  obtain ⟨T2, X2, e2, st2⟩ := getF X1 hx hZ hown (host := "") (Or.inl (hw _ (List.mem_of_getElem? (i := 19) rfl))) Via.refl e1 F_keys (g := (mkF m 7 #[.val (.ref self), .val (.long p1), .second, .val (.int sl)] [(.ref self)])) rfl rfl (hb hby d11_7)
  refine A (st2 _) ?_
  show D (T2.setTop (mkF m 10 #[.val (.ref self), .val (.long p1), .second, .val (.int sl)] [(.ref ka)]))
  refine A (XS.iloadN X2.here hx rfl (hb hby d11_10) rfl) ?_
  show D (T2.setTop (mkF m 11 #[.val (.ref self), .val (.long p1), .second, .val (.int sl)] [(.int sl), (.ref ka)]))
  refine Adv.ldJ A X2 hx hZ e2 V_ka (k := ss) hs hF.1 (g := (mkF m 11 #[.val (.ref self), .val (.long p1), .second, .val (.int sl)] [(.int sl), (.ref ka)])) rfl rfl (hb hby d11_11) ?_
  show D (T2.setTop (mkF m 12 #[.val (.ref self), .val (.long p1), .second, .val (.int sl)] [(.long (kf ss))]))
  refine A (X2.ldc2Long hx hown (mvT hZ (hw _ (List.mem_of_getElem? (i := 21) rfl))) (g := (mkF m 12 #[.val (.ref self), .val (.long p1), .second, .val (.int sl)] [(.long (kf ss))])) rfl (hb hby d11_12) _) ?_
  show D (T2.setTop (mkF m 15 #[.val (.ref self), .val (.long p1), .second, .val (.int sl)] [(.long (-1 : Int64)), (.long (kf ss))]))
  refine A (XS.lcmp X2.here hx rfl (hb hby d11_15) rfl) ?_
  show D (T2.setTop (mkF m 16 #[.val (.ref self), .val (.long p1), .second, .val (.int sl)] [(.int (lcmpW (kf ss) (-1 : Int64)))]))
  by_cases c16_3 : (lcmpW (kf ss) (-1 : Int64)) = (0 : Int32)
  · refine A (XS.ifNo X2.here hx rfl (hb hby d11_16) rfl ((if0 _ _).trans (teq c16_3).2)) ?_
    show D (T2.setTop (mkF m 19 #[.val (.ref self), .val (.long p1), .second, .val (.int sl)] []))
    refine A (XS.iconst X2.here hx rfl (hb hby d11_19)) ?_
    show D (T2.setTop (mkF m 20 #[.val (.ref self), .val (.long p1), .second, .val (.int sl)] [(.int (0 : Int32))]))
    refine A (XS.goto X2.here hx rfl (pc0 := 20) (pc' := 29) rfl (hb hby d11_20) (by decide) (by decide)) ?_
    show D (T2.setTop (mkF m 29 #[.val (.ref self), .val (.long p1), .second, .val (.int sl)] [(.int (0 : Int32))]))
    refine F _ (Jvm.JW.ret X2 hlk (v := some (.int (0 : Int32))) (fun h => by rw [hrt] at h; cases h) (fun fs hr => retOut X2 hx hrt rfl (Or.inl ⟨rfl, Or.inl rfl, _, rfl⟩) (hb hby d11_29) hr) rfl ?_ (by decide) (by decide))
    exact ⟨congrArg (fun z => some (Value.int z)) (by have q := own_get hcm hF hk1; rw [if_pos (own_lw.mp c16_3)] at q; exact q), N1, e2⟩
  · refine A (XS.ifYes X2.here hx rfl (pc0 := 16) (pc' := 23) rfl (hb hby d11_16) rfl ((if0 _ _).trans (feq c16_3).2) (by decide) (by decide)) ?_
    show D (T2.setTop (mkF m 23 #[.val (.ref self), .val (.long p1), .second, .val (.int sl)] []))
    refine A (XS.aloadN X2.here hx rfl (hb hby d11_23) rfl rfl) ?_
    show D (T2.setTop (mkF m 24 #[.val (.ref self), .val (.long p1), .second, .val (.int sl)] [(.ref self)]))
    obtain ⟨T4, X4, e4, st4⟩ := getF X2 hx hZ hown (host := "") (Or.inl (hw _ (List.mem_of_getElem? (i := 27) rfl))) Via.refl e2 F_counts (g := (mkF m 24 #[.val (.ref self), .val (.long p1), .second, .val (.int sl)] [(.ref self)])) rfl rfl (hb hby d11_24)
    refine A (st4 _) ?_
    show D (T4.setTop (mkF m 27 #[.val (.ref self), .val (.long p1), .second, .val (.int sl)] [(.ref cb)]))
    refine A (XS.iloadN X4.here hx rfl (hb hby d11_27) rfl) ?_
    show D (T4.setTop (mkF m 28 #[.val (.ref self), .val (.long p1), .second, .val (.int sl)] [(.int sl), (.ref cb)]))
    refine Adv.ldI A X4 hx hZ e4 V_cb (k := ss) hs hF.1 (g := (mkF m 28 #[.val (.ref self), .val (.long p1), .second, .val (.int sl)] [(.int sl), (.ref cb)])) rfl rfl (hb hby d11_28) ?_
    show D (T4.setTop (mkF m 29 #[.val (.ref self), .val (.long p1), .second, .val (.int sl)] [(.int (cf ss))]))
    refine F _ (Jvm.JW.ret X4 hlk (v := some (.int (cf ss))) (fun h => by rw [hrt] at h; cases h) (fun fs hr => retOut X4 hx hrt rfl (Or.inl ⟨rfl, Or.inl rfl, _, rfl⟩) (hb hby d11_29) hr) rfl ?_ (by decide) (by decide))
    exact ⟨congrArg (fun z => some (Value.int z)) (by have q := own_get hcm hF hk1; rw [if_neg (fun q => c16_3 (own_lw.mpr q))] at q; exact q), N1, e4⟩
theorem d8_0 : decode prog_9_method_3_code 0 = .ok (.aload_n 0, 1) := by decide +kernel
theorem d8_1 : decode prog_9_method_3_code 1 = .ok (.lload_n 1, 1) := by decide +kernel
theorem d8_2 : decode prog_9_method_3_code 2 = .ok (.invokevirtual 13, 3) := by decide +kernel
theorem d8_5 : decode prog_9_method_3_code 5 = .ok (.istore_n 3, 1) := by decide +kernel
theorem d8_6 : decode prog_9_method_3_code 6 = .ok (.aload_n 0, 1) := by decide +kernel
theorem d8_7 : decode prog_9_method_3_code 7 = .ok (.getfield 17, 3) := by decide +kernel
theorem d8_10 : decode prog_9_method_3_code 10 = .ok (.iload_n 3, 1) := by decide +kernel
theorem d8_11 : decode prog_9_method_3_code 11 = .ok (.laload, 1) := by decide +kernel
theorem d8_12 : decode prog_9_method_3_code 12 = .ok (.ldc2_w 21, 3) := by decide +kernel
theorem d8_15 : decode prog_9_method_3_code 15 = .ok (.lcmp, 1) := by decide +kernel
theorem d8_16 : decode prog_9_method_3_code 16 = .ok (.ifCond .ne 27, 3) := by decide +kernel
theorem d8_19 : decode prog_9_method_3_code 19 = .ok (.aload_n 0, 1) := by decide +kernel
theorem d8_20 : decode prog_9_method_3_code 20 = .ok (.getfield 17, 3) := by decide +kernel
theorem d8_23 : decode prog_9_method_3_code 23 = .ok (.iload_n 3, 1) := by decide +kernel
theorem d8_24 : decode prog_9_method_3_code 24 = .ok (.lload_n 1, 1) := by decide +kernel
theorem d8_25 : decode prog_9_method_3_code 25 = .ok (.lastore, 1) := by decide +kernel
theorem d8_26 : decode prog_9_method_3_code 26 = .ok (.aload_n 0, 1) := by decide +kernel
theorem d8_27 : decode prog_9_method_3_code 27 = .ok (.getfield 23, 3) := by decide +kernel
theorem d8_30 : decode prog_9_method_3_code 30 = .ok (.iload_n 3, 1) := by decide +kernel
theorem d8_31 : decode prog_9_method_3_code 31 = .ok (.iconst 0, 1) := by decide +kernel
theorem d8_32 : decode prog_9_method_3_code 32 = .ok (.iastore, 1) := by decide +kernel
theorem d8_33 : decode prog_9_method_3_code 33 = .ok (.aload_n 0, 1) := by decide +kernel
theorem d8_34 : decode prog_9_method_3_code 34 = .ok (.dup, 1) := by decide +kernel
theorem d8_35 : decode prog_9_method_3_code 35 = .ok (.getfield 27, 3) := by decide +kernel
theorem d8_38 : decode prog_9_method_3_code 38 = .ok (.iconst 1, 1) := by decide +kernel
theorem d8_39 : decode prog_9_method_3_code 39 = .ok (.iadd, 1) := by decide +kernel
theorem d8_40 : decode prog_9_method_3_code 40 = .ok (.putfield 27, 3) := by decide +kernel
theorem d8_43 : decode prog_9_method_3_code 43 = .ok (.aload_n 0, 1) := by decide +kernel
theorem d8_44 : decode prog_9_method_3_code 44 = .ok (.getfield 23, 3) := by decide +kernel
theorem d8_47 : decode prog_9_method_3_code 47 = .ok (.iload_n 3, 1) := by decide +kernel
theorem d8_48 : decode prog_9_method_3_code 48 = .ok (.dup2, 1) := by decide +kernel
theorem d8_49 : decode prog_9_method_3_code 49 = .ok (.iaload, 1) := by decide +kernel
theorem d8_50 : decode prog_9_method_3_code 50 = .ok (.iconst 1, 1) := by decide +kernel
theorem d8_51 : decode prog_9_method_3_code 51 = .ok (.iadd, 1) := by decide +kernel
theorem d8_52 : decode prog_9_method_3_code 52 = .ok (.dup_x2, 1) := by decide +kernel
theorem d8_53 : decode prog_9_method_3_code 53 = .ok (.iastore, 1) := by decide +kernel
theorem d8_54 : decode prog_9_method_3_code 54 = .ok (.istore 4, 2) := by decide +kernel
theorem d8_56 : decode prog_9_method_3_code 56 = .ok (.iconst 2, 1) := by decide +kernel
theorem d8_57 : decode prog_9_method_3_code 57 = .ok (.aload_n 0, 1) := by decide +kernel
theorem d8_58 : decode prog_9_method_3_code 58 = .ok (.getfield 27, 3) := by decide +kernel
theorem d8_61 : decode prog_9_method_3_code 61 = .ok (.imul, 1) := by decide +kernel
theorem d8_62 : decode prog_9_method_3_code 62 = .ok (.aload_n 0, 1) := by decide +kernel
theorem d8_63 : decode prog_9_method_3_code 63 = .ok (.getfield 17, 3) := by decide +kernel
theorem d8_66 : decode prog_9_method_3_code 66 = .ok (.arraylength, 1) := by decide +kernel
theorem d8_67 : decode prog_9_method_3_code 67 = .ok (.if_icmp .le 7, 3) := by decide +kernel
theorem d8_74 : decode prog_9_method_3_code 74 = .ok (.iload 4, 2) := by decide +kernel
theorem d8_76 : decode prog_9_method_3_code 76 = .ok (.ireturn, 1) := by decide +kernel
theorem pn8 : plainFor (⟨"com/example/enklave/enklave/anonymize/CountMap", "increment", "(J)I"⟩ : MethodName) = true := by decide +kernel
theorem pd8_0 : parseMethodDescriptor "(J)I" = some ⟨[.long], some .int⟩ := by decide +kernel
theorem ef8 (self : Addr) (p1 : Int64) (m : MethodId) : entryFrame m #[(.ref self), (.long p1)] 5 = mkF m 0 #[.val (.ref self), .val (.long p1), .second, .unset, .unset] [] := by first | (simp [entryFrame, mkF, argsToLocals, Value.category]; done) | rfl
set_option maxRecDepth 65536 in
set_option maxHeartbeats 40000000 in
theorem rm8 (l : Launch) (Z : State) (a0 : Array Value) (hw : ∀ d ∈ tables_1, d.before a0 Z = true) (ws : List Jvm.Cond) (self : Addr) (p1 : Int64) (h0 : Heap) (n0 : Nat) (sz : Int32) (ka cb : Addr) (kf : Nat → Int64) (cf : Nat → Int32) (mp : Int64 → Int32) (nn : Nat) (Z0 : n0 ≤ h0.size) (g_self : n0 ≤ self) (g_ka : n0 ≤ ka) (g_cb : n0 ≤ cb) (E_self : Exa Z h0 self "com/example/enklave/enklave/anonymize/CountMap") (F_keys : Fld Z h0 self "com/example/enklave/enklave/anonymize/CountMap" "keys" "[J" (.ref ka)) (F_counts : Fld Z h0 self "com/example/enklave/enklave/anonymize/CountMap" "counts" "[I" (.ref cb)) (F_mask : Fld Z h0 self "com/example/enklave/enklave/anonymize/CountMap" "mask" "I" (.int (1023 : Int32))) (F_shift : Fld Z h0 self "com/example/enklave/enklave/anonymize/CountMap" "shift" "I" (.int (54 : Int32))) (F_size : Fld Z h0 self "com/example/enklave/enklave/anonymize/CountMap" "size" "I" (.int sz)) (V_ka : ArJ Z h0 ka 1024 kf) (V_cb : ArI Z h0 cb .int 1024 cf) (hoc : own_Occ kf nn) (hnn : nn < 100) (hsz : own_Sz sz nn) (hcm : own_CM kf cf mp) (hk1 : p1 ≠ -1) :
    JMet l Z (⟨"com/example/enklave/enklave/anonymize/CountMap", "increment", "(J)I"⟩ : MethodName) prog_9_method_3_code 5 (some .int) ws ({ frames := 2, cells := 0, slots := 0, locals := 29 } : Room) #[(.ref self), (.long p1)] h0 (fun v h L => ∃ (r sz' : Int32) (kf' : Nat → Int64) (cf' : Nat → Int32), v = some (.int r) ∧ Fr n0 L ∧ Keep h0 h [self, ka, cb] ∧ Exa Z h self "com/example/enklave/enklave/anonymize/CountMap" ∧ Fld Z h self "com/example/enklave/enklave/anonymize/CountMap" "keys" "[J" (.ref ka) ∧ Fld Z h self "com/example/enklave/enklave/anonymize/CountMap" "counts" "[I" (.ref cb) ∧ Fld Z h self "com/example/enklave/enklave/anonymize/CountMap" "mask" "I" (.int (1023 : Int32)) ∧ Fld Z h self "com/example/enklave/enklave/anonymize/CountMap" "shift" "I" (.int (54 : Int32)) ∧ Fld Z h self "com/example/enklave/enklave/anonymize/CountMap" "size" "I" (.int sz') ∧ ArJ Z h ka 1024 kf' ∧ ArI Z h cb .int 1024 cf' ∧ own_CM kf' cf' (own_up mp p1 (mp p1 + 1)) ∧ own_Occ kf' (nn + 1) ∧ own_Sz sz' (nn + 1)) := by
  have hz1 := hsz.small (by omega)
  have hz2 := (hsz.inc hnn).small (by omega)
  refine Jvm.JW.body #[.val (.ref self), .val (.long p1), .second, .unset, .unset] pn8 (ef8 self p1) ?_
  intro p e s m below meth c T0 D A F X0 hx hZ hby hml hown hnm hrt hlk e0
  refine A (XS.aloadN X0.here hx rfl (hb hby d8_0) rfl rfl) ?_
  show D (T0.setTop (mkF m 1 #[.val (.ref self), .val (.long p1), .second, .unset, .unset] [(.ref self)]))
  refine A (XS.lloadN X0.here hx rfl (hb hby d8_1) rfl) ?_
  show D (T0.setTop (mkF m 2 #[.val (.ref self), .val (.long p1), .second, .unset, .unset] [(.long p1), (.ref self)]))
  refine Adv.callP A X0 hx hZ hown (hw _ (List.mem_of_getElem? (i := 47) rfl)) (hw _ (List.mem_of_getElem? (i := 48) rfl)) (hw _ (List.mem_of_getElem? (i := 6) rfl)) (hw _ (List.mem_of_getElem? (i := 49) rfl)) (hw _ (List.mem_of_getElem? (i := 7) rfl)) (hw _ (List.mem_of_getElem? (i := 50) rfl)) e0 E_self (rm9 l Z a0 hw [] self p1 h0 n0 sz ka cb kf cf mp nn Z0 g_self g_ka g_cb E_self F_keys F_counts F_mask F_shift F_size V_ka V_cb hoc hnn hsz) 0 (g := (mkF m 2 #[.val (.ref self), .val (.long p1), .second, .unset, .unset] [(.long p1), (.ref self)])) rfl (by rw [hml]; rfl) [(.long p1)] [] rfl (lenOf pd8_0 rfl) rfl (by show 2 * 0 + _ ≤ _; exact Nat.le_of_eq rfl) (hb hby d8_2) (by decide) (by decide) (by decide) (by decide) (by decide) ?_
  rintro T1 L1 _ X1 ⟨sl, ss, rfl, hs, hF, N1_q, e1⟩
  have N1 := Fr.app (Fr.nil n0) N1_q
  show D (T1.setTop (mkF m 5 #[.val (.ref self), .val (.long p1), .second, .unset, .unset] [(.int sl)]))
  refine A (XS.istoreN X1.here hx rfl (hb hby d8_5) rfl (l' := #[.val (.ref self), .val (.long p1), .second, .val (.int sl), .unset]) rfl) ?_
  show D (T1.setTop (mkF m 6 #[.val (.ref self), .val (.long p1), .second, .val (.int sl), .unset] []))
  refine A (XS.aloadN X1.here hx rfl (hb hby d8_6) rfl rfl) ?_
  show D (T1.setTop (mkF m 7 #[.val (.ref self), .val (.long p1), .second, .val (.int sl), .unset] [(.ref self)]))
  obtain ⟨T2, X2, e2, st2⟩ := getF X1 hx hZ hown (host := "") (Or.inl (hw _ (List.mem_of_getElem? (i := 19) rfl))) Via.refl e1 F_keys (g := (mkF m 7 #[.val (.ref self), .val (.long p1), .second, .val (.int sl), .unset] [(.ref self)])) rfl rfl (hb hby d8_7)
  refine A (st2 _) ?_
  show D (T2.setTop (mkF m 10 #[.val (.ref self), .val (.long p1), .second, .val (.int sl), .unset] [(.ref ka)]))
  refine A (XS.iloadN X2.here hx rfl (hb hby d8_10) rfl) ?_
  show D (T2.setTop (mkF m 11 #[.val (.ref self), .val (.long p1), .second, .val (.int sl), .unset] [(.int sl), (.ref ka)]))
  refine Adv.ldJ A X2 hx hZ e2 V_ka (k := ss) hs hF.1 (g := (mkF m 11 #[.val (.ref self), .val (.long p1), .second, .val (.int sl), .unset] [(.int sl), (.ref ka)])) rfl rfl (hb hby d8_11) ?_
  show D (T2.setTop (mkF m 12 #[.val (.ref self), .val (.long p1), .second, .val (.int sl), .unset] [(.long (kf ss))]))
  refine A (X2.ldc2Long hx hown (mvT hZ (hw _ (List.mem_of_getElem? (i := 21) rfl))) (g := (mkF m 12 #[.val (.ref self), .val (.long p1), .second, .val (.int sl), .unset] [(.long (kf ss))])) rfl (hb hby d8_12) _) ?_
  show D (T2.setTop (mkF m 15 #[.val (.ref self), .val (.long p1), .second, .val (.int sl), .unset] [(.long (-1 : Int64)), (.long (kf ss))]))
  refine A (XS.lcmp X2.here hx rfl (hb hby d8_15) rfl) ?_
  show D (T2.setTop (mkF m 16 #[.val (.ref self), .val (.long p1), .second, .val (.int sl), .unset] [(.int (lcmpW (kf ss) (-1 : Int64)))]))
  by_cases c16_3 : (lcmpW (kf ss) (-1 : Int64)) = (0 : Int32)
  · refine A (XS.ifNo X2.here hx rfl (hb hby d8_16) rfl ((if0 _ _).trans (teq c16_3).2)) ?_
    show D (T2.setTop (mkF m 19 #[.val (.ref self), .val (.long p1), .second, .val (.int sl), .unset] []))
    refine A (XS.aloadN X2.here hx rfl (hb hby d8_19) rfl rfl) ?_
    show D (T2.setTop (mkF m 20 #[.val (.ref self), .val (.long p1), .second, .val (.int sl), .unset] [(.ref self)]))
    obtain ⟨T4, X4, e4, st4⟩ := getF X2 hx hZ hown (host := "") (Or.inl (hw _ (List.mem_of_getElem? (i := 19) rfl))) Via.refl e2 F_keys (g := (mkF m 20 #[.val (.ref self), .val (.long p1), .second, .val (.int sl), .unset] [(.ref self)])) rfl rfl (hb hby d8_20)
    refine A (st4 _) ?_
    show D (T4.setTop (mkF m 23 #[.val (.ref self), .val (.long p1), .second, .val (.int sl), .unset] [(.ref ka)]))
    refine A (XS.iloadN X4.here hx rfl (hb hby d8_23) rfl) ?_
    show D (T4.setTop (mkF m 24 #[.val (.ref self), .val (.long p1), .second, .val (.int sl), .unset] [(.int sl), (.ref ka)]))
    refine A (XS.lloadN X4.here hx rfl (hb hby d8_24) rfl) ?_
    show D (T4.setTop (mkF m 25 #[.val (.ref self), .val (.long p1), .second, .val (.int sl), .unset] [(.long p1), (.int sl), (.ref ka)]))
    refine Adv.stJ A X4 hx hZ e4 V_ka (k := ss) hs hF.1 (g := (mkF m 25 #[.val (.ref self), .val (.long p1), .second, .val (.int sl), .unset] [(.long p1), (.int sl), (.ref ka)])) rfl rfl (hb hby d8_25) ?_
    intro T5 h5 X5 e5 W5 Vka_5
    have N5 := Fr.snoc X5 N1 g_ka
    have E_self_5 := E_self.wr W5
    have F_keys_self_5 := F_keys.other W5 (Or.inl (ne_arj E_self (hw _ (List.mem_of_getElem? (i := 6) rfl)) V_ka))
    have F_counts_self_5 := F_counts.other W5 (Or.inl (ne_arj E_self (hw _ (List.mem_of_getElem? (i := 6) rfl)) V_ka))
    have F_mask_self_5 := F_mask.other W5 (Or.inl (ne_arj E_self (hw _ (List.mem_of_getElem? (i := 6) rfl)) V_ka))
    have F_shift_self_5 := F_shift.other W5 (Or.inl (ne_arj E_self (hw _ (List.mem_of_getElem? (i := 6) rfl)) V_ka))
    have F_size_self_5 := F_size.other W5 (Or.inl (ne_arj E_self (hw _ (List.mem_of_getElem? (i := 6) rfl)) V_ka))
    have V_cb_5 := V_cb.other W5 (ne_aij V_cb V_ka (by decide))
    have Z_5 : n0 ≤ h5.size := Nat.le_trans Z0 (Nat.le_of_eq W5.size.symm)
    have KK_5 : Keep h0 h5 [self, ka, cb] := (Keep.refl h0 [self, ka, cb]).wr W5 (Or.inl (List.mem_of_getElem? (i := 1) rfl))
    show D (T5.setTop (mkF m 26 #[.val (.ref self), .val (.long p1), .second, .val (.int sl), .unset] []))
    refine A (XS.aloadN X5.here hx rfl (hb hby d8_26) rfl rfl) ?_
    show D (T5.setTop (mkF m 27 #[.val (.ref self), .val (.long p1), .second, .val (.int sl), .unset] [(.ref self)]))
    obtain ⟨T6, X6, e6, st6⟩ := getF X5 hx hZ hown (host := "") (Or.inl (hw _ (List.mem_of_getElem? (i := 27) rfl))) Via.refl e5 F_counts_self_5 (g := (mkF m 27 #[.val (.ref self), .val (.long p1), .second, .val (.int sl), .unset] [(.ref self)])) rfl rfl (hb hby d8_27)
    refine A (st6 _) ?_
    show D (T6.setTop (mkF m 30 #[.val (.ref self), .val (.long p1), .second, .val (.int sl), .unset] [(.ref cb)]))
    refine A (XS.iloadN X6.here hx rfl (hb hby d8_30) rfl) ?_
    show D (T6.setTop (mkF m 31 #[.val (.ref self), .val (.long p1), .second, .val (.int sl), .unset] [(.int sl), (.ref cb)]))
    refine A (XS.iconst X6.here hx rfl (hb hby d8_31)) ?_
    show D (T6.setTop (mkF m 32 #[.val (.ref self), .val (.long p1), .second, .val (.int sl), .unset] [(.int (0 : Int32)), (.int sl), (.ref cb)]))
    refine Adv.stI A X6 hx hZ e6 V_cb_5 (k := ss) hs hF.1 (g := (mkF m 32 #[.val (.ref self), .val (.long p1), .second, .val (.int sl), .unset] [(.int (0 : Int32)), (.int sl), (.ref cb)])) rfl rfl (hb hby d8_32) ?_
    intro T7 h7 X7 e7 W7 Vcb_7
    have N7 := Fr.snoc X7 N5 g_cb
    have E_self_7 := E_self_5.wr W7
    have F_keys_self_7 := F_keys_self_5.other W7 (Or.inl (ne_ari E_self_5 (hw _ (List.mem_of_getElem? (i := 6) rfl)) V_cb_5))
    have F_counts_self_7 := F_counts_self_5.other W7 (Or.inl (ne_ari E_self_5 (hw _ (List.mem_of_getElem? (i := 6) rfl)) V_cb_5))
    have F_mask_self_7 := F_mask_self_5.other W7 (Or.inl (ne_ari E_self_5 (hw _ (List.mem_of_getElem? (i := 6) rfl)) V_cb_5))
    have F_shift_self_7 := F_shift_self_5.other W7 (Or.inl (ne_ari E_self_5 (hw _ (List.mem_of_getElem? (i := 6) rfl)) V_cb_5))
    have F_size_self_7 := F_size_self_5.other W7 (Or.inl (ne_ari E_self_5 (hw _ (List.mem_of_getElem? (i := 6) rfl)) V_cb_5))
    have V_ka_7 := Vka_5.other W7 (Ne.symm (ne_aij V_cb_5 Vka_5 (by decide)))
    have Z_7 : n0 ≤ h7.size := Nat.le_trans Z_5 (Nat.le_of_eq W7.size.symm)
    have KK_7 : Keep h0 h7 [self, ka, cb] := KK_5.wr W7 (Or.inl (List.mem_of_getElem? (i := 2) rfl))
    show D (T7.setTop (mkF m 33 #[.val (.ref self), .val (.long p1), .second, .val (.int sl), .unset] []))
    refine A (XS.aloadN X7.here hx rfl (hb hby d8_33) rfl rfl) ?_
    show D (T7.setTop (mkF m 34 #[.val (.ref self), .val (.long p1), .second, .val (.int sl), .unset] [(.ref self)]))
    refine A (XS.dup X7.here hx rfl (hb hby d8_34) rfl rfl) ?_
    show D (T7.setTop (mkF m 35 #[.val (.ref self), .val (.long p1), .second, .val (.int sl), .unset] [(.ref self), (.ref self)]))
    obtain ⟨T8, X8, e8, st8⟩ := getF X7 hx hZ hown (host := "") (Or.inl (hw _ (List.mem_of_getElem? (i := 56) rfl))) Via.refl e7 F_size_self_7 (g := (mkF m 35 #[.val (.ref self), .val (.long p1), .second, .val (.int sl), .unset] [(.ref self), (.ref self)])) rfl rfl (hb hby d8_35)
    refine A (st8 _) ?_
    show D (T8.setTop (mkF m 38 #[.val (.ref self), .val (.long p1), .second, .val (.int sl), .unset] [(.int sz), (.ref self)]))
    refine A (XS.iconst X8.here hx rfl (hb hby d8_38)) ?_
    show D (T8.setTop (mkF m 39 #[.val (.ref self), .val (.long p1), .second, .val (.int sl), .unset] [(.int (1 : Int32)), (.int sz), (.ref self)]))
    refine A (XS.iadd X8.here hx rfl (hb hby d8_39) rfl) ?_
    show D (T8.setTop (mkF m 40 #[.val (.ref self), .val (.long p1), .second, .val (.int sl), .unset] [(.int (sz + (1 : Int32))), (.ref self)]))
    obtain ⟨T9, h9, X9, e9, W9, st9⟩ := putF X8 hx hZ hown (host := "") (Or.inl (hw _ (List.mem_of_getElem? (i := 56) rfl))) Via.refl e8 F_size_self_7 E_self_7 (Or.inl (hw _ (List.mem_of_getElem? (i := 57) rfl))) (hw _ (List.mem_of_getElem? (i := 6) rfl)) (ty := .int) (by decide) rfl rfl (g := (mkF m 40 #[.val (.ref self), .val (.long p1), .second, .val (.int sl), .unset] [(.int (sz + (1 : Int32))), (.ref self)])) rfl rfl (hb hby d8_40)
    have N9 := Fr.snoc X9 N7 g_self
    have F_size_self_9 := F_size_self_7.same W9
    have E_self_9 := E_self_7.wr W9
    have F_keys_self_9 := F_keys_self_7.other W9 (Or.inr (slot_ne (Or.inl (hw _ (List.mem_of_getElem? (i := 20) rfl))) (Or.inl (hw _ (List.mem_of_getElem? (i := 57) rfl))) (by decide) (t := (.array .long)) (t' := .int) (by decide) (by decide)))
    have F_counts_self_9 := F_counts_self_7.other W9 (Or.inr (slot_ne (Or.inl (hw _ (List.mem_of_getElem? (i := 28) rfl))) (Or.inl (hw _ (List.mem_of_getElem? (i := 57) rfl))) (by decide) (t := (.array .int)) (t' := .int) (by decide) (by decide)))
    have F_mask_self_9 := F_mask_self_7.other W9 (Or.inr (slot_ne (Or.inl (hw _ (List.mem_of_getElem? (i := 30) rfl))) (Or.inl (hw _ (List.mem_of_getElem? (i := 57) rfl))) (by decide) (t := .int) (t' := .int) (by decide) (by decide)))
    have F_shift_self_9 := F_shift_self_7.other W9 (Or.inr (slot_ne (Or.inl (hw _ (List.mem_of_getElem? (i := 41) rfl))) (Or.inl (hw _ (List.mem_of_getElem? (i := 57) rfl))) (by decide) (t := .int) (t' := .int) (by decide) (by decide)))
    have V_ka_9 := V_ka_7.other W9 (Ne.symm (ne_arj E_self_7 (hw _ (List.mem_of_getElem? (i := 6) rfl)) V_ka_7))
    have V_cb_9 := Vcb_7.other W9 (Ne.symm (ne_ari E_self_7 (hw _ (List.mem_of_getElem? (i := 6) rfl)) Vcb_7))
    have Z_9 : n0 ≤ h9.size := Nat.le_trans Z_7 (Nat.le_of_eq W9.size.symm)
    have KK_9 : Keep h0 h9 [self, ka, cb] := KK_7.wr W9 (Or.inl (List.mem_of_getElem? (i := 0) rfl))
    refine A (st9 _) ?_
    show D (T9.setTop (mkF m 43 #[.val (.ref self), .val (.long p1), .second, .val (.int sl), .unset] []))
    refine A (XS.aloadN X9.here hx rfl (hb hby d8_43) rfl rfl) ?_
    show D (T9.setTop (mkF m 44 #[.val (.ref self), .val (.long p1), .second, .val (.int sl), .unset] [(.ref self)]))
    obtain ⟨T10, X10, e10, st10⟩ := getF X9 hx hZ hown (host := "") (Or.inl (hw _ (List.mem_of_getElem? (i := 27) rfl))) Via.refl e9 F_counts_self_9 (g := (mkF m 44 #[.val (.ref self), .val (.long p1), .second, .val (.int sl), .unset] [(.ref self)])) rfl rfl (hb hby d8_44)
    refine A (st10 _) ?_
    show D (T10.setTop (mkF m 47 #[.val (.ref self), .val (.long p1), .second, .val (.int sl), .unset] [(.ref cb)]))
    refine A (XS.iloadN X10.here hx rfl (hb hby d8_47) rfl) ?_
    show D (T10.setTop (mkF m 48 #[.val (.ref self), .val (.long p1), .second, .val (.int sl), .unset] [(.int sl), (.ref cb)]))
    refine A (S' := T10.setTop (mkF m 49 #[.val (.ref self), .val (.long p1), .second, .val (.int sl), .unset] [(.int sl), (.ref cb), (.int sl), (.ref cb)])) (fun {t} kt => ?_) ?_
    · jvm_step X10.here [X10.here.top, hx, (hb hby d8_48), Value.category]
      exact kt
    show D (T10.setTop (mkF m 49 #[.val (.ref self), .val (.long p1), .second, .val (.int sl), .unset] [(.int sl), (.ref cb), (.int sl), (.ref cb)]))
    refine Adv.ldI A X10 hx hZ e10 V_cb_9 (k := ss) hs hF.1 (g := (mkF m 49 #[.val (.ref self), .val (.long p1), .second, .val (.int sl), .unset] [(.int sl), (.ref cb), (.int sl), (.ref cb)])) rfl rfl (hb hby d8_49) ?_
    show D (T10.setTop (mkF m 50 #[.val (.ref self), .val (.long p1), .second, .val (.int sl), .unset] [(.int ((fun ix => if ix = ss then (0 : Int32) else cf ix) ss)), (.int sl), (.ref cb)]))
    suffices Ky11 : ∀ y11 : Int32, y11 = ((fun ix => if ix = ss then (0 : Int32) else cf ix) ss) → D (T10.setTop (mkF m 50 #[.val (.ref self), .val (.long p1), .second, .val (.int sl), .unset] [(.int y11), (.int sl), (.ref cb)])) from Ky11 _ rfl
    intro y11 hy11
    refine A (XS.iconst X10.here hx rfl (hb hby d8_50)) ?_
    show D (T10.setTop (mkF m 51 #[.val (.ref self), .val (.long p1), .second, .val (.int sl), .unset] [(.int (1 : Int32)), (.int y11), (.int sl), (.ref cb)]))
    refine A (XS.iadd X10.here hx rfl (hb hby d8_51) rfl) ?_
    show D (T10.setTop (mkF m 52 #[.val (.ref self), .val (.long p1), .second, .val (.int sl), .unset] [(.int (y11 + (1 : Int32))), (.int sl), (.ref cb)]))
    refine A (S' := T10.setTop (mkF m 53 #[.val (.ref self), .val (.long p1), .second, .val (.int sl), .unset] [(.int (y11 + (1 : Int32))), (.int sl), (.ref cb), (.int (y11 + (1 : Int32)))])) (fun {t} kt => ?_) ?_
    · jvm_step X10.here [X10.here.top, hx, (hb hby d8_52), Value.category]
      exact kt
    show D (T10.setTop (mkF m 53 #[.val (.ref self), .val (.long p1), .second, .val (.int sl), .unset] [(.int (y11 + (1 : Int32))), (.int sl), (.ref cb), (.int (y11 + (1 : Int32)))]))
    refine Adv.stI A X10 hx hZ e10 V_cb_9 (k := ss) hs hF.1 (g := (mkF m 53 #[.val (.ref self), .val (.long p1), .second, .val (.int sl), .unset] [(.int (y11 + (1 : Int32))), (.int sl), (.ref cb), (.int (y11 + (1 : Int32)))])) rfl rfl (hb hby d8_53) ?_
    intro T12 h12 X12 e12 W12 Vcb_12
    have N12 := Fr.snoc X12 N9 g_cb
    have E_self_12 := E_self_9.wr W12
    have F_keys_self_12 := F_keys_self_9.other W12 (Or.inl (ne_ari E_self_9 (hw _ (List.mem_of_getElem? (i := 6) rfl)) V_cb_9))
    have F_counts_self_12 := F_counts_self_9.other W12 (Or.inl (ne_ari E_self_9 (hw _ (List.mem_of_getElem? (i := 6) rfl)) V_cb_9))
    have F_mask_self_12 := F_mask_self_9.other W12 (Or.inl (ne_ari E_self_9 (hw _ (List.mem_of_getElem? (i := 6) rfl)) V_cb_9))
    have F_shift_self_12 := F_shift_self_9.other W12 (Or.inl (ne_ari E_self_9 (hw _ (List.mem_of_getElem? (i := 6) rfl)) V_cb_9))
    have F_size_self_12 := F_size_self_9.other W12 (Or.inl (ne_ari E_self_9 (hw _ (List.mem_of_getElem? (i := 6) rfl)) V_cb_9))
    have V_ka_12 := V_ka_9.other W12 (Ne.symm (ne_aij V_cb_9 V_ka_9 (by decide)))
    have Z_12 : n0 ≤ h12.size := Nat.le_trans Z_9 (Nat.le_of_eq W12.size.symm)
    have KK_12 : Keep h0 h12 [self, ka, cb] := KK_9.wr W12 (Or.inl (List.mem_of_getElem? (i := 2) rfl))
    show D (T12.setTop (mkF m 54 #[.val (.ref self), .val (.long p1), .second, .val (.int sl), .unset] [(.int (y11 + (1 : Int32)))]))
    refine A (XS.istore X12.here hx rfl (hb hby d8_54) rfl (l' := #[.val (.ref self), .val (.long p1), .second, .val (.int sl), .val (.int (y11 + (1 : Int32)))]) rfl) ?_
    show D (T12.setTop (mkF m 56 #[.val (.ref self), .val (.long p1), .second, .val (.int sl), .val (.int (y11 + (1 : Int32)))] []))
    refine A (XS.iconst X12.here hx rfl (hb hby d8_56)) ?_
    show D (T12.setTop (mkF m 57 #[.val (.ref self), .val (.long p1), .second, .val (.int sl), .val (.int (y11 + (1 : Int32)))] [(.int (2 : Int32))]))
    refine A (XS.aloadN X12.here hx rfl (hb hby d8_57) rfl rfl) ?_
    show D (T12.setTop (mkF m 58 #[.val (.ref self), .val (.long p1), .second, .val (.int sl), .val (.int (y11 + (1 : Int32)))] [(.ref self), (.int (2 : Int32))]))
    obtain ⟨T13, X13, e13, st13⟩ := getF X12 hx hZ hown (host := "") (Or.inl (hw _ (List.mem_of_getElem? (i := 56) rfl))) Via.refl e12 F_size_self_12 (g := (mkF m 58 #[.val (.ref self), .val (.long p1), .second, .val (.int sl), .val (.int (y11 + (1 : Int32)))] [(.ref self), (.int (2 : Int32))])) rfl rfl (hb hby d8_58)
    refine A (st13 _) ?_
    show D (T13.setTop (mkF m 61 #[.val (.ref self), .val (.long p1), .second, .val (.int sl), .val (.int (y11 + (1 : Int32)))] [(.int (sz + (1 : Int32))), (.int (2 : Int32))]))
    refine A (XS.imul X13.here hx rfl (hb hby d8_61) rfl) ?_
    show D (T13.setTop (mkF m 62 #[.val (.ref self), .val (.long p1), .second, .val (.int sl), .val (.int (y11 + (1 : Int32)))] [(.int ((2 : Int32) * (sz + (1 : Int32))))]))
    refine A (XS.aloadN X13.here hx rfl (hb hby d8_62) rfl rfl) ?_
    show D (T13.setTop (mkF m 63 #[.val (.ref self), .val (.long p1), .second, .val (.int sl), .val (.int (y11 + (1 : Int32)))] [(.ref self), (.int ((2 : Int32) * (sz + (1 : Int32))))]))
    obtain ⟨T14, X14, e14, st14⟩ := getF X13 hx hZ hown (host := "") (Or.inl (hw _ (List.mem_of_getElem? (i := 19) rfl))) Via.refl e13 F_keys_self_12 (g := (mkF m 63 #[.val (.ref self), .val (.long p1), .second, .val (.int sl), .val (.int (y11 + (1 : Int32)))] [(.ref self), (.int ((2 : Int32) * (sz + (1 : Int32))))])) rfl rfl (hb hby d8_63)
    refine A (st14 _) ?_
    show D (T14.setTop (mkF m 66 #[.val (.ref self), .val (.long p1), .second, .val (.int sl), .val (.int (y11 + (1 : Int32)))] [(.ref ka), (.int ((2 : Int32) * (sz + (1 : Int32))))]))
    refine Adv.lenJ A X14 hx hZ e14 V_ka_12 (g := (mkF m 66 #[.val (.ref self), .val (.long p1), .second, .val (.int sl), .val (.int (y11 + (1 : Int32)))] [(.ref ka), (.int ((2 : Int32) * (sz + (1 : Int32))))])) rfl rfl (hb hby d8_66) ?_
    show D (T14.setTop (mkF m 67 #[.val (.ref self), .val (.long p1), .second, .val (.int sl), .val (.int (y11 + (1 : Int32)))] [(.int (1024 : Int32)), (.int ((2 : Int32) * (sz + (1 : Int32))))]))
    refine A (XS.icmpYes X14.here hx rfl (pc0 := 67) (pc' := 74) rfl (hb hby d8_67) rfl (flt hz2).2.2.2 (by decide) (by decide)) ?_
    show D (T14.setTop (mkF m 74 #[.val (.ref self), .val (.long p1), .second, .val (.int sl), .val (.int (y11 + (1 : Int32)))] []))
    refine A (XS.iload X14.here hx rfl (hb hby d8_74) rfl) ?_
    show D (T14.setTop (mkF m 76 #[.val (.ref self), .val (.long p1), .second, .val (.int sl), .val (.int (y11 + (1 : Int32)))] [(.int (y11 + (1 : Int32)))]))
    refine F _ (Jvm.JW.ret X14 hlk (v := some (.int (y11 + (1 : Int32)))) (fun h => by rw [hrt] at h; cases h) (fun fs hr => retOut X14 hx hrt rfl (Or.inl ⟨rfl, Or.inl rfl, _, rfl⟩) (hb hby d8_76) hr) e14 ?_ (by decide) (by decide))
    exact ⟨_, _, _, _, rfl, N12, KK_12, E_self_12, F_keys_self_12, F_counts_self_12, F_mask_self_12, F_shift_self_12, F_size_self_12, V_ka_12, Vcb_12, (own_new hcm hF hk1 (own_lw.mp c16_3) (fun j hj => by simp [hj]) (by simp [hy11])), (hoc.add _ _), (hsz.inc hnn)⟩
  · refine A (XS.ifYes X2.here hx rfl (pc0 := 16) (pc' := 43) rfl (hb hby d8_16) rfl ((if0 _ _).trans (feq c16_3).2) (by decide) (by decide)) ?_
    show D (T2.setTop (mkF m 43 #[.val (.ref self), .val (.long p1), .second, .val (.int sl), .unset] []))
    refine A (XS.aloadN X2.here hx rfl (hb hby d8_43) rfl rfl) ?_
    show D (T2.setTop (mkF m 44 #[.val (.ref self), .val (.long p1), .second, .val (.int sl), .unset] [(.ref self)]))
    obtain ⟨T15, X15, e15, st15⟩ := getF X2 hx hZ hown (host := "") (Or.inl (hw _ (List.mem_of_getElem? (i := 27) rfl))) Via.refl e2 F_counts (g := (mkF m 44 #[.val (.ref self), .val (.long p1), .second, .val (.int sl), .unset] [(.ref self)])) rfl rfl (hb hby d8_44)
    refine A (st15 _) ?_
    show D (T15.setTop (mkF m 47 #[.val (.ref self), .val (.long p1), .second, .val (.int sl), .unset] [(.ref cb)]))
    refine A (XS.iloadN X15.here hx rfl (hb hby d8_47) rfl) ?_
    show D (T15.setTop (mkF m 48 #[.val (.ref self), .val (.long p1), .second, .val (.int sl), .unset] [(.int sl), (.ref cb)]))
    refine A (S' := T15.setTop (mkF m 49 #[.val (.ref self), .val (.long p1), .second, .val (.int sl), .unset] [(.int sl), (.ref cb), (.int sl), (.ref cb)])) (fun {t} kt => ?_) ?_
    · jvm_step X15.here [X15.here.top, hx, (hb hby d8_48), Value.category]
      exact kt
    show D (T15.setTop (mkF m 49 #[.val (.ref self), .val (.long p1), .second, .val (.int sl), .unset] [(.int sl), (.ref cb), (.int sl), (.ref cb)]))
    refine Adv.ldI A X15 hx hZ e15 V_cb (k := ss) hs hF.1 (g := (mkF m 49 #[.val (.ref self), .val (.long p1), .second, .val (.int sl), .unset] [(.int sl), (.ref cb), (.int sl), (.ref cb)])) rfl rfl (hb hby d8_49) ?_
    show D (T15.setTop (mkF m 50 #[.val (.ref self), .val (.long p1), .second, .val (.int sl), .unset] [(.int (cf ss)), (.int sl), (.ref cb)]))
    refine A (XS.iconst X15.here hx rfl (hb hby d8_50)) ?_
    show D (T15.setTop (mkF m 51 #[.val (.ref self), .val (.long p1), .second, .val (.int sl), .unset] [(.int (1 : Int32)), (.int (cf ss)), (.int sl), (.ref cb)]))
    refine A (XS.iadd X15.here hx rfl (hb hby d8_51) rfl) ?_
    show D (T15.setTop (mkF m 52 #[.val (.ref self), .val (.long p1), .second, .val (.int sl), .unset] [(.int ((cf ss) + (1 : Int32))), (.int sl), (.ref cb)]))
    refine A (S' := T15.setTop (mkF m 53 #[.val (.ref self), .val (.long p1), .second, .val (.int sl), .unset] [(.int ((cf ss) + (1 : Int32))), (.int sl), (.ref cb), (.int ((cf ss) + (1 : Int32)))])) (fun {t} kt => ?_) ?_
    · jvm_step X15.here [X15.here.top, hx, (hb hby d8_52), Value.category]
      exact kt
    show D (T15.setTop (mkF m 53 #[.val (.ref self), .val (.long p1), .second, .val (.int sl), .unset] [(.int ((cf ss) + (1 : Int32))), (.int sl), (.ref cb), (.int ((cf ss) + (1 : Int32)))]))
    refine Adv.stI A X15 hx hZ e15 V_cb (k := ss) hs hF.1 (g := (mkF m 53 #[.val (.ref self), .val (.long p1), .second, .val (.int sl), .unset] [(.int ((cf ss) + (1 : Int32))), (.int sl), (.ref cb), (.int ((cf ss) + (1 : Int32)))])) rfl rfl (hb hby d8_53) ?_
    intro T16 h16 X16 e16 W16 Vcb_16
    have N16 := Fr.snoc X16 N1 g_cb
    have E_self_16 := E_self.wr W16
    have F_keys_self_16 := F_keys.other W16 (Or.inl (ne_ari E_self (hw _ (List.mem_of_getElem? (i := 6) rfl)) V_cb))
    have F_counts_self_16 := F_counts.other W16 (Or.inl (ne_ari E_self (hw _ (List.mem_of_getElem? (i := 6) rfl)) V_cb))
    have F_mask_self_16 := F_mask.other W16 (Or.inl (ne_ari E_self (hw _ (List.mem_of_getElem? (i := 6) rfl)) V_cb))
    have F_shift_self_16 := F_shift.other W16 (Or.inl (ne_ari E_self (hw _ (List.mem_of_getElem? (i := 6) rfl)) V_cb))
    have F_size_self_16 := F_size.other W16 (Or.inl (ne_ari E_self (hw _ (List.mem_of_getElem? (i := 6) rfl)) V_cb))
    have V_ka_16 := V_ka.other W16 (Ne.symm (ne_aij V_cb V_ka (by decide)))
    have Z_16 : n0 ≤ h16.size := Nat.le_trans Z0 (Nat.le_of_eq W16.size.symm)
    have KK_16 : Keep h0 h16 [self, ka, cb] := (Keep.refl h0 [self, ka, cb]).wr W16 (Or.inl (List.mem_of_getElem? (i := 2) rfl))
    show D (T16.setTop (mkF m 54 #[.val (.ref self), .val (.long p1), .second, .val (.int sl), .unset] [(.int ((cf ss) + (1 : Int32)))]))
    refine A (XS.istore X16.here hx rfl (hb hby d8_54) rfl (l' := #[.val (.ref self), .val (.long p1), .second, .val (.int sl), .val (.int ((cf ss) + (1 : Int32)))]) rfl) ?_
    show D (T16.setTop (mkF m 56 #[.val (.ref self), .val (.long p1), .second, .val (.int sl), .val (.int ((cf ss) + (1 : Int32)))] []))
    refine A (XS.iconst X16.here hx rfl (hb hby d8_56)) ?_
    show D (T16.setTop (mkF m 57 #[.val (.ref self), .val (.long p1), .second, .val (.int sl), .val (.int ((cf ss) + (1 : Int32)))] [(.int (2 : Int32))]))
    refine A (XS.aloadN X16.here hx rfl (hb hby d8_57) rfl rfl) ?_
    show D (T16.setTop (mkF m 58 #[.val (.ref self), .val (.long p1), .second, .val (.int sl), .val (.int ((cf ss) + (1 : Int32)))] [(.ref self), (.int (2 : Int32))]))
    obtain ⟨T17, X17, e17, st17⟩ := getF X16 hx hZ hown (host := "") (Or.inl (hw _ (List.mem_of_getElem? (i := 56) rfl))) Via.refl e16 F_size_self_16 (g := (mkF m 58 #[.val (.ref self), .val (.long p1), .second, .val (.int sl), .val (.int ((cf ss) + (1 : Int32)))] [(.ref self), (.int (2 : Int32))])) rfl rfl (hb hby d8_58)
    refine A (st17 _) ?_
    show D (T17.setTop (mkF m 61 #[.val (.ref self), .val (.long p1), .second, .val (.int sl), .val (.int ((cf ss) + (1 : Int32)))] [(.int sz), (.int (2 : Int32))]))
    refine A (XS.imul X17.here hx rfl (hb hby d8_61) rfl) ?_
    show D (T17.setTop (mkF m 62 #[.val (.ref self), .val (.long p1), .second, .val (.int sl), .val (.int ((cf ss) + (1 : Int32)))] [(.int ((2 : Int32) * sz))]))
    refine A (XS.aloadN X17.here hx rfl (hb hby d8_62) rfl rfl) ?_
    show D (T17.setTop (mkF m 63 #[.val (.ref self), .val (.long p1), .second, .val (.int sl), .val (.int ((cf ss) + (1 : Int32)))] [(.ref self), (.int ((2 : Int32) * sz))]))
    obtain ⟨T18, X18, e18, st18⟩ := getF X17 hx hZ hown (host := "") (Or.inl (hw _ (List.mem_of_getElem? (i := 19) rfl))) Via.refl e17 F_keys_self_16 (g := (mkF m 63 #[.val (.ref self), .val (.long p1), .second, .val (.int sl), .val (.int ((cf ss) + (1 : Int32)))] [(.ref self), (.int ((2 : Int32) * sz))])) rfl rfl (hb hby d8_63)
    refine A (st18 _) ?_
    show D (T18.setTop (mkF m 66 #[.val (.ref self), .val (.long p1), .second, .val (.int sl), .val (.int ((cf ss) + (1 : Int32)))] [(.ref ka), (.int ((2 : Int32) * sz))]))
    refine Adv.lenJ A X18 hx hZ e18 V_ka_16 (g := (mkF m 66 #[.val (.ref self), .val (.long p1), .second, .val (.int sl), .val (.int ((cf ss) + (1 : Int32)))] [(.ref ka), (.int ((2 : Int32) * sz))])) rfl rfl (hb hby d8_66) ?_
    show D (T18.setTop (mkF m 67 #[.val (.ref self), .val (.long p1), .second, .val (.int sl), .val (.int ((cf ss) + (1 : Int32)))] [(.int (1024 : Int32)), (.int ((2 : Int32) * sz))]))
    refine A (XS.icmpYes X18.here hx rfl (pc0 := 67) (pc' := 74) rfl (hb hby d8_67) rfl (flt hz1).2.2.2 (by decide) (by decide)) ?_
    show D (T18.setTop (mkF m 74 #[.val (.ref self), .val (.long p1), .second, .val (.int sl), .val (.int ((cf ss) + (1 : Int32)))] []))
    refine A (XS.iload X18.here hx rfl (hb hby d8_74) rfl) ?_
    show D (T18.setTop (mkF m 76 #[.val (.ref self), .val (.long p1), .second, .val (.int sl), .val (.int ((cf ss) + (1 : Int32)))] [(.int ((cf ss) + (1 : Int32)))]))
    refine F _ (Jvm.JW.ret X18 hlk (v := some (.int ((cf ss) + (1 : Int32)))) (fun h => by rw [hrt] at h; cases h) (fun fs hr => retOut X18 hx hrt rfl (Or.inl ⟨rfl, Or.inl rfl, _, rfl⟩) (hb hby d8_76) hr) e18 ?_ (by decide) (by decide))
    exact ⟨_, _, _, _, rfl, N16, KK_16, E_self_16, F_keys_self_16, F_counts_self_16, F_mask_self_16, F_shift_self_16, F_size_self_16, V_ka_16, Vcb_16, (own_chgv hcm hF hk1 (fun q => c16_3 (own_lw.mpr q)) (by rw [own_val hcm hF (fun q => c16_3 (own_lw.mpr q))])), hoc.up, hsz.up⟩
theorem d14_0 : decode prog_9_method_7_code 0 = .ok (.iload_n 1, 1) := by decide +kernel
theorem d14_1 : decode prog_9_method_7_code 1 = .ok (.istore_n 2, 1) := by decide +kernel
theorem d14_2 : decode prog_9_method_7_code 2 = .ok (.iload_n 2, 1) := by decide +kernel
theorem d14_3 : decode prog_9_method_7_code 3 = .ok (.iconst 1, 1) := by decide +kernel
theorem d14_4 : decode prog_9_method_7_code 4 = .ok (.iadd, 1) := by decide +kernel
theorem d14_5 : decode prog_9_method_7_code 5 = .ok (.aload_n 0, 1) := by decide +kernel
theorem d14_6 : decode prog_9_method_7_code 6 = .ok (.getfield 49, 3) := by decide +kernel
theorem d14_9 : decode prog_9_method_7_code 9 = .ok (.iand, 1) := by decide +kernel
theorem d14_10 : decode prog_9_method_7_code 10 = .ok (.istore_n 3, 1) := by decide +kernel
theorem d14_11 : decode prog_9_method_7_code 11 = .ok (.aload_n 0, 1) := by decide +kernel
theorem d14_12 : decode prog_9_method_7_code 12 = .ok (.getfield 17, 3) := by decide +kernel
theorem d14_15 : decode prog_9_method_7_code 15 = .ok (.iload_n 3, 1) := by decide +kernel
theorem d14_16 : decode prog_9_method_7_code 16 = .ok (.laload, 1) := by decide +kernel
theorem d14_17 : decode prog_9_method_7_code 17 = .ok (.ldc2_w 21, 3) := by decide +kernel
theorem d14_20 : decode prog_9_method_7_code 20 = .ok (.lcmp, 1) := by decide +kernel
theorem d14_21 : decode prog_9_method_7_code 21 = .ok (.ifCond .eq 85, 3) := by decide +kernel
theorem d14_24 : decode prog_9_method_7_code 24 = .ok (.aload_n 0, 1) := by decide +kernel
theorem d14_25 : decode prog_9_method_7_code 25 = .ok (.aload_n 0, 1) := by decide +kernel
theorem d14_26 : decode prog_9_method_7_code 26 = .ok (.getfield 17, 3) := by decide +kernel
theorem d14_29 : decode prog_9_method_7_code 29 = .ok (.iload_n 3, 1) := by decide +kernel
theorem d14_30 : decode prog_9_method_7_code 30 = .ok (.laload, 1) := by decide +kernel
theorem d14_31 : decode prog_9_method_7_code 31 = .ok (.invokevirtual 46, 3) := by decide +kernel
theorem d14_34 : decode prog_9_method_7_code 34 = .ok (.istore 4, 2) := by decide +kernel
theorem d14_36 : decode prog_9_method_7_code 36 = .ok (.iload_n 3, 1) := by decide +kernel
theorem d14_37 : decode prog_9_method_7_code 37 = .ok (.iload 4, 2) := by decide +kernel
theorem d14_39 : decode prog_9_method_7_code 39 = .ok (.isub, 1) := by decide +kernel
theorem d14_40 : decode prog_9_method_7_code 40 = .ok (.aload_n 0, 1) := by decide +kernel
theorem d14_41 : decode prog_9_method_7_code 41 = .ok (.getfield 49, 3) := by decide +kernel
theorem d14_44 : decode prog_9_method_7_code 44 = .ok (.iand, 1) := by decide +kernel
theorem d14_45 : decode prog_9_method_7_code 45 = .ok (.iload_n 3, 1) := by decide +kernel
theorem d14_46 : decode prog_9_method_7_code 46 = .ok (.iload_n 2, 1) := by decide +kernel
theorem d14_47 : decode prog_9_method_7_code 47 = .ok (.isub, 1) := by decide +kernel
theorem d14_48 : decode prog_9_method_7_code 48 = .ok (.aload_n 0, 1) := by decide +kernel
theorem d14_49 : decode prog_9_method_7_code 49 = .ok (.getfield 49, 3) := by decide +kernel
theorem d14_52 : decode prog_9_method_7_code 52 = .ok (.iand, 1) := by decide +kernel
theorem d14_53 : decode prog_9_method_7_code 53 = .ok (.if_icmp .lt 7, 3) := by decide +kernel
theorem d14_56 : decode prog_9_method_7_code 56 = .ok (.iconst 1, 1) := by decide +kernel
theorem d14_57 : decode prog_9_method_7_code 57 = .ok (.goto 4, 3) := by decide +kernel
theorem d14_60 : decode prog_9_method_7_code 60 = .ok (.iconst 0, 1) := by decide +kernel
theorem d14_61 : decode prog_9_method_7_code 61 = .ok (.istore 5, 2) := by decide +kernel
theorem d14_63 : decode prog_9_method_7_code 63 = .ok (.iload 5, 2) := by decide +kernel
theorem d14_65 : decode prog_9_method_7_code 65 = .ok (.ifCond .eq 29, 3) := by decide +kernel
theorem d14_68 : decode prog_9_method_7_code 68 = .ok (.aload_n 0, 1) := by decide +kernel
theorem d14_69 : decode prog_9_method_7_code 69 = .ok (.getfield 17, 3) := by decide +kernel
theorem d14_72 : decode prog_9_method_7_code 72 = .ok (.iload_n 2, 1) := by decide +kernel
theorem d14_73 : decode prog_9_method_7_code 73 = .ok (.aload_n 0, 1) := by decide +kernel
theorem d14_74 : decode prog_9_method_7_code 74 = .ok (.getfield 17, 3) := by decide +kernel
theorem d14_77 : decode prog_9_method_7_code 77 = .ok (.iload_n 3, 1) := by decide +kernel
theorem d14_78 : decode prog_9_method_7_code 78 = .ok (.laload, 1) := by decide +kernel
theorem d14_79 : decode prog_9_method_7_code 79 = .ok (.lastore, 1) := by decide +kernel
theorem d14_80 : decode prog_9_method_7_code 80 = .ok (.aload_n 0, 1) := by decide +kernel
theorem d14_81 : decode prog_9_method_7_code 81 = .ok (.getfield 23, 3) := by decide +kernel
theorem d14_84 : decode prog_9_method_7_code 84 = .ok (.iload_n 2, 1) := by decide +kernel
theorem d14_85 : decode prog_9_method_7_code 85 = .ok (.aload_n 0, 1) := by decide +kernel
theorem d14_86 : decode prog_9_method_7_code 86 = .ok (.getfield 23, 3) := by decide +kernel
theorem d14_89 : decode prog_9_method_7_code 89 = .ok (.iload_n 3, 1) := by decide +kernel
theorem d14_90 : decode prog_9_method_7_code 90 = .ok (.iaload, 1) := by decide +kernel
theorem d14_91 : decode prog_9_method_7_code 91 = .ok (.iastore, 1) := by decide +kernel
theorem d14_92 : decode prog_9_method_7_code 92 = .ok (.iload_n 3, 1) := by decide +kernel
theorem d14_93 : decode prog_9_method_7_code 93 = .ok (.istore_n 2, 1) := by decide +kernel
theorem d14_94 : decode prog_9_method_7_code 94 = .ok (.iload_n 3, 1) := by decide +kernel
theorem d14_95 : decode prog_9_method_7_code 95 = .ok (.iconst 1, 1) := by decide +kernel
theorem d14_96 : decode prog_9_method_7_code 96 = .ok (.iadd, 1) := by decide +kernel
theorem d14_97 : decode prog_9_method_7_code 97 = .ok (.aload_n 0, 1) := by decide +kernel
theorem d14_98 : decode prog_9_method_7_code 98 = .ok (.getfield 49, 3) := by decide +kernel
theorem d14_101 : decode prog_9_method_7_code 101 = .ok (.iand, 1) := by decide +kernel
theorem d14_102 : decode prog_9_method_7_code 102 = .ok (.istore_n 3, 1) := by decide +kernel
theorem d14_103 : decode prog_9_method_7_code 103 = .ok (.goto (-92), 3) := by decide +kernel
theorem d14_106 : decode prog_9_method_7_code 106 = .ok (.aload_n 0, 1) := by decide +kernel
theorem d14_107 : decode prog_9_method_7_code 107 = .ok (.getfield 17, 3) := by decide +kernel
theorem d14_110 : decode prog_9_method_7_code 110 = .ok (.iload_n 2, 1) := by decide +kernel
theorem d14_111 : decode prog_9_method_7_code 111 = .ok (.ldc2_w 21, 3) := by decide +kernel
theorem d14_114 : decode prog_9_method_7_code 114 = .ok (.lastore, 1) := by decide +kernel
theorem d14_115 : decode prog_9_method_7_code 115 = .ok (.aload_n 0, 1) := by decide +kernel
theorem d14_116 : decode prog_9_method_7_code 116 = .ok (.dup, 1) := by decide +kernel
theorem d14_117 : decode prog_9_method_7_code 117 = .ok (.getfield 27, 3) := by decide +kernel
theorem d14_120 : decode prog_9_method_7_code 120 = .ok (.iconst 1, 1) := by decide +kernel
theorem d14_121 : decode prog_9_method_7_code 121 = .ok (.isub, 1) := by decide +kernel
theorem d14_122 : decode prog_9_method_7_code 122 = .ok (.putfield 27, 3) := by decide +kernel
theorem d14_125 : decode prog_9_method_7_code 125 = .ok (.return_, 1) := by decide +kernel
theorem pn14 : plainFor (⟨"com/example/enklave/enklave/anonymize/CountMap", "delete", "(I)V"⟩ : MethodName) = true := by decide +kernel
theorem pd14_0 : parseMethodDescriptor "(J)I" = some ⟨[.long], some .int⟩ := by decide +kernel
theorem ef14 (self : Addr) (p1 : Int32) (m : MethodId) : entryFrame m #[(.ref self), (.int p1)] 6 = mkF m 0 #[.val (.ref self), .val (.int p1), .unset, .unset, .unset, .unset] [] := by first | (simp [entryFrame, mkF, argsToLocals, Value.category]; done) | rfl
set_option maxRecDepth 65536 in
set_option maxHeartbeats 40000000 in
theorem rm14 (l : Launch) (Z : State) (a0 : Array Value) (hw : ∀ d ∈ tables_1, d.before a0 Z = true) (ws : List Jvm.Cond) (self : Addr) (p1 : Int32) (h0 : Heap) (n0 : Nat) (sz : Int32) (ka cb : Addr) (kf : Nat → Int64) (cf : Nat → Int32) (mp : Int64 → Int32) (nn : Nat) (Z0 : n0 ≤ h0.size) (g_self : n0 ≤ self) (g_ka : n0 ≤ ka) (g_cb : n0 ≤ cb) (E_self : Exa Z h0 self "com/example/enklave/enklave/anonymize/CountMap") (F_keys : Fld Z h0 self "com/example/enklave/enklave/anonymize/CountMap" "keys" "[J" (.ref ka)) (F_counts : Fld Z h0 self "com/example/enklave/enklave/anonymize/CountMap" "counts" "[I" (.ref cb)) (F_mask : Fld Z h0 self "com/example/enklave/enklave/anonymize/CountMap" "mask" "I" (.int (1023 : Int32))) (F_shift : Fld Z h0 self "com/example/enklave/enklave/anonymize/CountMap" "shift" "I" (.int (54 : Int32))) (F_size : Fld Z h0 self "com/example/enklave/enklave/anonymize/CountMap" "size" "I" (.int sz)) (V_ka : ArJ Z h0 ka 1024 kf) (V_cb : ArI Z h0 cb .int 1024 cf) (hoc : own_Occ kf nn) (hnn : nn < 100) (hsz : own_Sz sz nn) (gg zz : Nat) (hp : p1.toInt = gg) (hdi : own_DI kf cf mp gg ((gg + 1) % 1024) zz) :
    JMet l Z (⟨"com/example/enklave/enklave/anonymize/CountMap", "delete", "(I)V"⟩ : MethodName) prog_9_method_7_code 6 none ws ({ frames := 1, cells := 0, slots := 0, locals := 14 } : Room) #[(.ref self), (.int p1)] h0 (fun v h L => v = none ∧ ∃ (sz' : Int32) (kf' : Nat → Int64) (cf' : Nat → Int32), Fr n0 L ∧ Keep h0 h [self, ka, cb] ∧ Exa Z h self "com/example/enklave/enklave/anonymize/CountMap" ∧ Fld Z h self "com/example/enklave/enklave/anonymize/CountMap" "keys" "[J" (.ref ka) ∧ Fld Z h self "com/example/enklave/enklave/anonymize/CountMap" "counts" "[I" (.ref cb) ∧ Fld Z h self "com/example/enklave/enklave/anonymize/CountMap" "mask" "I" (.int (1023 : Int32)) ∧ Fld Z h self "com/example/enklave/enklave/anonymize/CountMap" "shift" "I" (.int (54 : Int32)) ∧ Fld Z h self "com/example/enklave/enklave/anonymize/CountMap" "size" "I" (.int sz') ∧ ArJ Z h ka 1024 kf' ∧ ArI Z h cb .int 1024 cf' ∧ own_CM kf' cf' mp ∧ own_Occ kf' nn ∧ own_Sz sz' (nn + 1)) := by
  refine Jvm.JW.body #[.val (.ref self), .val (.int p1), .unset, .unset, .unset, .unset] pn14 (ef14 self p1) ?_
  intro p e s m below meth c T0 D A F X0 hx hZ hby hml hown hnm hrt hlk e0
  refine A (XS.iloadN X0.here hx rfl (hb hby d14_0) rfl) ?_
  show D (T0.setTop (mkF m 1 #[.val (.ref self), .val (.int p1), .unset, .unset, .unset, .unset] [(.int p1)]))
  refine A (XS.istoreN X0.here hx rfl (hb hby d14_1) rfl (l' := #[.val (.ref self), .val (.int p1), .val (.int p1), .unset, .unset, .unset]) rfl) ?_
  show D (T0.setTop (mkF m 2 #[.val (.ref self), .val (.int p1), .val (.int p1), .unset, .unset, .unset] []))
  refine A (XS.iloadN X0.here hx rfl (hb hby d14_2) rfl) ?_
  show D (T0.setTop (mkF m 3 #[.val (.ref self), .val (.int p1), .val (.int p1), .unset, .unset, .unset] [(.int p1)]))
  refine A (XS.iconst X0.here hx rfl (hb hby d14_3)) ?_
  show D (T0.setTop (mkF m 4 #[.val (.ref self), .val (.int p1), .val (.int p1), .unset, .unset, .unset] [(.int (1 : Int32)), (.int p1)]))
  refine A (XS.iadd X0.here hx rfl (hb hby d14_4) rfl) ?_
  show D (T0.setTop (mkF m 5 #[.val (.ref self), .val (.int p1), .val (.int p1), .unset, .unset, .unset] [(.int (p1 + (1 : Int32)))]))
  refine A (XS.aloadN X0.here hx rfl (hb hby d14_5) rfl rfl) ?_
  show D (T0.setTop (mkF m 6 #[.val (.ref self), .val (.int p1), .val (.int p1), .unset, .unset, .unset] [(.ref self), (.int (p1 + (1 : Int32)))]))
  obtain ⟨T1, X1, e1, st1⟩ := getF X0 hx hZ hown (host := "") (Or.inl (hw _ (List.mem_of_getElem? (i := 29) rfl))) Via.refl e0 F_mask (g := (mkF m 6 #[.val (.ref self), .val (.int p1), .val (.int p1), .unset, .unset, .unset] [(.ref self), (.int (p1 + (1 : Int32)))])) rfl rfl (hb hby d14_6)
  refine A (st1 _) ?_
  show D (T1.setTop (mkF m 9 #[.val (.ref self), .val (.int p1), .val (.int p1), .unset, .unset, .unset] [(.int (1023 : Int32)), (.int (p1 + (1 : Int32)))]))
  refine A (XS.iand X1.here hx rfl (hb hby d14_9) rfl) ?_
  show D (T1.setTop (mkF m 10 #[.val (.ref self), .val (.int p1), .val (.int p1), .unset, .unset, .unset] [(.int ((p1 + (1 : Int32)) &&& (1023 : Int32)))]))
  refine A (XS.istoreN X1.here hx rfl (hb hby d14_10) rfl (l' := #[.val (.ref self), .val (.int p1), .val (.int p1), .val (.int ((p1 + (1 : Int32)) &&& (1023 : Int32))), .unset, .unset]) rfl) ?_
  show D (T1.setTop (mkF m 11 #[.val (.ref self), .val (.int p1), .val (.int p1), .val (.int ((p1 + (1 : Int32)) &&& (1023 : Int32))), .unset, .unset] []))
  suffices Kx3_11 : ∀ x3_11 : Int32, x3_11 = ((p1 + (1 : Int32)) &&& (1023 : Int32)) → D (T1.setTop (mkF m 11 #[.val (.ref self), .val (.int p1), .val (.int p1), .val (.int x3_11), .unset, .unset] [])) from Kx3_11 _ rfl
  intro x3_11 hx3_11
  suffices LP2 : ∀ (kk : Nat) (u4 : Slot) (u5 : Slot) (gi : Nat) (xi : Nat) (gp : Int32) (nx : Int32) (kx : Nat → Int64) (cx : Nat → Int32) (T2 : State) (H2 : Heap) (lc2 : List Loc), own_ds xi zz = kk → (u4 = .unset ∨ ∃ v : Int32, u4 = .val (.int v)) → (u5 = .unset ∨ ∃ v : Int32, u5 = .val (.int v)) → (gp.toInt = gi) → (nx.toInt = xi) → (own_DI kx cx mp gi xi zz) → (own_Occ kx nn) → (Stand p l e ({ frames := 1, cells := 0, slots := 0, locals := 14 } : Room) s m #[(.ref self), (.int p1)] below meth c T2 lc2 0 0) → (T2.heap = H2) → (Fr n0 lc2) → (n0 ≤ H2.size) → (Keep h0 H2 [self, ka, cb]) → (Exa Z H2 self "com/example/enklave/enklave/anonymize/CountMap") → (Fld Z H2 self "com/example/enklave/enklave/anonymize/CountMap" "keys" "[J" (.ref ka)) → (Fld Z H2 self "com/example/enklave/enklave/anonymize/CountMap" "counts" "[I" (.ref cb)) → (Fld Z H2 self "com/example/enklave/enklave/anonymize/CountMap" "mask" "I" (.int (1023 : Int32))) → (Fld Z H2 self "com/example/enklave/enklave/anonymize/CountMap" "shift" "I" (.int (54 : Int32))) → (Fld Z H2 self "com/example/enklave/enklave/anonymize/CountMap" "size" "I" (.int sz)) → (ArJ Z H2 ka 1024 kx) → (ArI Z H2 cb .int 1024 cx) → D (T2.setTop (mkF m 11 #[.val (.ref self), .val (.int p1), .val (.int gp), .val (.int nx), u4, u5] [])) from LP2 _ (.unset) (.unset) gg ((gg + 1) % 1024) p1 x3_11 kf cf _ _ _ rfl (Or.inl rfl) (Or.inl rfl) hp (by rw [hx3_11]; exact own_nx hp hdi.hg) hdi hoc X1 e1 (Fr.nil n0) Z0 (Keep.refl h0 [self, ka, cb]) E_self F_keys F_counts F_mask F_shift F_size V_ka V_cb
  intro kk2
  induction kk2 using Nat.strongRecOn with
  | _ kk2 ih2 =>
    intro u4 u5 gi xi gp nx kx cx T2 H2 lc2 hm2 hu4 hu5 hgi hxi hdx hox X2 e2 N2 Zq2 KK_2 E_self_2 F_keys_self_2 F_counts_self_2 F_mask_self_2 F_shift_self_2 F_size_self_2 V_ka_2 V_cb_2
    show D (T2.setTop (mkF m 11 #[.val (.ref self), .val (.int p1), .val (.int gp), .val (.int nx), u4, u5] []))
    refine A (XS.aloadN X2.here hx rfl (hb hby d14_11) rfl rfl) ?_
    show D (T2.setTop (mkF m 12 #[.val (.ref self), .val (.int p1), .val (.int gp), .val (.int nx), u4, u5] [(.ref self)]))
    obtain ⟨T3, X3, e3, st3⟩ := getF X2 hx hZ hown (host := "") (Or.inl (hw _ (List.mem_of_getElem? (i := 19) rfl))) Via.refl e2 F_keys_self_2 (g := (mkF m 12 #[.val (.ref self), .val (.int p1), .val (.int gp), .val (.int nx), u4, u5] [(.ref self)])) rfl rfl (hb hby d14_12)
    refine A (st3 _) ?_
    show D (T3.setTop (mkF m 15 #[.val (.ref self), .val (.int p1), .val (.int gp), .val (.int nx), u4, u5] [(.ref ka)]))
    refine A (XS.iloadN X3.here hx rfl (hb hby d14_15) rfl) ?_
    show D (T3.setTop (mkF m 16 #[.val (.ref self), .val (.int p1), .val (.int gp), .val (.int nx), u4, u5] [(.int nx), (.ref ka)]))
    refine Adv.ldJ A X3 hx hZ e3 V_ka_2 (k := xi) hxi hdx.hx (g := (mkF m 16 #[.val (.ref self), .val (.int p1), .val (.int gp), .val (.int nx), u4, u5] [(.int nx), (.ref ka)])) rfl rfl (hb hby d14_16) ?_
    show D (T3.setTop (mkF m 17 #[.val (.ref self), .val (.int p1), .val (.int gp), .val (.int nx), u4, u5] [(.long (kx xi))]))
    refine A (X3.ldc2Long hx hown (mvT hZ (hw _ (List.mem_of_getElem? (i := 21) rfl))) (g := (mkF m 17 #[.val (.ref self), .val (.int p1), .val (.int gp), .val (.int nx), u4, u5] [(.long (kx xi))])) rfl (hb hby d14_17) _) ?_
    show D (T3.setTop (mkF m 20 #[.val (.ref self), .val (.int p1), .val (.int gp), .val (.int nx), u4, u5] [(.long (-1 : Int64)), (.long (kx xi))]))
    refine A (XS.lcmp X3.here hx rfl (hb hby d14_20) rfl) ?_
    show D (T3.setTop (mkF m 21 #[.val (.ref self), .val (.int p1), .val (.int gp), .val (.int nx), u4, u5] [(.int (lcmpW (kx xi) (-1 : Int64)))]))
    by_cases c21_4 : (lcmpW (kx xi) (-1 : Int64)) = (0 : Int32)
    · refine A (XS.ifYes X3.here hx rfl (pc0 := 21) (pc' := 106) rfl (hb hby d14_21) rfl ((if0 _ _).trans (teq c21_4).1) (by decide) (by decide)) ?_
      show D (T3.setTop (mkF m 106 #[.val (.ref self), .val (.int p1), .val (.int gp), .val (.int nx), u4, u5] []))
      refine A (XS.aloadN X3.here hx rfl (hb hby d14_106) rfl rfl) ?_
      show D (T3.setTop (mkF m 107 #[.val (.ref self), .val (.int p1), .val (.int gp), .val (.int nx), u4, u5] [(.ref self)]))
      obtain ⟨T5, X5, e5, st5⟩ := getF X3 hx hZ hown (host := "") (Or.inl (hw _ (List.mem_of_getElem? (i := 19) rfl))) Via.refl e3 F_keys_self_2 (g := (mkF m 107 #[.val (.ref self), .val (.int p1), .val (.int gp), .val (.int nx), u4, u5] [(.ref self)])) rfl rfl (hb hby d14_107)
      refine A (st5 _) ?_
      show D (T5.setTop (mkF m 110 #[.val (.ref self), .val (.int p1), .val (.int gp), .val (.int nx), u4, u5] [(.ref ka)]))
      refine A (XS.iloadN X5.here hx rfl (hb hby d14_110) rfl) ?_
      show D (T5.setTop (mkF m 111 #[.val (.ref self), .val (.int p1), .val (.int gp), .val (.int nx), u4, u5] [(.int gp), (.ref ka)]))
      refine A (X5.ldc2Long hx hown (mvT hZ (hw _ (List.mem_of_getElem? (i := 21) rfl))) (g := (mkF m 111 #[.val (.ref self), .val (.int p1), .val (.int gp), .val (.int nx), u4, u5] [(.int gp), (.ref ka)])) rfl (hb hby d14_111) _) ?_
      show D (T5.setTop (mkF m 114 #[.val (.ref self), .val (.int p1), .val (.int gp), .val (.int nx), u4, u5] [(.long (-1 : Int64)), (.int gp), (.ref ka)]))
      refine Adv.stJ A X5 hx hZ e5 V_ka_2 (k := gi) hgi hdx.hg (g := (mkF m 114 #[.val (.ref self), .val (.int p1), .val (.int gp), .val (.int nx), u4, u5] [(.long (-1 : Int64)), (.int gp), (.ref ka)])) rfl rfl (hb hby d14_114) ?_
      intro T6 h6 X6 e6 W6 Vka_6
      have N6 := Fr.snoc X6 N2 g_ka
      have E_self_6 := E_self_2.wr W6
      have F_keys_self_6 := F_keys_self_2.other W6 (Or.inl (ne_arj E_self_2 (hw _ (List.mem_of_getElem? (i := 6) rfl)) V_ka_2))
      have F_counts_self_6 := F_counts_self_2.other W6 (Or.inl (ne_arj E_self_2 (hw _ (List.mem_of_getElem? (i := 6) rfl)) V_ka_2))
      have F_mask_self_6 := F_mask_self_2.other W6 (Or.inl (ne_arj E_self_2 (hw _ (List.mem_of_getElem? (i := 6) rfl)) V_ka_2))
      have F_shift_self_6 := F_shift_self_2.other W6 (Or.inl (ne_arj E_self_2 (hw _ (List.mem_of_getElem? (i := 6) rfl)) V_ka_2))
      have F_size_self_6 := F_size_self_2.other W6 (Or.inl (ne_arj E_self_2 (hw _ (List.mem_of_getElem? (i := 6) rfl)) V_ka_2))
      have V_cb_6 := V_cb_2.other W6 (ne_aij V_cb_2 V_ka_2 (by decide))
      have Z_6 : n0 ≤ h6.size := Nat.le_trans Zq2 (Nat.le_of_eq W6.size.symm)
      have KK_6 : Keep h0 h6 [self, ka, cb] := KK_2.wr W6 (Or.inl (List.mem_of_getElem? (i := 1) rfl))
      show D (T6.setTop (mkF m 115 #[.val (.ref self), .val (.int p1), .val (.int gp), .val (.int nx), u4, u5] []))
      refine A (XS.aloadN X6.here hx rfl (hb hby d14_115) rfl rfl) ?_
      show D (T6.setTop (mkF m 116 #[.val (.ref self), .val (.int p1), .val (.int gp), .val (.int nx), u4, u5] [(.ref self)]))
      refine A (XS.dup X6.here hx rfl (hb hby d14_116) rfl rfl) ?_
      show D (T6.setTop (mkF m 117 #[.val (.ref self), .val (.int p1), .val (.int gp), .val (.int nx), u4, u5] [(.ref self), (.ref self)]))
      obtain ⟨T7, X7, e7, st7⟩ := getF X6 hx hZ hown (host := "") (Or.inl (hw _ (List.mem_of_getElem? (i := 56) rfl))) Via.refl e6 F_size_self_6 (g := (mkF m 117 #[.val (.ref self), .val (.int p1), .val (.int gp), .val (.int nx), u4, u5] [(.ref self), (.ref self)])) rfl rfl (hb hby d14_117)
      refine A (st7 _) ?_
      show D (T7.setTop (mkF m 120 #[.val (.ref self), .val (.int p1), .val (.int gp), .val (.int nx), u4, u5] [(.int sz), (.ref self)]))
      refine A (XS.iconst X7.here hx rfl (hb hby d14_120)) ?_
      show D (T7.setTop (mkF m 121 #[.val (.ref self), .val (.int p1), .val (.int gp), .val (.int nx), u4, u5] [(.int (1 : Int32)), (.int sz), (.ref self)]))
      refine A (XS.isub X7.here hx rfl (hb hby d14_121) rfl) ?_
      show D (T7.setTop (mkF m 122 #[.val (.ref self), .val (.int p1), .val (.int gp), .val (.int nx), u4, u5] [(.int (sz - (1 : Int32))), (.ref self)]))
      obtain ⟨T8, h8, X8, e8, W8, st8⟩ := putF X7 hx hZ hown (host := "") (Or.inl (hw _ (List.mem_of_getElem? (i := 56) rfl))) Via.refl e7 F_size_self_6 E_self_6 (Or.inl (hw _ (List.mem_of_getElem? (i := 57) rfl))) (hw _ (List.mem_of_getElem? (i := 6) rfl)) (ty := .int) (by decide) rfl rfl (g := (mkF m 122 #[.val (.ref self), .val (.int p1), .val (.int gp), .val (.int nx), u4, u5] [(.int (sz - (1 : Int32))), (.ref self)])) rfl rfl (hb hby d14_122)
      have N8 := Fr.snoc X8 N6 g_self
      have F_size_self_8 := F_size_self_6.same W8
      have E_self_8 := E_self_6.wr W8
      have F_keys_self_8 := F_keys_self_6.other W8 (Or.inr (slot_ne (Or.inl (hw _ (List.mem_of_getElem? (i := 20) rfl))) (Or.inl (hw _ (List.mem_of_getElem? (i := 57) rfl))) (by decide) (t := (.array .long)) (t' := .int) (by decide) (by decide)))
      have F_counts_self_8 := F_counts_self_6.other W8 (Or.inr (slot_ne (Or.inl (hw _ (List.mem_of_getElem? (i := 28) rfl))) (Or.inl (hw _ (List.mem_of_getElem? (i := 57) rfl))) (by decide) (t := (.array .int)) (t' := .int) (by decide) (by decide)))
      have F_mask_self_8 := F_mask_self_6.other W8 (Or.inr (slot_ne (Or.inl (hw _ (List.mem_of_getElem? (i := 30) rfl))) (Or.inl (hw _ (List.mem_of_getElem? (i := 57) rfl))) (by decide) (t := .int) (t' := .int) (by decide) (by decide)))
      have F_shift_self_8 := F_shift_self_6.other W8 (Or.inr (slot_ne (Or.inl (hw _ (List.mem_of_getElem? (i := 41) rfl))) (Or.inl (hw _ (List.mem_of_getElem? (i := 57) rfl))) (by decide) (t := .int) (t' := .int) (by decide) (by decide)))
      have V_ka_8 := Vka_6.other W8 (Ne.symm (ne_arj E_self_6 (hw _ (List.mem_of_getElem? (i := 6) rfl)) Vka_6))
      have V_cb_8 := V_cb_6.other W8 (Ne.symm (ne_ari E_self_6 (hw _ (List.mem_of_getElem? (i := 6) rfl)) V_cb_6))
      have Z_8 : n0 ≤ h8.size := Nat.le_trans Z_6 (Nat.le_of_eq W8.size.symm)
      have KK_8 : Keep h0 h8 [self, ka, cb] := KK_6.wr W8 (Or.inl (List.mem_of_getElem? (i := 0) rfl))
      refine A (st8 _) ?_
      show D (T8.setTop (mkF m 125 #[.val (.ref self), .val (.int p1), .val (.int gp), .val (.int nx), u4, u5] []))
      exact F _ (Jvm.JW.ret X8 hlk (v := none) (fun _ => rfl) (fun fs hr => X8.returnOut hx hrt (hb hby d14_125) hr) e8 ⟨rfl, _, _, _, N8, KK_8, E_self_8, F_keys_self_8, F_counts_self_8, F_mask_self_8, F_shift_self_8, F_size_self_8, V_ka_8, V_cb_8, own_DIe hdx (own_lw.mp c21_4), hox.over hdx.hg (-1) hdx.kg, hsz.dec hnn⟩ (by decide) (by decide))
    · refine A (XS.ifNo X3.here hx rfl (hb hby d14_21) rfl ((if0 _ _).trans (feq c21_4).1)) ?_
      show D (T3.setTop (mkF m 24 #[.val (.ref self), .val (.int p1), .val (.int gp), .val (.int nx), u4, u5] []))
      refine A (XS.aloadN X3.here hx rfl (hb hby d14_24) rfl rfl) ?_
      show D (T3.setTop (mkF m 25 #[.val (.ref self), .val (.int p1), .val (.int gp), .val (.int nx), u4, u5] [(.ref self)]))
      refine A (XS.aloadN X3.here hx rfl (hb hby d14_25) rfl rfl) ?_
      show D (T3.setTop (mkF m 26 #[.val (.ref self), .val (.int p1), .val (.int gp), .val (.int nx), u4, u5] [(.ref self), (.ref self)]))
      obtain ⟨T9, X9, e9, st9⟩ := getF X3 hx hZ hown (host := "") (Or.inl (hw _ (List.mem_of_getElem? (i := 19) rfl))) Via.refl e3 F_keys_self_2 (g := (mkF m 26 #[.val (.ref self), .val (.int p1), .val (.int gp), .val (.int nx), u4, u5] [(.ref self), (.ref self)])) rfl rfl (hb hby d14_26)
      refine A (st9 _) ?_
      show D (T9.setTop (mkF m 29 #[.val (.ref self), .val (.int p1), .val (.int gp), .val (.int nx), u4, u5] [(.ref ka), (.ref self)]))
      refine A (XS.iloadN X9.here hx rfl (hb hby d14_29) rfl) ?_
      show D (T9.setTop (mkF m 30 #[.val (.ref self), .val (.int p1), .val (.int gp), .val (.int nx), u4, u5] [(.int nx), (.ref ka), (.ref self)]))
      refine Adv.ldJ A X9 hx hZ e9 V_ka_2 (k := xi) hxi hdx.hx (g := (mkF m 30 #[.val (.ref self), .val (.int p1), .val (.int gp), .val (.int nx), u4, u5] [(.int nx), (.ref ka), (.ref self)])) rfl rfl (hb hby d14_30) ?_
      show D (T9.setTop (mkF m 31 #[.val (.ref self), .val (.int p1), .val (.int gp), .val (.int nx), u4, u5] [(.long (kx xi)), (.ref self)]))
      refine Adv.callP A X9 hx hZ hown (hw _ (List.mem_of_getElem? (i := 51) rfl)) (hw _ (List.mem_of_getElem? (i := 52) rfl)) (hw _ (List.mem_of_getElem? (i := 6) rfl)) (hw _ (List.mem_of_getElem? (i := 53) rfl)) (hw _ (List.mem_of_getElem? (i := 7) rfl)) (hw _ (List.mem_of_getElem? (i := 54) rfl)) e9 E_self_2 (rm10 l Z a0 hw [] self (kx xi) H2 n0 sz ka cb kx cx mp nn Zq2 g_self g_ka g_cb E_self_2 F_keys_self_2 F_counts_self_2 F_mask_self_2 F_shift_self_2 F_size_self_2 V_ka_2 V_cb_2 hox hnn hsz) 0 (g := (mkF m 31 #[.val (.ref self), .val (.int p1), .val (.int gp), .val (.int nx), u4, u5] [(.long (kx xi)), (.ref self)])) rfl (by rw [hml]; rfl) [(.long (kx xi))] [] rfl (lenOf pd14_0 rfl) rfl (by show 2 * 0 + _ ≤ _; exact Nat.le_of_eq rfl) (hb hby d14_31) (by decide) (by decide) (by decide) (by decide) (by decide) ?_
      rintro T10 L10 _ X10 ⟨rfl, N10_q, e10⟩
      have N10 := Fr.app N2 N10_q
      show D (T10.setTop (mkF m 34 #[.val (.ref self), .val (.int p1), .val (.int gp), .val (.int nx), u4, u5] [(.int (own_hm (kx xi)))]))
      refine A (XS.istore X10.here hx rfl (hb hby d14_34) rfl (l' := #[.val (.ref self), .val (.int p1), .val (.int gp), .val (.int nx), .val (.int (own_hm (kx xi))), u5]) (by rcases hu4 with q | ⟨_, q⟩ <;> rw [q] <;> rfl)) ?_
      show D (T10.setTop (mkF m 36 #[.val (.ref self), .val (.int p1), .val (.int gp), .val (.int nx), .val (.int (own_hm (kx xi))), u5] []))
      refine A (XS.iloadN X10.here hx rfl (hb hby d14_36) rfl) ?_
      show D (T10.setTop (mkF m 37 #[.val (.ref self), .val (.int p1), .val (.int gp), .val (.int nx), .val (.int (own_hm (kx xi))), u5] [(.int nx)]))
      refine A (XS.iload X10.here hx rfl (hb hby d14_37) rfl) ?_
      show D (T10.setTop (mkF m 39 #[.val (.ref self), .val (.int p1), .val (.int gp), .val (.int nx), .val (.int (own_hm (kx xi))), u5] [(.int (own_hm (kx xi))), (.int nx)]))
      refine A (XS.isub X10.here hx rfl (hb hby d14_39) rfl) ?_
      show D (T10.setTop (mkF m 40 #[.val (.ref self), .val (.int p1), .val (.int gp), .val (.int nx), .val (.int (own_hm (kx xi))), u5] [(.int (nx - (own_hm (kx xi))))]))
      refine A (XS.aloadN X10.here hx rfl (hb hby d14_40) rfl rfl) ?_
      show D (T10.setTop (mkF m 41 #[.val (.ref self), .val (.int p1), .val (.int gp), .val (.int nx), .val (.int (own_hm (kx xi))), u5] [(.ref self), (.int (nx - (own_hm (kx xi))))]))
      obtain ⟨T11, X11, e11, st11⟩ := getF X10 hx hZ hown (host := "") (Or.inl (hw _ (List.mem_of_getElem? (i := 29) rfl))) Via.refl e10 F_mask_self_2 (g := (mkF m 41 #[.val (.ref self), .val (.int p1), .val (.int gp), .val (.int nx), .val (.int (own_hm (kx xi))), u5] [(.ref self), (.int (nx - (own_hm (kx xi))))])) rfl rfl (hb hby d14_41)
      refine A (st11 _) ?_
      show D (T11.setTop (mkF m 44 #[.val (.ref self), .val (.int p1), .val (.int gp), .val (.int nx), .val (.int (own_hm (kx xi))), u5] [(.int (1023 : Int32)), (.int (nx - (own_hm (kx xi))))]))
      refine A (XS.iand X11.here hx rfl (hb hby d14_44) rfl) ?_
      show D (T11.setTop (mkF m 45 #[.val (.ref self), .val (.int p1), .val (.int gp), .val (.int nx), .val (.int (own_hm (kx xi))), u5] [(.int ((nx - (own_hm (kx xi))) &&& (1023 : Int32)))]))
      refine A (XS.iloadN X11.here hx rfl (hb hby d14_45) rfl) ?_
      show D (T11.setTop (mkF m 46 #[.val (.ref self), .val (.int p1), .val (.int gp), .val (.int nx), .val (.int (own_hm (kx xi))), u5] [(.int nx), (.int ((nx - (own_hm (kx xi))) &&& (1023 : Int32)))]))
      refine A (XS.iloadN X11.here hx rfl (hb hby d14_46) rfl) ?_
      show D (T11.setTop (mkF m 47 #[.val (.ref self), .val (.int p1), .val (.int gp), .val (.int nx), .val (.int (own_hm (kx xi))), u5] [(.int gp), (.int nx), (.int ((nx - (own_hm (kx xi))) &&& (1023 : Int32)))]))
      refine A (XS.isub X11.here hx rfl (hb hby d14_47) rfl) ?_
      show D (T11.setTop (mkF m 48 #[.val (.ref self), .val (.int p1), .val (.int gp), .val (.int nx), .val (.int (own_hm (kx xi))), u5] [(.int (nx - gp)), (.int ((nx - (own_hm (kx xi))) &&& (1023 : Int32)))]))
      refine A (XS.aloadN X11.here hx rfl (hb hby d14_48) rfl rfl) ?_
      show D (T11.setTop (mkF m 49 #[.val (.ref self), .val (.int p1), .val (.int gp), .val (.int nx), .val (.int (own_hm (kx xi))), u5] [(.ref self), (.int (nx - gp)), (.int ((nx - (own_hm (kx xi))) &&& (1023 : Int32)))]))
      obtain ⟨T12, X12, e12, st12⟩ := getF X11 hx hZ hown (host := "") (Or.inl (hw _ (List.mem_of_getElem? (i := 29) rfl))) Via.refl e11 F_mask_self_2 (g := (mkF m 49 #[.val (.ref self), .val (.int p1), .val (.int gp), .val (.int nx), .val (.int (own_hm (kx xi))), u5] [(.ref self), (.int (nx - gp)), (.int ((nx - (own_hm (kx xi))) &&& (1023 : Int32)))])) rfl rfl (hb hby d14_49)
      refine A (st12 _) ?_
      show D (T12.setTop (mkF m 52 #[.val (.ref self), .val (.int p1), .val (.int gp), .val (.int nx), .val (.int (own_hm (kx xi))), u5] [(.int (1023 : Int32)), (.int (nx - gp)), (.int ((nx - (own_hm (kx xi))) &&& (1023 : Int32)))]))
      refine A (XS.iand X12.here hx rfl (hb hby d14_52) rfl) ?_
      show D (T12.setTop (mkF m 53 #[.val (.ref self), .val (.int p1), .val (.int gp), .val (.int nx), .val (.int (own_hm (kx xi))), u5] [(.int ((nx - gp) &&& (1023 : Int32))), (.int ((nx - (own_hm (kx xi))) &&& (1023 : Int32)))]))
      by_cases c53_13 : ((nx - (own_hm (kx xi))) &&& (1023 : Int32)) < ((nx - gp) &&& (1023 : Int32))
      · refine A (XS.icmpYes X12.here hx rfl (pc0 := 53) (pc' := 60) rfl (hb hby d14_53) rfl (tlt c53_13).1 (by decide) (by decide)) ?_
        show D (T12.setTop (mkF m 60 #[.val (.ref self), .val (.int p1), .val (.int gp), .val (.int nx), .val (.int (own_hm (kx xi))), u5] []))
        refine A (XS.iconst X12.here hx rfl (hb hby d14_60)) ?_
        show D (T12.setTop (mkF m 61 #[.val (.ref self), .val (.int p1), .val (.int gp), .val (.int nx), .val (.int (own_hm (kx xi))), u5] [(.int (0 : Int32))]))
        refine A (XS.istore X12.here hx rfl (hb hby d14_61) rfl (l' := #[.val (.ref self), .val (.int p1), .val (.int gp), .val (.int nx), .val (.int (own_hm (kx xi))), .val (.int (0 : Int32))]) (by rcases hu5 with q | ⟨_, q⟩ <;> rw [q] <;> rfl)) ?_
        show D (T12.setTop (mkF m 63 #[.val (.ref self), .val (.int p1), .val (.int gp), .val (.int nx), .val (.int (own_hm (kx xi))), .val (.int (0 : Int32))] []))
        refine A (XS.iload X12.here hx rfl (hb hby d14_63) rfl) ?_
        show D (T12.setTop (mkF m 65 #[.val (.ref self), .val (.int p1), .val (.int gp), .val (.int nx), .val (.int (own_hm (kx xi))), .val (.int (0 : Int32))] [(.int (0 : Int32))]))
        refine A (XS.ifYes X12.here hx rfl (pc0 := 65) (pc' := 94) rfl (hb hby d14_65) rfl ((if0 _ _).trans (teq (by decide : (0 : Int32) = (0 : Int32))).1) (by decide) (by decide)) ?_
        show D (T12.setTop (mkF m 94 #[.val (.ref self), .val (.int p1), .val (.int gp), .val (.int nx), .val (.int (own_hm (kx xi))), .val (.int (0 : Int32))] []))
        refine A (XS.iloadN X12.here hx rfl (hb hby d14_94) rfl) ?_
        show D (T12.setTop (mkF m 95 #[.val (.ref self), .val (.int p1), .val (.int gp), .val (.int nx), .val (.int (own_hm (kx xi))), .val (.int (0 : Int32))] [(.int nx)]))
        refine A (XS.iconst X12.here hx rfl (hb hby d14_95)) ?_
        show D (T12.setTop (mkF m 96 #[.val (.ref self), .val (.int p1), .val (.int gp), .val (.int nx), .val (.int (own_hm (kx xi))), .val (.int (0 : Int32))] [(.int (1 : Int32)), (.int nx)]))
        refine A (XS.iadd X12.here hx rfl (hb hby d14_96) rfl) ?_
        show D (T12.setTop (mkF m 97 #[.val (.ref self), .val (.int p1), .val (.int gp), .val (.int nx), .val (.int (own_hm (kx xi))), .val (.int (0 : Int32))] [(.int (nx + (1 : Int32)))]))
        refine A (XS.aloadN X12.here hx rfl (hb hby d14_97) rfl rfl) ?_
        show D (T12.setTop (mkF m 98 #[.val (.ref self), .val (.int p1), .val (.int gp), .val (.int nx), .val (.int (own_hm (kx xi))), .val (.int (0 : Int32))] [(.ref self), (.int (nx + (1 : Int32)))]))
        obtain ⟨T14, X14, e14, st14⟩ := getF X12 hx hZ hown (host := "") (Or.inl (hw _ (List.mem_of_getElem? (i := 29) rfl))) Via.refl e12 F_mask_self_2 (g := (mkF m 98 #[.val (.ref self), .val (.int p1), .val (.int gp), .val (.int nx), .val (.int (own_hm (kx xi))), .val (.int (0 : Int32))] [(.ref self), (.int (nx + (1 : Int32)))])) rfl rfl (hb hby d14_98)
        refine A (st14 _) ?_
        show D (T14.setTop (mkF m 101 #[.val (.ref self), .val (.int p1), .val (.int gp), .val (.int nx), .val (.int (own_hm (kx xi))), .val (.int (0 : Int32))] [(.int (1023 : Int32)), (.int (nx + (1 : Int32)))]))
        refine A (XS.iand X14.here hx rfl (hb hby d14_101) rfl) ?_
        show D (T14.setTop (mkF m 102 #[.val (.ref self), .val (.int p1), .val (.int gp), .val (.int nx), .val (.int (own_hm (kx xi))), .val (.int (0 : Int32))] [(.int ((nx + (1 : Int32)) &&& (1023 : Int32)))]))
        refine A (XS.istoreN X14.here hx rfl (hb hby d14_102) rfl (l' := #[.val (.ref self), .val (.int p1), .val (.int gp), .val (.int ((nx + (1 : Int32)) &&& (1023 : Int32))), .val (.int (own_hm (kx xi))), .val (.int (0 : Int32))]) rfl) ?_
        show D (T14.setTop (mkF m 103 #[.val (.ref self), .val (.int p1), .val (.int gp), .val (.int ((nx + (1 : Int32)) &&& (1023 : Int32))), .val (.int (own_hm (kx xi))), .val (.int (0 : Int32))] []))
        suffices Kx3_103 : ∀ x3_103 : Int32, x3_103 = ((nx + (1 : Int32)) &&& (1023 : Int32)) → D (T14.setTop (mkF m 103 #[.val (.ref self), .val (.int p1), .val (.int gp), .val (.int x3_103), .val (.int (own_hm (kx xi))), .val (.int (0 : Int32))] [])) from Kx3_103 _ rfl
        intro x3_103 hx3_103
        refine A (XS.goto X14.here hx rfl (pc0 := 103) (pc' := 11) rfl (hb hby d14_103) (by decide) (by decide)) ?_
        show D (T14.setTop (mkF m 11 #[.val (.ref self), .val (.int p1), .val (.int gp), .val (.int x3_103), .val (.int (own_hm (kx xi))), .val (.int (0 : Int32))] []))
        exact ih2 _ (hm2 ▸ own_dec hdx.hx hdx.hz (fun q => c21_4 (own_lw.mpr (by rw [q]; exact hdx.kz)))) (.val (.int (own_hm (kx xi)))) (.val (.int (0 : Int32))) gi ((xi + 1) % 1024) gp x3_103 kx cx _ _ _ rfl (Or.inr ⟨_, rfl⟩) (Or.inr ⟨_, rfl⟩) hgi (by rw [hx3_103]; exact own_nx hxi hdx.hx) (own_DIs hdx (fun q => c21_4 (own_lw.mpr q)) ((own_mv hxi (own_hlt _).1 hgi hdx.hx (own_hlt _).2 hdx.hg).mp c53_13)) hox X14 e14 N10 Zq2 KK_2 E_self_2 F_keys_self_2 F_counts_self_2 F_mask_self_2 F_shift_self_2 F_size_self_2 V_ka_2 V_cb_2
      · refine A (XS.icmpNo X12.here hx rfl (hb hby d14_53) rfl (flt c53_13).1) ?_
        show D (T12.setTop (mkF m 56 #[.val (.ref self), .val (.int p1), .val (.int gp), .val (.int nx), .val (.int (own_hm (kx xi))), u5] []))
        refine A (XS.iconst X12.here hx rfl (hb hby d14_56)) ?_
        show D (T12.setTop (mkF m 57 #[.val (.ref self), .val (.int p1), .val (.int gp), .val (.int nx), .val (.int (own_hm (kx xi))), u5] [(.int (1 : Int32))]))
        refine A (XS.goto X12.here hx rfl (pc0 := 57) (pc' := 61) rfl (hb hby d14_57) (by decide) (by decide)) ?_
        show D (T12.setTop (mkF m 61 #[.val (.ref self), .val (.int p1), .val (.int gp), .val (.int nx), .val (.int (own_hm (kx xi))), u5] [(.int (1 : Int32))]))
        refine A (XS.istore X12.here hx rfl (hb hby d14_61) rfl (l' := #[.val (.ref self), .val (.int p1), .val (.int gp), .val (.int nx), .val (.int (own_hm (kx xi))), .val (.int (1 : Int32))]) (by rcases hu5 with q | ⟨_, q⟩ <;> rw [q] <;> rfl)) ?_
        show D (T12.setTop (mkF m 63 #[.val (.ref self), .val (.int p1), .val (.int gp), .val (.int nx), .val (.int (own_hm (kx xi))), .val (.int (1 : Int32))] []))
        refine A (XS.iload X12.here hx rfl (hb hby d14_63) rfl) ?_
        show D (T12.setTop (mkF m 65 #[.val (.ref self), .val (.int p1), .val (.int gp), .val (.int nx), .val (.int (own_hm (kx xi))), .val (.int (1 : Int32))] [(.int (1 : Int32))]))
        refine A (XS.ifNo X12.here hx rfl (hb hby d14_65) rfl ((if0 _ _).trans (feq (by decide : ¬ ((1 : Int32) = (0 : Int32)))).1)) ?_
        show D (T12.setTop (mkF m 68 #[.val (.ref self), .val (.int p1), .val (.int gp), .val (.int nx), .val (.int (own_hm (kx xi))), .val (.int (1 : Int32))] []))
        refine A (XS.aloadN X12.here hx rfl (hb hby d14_68) rfl rfl) ?_
        show D (T12.setTop (mkF m 69 #[.val (.ref self), .val (.int p1), .val (.int gp), .val (.int nx), .val (.int (own_hm (kx xi))), .val (.int (1 : Int32))] [(.ref self)]))
        obtain ⟨T15, X15, e15, st15⟩ := getF X12 hx hZ hown (host := "") (Or.inl (hw _ (List.mem_of_getElem? (i := 19) rfl))) Via.refl e12 F_keys_self_2 (g := (mkF m 69 #[.val (.ref self), .val (.int p1), .val (.int gp), .val (.int nx), .val (.int (own_hm (kx xi))), .val (.int (1 : Int32))] [(.ref self)])) rfl rfl (hb hby d14_69)
        refine A (st15 _) ?_
        show D (T15.setTop (mkF m 72 #[.val (.ref self), .val (.int p1), .val (.int gp), .val (.int nx), .val (.int (own_hm (kx xi))), .val (.int (1 : Int32))] [(.ref ka)]))
        refine A (XS.iloadN X15.here hx rfl (hb hby d14_72) rfl) ?_
        show D (T15.setTop (mkF m 73 #[.val (.ref self), .val (.int p1), .val (.int gp), .val (.int nx), .val (.int (own_hm (kx xi))), .val (.int (1 : Int32))] [(.int gp), (.ref ka)]))
        refine A (XS.aloadN X15.here hx rfl (hb hby d14_73) rfl rfl) ?_
        show D (T15.setTop (mkF m 74 #[.val (.ref self), .val (.int p1), .val (.int gp), .val (.int nx), .val (.int (own_hm (kx xi))), .val (.int (1 : Int32))] [(.ref self), (.int gp), (.ref ka)]))
        obtain ⟨T16, X16, e16, st16⟩ := getF X15 hx hZ hown (host := "") (Or.inl (hw _ (List.mem_of_getElem? (i := 19) rfl))) Via.refl e15 F_keys_self_2 (g := (mkF m 74 #[.val (.ref self), .val (.int p1), .val (.int gp), .val (.int nx), .val (.int (own_hm (kx xi))), .val (.int (1 : Int32))] [(.ref self), (.int gp), (.ref ka)])) rfl rfl (hb hby d14_74)
        refine A (st16 _) ?_
        show D (T16.setTop (mkF m 77 #[.val (.ref self), .val (.int p1), .val (.int gp), .val (.int nx), .val (.int (own_hm (kx xi))), .val (.int (1 : Int32))] [(.ref ka), (.int gp), (.ref ka)]))
        refine A (XS.iloadN X16.here hx rfl (hb hby d14_77) rfl) ?_
        show D (T16.setTop (mkF m 78 #[.val (.ref self), .val (.int p1), .val (.int gp), .val (.int nx), .val (.int (own_hm (kx xi))), .val (.int (1 : Int32))] [(.int nx), (.ref ka), (.int gp), (.ref ka)]))
        refine Adv.ldJ A X16 hx hZ e16 V_ka_2 (k := xi) hxi hdx.hx (g := (mkF m 78 #[.val (.ref self), .val (.int p1), .val (.int gp), .val (.int nx), .val (.int (own_hm (kx xi))), .val (.int (1 : Int32))] [(.int nx), (.ref ka), (.int gp), (.ref ka)])) rfl rfl (hb hby d14_78) ?_
        show D (T16.setTop (mkF m 79 #[.val (.ref self), .val (.int p1), .val (.int gp), .val (.int nx), .val (.int (own_hm (kx xi))), .val (.int (1 : Int32))] [(.long (kx xi)), (.int gp), (.ref ka)]))
        refine Adv.stJ A X16 hx hZ e16 V_ka_2 (k := gi) hgi hdx.hg (g := (mkF m 79 #[.val (.ref self), .val (.int p1), .val (.int gp), .val (.int nx), .val (.int (own_hm (kx xi))), .val (.int (1 : Int32))] [(.long (kx xi)), (.int gp), (.ref ka)])) rfl rfl (hb hby d14_79) ?_
        intro T17 h17 X17 e17 W17 Vka_17
        have N17 := Fr.snoc X17 N10 g_ka
        have E_self_17 := E_self_2.wr W17
        have F_keys_self_17 := F_keys_self_2.other W17 (Or.inl (ne_arj E_self_2 (hw _ (List.mem_of_getElem? (i := 6) rfl)) V_ka_2))
        have F_counts_self_17 := F_counts_self_2.other W17 (Or.inl (ne_arj E_self_2 (hw _ (List.mem_of_getElem? (i := 6) rfl)) V_ka_2))
        have F_mask_self_17 := F_mask_self_2.other W17 (Or.inl (ne_arj E_self_2 (hw _ (List.mem_of_getElem? (i := 6) rfl)) V_ka_2))
        have F_shift_self_17 := F_shift_self_2.other W17 (Or.inl (ne_arj E_self_2 (hw _ (List.mem_of_getElem? (i := 6) rfl)) V_ka_2))
        have F_size_self_17 := F_size_self_2.other W17 (Or.inl (ne_arj E_self_2 (hw _ (List.mem_of_getElem? (i := 6) rfl)) V_ka_2))
        have V_cb_17 := V_cb_2.other W17 (ne_aij V_cb_2 V_ka_2 (by decide))
        have Z_17 : n0 ≤ h17.size := Nat.le_trans Zq2 (Nat.le_of_eq W17.size.symm)
        have KK_17 : Keep h0 h17 [self, ka, cb] := KK_2.wr W17 (Or.inl (List.mem_of_getElem? (i := 1) rfl))
        show D (T17.setTop (mkF m 80 #[.val (.ref self), .val (.int p1), .val (.int gp), .val (.int nx), .val (.int (own_hm (kx xi))), .val (.int (1 : Int32))] []))
        refine A (XS.aloadN X17.here hx rfl (hb hby d14_80) rfl rfl) ?_
        show D (T17.setTop (mkF m 81 #[.val (.ref self), .val (.int p1), .val (.int gp), .val (.int nx), .val (.int (own_hm (kx xi))), .val (.int (1 : Int32))] [(.ref self)]))
        obtain ⟨T18, X18, e18, st18⟩ := getF X17 hx hZ hown (host := "") (Or.inl (hw _ (List.mem_of_getElem? (i := 27) rfl))) Via.refl e17 F_counts_self_17 (g := (mkF m 81 #[.val (.ref self), .val (.int p1), .val (.int gp), .val (.int nx), .val (.int (own_hm (kx xi))), .val (.int (1 : Int32))] [(.ref self)])) rfl rfl (hb hby d14_81)
        refine A (st18 _) ?_
        show D (T18.setTop (mkF m 84 #[.val (.ref self), .val (.int p1), .val (.int gp), .val (.int nx), .val (.int (own_hm (kx xi))), .val (.int (1 : Int32))] [(.ref cb)]))
        refine A (XS.iloadN X18.here hx rfl (hb hby d14_84) rfl) ?_
        show D (T18.setTop (mkF m 85 #[.val (.ref self), .val (.int p1), .val (.int gp), .val (.int nx), .val (.int (own_hm (kx xi))), .val (.int (1 : Int32))] [(.int gp), (.ref cb)]))
        refine A (XS.aloadN X18.here hx rfl (hb hby d14_85) rfl rfl) ?_
        show D (T18.setTop (mkF m 86 #[.val (.ref self), .val (.int p1), .val (.int gp), .val (.int nx), .val (.int (own_hm (kx xi))), .val (.int (1 : Int32))] [(.ref self), (.int gp), (.ref cb)]))
        obtain ⟨T19, X19, e19, st19⟩ := getF X18 hx hZ hown (host := "") (Or.inl (hw _ (List.mem_of_getElem? (i := 27) rfl))) Via.refl e18 F_counts_self_17 (g := (mkF m 86 #[.val (.ref self), .val (.int p1), .val (.int gp), .val (.int nx), .val (.int (own_hm (kx xi))), .val (.int (1 : Int32))] [(.ref self), (.int gp), (.ref cb)])) rfl rfl (hb hby d14_86)
        refine A (st19 _) ?_
        show D (T19.setTop (mkF m 89 #[.val (.ref self), .val (.int p1), .val (.int gp), .val (.int nx), .val (.int (own_hm (kx xi))), .val (.int (1 : Int32))] [(.ref cb), (.int gp), (.ref cb)]))
        refine A (XS.iloadN X19.here hx rfl (hb hby d14_89) rfl) ?_
        show D (T19.setTop (mkF m 90 #[.val (.ref self), .val (.int p1), .val (.int gp), .val (.int nx), .val (.int (own_hm (kx xi))), .val (.int (1 : Int32))] [(.int nx), (.ref cb), (.int gp), (.ref cb)]))
        refine Adv.ldI A X19 hx hZ e19 V_cb_17 (k := xi) hxi hdx.hx (g := (mkF m 90 #[.val (.ref self), .val (.int p1), .val (.int gp), .val (.int nx), .val (.int (own_hm (kx xi))), .val (.int (1 : Int32))] [(.int nx), (.ref cb), (.int gp), (.ref cb)])) rfl rfl (hb hby d14_90) ?_
        show D (T19.setTop (mkF m 91 #[.val (.ref self), .val (.int p1), .val (.int gp), .val (.int nx), .val (.int (own_hm (kx xi))), .val (.int (1 : Int32))] [(.int (cx xi)), (.int gp), (.ref cb)]))
        refine Adv.stI A X19 hx hZ e19 V_cb_17 (k := gi) hgi hdx.hg (g := (mkF m 91 #[.val (.ref self), .val (.int p1), .val (.int gp), .val (.int nx), .val (.int (own_hm (kx xi))), .val (.int (1 : Int32))] [(.int (cx xi)), (.int gp), (.ref cb)])) rfl rfl (hb hby d14_91) ?_
        intro T20 h20 X20 e20 W20 Vcb_20
        have N20 := Fr.snoc X20 N17 g_cb
        have E_self_20 := E_self_17.wr W20
        have F_keys_self_20 := F_keys_self_17.other W20 (Or.inl (ne_ari E_self_17 (hw _ (List.mem_of_getElem? (i := 6) rfl)) V_cb_17))
        have F_counts_self_20 := F_counts_self_17.other W20 (Or.inl (ne_ari E_self_17 (hw _ (List.mem_of_getElem? (i := 6) rfl)) V_cb_17))
        have F_mask_self_20 := F_mask_self_17.other W20 (Or.inl (ne_ari E_self_17 (hw _ (List.mem_of_getElem? (i := 6) rfl)) V_cb_17))
        have F_shift_self_20 := F_shift_self_17.other W20 (Or.inl (ne_ari E_self_17 (hw _ (List.mem_of_getElem? (i := 6) rfl)) V_cb_17))
        have F_size_self_20 := F_size_self_17.other W20 (Or.inl (ne_ari E_self_17 (hw _ (List.mem_of_getElem? (i := 6) rfl)) V_cb_17))
        have V_ka_20 := Vka_17.other W20 (Ne.symm (ne_aij V_cb_17 Vka_17 (by decide)))
        have Z_20 : n0 ≤ h20.size := Nat.le_trans Z_17 (Nat.le_of_eq W20.size.symm)
        have KK_20 : Keep h0 h20 [self, ka, cb] := KK_17.wr W20 (Or.inl (List.mem_of_getElem? (i := 2) rfl))
        show D (T20.setTop (mkF m 92 #[.val (.ref self), .val (.int p1), .val (.int gp), .val (.int nx), .val (.int (own_hm (kx xi))), .val (.int (1 : Int32))] []))
        refine A (XS.iloadN X20.here hx rfl (hb hby d14_92) rfl) ?_
        show D (T20.setTop (mkF m 93 #[.val (.ref self), .val (.int p1), .val (.int gp), .val (.int nx), .val (.int (own_hm (kx xi))), .val (.int (1 : Int32))] [(.int nx)]))
        refine A (XS.istoreN X20.here hx rfl (hb hby d14_93) rfl (l' := #[.val (.ref self), .val (.int p1), .val (.int nx), .val (.int nx), .val (.int (own_hm (kx xi))), .val (.int (1 : Int32))]) rfl) ?_
        show D (T20.setTop (mkF m 94 #[.val (.ref self), .val (.int p1), .val (.int nx), .val (.int nx), .val (.int (own_hm (kx xi))), .val (.int (1 : Int32))] []))
        refine A (XS.iloadN X20.here hx rfl (hb hby d14_94) rfl) ?_
        show D (T20.setTop (mkF m 95 #[.val (.ref self), .val (.int p1), .val (.int nx), .val (.int nx), .val (.int (own_hm (kx xi))), .val (.int (1 : Int32))] [(.int nx)]))
        refine A (XS.iconst X20.here hx rfl (hb hby d14_95)) ?_
        show D (T20.setTop (mkF m 96 #[.val (.ref self), .val (.int p1), .val (.int nx), .val (.int nx), .val (.int (own_hm (kx xi))), .val (.int (1 : Int32))] [(.int (1 : Int32)), (.int nx)]))
        refine A (XS.iadd X20.here hx rfl (hb hby d14_96) rfl) ?_
        show D (T20.setTop (mkF m 97 #[.val (.ref self), .val (.int p1), .val (.int nx), .val (.int nx), .val (.int (own_hm (kx xi))), .val (.int (1 : Int32))] [(.int (nx + (1 : Int32)))]))
        refine A (XS.aloadN X20.here hx rfl (hb hby d14_97) rfl rfl) ?_
        show D (T20.setTop (mkF m 98 #[.val (.ref self), .val (.int p1), .val (.int nx), .val (.int nx), .val (.int (own_hm (kx xi))), .val (.int (1 : Int32))] [(.ref self), (.int (nx + (1 : Int32)))]))
        obtain ⟨T21, X21, e21, st21⟩ := getF X20 hx hZ hown (host := "") (Or.inl (hw _ (List.mem_of_getElem? (i := 29) rfl))) Via.refl e20 F_mask_self_20 (g := (mkF m 98 #[.val (.ref self), .val (.int p1), .val (.int nx), .val (.int nx), .val (.int (own_hm (kx xi))), .val (.int (1 : Int32))] [(.ref self), (.int (nx + (1 : Int32)))])) rfl rfl (hb hby d14_98)
        refine A (st21 _) ?_
        show D (T21.setTop (mkF m 101 #[.val (.ref self), .val (.int p1), .val (.int nx), .val (.int nx), .val (.int (own_hm (kx xi))), .val (.int (1 : Int32))] [(.int (1023 : Int32)), (.int (nx + (1 : Int32)))]))
        refine A (XS.iand X21.here hx rfl (hb hby d14_101) rfl) ?_
        show D (T21.setTop (mkF m 102 #[.val (.ref self), .val (.int p1), .val (.int nx), .val (.int nx), .val (.int (own_hm (kx xi))), .val (.int (1 : Int32))] [(.int ((nx + (1 : Int32)) &&& (1023 : Int32)))]))
        refine A (XS.istoreN X21.here hx rfl (hb hby d14_102) rfl (l' := #[.val (.ref self), .val (.int p1), .val (.int nx), .val (.int ((nx + (1 : Int32)) &&& (1023 : Int32))), .val (.int (own_hm (kx xi))), .val (.int (1 : Int32))]) rfl) ?_
        show D (T21.setTop (mkF m 103 #[.val (.ref self), .val (.int p1), .val (.int nx), .val (.int ((nx + (1 : Int32)) &&& (1023 : Int32))), .val (.int (own_hm (kx xi))), .val (.int (1 : Int32))] []))
        suffices Kx3_103a : ∀ x3_103a : Int32, x3_103a = ((nx + (1 : Int32)) &&& (1023 : Int32)) → D (T21.setTop (mkF m 103 #[.val (.ref self), .val (.int p1), .val (.int nx), .val (.int x3_103a), .val (.int (own_hm (kx xi))), .val (.int (1 : Int32))] [])) from Kx3_103a _ rfl
        intro x3_103a hx3_103a
        refine A (XS.goto X21.here hx rfl (pc0 := 103) (pc' := 11) rfl (hb hby d14_103) (by decide) (by decide)) ?_
        show D (T21.setTop (mkF m 11 #[.val (.ref self), .val (.int p1), .val (.int nx), .val (.int x3_103a), .val (.int (own_hm (kx xi))), .val (.int (1 : Int32))] []))
        exact ih2 _ (hm2 ▸ own_dec hdx.hx hdx.hz (fun q => c21_4 (own_lw.mpr (by rw [q]; exact hdx.kz)))) (.val (.int (own_hm (kx xi)))) (.val (.int (1 : Int32))) xi ((xi + 1) % 1024) nx x3_103a (fun ix => if ix = gi then (kx xi) else kx ix) (fun ix => if ix = gi then (cx xi) else cx ix) _ _ _ rfl (Or.inr ⟨_, rfl⟩) (Or.inr ⟨_, rfl⟩) hxi (by rw [hx3_103a]; exact own_nx hxi hdx.hx) (own_DIm hdx (fun q => c21_4 (own_lw.mpr q)) (Nat.le_of_not_lt fun q => c53_13 ((own_mv hxi (own_hlt _).1 hgi hdx.hx (own_hlt _).2 hdx.hg).mpr q))) (hox.over hdx.hg _ hdx.kg) X21 e21 N20 Z_20 KK_20 E_self_20 F_keys_self_20 F_counts_self_20 F_mask_self_20 F_shift_self_20 F_size_self_20 V_ka_20 Vcb_20
theorem d13_0 : decode prog_9_method_4_code 0 = .ok (.aload_n 0, 1) := by decide +kernel
theorem d13_1 : decode prog_9_method_4_code 1 = .ok (.lload_n 1, 1) := by decide +kernel
theorem d13_2 : decode prog_9_method_4_code 2 = .ok (.invokevirtual 13, 3) := by decide +kernel
theorem d13_5 : decode prog_9_method_4_code 5 = .ok (.istore_n 3, 1) := by decide +kernel
theorem d13_6 : decode prog_9_method_4_code 6 = .ok (.aload_n 0, 1) := by decide +kernel
theorem d13_7 : decode prog_9_method_4_code 7 = .ok (.getfield 17, 3) := by decide +kernel
theorem d13_10 : decode prog_9_method_4_code 10 = .ok (.iload_n 3, 1) := by decide +kernel
theorem d13_11 : decode prog_9_method_4_code 11 = .ok (.laload, 1) := by decide +kernel
theorem d13_12 : decode prog_9_method_4_code 12 = .ok (.ldc2_w 21, 3) := by decide +kernel
theorem d13_15 : decode prog_9_method_4_code 15 = .ok (.lcmp, 1) := by decide +kernel
theorem d13_16 : decode prog_9_method_4_code 16 = .ok (.ifCond .ne 17, 3) := by decide +kernel
theorem d13_33 : decode prog_9_method_4_code 33 = .ok (.aload_n 0, 1) := by decide +kernel
theorem d13_34 : decode prog_9_method_4_code 34 = .ok (.getfield 23, 3) := by decide +kernel
theorem d13_37 : decode prog_9_method_4_code 37 = .ok (.iload_n 3, 1) := by decide +kernel
theorem d13_38 : decode prog_9_method_4_code 38 = .ok (.dup2, 1) := by decide +kernel
theorem d13_39 : decode prog_9_method_4_code 39 = .ok (.iaload, 1) := by decide +kernel
theorem d13_40 : decode prog_9_method_4_code 40 = .ok (.iconst 1, 1) := by decide +kernel
theorem d13_41 : decode prog_9_method_4_code 41 = .ok (.isub, 1) := by decide +kernel
theorem d13_42 : decode prog_9_method_4_code 42 = .ok (.dup_x2, 1) := by decide +kernel
theorem d13_43 : decode prog_9_method_4_code 43 = .ok (.iastore, 1) := by decide +kernel
theorem d13_44 : decode prog_9_method_4_code 44 = .ok (.istore 4, 2) := by decide +kernel
theorem d13_46 : decode prog_9_method_4_code 46 = .ok (.iload 4, 2) := by decide +kernel
theorem d13_48 : decode prog_9_method_4_code 48 = .ok (.ifCond .ne 8, 3) := by decide +kernel
theorem d13_51 : decode prog_9_method_4_code 51 = .ok (.aload_n 0, 1) := by decide +kernel
theorem d13_52 : decode prog_9_method_4_code 52 = .ok (.iload_n 3, 1) := by decide +kernel
theorem d13_53 : decode prog_9_method_4_code 53 = .ok (.invokevirtual 43, 3) := by decide +kernel
theorem d13_56 : decode prog_9_method_4_code 56 = .ok (.iload 4, 2) := by decide +kernel
theorem d13_58 : decode prog_9_method_4_code 58 = .ok (.ireturn, 1) := by decide +kernel
theorem pn13 : plainFor (⟨"com/example/enklave/enklave/anonymize/CountMap", "decrement", "(J)I"⟩ : MethodName) = true := by decide +kernel
theorem pd13_0 : parseMethodDescriptor "(J)I" = some ⟨[.long], some .int⟩ := by decide +kernel
theorem pd13_1 : parseMethodDescriptor "(I)V" = some ⟨[.int], none⟩ := by decide +kernel
theorem ef13 (self : Addr) (p1 : Int64) (m : MethodId) : entryFrame m #[(.ref self), (.long p1)] 5 = mkF m 0 #[.val (.ref self), .val (.long p1), .second, .unset, .unset] [] := by first | (simp [entryFrame, mkF, argsToLocals, Value.category]; done) | rfl
set_option maxRecDepth 65536 in
set_option maxHeartbeats 40000000 in
theorem rm13 (l : Launch) (Z : State) (a0 : Array Value) (hw : ∀ d ∈ tables_1, d.before a0 Z = true) (ws : List Jvm.Cond) (self : Addr) (p1 : Int64) (h0 : Heap) (n0 : Nat) (sz : Int32) (ka cb : Addr) (kf : Nat → Int64) (cf : Nat → Int32) (mp : Int64 → Int32) (nn : Nat) (Z0 : n0 ≤ h0.size) (g_self : n0 ≤ self) (g_ka : n0 ≤ ka) (g_cb : n0 ≤ cb) (E_self : Exa Z h0 self "com/example/enklave/enklave/anonymize/CountMap") (F_keys : Fld Z h0 self "com/example/enklave/enklave/anonymize/CountMap" "keys" "[J" (.ref ka)) (F_counts : Fld Z h0 self "com/example/enklave/enklave/anonymize/CountMap" "counts" "[I" (.ref cb)) (F_mask : Fld Z h0 self "com/example/enklave/enklave/anonymize/CountMap" "mask" "I" (.int (1023 : Int32))) (F_shift : Fld Z h0 self "com/example/enklave/enklave/anonymize/CountMap" "shift" "I" (.int (54 : Int32))) (F_size : Fld Z h0 self "com/example/enklave/enklave/anonymize/CountMap" "size" "I" (.int sz)) (V_ka : ArJ Z h0 ka 1024 kf) (V_cb : ArI Z h0 cb .int 1024 cf) (hoc : own_Occ kf nn) (hnn : nn < 100) (hsz : own_Sz sz nn) (hcm : own_CM kf cf mp) (hk1 : p1 ≠ -1) (hmk : mp p1 ≠ 0) :
    JMet l Z (⟨"com/example/enklave/enklave/anonymize/CountMap", "decrement", "(J)I"⟩ : MethodName) prog_9_method_4_code 5 (some .int) ws ({ frames := 2, cells := 0, slots := 0, locals := 31 } : Room) #[(.ref self), (.long p1)] h0 (fun v h L => ∃ (sz' : Int32) (kf' : Nat → Int64) (cf' : Nat → Int32), v = some (.int (mp p1 - 1)) ∧ Fr n0 L ∧ Keep h0 h [self, ka, cb] ∧ Exa Z h self "com/example/enklave/enklave/anonymize/CountMap" ∧ Fld Z h self "com/example/enklave/enklave/anonymize/CountMap" "keys" "[J" (.ref ka) ∧ Fld Z h self "com/example/enklave/enklave/anonymize/CountMap" "counts" "[I" (.ref cb) ∧ Fld Z h self "com/example/enklave/enklave/anonymize/CountMap" "mask" "I" (.int (1023 : Int32)) ∧ Fld Z h self "com/example/enklave/enklave/anonymize/CountMap" "shift" "I" (.int (54 : Int32)) ∧ Fld Z h self "com/example/enklave/enklave/anonymize/CountMap" "size" "I" (.int sz') ∧ ArJ Z h ka 1024 kf' ∧ ArI Z h cb .int 1024 cf' ∧ own_CM kf' cf' (own_up mp p1 (mp p1 - 1)) ∧ own_Occ kf' (nn + 1) ∧ own_Sz sz' (nn + 1)) := by
  refine Jvm.JW.body #[.val (.ref self), .val (.long p1), .second, .unset, .unset] pn13 (ef13 self p1) ?_
  intro p e s m below meth c T0 D A F X0 hx hZ hby hml hown hnm hrt hlk e0
  refine A (XS.aloadN X0.here hx rfl (hb hby d13_0) rfl rfl) ?_
  show D (T0.setTop (mkF m 1 #[.val (.ref self), .val (.long p1), .second, .unset, .unset] [(.ref self)]))
  refine A (XS.lloadN X0.here hx rfl (hb hby d13_1) rfl) ?_
  show D (T0.setTop (mkF m 2 #[.val (.ref self), .val (.long p1), .second, .unset, .unset] [(.long p1), (.ref self)]))
  refine Adv.callP A X0 hx hZ hown (hw _ (List.mem_of_getElem? (i := 47) rfl)) (hw _ (List.mem_of_getElem? (i := 48) rfl)) (hw _ (List.mem_of_getElem? (i := 6) rfl)) (hw _ (List.mem_of_getElem? (i := 49) rfl)) (hw _ (List.mem_of_getElem? (i := 7) rfl)) (hw _ (List.mem_of_getElem? (i := 50) rfl)) e0 E_self (rm9 l Z a0 hw [] self p1 h0 n0 sz ka cb kf cf mp nn Z0 g_self g_ka g_cb E_self F_keys F_counts F_mask F_shift F_size V_ka V_cb hoc hnn hsz) 0 (g := (mkF m 2 #[.val (.ref self), .val (.long p1), .second, .unset, .unset] [(.long p1), (.ref self)])) rfl (by rw [hml]; rfl) [(.long p1)] [] rfl (lenOf pd13_0 rfl) rfl (by show 2 * 0 + _ ≤ _; exact Nat.le_of_eq rfl) (hb hby d13_2) (by decide) (by decide) (by decide) (by decide) (by decide) ?_
  rintro T1 L1 _ X1 ⟨sl, ss, rfl, hs, hF, N1_q, e1⟩
  have N1 := Fr.app (Fr.nil n0) N1_q
  show D (T1.setTop (mkF m 5 #[.val (.ref self), .val (.long p1), .second, .unset, .unset] [(.int sl)]))
  have hne := own_pres hcm hF hk1 hmk
  have hnz : ¬ (lcmpW (kf ss) (-1 : Int64)) = (0 : Int32) := fun q => hne (own_lw.mp q)
  have hcv := own_val hcm hF hne
  refine A (XS.istoreN X1.here hx rfl (hb hby d13_5) rfl (l' := #[.val (.ref self), .val (.long p1), .second, .val (.int sl), .unset]) rfl) ?_
  show D (T1.setTop (mkF m 6 #[.val (.ref self), .val (.long p1), .second, .val (.int sl), .unset] []))
  refine A (XS.aloadN X1.here hx rfl (hb hby d13_6) rfl rfl) ?_
  show D (T1.setTop (mkF m 7 #[.val (.ref self), .val (.long p1), .second, .val (.int sl), .unset] [(.ref self)]))
  obtain ⟨T2, X2, e2, st2⟩ := getF X1 hx hZ hown (host := "") (Or.inl (hw _ (List.mem_of_getElem? (i := 19) rfl))) Via.refl e1 F_keys (g := (mkF m 7 #[.val (.ref self), .val (.long p1), .second, .val (.int sl), .unset] [(.ref self)])) rfl rfl (hb hby d13_7)
  refine A (st2 _) ?_
  show D (T2.setTop (mkF m 10 #[.val (.ref self), .val (.long p1), .second, .val (.int sl), .unset] [(.ref ka)]))
  refine A (XS.iloadN X2.here hx rfl (hb hby d13_10) rfl) ?_
  show D (T2.setTop (mkF m 11 #[.val (.ref self), .val (.long p1), .second, .val (.int sl), .unset] [(.int sl), (.ref ka)]))
  refine Adv.ldJ A X2 hx hZ e2 V_ka (k := ss) hs hF.1 (g := (mkF m 11 #[.val (.ref self), .val (.long p1), .second, .val (.int sl), .unset] [(.int sl), (.ref ka)])) rfl rfl (hb hby d13_11) ?_
  show D (T2.setTop (mkF m 12 #[.val (.ref self), .val (.long p1), .second, .val (.int sl), .unset] [(.long (kf ss))]))
  refine A (X2.ldc2Long hx hown (mvT hZ (hw _ (List.mem_of_getElem? (i := 21) rfl))) (g := (mkF m 12 #[.val (.ref self), .val (.long p1), .second, .val (.int sl), .unset] [(.long (kf ss))])) rfl (hb hby d13_12) _) ?_
  show D (T2.setTop (mkF m 15 #[.val (.ref self), .val (.long p1), .second, .val (.int sl), .unset] [(.long (-1 : Int64)), (.long (kf ss))]))
  refine A (XS.lcmp X2.here hx rfl (hb hby d13_15) rfl) ?_
  show D (T2.setTop (mkF m 16 #[.val (.ref self), .val (.long p1), .second, .val (.int sl), .unset] [(.int (lcmpW (kf ss) (-1 : Int64)))]))
  refine A (XS.ifYes X2.here hx rfl (pc0 := 16) (pc' := 33) rfl (hb hby d13_16) rfl ((if0 _ _).trans (feq hnz).2) (by decide) (by decide)) ?_
  show D (T2.setTop (mkF m 33 #[.val (.ref self), .val (.long p1), .second, .val (.int sl), .unset] []))
  refine A (XS.aloadN X2.here hx rfl (hb hby d13_33) rfl rfl) ?_
  show D (T2.setTop (mkF m 34 #[.val (.ref self), .val (.long p1), .second, .val (.int sl), .unset] [(.ref self)]))
  obtain ⟨T3, X3, e3, st3⟩ := getF X2 hx hZ hown (host := "") (Or.inl (hw _ (List.mem_of_getElem? (i := 27) rfl))) Via.refl e2 F_counts (g := (mkF m 34 #[.val (.ref self), .val (.long p1), .second, .val (.int sl), .unset] [(.ref self)])) rfl rfl (hb hby d13_34)
  refine A (st3 _) ?_
  show D (T3.setTop (mkF m 37 #[.val (.ref self), .val (.long p1), .second, .val (.int sl), .unset] [(.ref cb)]))
  refine A (XS.iloadN X3.here hx rfl (hb hby d13_37) rfl) ?_
  show D (T3.setTop (mkF m 38 #[.val (.ref self), .val (.long p1), .second, .val (.int sl), .unset] [(.int sl), (.ref cb)]))
  refine A (S' := T3.setTop (mkF m 39 #[.val (.ref self), .val (.long p1), .second, .val (.int sl), .unset] [(.int sl), (.ref cb), (.int sl), (.ref cb)])) (fun {t} kt => ?_) ?_
  · jvm_step X3.here [X3.here.top, hx, (hb hby d13_38), Value.category]
    exact kt
  show D (T3.setTop (mkF m 39 #[.val (.ref self), .val (.long p1), .second, .val (.int sl), .unset] [(.int sl), (.ref cb), (.int sl), (.ref cb)]))
  refine Adv.ldI A X3 hx hZ e3 V_cb (k := ss) hs hF.1 (g := (mkF m 39 #[.val (.ref self), .val (.long p1), .second, .val (.int sl), .unset] [(.int sl), (.ref cb), (.int sl), (.ref cb)])) rfl rfl (hb hby d13_39) ?_
  show D (T3.setTop (mkF m 40 #[.val (.ref self), .val (.long p1), .second, .val (.int sl), .unset] [(.int (cf ss)), (.int sl), (.ref cb)]))
  refine A (XS.iconst X3.here hx rfl (hb hby d13_40)) ?_
  show D (T3.setTop (mkF m 41 #[.val (.ref self), .val (.long p1), .second, .val (.int sl), .unset] [(.int (1 : Int32)), (.int (cf ss)), (.int sl), (.ref cb)]))
  refine A (XS.isub X3.here hx rfl (hb hby d13_41) rfl) ?_
  show D (T3.setTop (mkF m 42 #[.val (.ref self), .val (.long p1), .second, .val (.int sl), .unset] [(.int ((cf ss) - (1 : Int32))), (.int sl), (.ref cb)]))
  refine A (S' := T3.setTop (mkF m 43 #[.val (.ref self), .val (.long p1), .second, .val (.int sl), .unset] [(.int ((cf ss) - (1 : Int32))), (.int sl), (.ref cb), (.int ((cf ss) - (1 : Int32)))])) (fun {t} kt => ?_) ?_
  · jvm_step X3.here [X3.here.top, hx, (hb hby d13_42), Value.category]
    exact kt
  show D (T3.setTop (mkF m 43 #[.val (.ref self), .val (.long p1), .second, .val (.int sl), .unset] [(.int ((cf ss) - (1 : Int32))), (.int sl), (.ref cb), (.int ((cf ss) - (1 : Int32)))]))
  refine Adv.stI A X3 hx hZ e3 V_cb (k := ss) hs hF.1 (g := (mkF m 43 #[.val (.ref self), .val (.long p1), .second, .val (.int sl), .unset] [(.int ((cf ss) - (1 : Int32))), (.int sl), (.ref cb), (.int ((cf ss) - (1 : Int32)))])) rfl rfl (hb hby d13_43) ?_
  intro T4 h4 X4 e4 W4 Vcb_4
  have N4 := Fr.snoc X4 N1 g_cb
  have E_self_4 := E_self.wr W4
  have F_keys_self_4 := F_keys.other W4 (Or.inl (ne_ari E_self (hw _ (List.mem_of_getElem? (i := 6) rfl)) V_cb))
  have F_counts_self_4 := F_counts.other W4 (Or.inl (ne_ari E_self (hw _ (List.mem_of_getElem? (i := 6) rfl)) V_cb))
  have F_mask_self_4 := F_mask.other W4 (Or.inl (ne_ari E_self (hw _ (List.mem_of_getElem? (i := 6) rfl)) V_cb))
  have F_shift_self_4 := F_shift.other W4 (Or.inl (ne_ari E_self (hw _ (List.mem_of_getElem? (i := 6) rfl)) V_cb))
  have F_size_self_4 := F_size.other W4 (Or.inl (ne_ari E_self (hw _ (List.mem_of_getElem? (i := 6) rfl)) V_cb))
  have V_ka_4 := V_ka.other W4 (Ne.symm (ne_aij V_cb V_ka (by decide)))
  have Z_4 : n0 ≤ h4.size := Nat.le_trans Z0 (Nat.le_of_eq W4.size.symm)
  have KK_4 : Keep h0 h4 [self, ka, cb] := (Keep.refl h0 [self, ka, cb]).wr W4 (Or.inl (List.mem_of_getElem? (i := 2) rfl))
  show D (T4.setTop (mkF m 44 #[.val (.ref self), .val (.long p1), .second, .val (.int sl), .unset] [(.int ((cf ss) - (1 : Int32)))]))
  refine A (XS.istore X4.here hx rfl (hb hby d13_44) rfl (l' := #[.val (.ref self), .val (.long p1), .second, .val (.int sl), .val (.int ((cf ss) - (1 : Int32)))]) rfl) ?_
  show D (T4.setTop (mkF m 46 #[.val (.ref self), .val (.long p1), .second, .val (.int sl), .val (.int ((cf ss) - (1 : Int32)))] []))
  refine A (XS.iload X4.here hx rfl (hb hby d13_46) rfl) ?_
  show D (T4.setTop (mkF m 48 #[.val (.ref self), .val (.long p1), .second, .val (.int sl), .val (.int ((cf ss) - (1 : Int32)))] [(.int ((cf ss) - (1 : Int32)))]))
  by_cases c48_5 : ((cf ss) - (1 : Int32)) = (0 : Int32)
  · refine A (XS.ifNo X4.here hx rfl (hb hby d13_48) rfl ((if0 _ _).trans (teq c48_5).2)) ?_
    show D (T4.setTop (mkF m 51 #[.val (.ref self), .val (.long p1), .second, .val (.int sl), .val (.int ((cf ss) - (1 : Int32)))] []))
    refine A (XS.aloadN X4.here hx rfl (hb hby d13_51) rfl rfl) ?_
    show D (T4.setTop (mkF m 52 #[.val (.ref self), .val (.long p1), .second, .val (.int sl), .val (.int ((cf ss) - (1 : Int32)))] [(.ref self)]))
    refine A (XS.iloadN X4.here hx rfl (hb hby d13_52) rfl) ?_
    show D (T4.setTop (mkF m 53 #[.val (.ref self), .val (.long p1), .second, .val (.int sl), .val (.int ((cf ss) - (1 : Int32)))] [(.int sl), (.ref self)]))
    obtain ⟨zz, hdi⟩ := own_DI0 hcm hF hk1 hne hoc (by omega) (C' := (fun ix => if ix = ss then ((cf ss) - (1 : Int32)) else cf ix)) (fun j hj => by simp [hj])
    refine Adv.callP A X4 hx hZ hown (hw _ (List.mem_of_getElem? (i := 71) rfl)) (hw _ (List.mem_of_getElem? (i := 72) rfl)) (hw _ (List.mem_of_getElem? (i := 6) rfl)) (hw _ (List.mem_of_getElem? (i := 73) rfl)) (hw _ (List.mem_of_getElem? (i := 7) rfl)) (hw _ (List.mem_of_getElem? (i := 74) rfl)) e4 E_self_4 (rm14 l Z a0 hw [] self sl h4 n0 sz ka cb kf (fun ix => if ix = ss then ((cf ss) - (1 : Int32)) else cf ix) (own_up mp p1 0) nn Z_4 g_self g_ka g_cb E_self_4 F_keys_self_4 F_counts_self_4 F_mask_self_4 F_shift_self_4 F_size_self_4 V_ka_4 Vcb_4 hoc hnn hsz ss zz hs hdi) 0 (g := (mkF m 53 #[.val (.ref self), .val (.long p1), .second, .val (.int sl), .val (.int ((cf ss) - (1 : Int32)))] [(.int sl), (.ref self)])) rfl (by rw [hml]; rfl) [(.int sl)] [] rfl (lenOf pd13_1 rfl) rfl (by show 2 * 0 + _ ≤ _; exact Nat.le_of_eq rfl) (hb hby d13_53) (by decide) (by decide) (by decide) (by decide) (by decide) ?_
    rintro T6 L6 _ X6 ⟨rfl, sq6, kq6, cq6, N6_q, K6, -, F6_keys, F6_counts, F6_mask, F6_shift, F6_size, V6_k, V6_c, hcq, hoq, hsq⟩
    have N6 := Fr.app N4 N6_q
    have E_self_6 := E_self_4.keep K6
    have Z_6 : n0 ≤ T6.heap.size := Nat.le_trans Z_4 K6.1
    have KK_6 : Keep h0 T6.heap [self, ka, cb] := KK_4.trans K6 (allS (Or.inl (List.mem_of_getElem? (i := 0) rfl)) (allS (Or.inl (List.mem_of_getElem? (i := 1) rfl)) (allS (Or.inl (List.mem_of_getElem? (i := 2) rfl)) all0)))
    show D (T6.setTop (mkF m 56 #[.val (.ref self), .val (.long p1), .second, .val (.int sl), .val (.int ((cf ss) - (1 : Int32)))] []))
    refine A (XS.iload X6.here hx rfl (hb hby d13_56) rfl) ?_
    show D (T6.setTop (mkF m 58 #[.val (.ref self), .val (.long p1), .second, .val (.int sl), .val (.int ((cf ss) - (1 : Int32)))] [(.int ((cf ss) - (1 : Int32)))]))
    refine F _ (Jvm.JW.ret X6 hlk (v := some (.int ((cf ss) - (1 : Int32)))) (fun h => by rw [hrt] at h; cases h) (fun fs hr => retOut X6 hx hrt rfl (Or.inl ⟨rfl, Or.inl rfl, _, rfl⟩) (hb hby d13_58) hr) rfl ?_ (by decide) (by decide))
    exact ⟨_, _, _, congrArg (fun z => some (Value.int (z - 1))) hcv, N6, KK_6, E_self_6, F6_keys, F6_counts, F6_mask, F6_shift, F6_size, V6_k, V6_c, (own_dz hcv c48_5 hcq), hoq.up, hsq⟩
  · refine A (XS.ifYes X4.here hx rfl (pc0 := 48) (pc' := 56) rfl (hb hby d13_48) rfl ((if0 _ _).trans (feq c48_5).2) (by decide) (by decide)) ?_
    show D (T4.setTop (mkF m 56 #[.val (.ref self), .val (.long p1), .second, .val (.int sl), .val (.int ((cf ss) - (1 : Int32)))] []))
    refine A (XS.iload X4.here hx rfl (hb hby d13_56) rfl) ?_
    show D (T4.setTop (mkF m 58 #[.val (.ref self), .val (.long p1), .second, .val (.int sl), .val (.int ((cf ss) - (1 : Int32)))] [(.int ((cf ss) - (1 : Int32)))]))
    refine F _ (Jvm.JW.ret X4 hlk (v := some (.int ((cf ss) - (1 : Int32)))) (fun h => by rw [hrt] at h; cases h) (fun fs hr => retOut X4 hx hrt rfl (Or.inl ⟨rfl, Or.inl rfl, _, rfl⟩) (hb hby d13_58) hr) e4 ?_ (by decide) (by decide))
    exact ⟨_, _, _, congrArg (fun z => some (Value.int (z - 1))) hcv, N4, KK_4, E_self_4, F_keys_self_4, F_counts_self_4, F_mask_self_4, F_shift_self_4, F_size_self_4, V_ka_4, Vcb_4, (own_chgv hcm hF hk1 hne (by rw [hcv])), hoc.up, hsz.up⟩
theorem d1_0 : decode method_2_code 0 = .ok (.iconst 0, 1) := by decide +kernel
theorem d1_1 : decode method_2_code 1 = .ok (.istore 12, 2) := by decide +kernel
theorem d1_3 : decode method_2_code 3 = .ok (.iload_n 2, 1) := by decide +kernel
theorem d1_4 : decode method_2_code 4 = .ok (.ifCond .eq 16, 3) := by decide +kernel
theorem d1_7 : decode method_2_code 7 = .ok (.lload_n 0, 1) := by decide +kernel
theorem d1_8 : decode method_2_code 8 = .ok (.lload 6, 2) := by decide +kernel
theorem d1_10 : decode method_2_code 10 = .ok (.lcmp, 1) := by decide +kernel
theorem d1_11 : decode method_2_code 11 = .ok (.ifCond .ne 9, 3) := by decide +kernel
theorem d1_14 : decode method_2_code 14 = .ok (.iload 12, 2) := by decide +kernel
theorem d1_16 : decode method_2_code 16 = .ok (.iconst 1, 1) := by decide +kernel
theorem d1_17 : decode method_2_code 17 = .ok (.iadd, 1) := by decide +kernel
theorem d1_18 : decode method_2_code 18 = .ok (.istore 12, 2) := by decide +kernel
theorem d1_20 : decode method_2_code 20 = .ok (.iload_n 3, 1) := by decide +kernel
theorem d1_21 : decode method_2_code 21 = .ok (.ifCond .eq 16, 3) := by decide +kernel
theorem d1_24 : decode method_2_code 24 = .ok (.lload_n 0, 1) := by decide +kernel
theorem d1_25 : decode method_2_code 25 = .ok (.lload 8, 2) := by decide +kernel
theorem d1_27 : decode method_2_code 27 = .ok (.lcmp, 1) := by decide +kernel
theorem d1_28 : decode method_2_code 28 = .ok (.ifCond .ne 9, 3) := by decide +kernel
theorem d1_31 : decode method_2_code 31 = .ok (.iload 12, 2) := by decide +kernel
theorem d1_33 : decode method_2_code 33 = .ok (.iconst 1, 1) := by decide +kernel
theorem d1_34 : decode method_2_code 34 = .ok (.iadd, 1) := by decide +kernel
theorem d1_35 : decode method_2_code 35 = .ok (.istore 12, 2) := by decide +kernel
theorem d1_37 : decode method_2_code 37 = .ok (.iload 4, 2) := by decide +kernel
theorem d1_39 : decode method_2_code 39 = .ok (.ifCond .eq 16, 3) := by decide +kernel
theorem d1_42 : decode method_2_code 42 = .ok (.lload_n 0, 1) := by decide +kernel
theorem d1_43 : decode method_2_code 43 = .ok (.lload 10, 2) := by decide +kernel
theorem d1_45 : decode method_2_code 45 = .ok (.lcmp, 1) := by decide +kernel
theorem d1_46 : decode method_2_code 46 = .ok (.ifCond .ne 9, 3) := by decide +kernel
theorem d1_49 : decode method_2_code 49 = .ok (.iload 12, 2) := by decide +kernel
theorem d1_51 : decode method_2_code 51 = .ok (.iconst 1, 1) := by decide +kernel
theorem d1_52 : decode method_2_code 52 = .ok (.iadd, 1) := by decide +kernel
theorem d1_53 : decode method_2_code 53 = .ok (.istore 12, 2) := by decide +kernel
theorem d1_55 : decode method_2_code 55 = .ok (.iload 5, 2) := by decide +kernel
theorem d1_57 : decode method_2_code 57 = .ok (.ifCond .eq 16, 3) := by decide +kernel
theorem d1_60 : decode method_2_code 60 = .ok (.lload_n 0, 1) := by decide +kernel
theorem d1_61 : decode method_2_code 61 = .ok (.lload 6, 2) := by decide +kernel
theorem d1_63 : decode method_2_code 63 = .ok (.lcmp, 1) := by decide +kernel
theorem d1_64 : decode method_2_code 64 = .ok (.ifCond .ne 9, 3) := by decide +kernel
theorem d1_67 : decode method_2_code 67 = .ok (.iload 12, 2) := by decide +kernel
theorem d1_69 : decode method_2_code 69 = .ok (.iconst 1, 1) := by decide +kernel
theorem d1_70 : decode method_2_code 70 = .ok (.iadd, 1) := by decide +kernel
theorem d1_71 : decode method_2_code 71 = .ok (.istore 12, 2) := by decide +kernel
theorem d1_73 : decode method_2_code 73 = .ok (.iload 12, 2) := by decide +kernel
theorem d1_75 : decode method_2_code 75 = .ok (.ireturn, 1) := by decide +kernel
theorem pn1 : plainFor (⟨"com/example/enklave/enklave/anonymize/CountMapGetPinLaw", "ups", "(JZZZZJJJ)I"⟩ : MethodName) = true := by decide +kernel
theorem ef1 (p1 : Int64) (p2 : Int32) (p3 : Int32) (p4 : Int32) (p5 : Int32) (p6 : Int64) (p7 : Int64) (p8 : Int64) (m : MethodId) : entryFrame m #[(.long p1), (.int p2), (.int p3), (.int p4), (.int p5), (.long p6), (.long p7), (.long p8)] 13 = mkF m 0 #[.val (.long p1), .second, .val (.int p2), .val (.int p3), .val (.int p4), .val (.int p5), .val (.long p6), .second, .val (.long p7), .second, .val (.long p8), .second, .unset] [] := by first | (simp [entryFrame, mkF, argsToLocals, Value.category]; done) | rfl
def f1 (p1 : Int64) (p2 : Int32) (p3 : Int32) (p4 : Int32) (p5 : Int32) (p6 : Int64) (p7 : Int64) (p8 : Int64) : Int32 := let v20_12 := (if p2 = (0 : Int32) then (0 : Int32) else (if (lcmpW p1 p6) = (0 : Int32) then (1 : Int32) else (0 : Int32))); let v37_12 := (if p3 = (0 : Int32) then v20_12 else (if (lcmpW p1 p7) = (0 : Int32) then (v20_12 + (1 : Int32)) else v20_12)); let v55_12 := (if p4 = (0 : Int32) then v37_12 else (if (lcmpW p1 p8) = (0 : Int32) then (v37_12 + (1 : Int32)) else v37_12)); let v73_12 := (if p5 = (0 : Int32) then v55_12 else (if (lcmpW p1 p6) = (0 : Int32) then (v55_12 + (1 : Int32)) else v55_12)); v73_12
set_option maxRecDepth 65536 in
set_option maxHeartbeats 40000000 in
theorem rm1 (l : Launch) (Z : State) (a0 : Array Value) (hw : ∀ d ∈ tables_1, d.before a0 Z = true) (ws : List Jvm.Cond) (p1 : Int64) (p2 : Int32) (p3 : Int32) (p4 : Int32) (p5 : Int32) (p6 : Int64) (p7 : Int64) (p8 : Int64) (h0 : Heap) (n0 : Nat) :
    JMet l Z (⟨"com/example/enklave/enklave/anonymize/CountMapGetPinLaw", "ups", "(JZZZZJJJ)I"⟩ : MethodName) method_2_code 13 (some .int) ws ({ frames := 0, cells := 0, slots := 0, locals := 0 } : Room) #[(.long p1), (.int p2), (.int p3), (.int p4), (.int p5), (.long p6), (.long p7), (.long p8)] h0 (QP (.int (f1 p1 p2 p3 p4 p5 p6 p7 p8)) h0 n0) := by
  refine Jvm.JW.body #[.val (.long p1), .second, .val (.int p2), .val (.int p3), .val (.int p4), .val (.int p5), .val (.long p6), .second, .val (.long p7), .second, .val (.long p8), .second, .unset] pn1 (ef1 p1 p2 p3 p4 p5 p6 p7 p8) ?_
  intro p e s m below meth c T0 D A F X0 hx hZ hby hml hown hnm hrt hlk e0
  refine A (XS.iconst X0.here hx rfl (hb hby d1_0)) ?_
  show D (T0.setTop (mkF m 1 #[.val (.long p1), .second, .val (.int p2), .val (.int p3), .val (.int p4), .val (.int p5), .val (.long p6), .second, .val (.long p7), .second, .val (.long p8), .second, .unset] [(.int (0 : Int32))]))
  refine A (XS.istore X0.here hx rfl (hb hby d1_1) rfl (l' := #[.val (.long p1), .second, .val (.int p2), .val (.int p3), .val (.int p4), .val (.int p5), .val (.long p6), .second, .val (.long p7), .second, .val (.long p8), .second, .val (.int (0 : Int32))]) rfl) ?_
  show D (T0.setTop (mkF m 3 #[.val (.long p1), .second, .val (.int p2), .val (.int p3), .val (.int p4), .val (.int p5), .val (.long p6), .second, .val (.long p7), .second, .val (.long p8), .second, .val (.int (0 : Int32))] []))
  refine A (XS.iloadN X0.here hx rfl (hb hby d1_3) rfl) ?_
  show D (T0.setTop (mkF m 4 #[.val (.long p1), .second, .val (.int p2), .val (.int p3), .val (.int p4), .val (.int p5), .val (.long p6), .second, .val (.long p7), .second, .val (.long p8), .second, .val (.int (0 : Int32))] [(.int p2)]))
  suffices Km20_1 : ∀ (v20_12 : Int32), v20_12 = (if p2 = (0 : Int32) then (0 : Int32) else (if (lcmpW p1 p6) = (0 : Int32) then (1 : Int32) else (0 : Int32))) → D (T0.setTop (mkF m 20 #[.val (.long p1), .second, .val (.int p2), .val (.int p3), .val (.int p4), .val (.int p5), .val (.long p6), .second, .val (.long p7), .second, .val (.long p8), .second, .val (.int v20_12)] [])) by
    by_cases c4_0 : p2 = (0 : Int32)
    · refine A (XS.ifYes X0.here hx rfl (pc0 := 4) (pc' := 20) rfl (hb hby d1_4) rfl ((if0 _ _).trans (teq c4_0).1) (by decide) (by decide)) ?_
      show D (T0.setTop (mkF m 20 #[.val (.long p1), .second, .val (.int p2), .val (.int p3), .val (.int p4), .val (.int p5), .val (.long p6), .second, .val (.long p7), .second, .val (.long p8), .second, .val (.int (0 : Int32))] []))
      exact Km20_1 _ ((if_pos c4_0)).symm
    · refine A (XS.ifNo X0.here hx rfl (hb hby d1_4) rfl ((if0 _ _).trans (feq c4_0).1)) ?_
      show D (T0.setTop (mkF m 7 #[.val (.long p1), .second, .val (.int p2), .val (.int p3), .val (.int p4), .val (.int p5), .val (.long p6), .second, .val (.long p7), .second, .val (.long p8), .second, .val (.int (0 : Int32))] []))
      refine A (XS.lloadN X0.here hx rfl (hb hby d1_7) rfl) ?_
      show D (T0.setTop (mkF m 8 #[.val (.long p1), .second, .val (.int p2), .val (.int p3), .val (.int p4), .val (.int p5), .val (.long p6), .second, .val (.long p7), .second, .val (.long p8), .second, .val (.int (0 : Int32))] [(.long p1)]))
      refine A (XS.lload X0.here hx rfl (hb hby d1_8) rfl) ?_
      show D (T0.setTop (mkF m 10 #[.val (.long p1), .second, .val (.int p2), .val (.int p3), .val (.int p4), .val (.int p5), .val (.long p6), .second, .val (.long p7), .second, .val (.long p8), .second, .val (.int (0 : Int32))] [(.long p6), (.long p1)]))
      refine A (XS.lcmp X0.here hx rfl (hb hby d1_10) rfl) ?_
      show D (T0.setTop (mkF m 11 #[.val (.long p1), .second, .val (.int p2), .val (.int p3), .val (.int p4), .val (.int p5), .val (.long p6), .second, .val (.long p7), .second, .val (.long p8), .second, .val (.int (0 : Int32))] [(.int (lcmpW p1 p6))]))
      by_cases c11_1 : (lcmpW p1 p6) = (0 : Int32)
      · refine A (XS.ifNo X0.here hx rfl (hb hby d1_11) rfl ((if0 _ _).trans (teq c11_1).2)) ?_
        show D (T0.setTop (mkF m 14 #[.val (.long p1), .second, .val (.int p2), .val (.int p3), .val (.int p4), .val (.int p5), .val (.long p6), .second, .val (.long p7), .second, .val (.long p8), .second, .val (.int (0 : Int32))] []))
        refine A (XS.iload X0.here hx rfl (hb hby d1_14) rfl) ?_
        show D (T0.setTop (mkF m 16 #[.val (.long p1), .second, .val (.int p2), .val (.int p3), .val (.int p4), .val (.int p5), .val (.long p6), .second, .val (.long p7), .second, .val (.long p8), .second, .val (.int (0 : Int32))] [(.int (0 : Int32))]))
        refine A (XS.iconst X0.here hx rfl (hb hby d1_16)) ?_
        show D (T0.setTop (mkF m 17 #[.val (.long p1), .second, .val (.int p2), .val (.int p3), .val (.int p4), .val (.int p5), .val (.long p6), .second, .val (.long p7), .second, .val (.long p8), .second, .val (.int (0 : Int32))] [(.int (1 : Int32)), (.int (0 : Int32))]))
        refine A (XS.iadd X0.here hx rfl (hb hby d1_17) rfl) ?_
        show D (T0.setTop (mkF m 18 #[.val (.long p1), .second, .val (.int p2), .val (.int p3), .val (.int p4), .val (.int p5), .val (.long p6), .second, .val (.long p7), .second, .val (.long p8), .second, .val (.int (0 : Int32))] [(.int ((0 : Int32) + (1 : Int32)))]))
        suffices Kq2 : ∀ q2 : Int32, q2 = (1 : Int32) → D (T0.setTop (mkF m 18 #[.val (.long p1), .second, .val (.int p2), .val (.int p3), .val (.int p4), .val (.int p5), .val (.long p6), .second, .val (.long p7), .second, .val (.long p8), .second, .val (.int (0 : Int32))] [(.int q2)])) from Kq2 _ (by decide)
        rintro _ rfl
        show D (T0.setTop (mkF m 18 #[.val (.long p1), .second, .val (.int p2), .val (.int p3), .val (.int p4), .val (.int p5), .val (.long p6), .second, .val (.long p7), .second, .val (.long p8), .second, .val (.int (0 : Int32))] [(.int (1 : Int32))]))
        refine A (XS.istore X0.here hx rfl (hb hby d1_18) rfl (l' := #[.val (.long p1), .second, .val (.int p2), .val (.int p3), .val (.int p4), .val (.int p5), .val (.long p6), .second, .val (.long p7), .second, .val (.long p8), .second, .val (.int (1 : Int32))]) rfl) ?_
        show D (T0.setTop (mkF m 20 #[.val (.long p1), .second, .val (.int p2), .val (.int p3), .val (.int p4), .val (.int p5), .val (.long p6), .second, .val (.long p7), .second, .val (.long p8), .second, .val (.int (1 : Int32))] []))
        exact Km20_1 _ (((if_neg c4_0)).trans (if_pos c11_1)).symm
      · refine A (XS.ifYes X0.here hx rfl (pc0 := 11) (pc' := 20) rfl (hb hby d1_11) rfl ((if0 _ _).trans (feq c11_1).2) (by decide) (by decide)) ?_
        show D (T0.setTop (mkF m 20 #[.val (.long p1), .second, .val (.int p2), .val (.int p3), .val (.int p4), .val (.int p5), .val (.long p6), .second, .val (.long p7), .second, .val (.long p8), .second, .val (.int (0 : Int32))] []))
        exact Km20_1 _ (((if_neg c4_0)).trans (if_neg c11_1)).symm
  intro v20_12 hv20_12
  show D (T0.setTop (mkF m 20 #[.val (.long p1), .second, .val (.int p2), .val (.int p3), .val (.int p4), .val (.int p5), .val (.long p6), .second, .val (.long p7), .second, .val (.long p8), .second, .val (.int v20_12)] []))
  refine A (XS.iloadN X0.here hx rfl (hb hby d1_20) rfl) ?_
  show D (T0.setTop (mkF m 21 #[.val (.long p1), .second, .val (.int p2), .val (.int p3), .val (.int p4), .val (.int p5), .val (.long p6), .second, .val (.long p7), .second, .val (.long p8), .second, .val (.int v20_12)] [(.int p3)]))
  suffices Km37_3 : ∀ (v37_12 : Int32), v37_12 = (if p3 = (0 : Int32) then v20_12 else (if (lcmpW p1 p7) = (0 : Int32) then (v20_12 + (1 : Int32)) else v20_12)) → D (T0.setTop (mkF m 37 #[.val (.long p1), .second, .val (.int p2), .val (.int p3), .val (.int p4), .val (.int p5), .val (.long p6), .second, .val (.long p7), .second, .val (.long p8), .second, .val (.int v37_12)] [])) by
    by_cases c21_0 : p3 = (0 : Int32)
    · refine A (XS.ifYes X0.here hx rfl (pc0 := 21) (pc' := 37) rfl (hb hby d1_21) rfl ((if0 _ _).trans (teq c21_0).1) (by decide) (by decide)) ?_
      show D (T0.setTop (mkF m 37 #[.val (.long p1), .second, .val (.int p2), .val (.int p3), .val (.int p4), .val (.int p5), .val (.long p6), .second, .val (.long p7), .second, .val (.long p8), .second, .val (.int v20_12)] []))
      exact Km37_3 _ ((if_pos c21_0)).symm
    · refine A (XS.ifNo X0.here hx rfl (hb hby d1_21) rfl ((if0 _ _).trans (feq c21_0).1)) ?_
      show D (T0.setTop (mkF m 24 #[.val (.long p1), .second, .val (.int p2), .val (.int p3), .val (.int p4), .val (.int p5), .val (.long p6), .second, .val (.long p7), .second, .val (.long p8), .second, .val (.int v20_12)] []))
      refine A (XS.lloadN X0.here hx rfl (hb hby d1_24) rfl) ?_
      show D (T0.setTop (mkF m 25 #[.val (.long p1), .second, .val (.int p2), .val (.int p3), .val (.int p4), .val (.int p5), .val (.long p6), .second, .val (.long p7), .second, .val (.long p8), .second, .val (.int v20_12)] [(.long p1)]))
      refine A (XS.lload X0.here hx rfl (hb hby d1_25) rfl) ?_
      show D (T0.setTop (mkF m 27 #[.val (.long p1), .second, .val (.int p2), .val (.int p3), .val (.int p4), .val (.int p5), .val (.long p6), .second, .val (.long p7), .second, .val (.long p8), .second, .val (.int v20_12)] [(.long p7), (.long p1)]))
      refine A (XS.lcmp X0.here hx rfl (hb hby d1_27) rfl) ?_
      show D (T0.setTop (mkF m 28 #[.val (.long p1), .second, .val (.int p2), .val (.int p3), .val (.int p4), .val (.int p5), .val (.long p6), .second, .val (.long p7), .second, .val (.long p8), .second, .val (.int v20_12)] [(.int (lcmpW p1 p7))]))
      by_cases c28_1 : (lcmpW p1 p7) = (0 : Int32)
      · refine A (XS.ifNo X0.here hx rfl (hb hby d1_28) rfl ((if0 _ _).trans (teq c28_1).2)) ?_
        show D (T0.setTop (mkF m 31 #[.val (.long p1), .second, .val (.int p2), .val (.int p3), .val (.int p4), .val (.int p5), .val (.long p6), .second, .val (.long p7), .second, .val (.long p8), .second, .val (.int v20_12)] []))
        refine A (XS.iload X0.here hx rfl (hb hby d1_31) rfl) ?_
        show D (T0.setTop (mkF m 33 #[.val (.long p1), .second, .val (.int p2), .val (.int p3), .val (.int p4), .val (.int p5), .val (.long p6), .second, .val (.long p7), .second, .val (.long p8), .second, .val (.int v20_12)] [(.int v20_12)]))
        refine A (XS.iconst X0.here hx rfl (hb hby d1_33)) ?_
        show D (T0.setTop (mkF m 34 #[.val (.long p1), .second, .val (.int p2), .val (.int p3), .val (.int p4), .val (.int p5), .val (.long p6), .second, .val (.long p7), .second, .val (.long p8), .second, .val (.int v20_12)] [(.int (1 : Int32)), (.int v20_12)]))
        refine A (XS.iadd X0.here hx rfl (hb hby d1_34) rfl) ?_
        show D (T0.setTop (mkF m 35 #[.val (.long p1), .second, .val (.int p2), .val (.int p3), .val (.int p4), .val (.int p5), .val (.long p6), .second, .val (.long p7), .second, .val (.long p8), .second, .val (.int v20_12)] [(.int (v20_12 + (1 : Int32)))]))
        refine A (XS.istore X0.here hx rfl (hb hby d1_35) rfl (l' := #[.val (.long p1), .second, .val (.int p2), .val (.int p3), .val (.int p4), .val (.int p5), .val (.long p6), .second, .val (.long p7), .second, .val (.long p8), .second, .val (.int (v20_12 + (1 : Int32)))]) rfl) ?_
        show D (T0.setTop (mkF m 37 #[.val (.long p1), .second, .val (.int p2), .val (.int p3), .val (.int p4), .val (.int p5), .val (.long p6), .second, .val (.long p7), .second, .val (.long p8), .second, .val (.int (v20_12 + (1 : Int32)))] []))
        exact Km37_3 _ (((if_neg c21_0)).trans (if_pos c28_1)).symm
      · refine A (XS.ifYes X0.here hx rfl (pc0 := 28) (pc' := 37) rfl (hb hby d1_28) rfl ((if0 _ _).trans (feq c28_1).2) (by decide) (by decide)) ?_
        show D (T0.setTop (mkF m 37 #[.val (.long p1), .second, .val (.int p2), .val (.int p3), .val (.int p4), .val (.int p5), .val (.long p6), .second, .val (.long p7), .second, .val (.long p8), .second, .val (.int v20_12)] []))
        exact Km37_3 _ (((if_neg c21_0)).trans (if_neg c28_1)).symm
  intro v37_12 hv37_12
  show D (T0.setTop (mkF m 37 #[.val (.long p1), .second, .val (.int p2), .val (.int p3), .val (.int p4), .val (.int p5), .val (.long p6), .second, .val (.long p7), .second, .val (.long p8), .second, .val (.int v37_12)] []))
  refine A (XS.iload X0.here hx rfl (hb hby d1_37) rfl) ?_
  show D (T0.setTop (mkF m 39 #[.val (.long p1), .second, .val (.int p2), .val (.int p3), .val (.int p4), .val (.int p5), .val (.long p6), .second, .val (.long p7), .second, .val (.long p8), .second, .val (.int v37_12)] [(.int p4)]))
  suffices Km55_4 : ∀ (v55_12 : Int32), v55_12 = (if p4 = (0 : Int32) then v37_12 else (if (lcmpW p1 p8) = (0 : Int32) then (v37_12 + (1 : Int32)) else v37_12)) → D (T0.setTop (mkF m 55 #[.val (.long p1), .second, .val (.int p2), .val (.int p3), .val (.int p4), .val (.int p5), .val (.long p6), .second, .val (.long p7), .second, .val (.long p8), .second, .val (.int v55_12)] [])) by
    by_cases c39_0 : p4 = (0 : Int32)
    · refine A (XS.ifYes X0.here hx rfl (pc0 := 39) (pc' := 55) rfl (hb hby d1_39) rfl ((if0 _ _).trans (teq c39_0).1) (by decide) (by decide)) ?_
      show D (T0.setTop (mkF m 55 #[.val (.long p1), .second, .val (.int p2), .val (.int p3), .val (.int p4), .val (.int p5), .val (.long p6), .second, .val (.long p7), .second, .val (.long p8), .second, .val (.int v37_12)] []))
      exact Km55_4 _ ((if_pos c39_0)).symm
    · refine A (XS.ifNo X0.here hx rfl (hb hby d1_39) rfl ((if0 _ _).trans (feq c39_0).1)) ?_
      show D (T0.setTop (mkF m 42 #[.val (.long p1), .second, .val (.int p2), .val (.int p3), .val (.int p4), .val (.int p5), .val (.long p6), .second, .val (.long p7), .second, .val (.long p8), .second, .val (.int v37_12)] []))
      refine A (XS.lloadN X0.here hx rfl (hb hby d1_42) rfl) ?_
      show D (T0.setTop (mkF m 43 #[.val (.long p1), .second, .val (.int p2), .val (.int p3), .val (.int p4), .val (.int p5), .val (.long p6), .second, .val (.long p7), .second, .val (.long p8), .second, .val (.int v37_12)] [(.long p1)]))
      refine A (XS.lload X0.here hx rfl (hb hby d1_43) rfl) ?_
      show D (T0.setTop (mkF m 45 #[.val (.long p1), .second, .val (.int p2), .val (.int p3), .val (.int p4), .val (.int p5), .val (.long p6), .second, .val (.long p7), .second, .val (.long p8), .second, .val (.int v37_12)] [(.long p8), (.long p1)]))
      refine A (XS.lcmp X0.here hx rfl (hb hby d1_45) rfl) ?_
      show D (T0.setTop (mkF m 46 #[.val (.long p1), .second, .val (.int p2), .val (.int p3), .val (.int p4), .val (.int p5), .val (.long p6), .second, .val (.long p7), .second, .val (.long p8), .second, .val (.int v37_12)] [(.int (lcmpW p1 p8))]))
      by_cases c46_1 : (lcmpW p1 p8) = (0 : Int32)
      · refine A (XS.ifNo X0.here hx rfl (hb hby d1_46) rfl ((if0 _ _).trans (teq c46_1).2)) ?_
        show D (T0.setTop (mkF m 49 #[.val (.long p1), .second, .val (.int p2), .val (.int p3), .val (.int p4), .val (.int p5), .val (.long p6), .second, .val (.long p7), .second, .val (.long p8), .second, .val (.int v37_12)] []))
        refine A (XS.iload X0.here hx rfl (hb hby d1_49) rfl) ?_
        show D (T0.setTop (mkF m 51 #[.val (.long p1), .second, .val (.int p2), .val (.int p3), .val (.int p4), .val (.int p5), .val (.long p6), .second, .val (.long p7), .second, .val (.long p8), .second, .val (.int v37_12)] [(.int v37_12)]))
        refine A (XS.iconst X0.here hx rfl (hb hby d1_51)) ?_
        show D (T0.setTop (mkF m 52 #[.val (.long p1), .second, .val (.int p2), .val (.int p3), .val (.int p4), .val (.int p5), .val (.long p6), .second, .val (.long p7), .second, .val (.long p8), .second, .val (.int v37_12)] [(.int (1 : Int32)), (.int v37_12)]))
        refine A (XS.iadd X0.here hx rfl (hb hby d1_52) rfl) ?_
        show D (T0.setTop (mkF m 53 #[.val (.long p1), .second, .val (.int p2), .val (.int p3), .val (.int p4), .val (.int p5), .val (.long p6), .second, .val (.long p7), .second, .val (.long p8), .second, .val (.int v37_12)] [(.int (v37_12 + (1 : Int32)))]))
        refine A (XS.istore X0.here hx rfl (hb hby d1_53) rfl (l' := #[.val (.long p1), .second, .val (.int p2), .val (.int p3), .val (.int p4), .val (.int p5), .val (.long p6), .second, .val (.long p7), .second, .val (.long p8), .second, .val (.int (v37_12 + (1 : Int32)))]) rfl) ?_
        show D (T0.setTop (mkF m 55 #[.val (.long p1), .second, .val (.int p2), .val (.int p3), .val (.int p4), .val (.int p5), .val (.long p6), .second, .val (.long p7), .second, .val (.long p8), .second, .val (.int (v37_12 + (1 : Int32)))] []))
        exact Km55_4 _ (((if_neg c39_0)).trans (if_pos c46_1)).symm
      · refine A (XS.ifYes X0.here hx rfl (pc0 := 46) (pc' := 55) rfl (hb hby d1_46) rfl ((if0 _ _).trans (feq c46_1).2) (by decide) (by decide)) ?_
        show D (T0.setTop (mkF m 55 #[.val (.long p1), .second, .val (.int p2), .val (.int p3), .val (.int p4), .val (.int p5), .val (.long p6), .second, .val (.long p7), .second, .val (.long p8), .second, .val (.int v37_12)] []))
        exact Km55_4 _ (((if_neg c39_0)).trans (if_neg c46_1)).symm
  intro v55_12 hv55_12
  show D (T0.setTop (mkF m 55 #[.val (.long p1), .second, .val (.int p2), .val (.int p3), .val (.int p4), .val (.int p5), .val (.long p6), .second, .val (.long p7), .second, .val (.long p8), .second, .val (.int v55_12)] []))
  refine A (XS.iload X0.here hx rfl (hb hby d1_55) rfl) ?_
  show D (T0.setTop (mkF m 57 #[.val (.long p1), .second, .val (.int p2), .val (.int p3), .val (.int p4), .val (.int p5), .val (.long p6), .second, .val (.long p7), .second, .val (.long p8), .second, .val (.int v55_12)] [(.int p5)]))
  suffices Km73_5 : ∀ (v73_12 : Int32), v73_12 = (if p5 = (0 : Int32) then v55_12 else (if (lcmpW p1 p6) = (0 : Int32) then (v55_12 + (1 : Int32)) else v55_12)) → D (T0.setTop (mkF m 73 #[.val (.long p1), .second, .val (.int p2), .val (.int p3), .val (.int p4), .val (.int p5), .val (.long p6), .second, .val (.long p7), .second, .val (.long p8), .second, .val (.int v73_12)] [])) by
    by_cases c57_0 : p5 = (0 : Int32)
    · refine A (XS.ifYes X0.here hx rfl (pc0 := 57) (pc' := 73) rfl (hb hby d1_57) rfl ((if0 _ _).trans (teq c57_0).1) (by decide) (by decide)) ?_
      show D (T0.setTop (mkF m 73 #[.val (.long p1), .second, .val (.int p2), .val (.int p3), .val (.int p4), .val (.int p5), .val (.long p6), .second, .val (.long p7), .second, .val (.long p8), .second, .val (.int v55_12)] []))
      exact Km73_5 _ ((if_pos c57_0)).symm
    · refine A (XS.ifNo X0.here hx rfl (hb hby d1_57) rfl ((if0 _ _).trans (feq c57_0).1)) ?_
      show D (T0.setTop (mkF m 60 #[.val (.long p1), .second, .val (.int p2), .val (.int p3), .val (.int p4), .val (.int p5), .val (.long p6), .second, .val (.long p7), .second, .val (.long p8), .second, .val (.int v55_12)] []))
      refine A (XS.lloadN X0.here hx rfl (hb hby d1_60) rfl) ?_
      show D (T0.setTop (mkF m 61 #[.val (.long p1), .second, .val (.int p2), .val (.int p3), .val (.int p4), .val (.int p5), .val (.long p6), .second, .val (.long p7), .second, .val (.long p8), .second, .val (.int v55_12)] [(.long p1)]))
      refine A (XS.lload X0.here hx rfl (hb hby d1_61) rfl) ?_
      show D (T0.setTop (mkF m 63 #[.val (.long p1), .second, .val (.int p2), .val (.int p3), .val (.int p4), .val (.int p5), .val (.long p6), .second, .val (.long p7), .second, .val (.long p8), .second, .val (.int v55_12)] [(.long p6), (.long p1)]))
      refine A (XS.lcmp X0.here hx rfl (hb hby d1_63) rfl) ?_
      show D (T0.setTop (mkF m 64 #[.val (.long p1), .second, .val (.int p2), .val (.int p3), .val (.int p4), .val (.int p5), .val (.long p6), .second, .val (.long p7), .second, .val (.long p8), .second, .val (.int v55_12)] [(.int (lcmpW p1 p6))]))
      by_cases c64_1 : (lcmpW p1 p6) = (0 : Int32)
      · refine A (XS.ifNo X0.here hx rfl (hb hby d1_64) rfl ((if0 _ _).trans (teq c64_1).2)) ?_
        show D (T0.setTop (mkF m 67 #[.val (.long p1), .second, .val (.int p2), .val (.int p3), .val (.int p4), .val (.int p5), .val (.long p6), .second, .val (.long p7), .second, .val (.long p8), .second, .val (.int v55_12)] []))
        refine A (XS.iload X0.here hx rfl (hb hby d1_67) rfl) ?_
        show D (T0.setTop (mkF m 69 #[.val (.long p1), .second, .val (.int p2), .val (.int p3), .val (.int p4), .val (.int p5), .val (.long p6), .second, .val (.long p7), .second, .val (.long p8), .second, .val (.int v55_12)] [(.int v55_12)]))
        refine A (XS.iconst X0.here hx rfl (hb hby d1_69)) ?_
        show D (T0.setTop (mkF m 70 #[.val (.long p1), .second, .val (.int p2), .val (.int p3), .val (.int p4), .val (.int p5), .val (.long p6), .second, .val (.long p7), .second, .val (.long p8), .second, .val (.int v55_12)] [(.int (1 : Int32)), (.int v55_12)]))
        refine A (XS.iadd X0.here hx rfl (hb hby d1_70) rfl) ?_
        show D (T0.setTop (mkF m 71 #[.val (.long p1), .second, .val (.int p2), .val (.int p3), .val (.int p4), .val (.int p5), .val (.long p6), .second, .val (.long p7), .second, .val (.long p8), .second, .val (.int v55_12)] [(.int (v55_12 + (1 : Int32)))]))
        refine A (XS.istore X0.here hx rfl (hb hby d1_71) rfl (l' := #[.val (.long p1), .second, .val (.int p2), .val (.int p3), .val (.int p4), .val (.int p5), .val (.long p6), .second, .val (.long p7), .second, .val (.long p8), .second, .val (.int (v55_12 + (1 : Int32)))]) rfl) ?_
        show D (T0.setTop (mkF m 73 #[.val (.long p1), .second, .val (.int p2), .val (.int p3), .val (.int p4), .val (.int p5), .val (.long p6), .second, .val (.long p7), .second, .val (.long p8), .second, .val (.int (v55_12 + (1 : Int32)))] []))
        exact Km73_5 _ (((if_neg c57_0)).trans (if_pos c64_1)).symm
      · refine A (XS.ifYes X0.here hx rfl (pc0 := 64) (pc' := 73) rfl (hb hby d1_64) rfl ((if0 _ _).trans (feq c64_1).2) (by decide) (by decide)) ?_
        show D (T0.setTop (mkF m 73 #[.val (.long p1), .second, .val (.int p2), .val (.int p3), .val (.int p4), .val (.int p5), .val (.long p6), .second, .val (.long p7), .second, .val (.long p8), .second, .val (.int v55_12)] []))
        exact Km73_5 _ (((if_neg c57_0)).trans (if_neg c64_1)).symm
  intro v73_12 hv73_12
  show D (T0.setTop (mkF m 73 #[.val (.long p1), .second, .val (.int p2), .val (.int p3), .val (.int p4), .val (.int p5), .val (.long p6), .second, .val (.long p7), .second, .val (.long p8), .second, .val (.int v73_12)] []))
  refine A (XS.iload X0.here hx rfl (hb hby d1_73) rfl) ?_
  show D (T0.setTop (mkF m 75 #[.val (.long p1), .second, .val (.int p2), .val (.int p3), .val (.int p4), .val (.int p5), .val (.long p6), .second, .val (.long p7), .second, .val (.long p8), .second, .val (.int v73_12)] [(.int v73_12)]))
  refine F _ (Jvm.JW.ret X0 hlk (v := some (.int v73_12)) (fun h => by rw [hrt] at h; cases h) (fun fs hr => retOut X0 hx hrt rfl (Or.inl ⟨rfl, Or.inl rfl, _, rfl⟩) (hb hby d1_75) hr) rfl ?_ (by decide) (by decide))
  exact ⟨congrArg (fun z => some (Value.int z)) (by subst hv73_12; subst hv55_12; subst hv37_12; subst hv20_12; rfl), (Fr.nil n0), e0⟩
theorem d12_0 : decode method_3_code 0 = .ok (.lload_n 0, 1) := by decide +kernel
theorem d12_1 : decode method_3_code 1 = .ok (.iload_n 2, 1) := by decide +kernel
theorem d12_2 : decode method_3_code 2 = .ok (.iload_n 3, 1) := by decide +kernel
theorem d12_3 : decode method_3_code 3 = .ok (.iload 4, 2) := by decide +kernel
theorem d12_5 : decode method_3_code 5 = .ok (.iload 5, 2) := by decide +kernel
theorem d12_7 : decode method_3_code 7 = .ok (.lload 7, 2) := by decide +kernel
theorem d12_9 : decode method_3_code 9 = .ok (.lload 9, 2) := by decide +kernel
theorem d12_11 : decode method_3_code 11 = .ok (.lload 11, 2) := by decide +kernel
theorem d12_13 : decode method_3_code 13 = .ok (.invokestatic 7, 3) := by decide +kernel
theorem d12_16 : decode method_3_code 16 = .ok (.istore 15, 2) := by decide +kernel
theorem d12_18 : decode method_3_code 18 = .ok (.iload 6, 2) := by decide +kernel
theorem d12_20 : decode method_3_code 20 = .ok (.ifCond .eq 16, 3) := by decide +kernel
theorem d12_23 : decode method_3_code 23 = .ok (.lload_n 0, 1) := by decide +kernel
theorem d12_24 : decode method_3_code 24 = .ok (.lload 13, 2) := by decide +kernel
theorem d12_26 : decode method_3_code 26 = .ok (.lcmp, 1) := by decide +kernel
theorem d12_27 : decode method_3_code 27 = .ok (.ifCond .ne 9, 3) := by decide +kernel
theorem d12_30 : decode method_3_code 30 = .ok (.iload 15, 2) := by decide +kernel
theorem d12_32 : decode method_3_code 32 = .ok (.iconst 1, 1) := by decide +kernel
theorem d12_33 : decode method_3_code 33 = .ok (.isub, 1) := by decide +kernel
theorem d12_34 : decode method_3_code 34 = .ok (.istore 15, 2) := by decide +kernel
theorem d12_36 : decode method_3_code 36 = .ok (.iload 15, 2) := by decide +kernel
theorem d12_38 : decode method_3_code 38 = .ok (.ireturn, 1) := by decide +kernel
theorem pn12 : plainFor (⟨"com/example/enklave/enklave/anonymize/CountMapGetPinLaw", "ref", "(JZZZZZJJJJ)I"⟩ : MethodName) = true := by decide +kernel
theorem pd12_0 : parseMethodDescriptor "(JZZZZJJJ)I" = some ⟨[.long, .boolean, .boolean, .boolean, .boolean, .long, .long, .long], some .int⟩ := by decide +kernel
theorem ef12 (p1 : Int64) (p2 : Int32) (p3 : Int32) (p4 : Int32) (p5 : Int32) (p6 : Int32) (p7 : Int64) (p8 : Int64) (p9 : Int64) (p10 : Int64) (m : MethodId) : entryFrame m #[(.long p1), (.int p2), (.int p3), (.int p4), (.int p5), (.int p6), (.long p7), (.long p8), (.long p9), (.long p10)] 16 = mkF m 0 #[.val (.long p1), .second, .val (.int p2), .val (.int p3), .val (.int p4), .val (.int p5), .val (.int p6), .val (.long p7), .second, .val (.long p8), .second, .val (.long p9), .second, .val (.long p10), .second, .unset] [] := by first | (simp [entryFrame, mkF, argsToLocals, Value.category]; done) | rfl
def f12 (p1 : Int64) (p2 : Int32) (p3 : Int32) (p4 : Int32) (p5 : Int32) (p6 : Int32) (p7 : Int64) (p8 : Int64) (p9 : Int64) (p10 : Int64) : Int32 := let x15_18 := (f1 p1 p2 p3 p4 p5 p7 p8 p9); let v36_15 := (if p6 = (0 : Int32) then x15_18 else (if (lcmpW p1 p10) = (0 : Int32) then (x15_18 - (1 : Int32)) else x15_18)); v36_15
set_option maxRecDepth 65536 in
set_option maxHeartbeats 40000000 in
theorem rm12 (l : Launch) (Z : State) (a0 : Array Value) (hw : ∀ d ∈ tables_1, d.before a0 Z = true) (ws : List Jvm.Cond) (p1 : Int64) (p2 : Int32) (p3 : Int32) (p4 : Int32) (p5 : Int32) (p6 : Int32) (p7 : Int64) (p8 : Int64) (p9 : Int64) (p10 : Int64) (h0 : Heap) (n0 : Nat) :
    JMet l Z (⟨"com/example/enklave/enklave/anonymize/CountMapGetPinLaw", "ref", "(JZZZZZJJJJ)I"⟩ : MethodName) method_3_code 16 (some .int) ws ({ frames := 1, cells := 0, slots := 0, locals := 24 } : Room) #[(.long p1), (.int p2), (.int p3), (.int p4), (.int p5), (.int p6), (.long p7), (.long p8), (.long p9), (.long p10)] h0 (QP (.int (f12 p1 p2 p3 p4 p5 p6 p7 p8 p9 p10)) h0 n0) := by
  refine Jvm.JW.body #[.val (.long p1), .second, .val (.int p2), .val (.int p3), .val (.int p4), .val (.int p5), .val (.int p6), .val (.long p7), .second, .val (.long p8), .second, .val (.long p9), .second, .val (.long p10), .second, .unset] pn12 (ef12 p1 p2 p3 p4 p5 p6 p7 p8 p9 p10) ?_
  intro p e s m below meth c T0 D A F X0 hx hZ hby hml hown hnm hrt hlk e0
  refine A (XS.lloadN X0.here hx rfl (hb hby d12_0) rfl) ?_
  show D (T0.setTop (mkF m 1 #[.val (.long p1), .second, .val (.int p2), .val (.int p3), .val (.int p4), .val (.int p5), .val (.int p6), .val (.long p7), .second, .val (.long p8), .second, .val (.long p9), .second, .val (.long p10), .second, .unset] [(.long p1)]))
  refine A (XS.iloadN X0.here hx rfl (hb hby d12_1) rfl) ?_
  show D (T0.setTop (mkF m 2 #[.val (.long p1), .second, .val (.int p2), .val (.int p3), .val (.int p4), .val (.int p5), .val (.int p6), .val (.long p7), .second, .val (.long p8), .second, .val (.long p9), .second, .val (.long p10), .second, .unset] [(.int p2), (.long p1)]))
  refine A (XS.iloadN X0.here hx rfl (hb hby d12_2) rfl) ?_
  show D (T0.setTop (mkF m 3 #[.val (.long p1), .second, .val (.int p2), .val (.int p3), .val (.int p4), .val (.int p5), .val (.int p6), .val (.long p7), .second, .val (.long p8), .second, .val (.long p9), .second, .val (.long p10), .second, .unset] [(.int p3), (.int p2), (.long p1)]))
  refine A (XS.iload X0.here hx rfl (hb hby d12_3) rfl) ?_
  show D (T0.setTop (mkF m 5 #[.val (.long p1), .second, .val (.int p2), .val (.int p3), .val (.int p4), .val (.int p5), .val (.int p6), .val (.long p7), .second, .val (.long p8), .second, .val (.long p9), .second, .val (.long p10), .second, .unset] [(.int p4), (.int p3), (.int p2), (.long p1)]))
  refine A (XS.iload X0.here hx rfl (hb hby d12_5) rfl) ?_
  show D (T0.setTop (mkF m 7 #[.val (.long p1), .second, .val (.int p2), .val (.int p3), .val (.int p4), .val (.int p5), .val (.int p6), .val (.long p7), .second, .val (.long p8), .second, .val (.long p9), .second, .val (.long p10), .second, .unset] [(.int p5), (.int p4), (.int p3), (.int p2), (.long p1)]))
  refine A (XS.lload X0.here hx rfl (hb hby d12_7) rfl) ?_
  show D (T0.setTop (mkF m 9 #[.val (.long p1), .second, .val (.int p2), .val (.int p3), .val (.int p4), .val (.int p5), .val (.int p6), .val (.long p7), .second, .val (.long p8), .second, .val (.long p9), .second, .val (.long p10), .second, .unset] [(.long p7), (.int p5), (.int p4), (.int p3), (.int p2), (.long p1)]))
  refine A (XS.lload X0.here hx rfl (hb hby d12_9) rfl) ?_
  show D (T0.setTop (mkF m 11 #[.val (.long p1), .second, .val (.int p2), .val (.int p3), .val (.int p4), .val (.int p5), .val (.int p6), .val (.long p7), .second, .val (.long p8), .second, .val (.long p9), .second, .val (.long p10), .second, .unset] [(.long p8), (.long p7), (.int p5), (.int p4), (.int p3), (.int p2), (.long p1)]))
  refine A (XS.lload X0.here hx rfl (hb hby d12_11) rfl) ?_
  show D (T0.setTop (mkF m 13 #[.val (.long p1), .second, .val (.int p2), .val (.int p3), .val (.int p4), .val (.int p5), .val (.int p6), .val (.long p7), .second, .val (.long p8), .second, .val (.long p9), .second, .val (.long p10), .second, .unset] [(.long p9), (.long p8), (.long p7), (.int p5), (.int p4), (.int p3), (.int p2), (.long p1)]))
  refine Adv.callS A X0 hx hZ hown (hw _ (List.mem_of_getElem? (i := 1) rfl)) (hw _ (List.mem_of_getElem? (i := 2) rfl)) (hw _ (List.mem_of_getElem? (i := 3) rfl)) (hw _ (List.mem_of_getElem? (i := 4) rfl)) e0 (rm1 l Z a0 hw [] p1 p2 p3 p4 p5 p7 p8 p9 h0 n0) 0 (g := (mkF m 13 #[.val (.long p1), .second, .val (.int p2), .val (.int p3), .val (.int p4), .val (.int p5), .val (.int p6), .val (.long p7), .second, .val (.long p8), .second, .val (.long p9), .second, .val (.long p10), .second, .unset] [(.long p9), (.long p8), (.long p7), (.int p5), (.int p4), (.int p3), (.int p2), (.long p1)])) rfl (by rw [hml]; rfl) [(.long p1), (.int p2), (.int p3), (.int p4), (.int p5), (.long p7), (.long p8), (.long p9)] [] rfl (lenOf pd12_0 rfl) rfl (by show 2 * 0 + _ ≤ _; exact Nat.le_of_eq rfl) (hb hby d12_13) (by decide) (by decide) (by decide) (by decide) (by decide) ?_
  rintro T1 L1 _ X1 ⟨rfl, N1q, e1⟩
  have N1 := Fr.app (Fr.nil n0) N1q
  show D (T1.setTop (mkF m 16 #[.val (.long p1), .second, .val (.int p2), .val (.int p3), .val (.int p4), .val (.int p5), .val (.int p6), .val (.long p7), .second, .val (.long p8), .second, .val (.long p9), .second, .val (.long p10), .second, .unset] [(.int (f1 p1 p2 p3 p4 p5 p7 p8 p9))]))
  refine A (XS.istore X1.here hx rfl (hb hby d12_16) rfl (l' := #[.val (.long p1), .second, .val (.int p2), .val (.int p3), .val (.int p4), .val (.int p5), .val (.int p6), .val (.long p7), .second, .val (.long p8), .second, .val (.long p9), .second, .val (.long p10), .second, .val (.int (f1 p1 p2 p3 p4 p5 p7 p8 p9))]) rfl) ?_
  show D (T1.setTop (mkF m 18 #[.val (.long p1), .second, .val (.int p2), .val (.int p3), .val (.int p4), .val (.int p5), .val (.int p6), .val (.long p7), .second, .val (.long p8), .second, .val (.long p9), .second, .val (.long p10), .second, .val (.int (f1 p1 p2 p3 p4 p5 p7 p8 p9))] []))
  suffices Kx15_18 : ∀ x15_18 : Int32, x15_18 = (f1 p1 p2 p3 p4 p5 p7 p8 p9) → D (T1.setTop (mkF m 18 #[.val (.long p1), .second, .val (.int p2), .val (.int p3), .val (.int p4), .val (.int p5), .val (.int p6), .val (.long p7), .second, .val (.long p8), .second, .val (.long p9), .second, .val (.long p10), .second, .val (.int x15_18)] [])) from Kx15_18 _ rfl
  intro x15_18 hx15_18
  refine A (XS.iload X1.here hx rfl (hb hby d12_18) rfl) ?_
  show D (T1.setTop (mkF m 20 #[.val (.long p1), .second, .val (.int p2), .val (.int p3), .val (.int p4), .val (.int p5), .val (.int p6), .val (.long p7), .second, .val (.long p8), .second, .val (.long p9), .second, .val (.long p10), .second, .val (.int x15_18)] [(.int p6)]))
  suffices Km36_2 : ∀ (v36_15 : Int32), v36_15 = (if p6 = (0 : Int32) then x15_18 else (if (lcmpW p1 p10) = (0 : Int32) then (x15_18 - (1 : Int32)) else x15_18)) → D (T1.setTop (mkF m 36 #[.val (.long p1), .second, .val (.int p2), .val (.int p3), .val (.int p4), .val (.int p5), .val (.int p6), .val (.long p7), .second, .val (.long p8), .second, .val (.long p9), .second, .val (.long p10), .second, .val (.int v36_15)] [])) by
    by_cases c20_0 : p6 = (0 : Int32)
    · refine A (XS.ifYes X1.here hx rfl (pc0 := 20) (pc' := 36) rfl (hb hby d12_20) rfl ((if0 _ _).trans (teq c20_0).1) (by decide) (by decide)) ?_
      show D (T1.setTop (mkF m 36 #[.val (.long p1), .second, .val (.int p2), .val (.int p3), .val (.int p4), .val (.int p5), .val (.int p6), .val (.long p7), .second, .val (.long p8), .second, .val (.long p9), .second, .val (.long p10), .second, .val (.int x15_18)] []))
      exact Km36_2 _ ((if_pos c20_0)).symm
    · refine A (XS.ifNo X1.here hx rfl (hb hby d12_20) rfl ((if0 _ _).trans (feq c20_0).1)) ?_
      show D (T1.setTop (mkF m 23 #[.val (.long p1), .second, .val (.int p2), .val (.int p3), .val (.int p4), .val (.int p5), .val (.int p6), .val (.long p7), .second, .val (.long p8), .second, .val (.long p9), .second, .val (.long p10), .second, .val (.int x15_18)] []))
      refine A (XS.lloadN X1.here hx rfl (hb hby d12_23) rfl) ?_
      show D (T1.setTop (mkF m 24 #[.val (.long p1), .second, .val (.int p2), .val (.int p3), .val (.int p4), .val (.int p5), .val (.int p6), .val (.long p7), .second, .val (.long p8), .second, .val (.long p9), .second, .val (.long p10), .second, .val (.int x15_18)] [(.long p1)]))
      refine A (XS.lload X1.here hx rfl (hb hby d12_24) rfl) ?_
      show D (T1.setTop (mkF m 26 #[.val (.long p1), .second, .val (.int p2), .val (.int p3), .val (.int p4), .val (.int p5), .val (.int p6), .val (.long p7), .second, .val (.long p8), .second, .val (.long p9), .second, .val (.long p10), .second, .val (.int x15_18)] [(.long p10), (.long p1)]))
      refine A (XS.lcmp X1.here hx rfl (hb hby d12_26) rfl) ?_
      show D (T1.setTop (mkF m 27 #[.val (.long p1), .second, .val (.int p2), .val (.int p3), .val (.int p4), .val (.int p5), .val (.int p6), .val (.long p7), .second, .val (.long p8), .second, .val (.long p9), .second, .val (.long p10), .second, .val (.int x15_18)] [(.int (lcmpW p1 p10))]))
      by_cases c27_1 : (lcmpW p1 p10) = (0 : Int32)
      · refine A (XS.ifNo X1.here hx rfl (hb hby d12_27) rfl ((if0 _ _).trans (teq c27_1).2)) ?_
        show D (T1.setTop (mkF m 30 #[.val (.long p1), .second, .val (.int p2), .val (.int p3), .val (.int p4), .val (.int p5), .val (.int p6), .val (.long p7), .second, .val (.long p8), .second, .val (.long p9), .second, .val (.long p10), .second, .val (.int x15_18)] []))
        refine A (XS.iload X1.here hx rfl (hb hby d12_30) rfl) ?_
        show D (T1.setTop (mkF m 32 #[.val (.long p1), .second, .val (.int p2), .val (.int p3), .val (.int p4), .val (.int p5), .val (.int p6), .val (.long p7), .second, .val (.long p8), .second, .val (.long p9), .second, .val (.long p10), .second, .val (.int x15_18)] [(.int x15_18)]))
        refine A (XS.iconst X1.here hx rfl (hb hby d12_32)) ?_
        show D (T1.setTop (mkF m 33 #[.val (.long p1), .second, .val (.int p2), .val (.int p3), .val (.int p4), .val (.int p5), .val (.int p6), .val (.long p7), .second, .val (.long p8), .second, .val (.long p9), .second, .val (.long p10), .second, .val (.int x15_18)] [(.int (1 : Int32)), (.int x15_18)]))
        refine A (XS.isub X1.here hx rfl (hb hby d12_33) rfl) ?_
        show D (T1.setTop (mkF m 34 #[.val (.long p1), .second, .val (.int p2), .val (.int p3), .val (.int p4), .val (.int p5), .val (.int p6), .val (.long p7), .second, .val (.long p8), .second, .val (.long p9), .second, .val (.long p10), .second, .val (.int x15_18)] [(.int (x15_18 - (1 : Int32)))]))
        refine A (XS.istore X1.here hx rfl (hb hby d12_34) rfl (l' := #[.val (.long p1), .second, .val (.int p2), .val (.int p3), .val (.int p4), .val (.int p5), .val (.int p6), .val (.long p7), .second, .val (.long p8), .second, .val (.long p9), .second, .val (.long p10), .second, .val (.int (x15_18 - (1 : Int32)))]) rfl) ?_
        show D (T1.setTop (mkF m 36 #[.val (.long p1), .second, .val (.int p2), .val (.int p3), .val (.int p4), .val (.int p5), .val (.int p6), .val (.long p7), .second, .val (.long p8), .second, .val (.long p9), .second, .val (.long p10), .second, .val (.int (x15_18 - (1 : Int32)))] []))
        exact Km36_2 _ (((if_neg c20_0)).trans (if_pos c27_1)).symm
      · refine A (XS.ifYes X1.here hx rfl (pc0 := 27) (pc' := 36) rfl (hb hby d12_27) rfl ((if0 _ _).trans (feq c27_1).2) (by decide) (by decide)) ?_
        show D (T1.setTop (mkF m 36 #[.val (.long p1), .second, .val (.int p2), .val (.int p3), .val (.int p4), .val (.int p5), .val (.int p6), .val (.long p7), .second, .val (.long p8), .second, .val (.long p9), .second, .val (.long p10), .second, .val (.int x15_18)] []))
        exact Km36_2 _ (((if_neg c20_0)).trans (if_neg c27_1)).symm
  intro v36_15 hv36_15
  show D (T1.setTop (mkF m 36 #[.val (.long p1), .second, .val (.int p2), .val (.int p3), .val (.int p4), .val (.int p5), .val (.int p6), .val (.long p7), .second, .val (.long p8), .second, .val (.long p9), .second, .val (.long p10), .second, .val (.int v36_15)] []))
  refine A (XS.iload X1.here hx rfl (hb hby d12_36) rfl) ?_
  show D (T1.setTop (mkF m 38 #[.val (.long p1), .second, .val (.int p2), .val (.int p3), .val (.int p4), .val (.int p5), .val (.int p6), .val (.long p7), .second, .val (.long p8), .second, .val (.long p9), .second, .val (.long p10), .second, .val (.int v36_15)] [(.int v36_15)]))
  refine F _ (Jvm.JW.ret X1 hlk (v := some (.int v36_15)) (fun h => by rw [hrt] at h; cases h) (fun fs hr => retOut X1 hx hrt rfl (Or.inl ⟨rfl, Or.inl rfl, _, rfl⟩) (hb hby d12_38) hr) rfl ?_ (by decide) (by decide))
  exact ⟨congrArg (fun z => some (Value.int z)) (by subst hv36_15; subst hx15_18; rfl), N1, e1⟩
theorem own_st0 {M' : Int64 → Int32} {w : Int32} {k : Int64} (h : M' = if w = (0 : Int32) then (fun _ => (0 : Int32)) else own_up (fun _ => (0 : Int32)) k ((fun _ => (0 : Int32)) k + 1)) (q : Int64) : M' q = if w = (0 : Int32) then (0 : Int32) else (if (lcmpW q k) = (0 : Int32) then (1 : Int32) else (0 : Int32)) := by
  rw [h]
  by_cases h1 : w = 0
  · rw [if_pos h1, if_pos h1]
  · rw [if_neg h1, if_neg h1]
    by_cases h2 : q = k
    · rw [if_pos (own_lw.mpr h2)]; simp [own_up, h2]
    · rw [if_neg (fun z => h2 (own_lw.mp z))]; simp [own_up, h2]
theorem own_st {M M' : Int64 → Int32} {w : Int32} {k : Int64} (h : M' = if w = (0 : Int32) then M else own_up M k (M k + 1)) (q : Int64) : M' q = if w = (0 : Int32) then M q else (if (lcmpW q k) = (0 : Int32) then M q + (1 : Int32) else M q) := by
  rw [h]
  by_cases h1 : w = 0
  · rw [if_pos h1, if_pos h1]
  · rw [if_neg h1, if_neg h1]
    by_cases h2 : q = k
    · rw [if_pos (own_lw.mpr h2)]; simp [own_up, h2]
    · rw [if_neg (fun z => h2 (own_lw.mp z))]; simp [own_up, h2]
theorem own_std {M M' : Int64 → Int32} {w : Int32} {k : Int64} (h : M' = if w = (0 : Int32) then M else own_up M k (M k - 1)) (q : Int64) : M' q = if w = (0 : Int32) then M q else (if (lcmpW q k) = (0 : Int32) then M q - (1 : Int32) else M q) := by
  rw [h]
  by_cases h1 : w = 0
  · rw [if_pos h1, if_pos h1]
  · rw [if_neg h1, if_neg h1]
    by_cases h2 : q = k
    · rw [if_pos (own_lw.mpr h2)]; simp [own_up, h2]
    · rw [if_neg (fun z => h2 (own_lw.mp z))]; simp [own_up, h2]
theorem own_ups {M1 M2 M3 M4 : Int64 → Int32} {w1 w2 w3 w4 : Int32} {k1 k2 k3 : Int64} (h1 : M1 = if w1 = (0 : Int32) then (fun _ => (0 : Int32)) else own_up (fun _ => (0 : Int32)) k1 ((fun _ => (0 : Int32)) k1 + 1)) (h2 : M2 = if w2 = (0 : Int32) then M1 else own_up M1 k2 (M1 k2 + 1)) (h3 : M3 = if w3 = (0 : Int32) then M2 else own_up M2 k3 (M2 k3 + 1)) (h4 : M4 = if w4 = (0 : Int32) then M3 else own_up M3 k1 (M3 k1 + 1)) (q : Int64) : M4 q = f1 q w1 w2 w3 w4 k1 k2 k3 := by
  rw [own_st h4 q, own_st h3 q, own_st h2 q, own_st0 h1 q]; rfl
theorem own_ref {M4 M5 : Int64 → Int32} {w1 w2 w3 w4 w5 : Int32} {k1 k2 k3 t : Int64} (h : ∀ q, M4 q = f1 q w1 w2 w3 w4 k1 k2 k3) (h5 : M5 = if w5 = (0 : Int32) then M4 else own_up M4 t (M4 t - 1)) (q : Int64) : M5 q = f12 q w1 w2 w3 w4 w5 k1 k2 k3 t := by
  rw [own_std h5 q, h q]; rfl
theorem own_pos {a b w : Int32} (h : w = (if a = (0 : Int32) then (0 : Int32) else (if (0 : Int32) < b then (1 : Int32) else (0 : Int32)))) (hw : ¬ w = 0) : b ≠ 0 := by
  intro q
  apply hw
  rw [h, q]
  split <;> rfl
theorem pn0 : plainFor x = true := by decide +kernel
theorem pd0_0 : parseMethodDescriptor "(JZZZZJJJ)I" = some ⟨[.long, .boolean, .boolean, .boolean, .boolean, .long, .long, .long], some .int⟩ := by decide +kernel
theorem pd0_1 : parseMethodDescriptor "()V" = some ⟨[], none⟩ := by decide +kernel
theorem pd0_2 : parseMethodDescriptor "(J)I" = some ⟨[.long], some .int⟩ := by decide +kernel
theorem pd0_3 : parseMethodDescriptor "(JZZZZZJJJJ)I" = some ⟨[.long, .boolean, .boolean, .boolean, .boolean, .boolean, .long, .long, .long, .long], some .int⟩ := by decide +kernel
theorem ef0 (p1 : Int64) (p2 : Int64) (p3 : Int64) (p4 : Int64) (p5 : Int32) (m : MethodId) : entryFrame m #[(.long p1), (.long p2), (.long p3), (.long p4), (.int p5)] maxLocals = mkF m 0 #[.val (.long p1), .second, .val (.long p2), .second, .val (.long p3), .second, .val (.long p4), .second, .val (.int p5), .unset, .unset, .unset, .unset, .unset, .unset, .unset, .unset, .unset, .unset, .unset, .unset, .unset, .unset, .unset, .unset, .unset, .unset, .unset, .unset, .unset, .unset, .unset] [] := by first | (simp [entryFrame, mkF, argsToLocals, Value.category, maxLocals]; done) | rfl
set_option maxRecDepth 65536 in
set_option maxHeartbeats 40000000 in
theorem rm0 (l : Launch) (Z : State) (a0 : Array Value) (hw : ∀ d ∈ tables_1, d.before a0 Z = true) (ws : List Jvm.Cond) (p1 : Int64) (p2 : Int64) (p3 : Int64) (p4 : Int64) (p5 : Int32) (h0 : Heap) (n0 : Nat) (Z0 : n0 ≤ h0.size) :
    JMet l Z x code maxLocals ret ws room_1 #[(.long p1), (.long p2), (.long p3), (.long p4), (.int p5)] h0 (QL n0) := by
  refine Jvm.JW.body #[.val (.long p1), .second, .val (.long p2), .second, .val (.long p3), .second, .val (.long p4), .second, .val (.int p5), .unset, .unset, .unset, .unset, .unset, .unset, .unset, .unset, .unset, .unset, .unset, .unset, .unset, .unset, .unset, .unset, .unset, .unset, .unset, .unset, .unset, .unset, .unset] pn0 (ef0 p1 p2 p3 p4 p5) ?_
  intro p e s m below meth c T0 D A F X0 hx hZ hby hml hown hnm hrt hlk e0
  refine A (XS.lloadN X0.here hx rfl (hb hby at_0) rfl) ?_
  show D (T0.setTop (mkF m 1 #[.val (.long p1), .second, .val (.long p2), .second, .val (.long p3), .second, .val (.long p4), .second, .val (.int p5), .unset, .unset, .unset, .unset, .unset, .unset, .unset, .unset, .unset, .unset, .unset, .unset, .unset, .unset, .unset, .unset, .unset, .unset, .unset, .unset, .unset, .unset, .unset] [(.long p1)]))
  refine A (X0.ldc2Long hx hown (mvT hZ (hw _ (List.mem_of_getElem? (i := 0) rfl))) (g := (mkF m 1 #[.val (.long p1), .second, .val (.long p2), .second, .val (.long p3), .second, .val (.long p4), .second, .val (.int p5), .unset, .unset, .unset, .unset, .unset, .unset, .unset, .unset, .unset, .unset, .unset, .unset, .unset, .unset, .unset, .unset, .unset, .unset, .unset, .unset, .unset, .unset, .unset] [(.long p1)])) rfl (hb hby at_1) _) ?_
  show D (T0.setTop (mkF m 4 #[.val (.long p1), .second, .val (.long p2), .second, .val (.long p3), .second, .val (.long p4), .second, .val (.int p5), .unset, .unset, .unset, .unset, .unset, .unset, .unset, .unset, .unset, .unset, .unset, .unset, .unset, .unset, .unset, .unset, .unset, .unset, .unset, .unset, .unset, .unset, .unset] [(.long (9223372036854775807 : Int64)), (.long p1)]))
  refine A (XS.land X0.here hx rfl (hb hby at_4) rfl) ?_
  show D (T0.setTop (mkF m 5 #[.val (.long p1), .second, .val (.long p2), .second, .val (.long p3), .second, .val (.long p4), .second, .val (.int p5), .unset, .unset, .unset, .unset, .unset, .unset, .unset, .unset, .unset, .unset, .unset, .unset, .unset, .unset, .unset, .unset, .unset, .unset, .unset, .unset, .unset, .unset, .unset] [(.long (p1 &&& (9223372036854775807 : Int64)))]))
  refine A (XS.lstore X0.here hx rfl (hb hby at_5) rfl (l' := #[.val (.long p1), .second, .val (.long p2), .second, .val (.long p3), .second, .val (.long p4), .second, .val (.int p5), .val (.long (p1 &&& (9223372036854775807 : Int64))), .second, .unset, .unset, .unset, .unset, .unset, .unset, .unset, .unset, .unset, .unset, .unset, .unset, .unset, .unset, .unset, .unset, .unset, .unset, .unset, .unset, .unset]) rfl) ?_
  show D (T0.setTop (mkF m 7 #[.val (.long p1), .second, .val (.long p2), .second, .val (.long p3), .second, .val (.long p4), .second, .val (.int p5), .val (.long (p1 &&& (9223372036854775807 : Int64))), .second, .unset, .unset, .unset, .unset, .unset, .unset, .unset, .unset, .unset, .unset, .unset, .unset, .unset, .unset, .unset, .unset, .unset, .unset, .unset, .unset, .unset] []))
  suffices Kx9_7 : ∀ x9_7 : Int64, x9_7 = (p1 &&& (9223372036854775807 : Int64)) → D (T0.setTop (mkF m 7 #[.val (.long p1), .second, .val (.long p2), .second, .val (.long p3), .second, .val (.long p4), .second, .val (.int p5), .val (.long x9_7), .second, .unset, .unset, .unset, .unset, .unset, .unset, .unset, .unset, .unset, .unset, .unset, .unset, .unset, .unset, .unset, .unset, .unset, .unset, .unset, .unset, .unset] [])) from Kx9_7 _ rfl
  intro x9_7 hx9_7
  have hk9 : x9_7 ≠ -1 := by rw [hx9_7]; exact own_nn _
  refine A (XS.lloadN X0.here hx rfl (hb hby at_7) rfl) ?_
  show D (T0.setTop (mkF m 8 #[.val (.long p1), .second, .val (.long p2), .second, .val (.long p3), .second, .val (.long p4), .second, .val (.int p5), .val (.long x9_7), .second, .unset, .unset, .unset, .unset, .unset, .unset, .unset, .unset, .unset, .unset, .unset, .unset, .unset, .unset, .unset, .unset, .unset, .unset, .unset, .unset, .unset] [(.long p2)]))
  refine A (X0.ldc2Long hx hown (mvT hZ (hw _ (List.mem_of_getElem? (i := 0) rfl))) (g := (mkF m 8 #[.val (.long p1), .second, .val (.long p2), .second, .val (.long p3), .second, .val (.long p4), .second, .val (.int p5), .val (.long x9_7), .second, .unset, .unset, .unset, .unset, .unset, .unset, .unset, .unset, .unset, .unset, .unset, .unset, .unset, .unset, .unset, .unset, .unset, .unset, .unset, .unset, .unset] [(.long p2)])) rfl (hb hby at_8) _) ?_
  show D (T0.setTop (mkF m 11 #[.val (.long p1), .second, .val (.long p2), .second, .val (.long p3), .second, .val (.long p4), .second, .val (.int p5), .val (.long x9_7), .second, .unset, .unset, .unset, .unset, .unset, .unset, .unset, .unset, .unset, .unset, .unset, .unset, .unset, .unset, .unset, .unset, .unset, .unset, .unset, .unset, .unset] [(.long (9223372036854775807 : Int64)), (.long p2)]))
  refine A (XS.land X0.here hx rfl (hb hby at_11) rfl) ?_
  show D (T0.setTop (mkF m 12 #[.val (.long p1), .second, .val (.long p2), .second, .val (.long p3), .second, .val (.long p4), .second, .val (.int p5), .val (.long x9_7), .second, .unset, .unset, .unset, .unset, .unset, .unset, .unset, .unset, .unset, .unset, .unset, .unset, .unset, .unset, .unset, .unset, .unset, .unset, .unset, .unset, .unset] [(.long (p2 &&& (9223372036854775807 : Int64)))]))
  refine A (XS.lstore X0.here hx rfl (hb hby at_12) rfl (l' := #[.val (.long p1), .second, .val (.long p2), .second, .val (.long p3), .second, .val (.long p4), .second, .val (.int p5), .val (.long x9_7), .second, .val (.long (p2 &&& (9223372036854775807 : Int64))), .second, .unset, .unset, .unset, .unset, .unset, .unset, .unset, .unset, .unset, .unset, .unset, .unset, .unset, .unset, .unset, .unset, .unset, .unset, .unset]) rfl) ?_
  show D (T0.setTop (mkF m 14 #[.val (.long p1), .second, .val (.long p2), .second, .val (.long p3), .second, .val (.long p4), .second, .val (.int p5), .val (.long x9_7), .second, .val (.long (p2 &&& (9223372036854775807 : Int64))), .second, .unset, .unset, .unset, .unset, .unset, .unset, .unset, .unset, .unset, .unset, .unset, .unset, .unset, .unset, .unset, .unset, .unset, .unset, .unset] []))
  suffices Kx11_14 : ∀ x11_14 : Int64, x11_14 = (p2 &&& (9223372036854775807 : Int64)) → D (T0.setTop (mkF m 14 #[.val (.long p1), .second, .val (.long p2), .second, .val (.long p3), .second, .val (.long p4), .second, .val (.int p5), .val (.long x9_7), .second, .val (.long x11_14), .second, .unset, .unset, .unset, .unset, .unset, .unset, .unset, .unset, .unset, .unset, .unset, .unset, .unset, .unset, .unset, .unset, .unset, .unset, .unset] [])) from Kx11_14 _ rfl
  intro x11_14 hx11_14
  have hk11 : x11_14 ≠ -1 := by rw [hx11_14]; exact own_nn _
  refine A (XS.lload X0.here hx rfl (hb hby at_14) rfl) ?_
  show D (T0.setTop (mkF m 16 #[.val (.long p1), .second, .val (.long p2), .second, .val (.long p3), .second, .val (.long p4), .second, .val (.int p5), .val (.long x9_7), .second, .val (.long x11_14), .second, .unset, .unset, .unset, .unset, .unset, .unset, .unset, .unset, .unset, .unset, .unset, .unset, .unset, .unset, .unset, .unset, .unset, .unset, .unset] [(.long p3)]))
  refine A (X0.ldc2Long hx hown (mvT hZ (hw _ (List.mem_of_getElem? (i := 0) rfl))) (g := (mkF m 16 #[.val (.long p1), .second, .val (.long p2), .second, .val (.long p3), .second, .val (.long p4), .second, .val (.int p5), .val (.long x9_7), .second, .val (.long x11_14), .second, .unset, .unset, .unset, .unset, .unset, .unset, .unset, .unset, .unset, .unset, .unset, .unset, .unset, .unset, .unset, .unset, .unset, .unset, .unset] [(.long p3)])) rfl (hb hby at_16) _) ?_
  show D (T0.setTop (mkF m 19 #[.val (.long p1), .second, .val (.long p2), .second, .val (.long p3), .second, .val (.long p4), .second, .val (.int p5), .val (.long x9_7), .second, .val (.long x11_14), .second, .unset, .unset, .unset, .unset, .unset, .unset, .unset, .unset, .unset, .unset, .unset, .unset, .unset, .unset, .unset, .unset, .unset, .unset, .unset] [(.long (9223372036854775807 : Int64)), (.long p3)]))
  refine A (XS.land X0.here hx rfl (hb hby at_19) rfl) ?_
  show D (T0.setTop (mkF m 20 #[.val (.long p1), .second, .val (.long p2), .second, .val (.long p3), .second, .val (.long p4), .second, .val (.int p5), .val (.long x9_7), .second, .val (.long x11_14), .second, .unset, .unset, .unset, .unset, .unset, .unset, .unset, .unset, .unset, .unset, .unset, .unset, .unset, .unset, .unset, .unset, .unset, .unset, .unset] [(.long (p3 &&& (9223372036854775807 : Int64)))]))
  refine A (XS.lstore X0.here hx rfl (hb hby at_20) rfl (l' := #[.val (.long p1), .second, .val (.long p2), .second, .val (.long p3), .second, .val (.long p4), .second, .val (.int p5), .val (.long x9_7), .second, .val (.long x11_14), .second, .val (.long (p3 &&& (9223372036854775807 : Int64))), .second, .unset, .unset, .unset, .unset, .unset, .unset, .unset, .unset, .unset, .unset, .unset, .unset, .unset, .unset, .unset, .unset, .unset]) rfl) ?_
  show D (T0.setTop (mkF m 22 #[.val (.long p1), .second, .val (.long p2), .second, .val (.long p3), .second, .val (.long p4), .second, .val (.int p5), .val (.long x9_7), .second, .val (.long x11_14), .second, .val (.long (p3 &&& (9223372036854775807 : Int64))), .second, .unset, .unset, .unset, .unset, .unset, .unset, .unset, .unset, .unset, .unset, .unset, .unset, .unset, .unset, .unset, .unset, .unset] []))
  suffices Kx13_22 : ∀ x13_22 : Int64, x13_22 = (p3 &&& (9223372036854775807 : Int64)) → D (T0.setTop (mkF m 22 #[.val (.long p1), .second, .val (.long p2), .second, .val (.long p3), .second, .val (.long p4), .second, .val (.int p5), .val (.long x9_7), .second, .val (.long x11_14), .second, .val (.long x13_22), .second, .unset, .unset, .unset, .unset, .unset, .unset, .unset, .unset, .unset, .unset, .unset, .unset, .unset, .unset, .unset, .unset, .unset] [])) from Kx13_22 _ rfl
  intro x13_22 hx13_22
  have hk13 : x13_22 ≠ -1 := by rw [hx13_22]; exact own_nn _
  refine A (XS.lload X0.here hx rfl (hb hby at_22) rfl) ?_
  show D (T0.setTop (mkF m 24 #[.val (.long p1), .second, .val (.long p2), .second, .val (.long p3), .second, .val (.long p4), .second, .val (.int p5), .val (.long x9_7), .second, .val (.long x11_14), .second, .val (.long x13_22), .second, .unset, .unset, .unset, .unset, .unset, .unset, .unset, .unset, .unset, .unset, .unset, .unset, .unset, .unset, .unset, .unset, .unset] [(.long p4)]))
  refine A (X0.ldc2Long hx hown (mvT hZ (hw _ (List.mem_of_getElem? (i := 0) rfl))) (g := (mkF m 24 #[.val (.long p1), .second, .val (.long p2), .second, .val (.long p3), .second, .val (.long p4), .second, .val (.int p5), .val (.long x9_7), .second, .val (.long x11_14), .second, .val (.long x13_22), .second, .unset, .unset, .unset, .unset, .unset, .unset, .unset, .unset, .unset, .unset, .unset, .unset, .unset, .unset, .unset, .unset, .unset] [(.long p4)])) rfl (hb hby at_24) _) ?_
  show D (T0.setTop (mkF m 27 #[.val (.long p1), .second, .val (.long p2), .second, .val (.long p3), .second, .val (.long p4), .second, .val (.int p5), .val (.long x9_7), .second, .val (.long x11_14), .second, .val (.long x13_22), .second, .unset, .unset, .unset, .unset, .unset, .unset, .unset, .unset, .unset, .unset, .unset, .unset, .unset, .unset, .unset, .unset, .unset] [(.long (9223372036854775807 : Int64)), (.long p4)]))
  refine A (XS.land X0.here hx rfl (hb hby at_27) rfl) ?_
  show D (T0.setTop (mkF m 28 #[.val (.long p1), .second, .val (.long p2), .second, .val (.long p3), .second, .val (.long p4), .second, .val (.int p5), .val (.long x9_7), .second, .val (.long x11_14), .second, .val (.long x13_22), .second, .unset, .unset, .unset, .unset, .unset, .unset, .unset, .unset, .unset, .unset, .unset, .unset, .unset, .unset, .unset, .unset, .unset] [(.long (p4 &&& (9223372036854775807 : Int64)))]))
  refine A (XS.lstore X0.here hx rfl (hb hby at_28) rfl (l' := #[.val (.long p1), .second, .val (.long p2), .second, .val (.long p3), .second, .val (.long p4), .second, .val (.int p5), .val (.long x9_7), .second, .val (.long x11_14), .second, .val (.long x13_22), .second, .val (.long (p4 &&& (9223372036854775807 : Int64))), .second, .unset, .unset, .unset, .unset, .unset, .unset, .unset, .unset, .unset, .unset, .unset, .unset, .unset, .unset, .unset]) rfl) ?_
  show D (T0.setTop (mkF m 30 #[.val (.long p1), .second, .val (.long p2), .second, .val (.long p3), .second, .val (.long p4), .second, .val (.int p5), .val (.long x9_7), .second, .val (.long x11_14), .second, .val (.long x13_22), .second, .val (.long (p4 &&& (9223372036854775807 : Int64))), .second, .unset, .unset, .unset, .unset, .unset, .unset, .unset, .unset, .unset, .unset, .unset, .unset, .unset, .unset, .unset] []))
  suffices Kx15_30 : ∀ x15_30 : Int64, x15_30 = (p4 &&& (9223372036854775807 : Int64)) → D (T0.setTop (mkF m 30 #[.val (.long p1), .second, .val (.long p2), .second, .val (.long p3), .second, .val (.long p4), .second, .val (.int p5), .val (.long x9_7), .second, .val (.long x11_14), .second, .val (.long x13_22), .second, .val (.long x15_30), .second, .unset, .unset, .unset, .unset, .unset, .unset, .unset, .unset, .unset, .unset, .unset, .unset, .unset, .unset, .unset] [])) from Kx15_30 _ rfl
  intro x15_30 hx15_30
  have hk15 : x15_30 ≠ -1 := by rw [hx15_30]; exact own_nn _
  refine A (XS.iload X0.here hx rfl (hb hby at_30) rfl) ?_
  show D (T0.setTop (mkF m 32 #[.val (.long p1), .second, .val (.long p2), .second, .val (.long p3), .second, .val (.long p4), .second, .val (.int p5), .val (.long x9_7), .second, .val (.long x11_14), .second, .val (.long x13_22), .second, .val (.long x15_30), .second, .unset, .unset, .unset, .unset, .unset, .unset, .unset, .unset, .unset, .unset, .unset, .unset, .unset, .unset, .unset] [(.int p5)]))
  refine A (XS.iconst X0.here hx rfl (hb hby at_32)) ?_
  show D (T0.setTop (mkF m 33 #[.val (.long p1), .second, .val (.long p2), .second, .val (.long p3), .second, .val (.long p4), .second, .val (.int p5), .val (.long x9_7), .second, .val (.long x11_14), .second, .val (.long x13_22), .second, .val (.long x15_30), .second, .unset, .unset, .unset, .unset, .unset, .unset, .unset, .unset, .unset, .unset, .unset, .unset, .unset, .unset, .unset] [(.int (1 : Int32)), (.int p5)]))
  refine A (XS.iand X0.here hx rfl (hb hby at_33) rfl) ?_
  show D (T0.setTop (mkF m 34 #[.val (.long p1), .second, .val (.long p2), .second, .val (.long p3), .second, .val (.long p4), .second, .val (.int p5), .val (.long x9_7), .second, .val (.long x11_14), .second, .val (.long x13_22), .second, .val (.long x15_30), .second, .unset, .unset, .unset, .unset, .unset, .unset, .unset, .unset, .unset, .unset, .unset, .unset, .unset, .unset, .unset] [(.int (p5 &&& (1 : Int32)))]))
  suffices Km42_1 : ∀ (v42s0 : Int32), v42s0 = (if (p5 &&& (1 : Int32)) = (0 : Int32) then (0 : Int32) else (1 : Int32)) → D (T0.setTop (mkF m 42 #[.val (.long p1), .second, .val (.long p2), .second, .val (.long p3), .second, .val (.long p4), .second, .val (.int p5), .val (.long x9_7), .second, .val (.long x11_14), .second, .val (.long x13_22), .second, .val (.long x15_30), .second, .unset, .unset, .unset, .unset, .unset, .unset, .unset, .unset, .unset, .unset, .unset, .unset, .unset, .unset, .unset] [(.int v42s0)])) by
    by_cases c34_0 : (p5 &&& (1 : Int32)) = (0 : Int32)
    · refine A (XS.ifYes X0.here hx rfl (pc0 := 34) (pc' := 41) rfl (hb hby at_34) rfl ((if0 _ _).trans (teq c34_0).1) (by decide) (by decide)) ?_
      show D (T0.setTop (mkF m 41 #[.val (.long p1), .second, .val (.long p2), .second, .val (.long p3), .second, .val (.long p4), .second, .val (.int p5), .val (.long x9_7), .second, .val (.long x11_14), .second, .val (.long x13_22), .second, .val (.long x15_30), .second, .unset, .unset, .unset, .unset, .unset, .unset, .unset, .unset, .unset, .unset, .unset, .unset, .unset, .unset, .unset] []))
      refine A (XS.iconst X0.here hx rfl (hb hby at_41)) ?_
      show D (T0.setTop (mkF m 42 #[.val (.long p1), .second, .val (.long p2), .second, .val (.long p3), .second, .val (.long p4), .second, .val (.int p5), .val (.long x9_7), .second, .val (.long x11_14), .second, .val (.long x13_22), .second, .val (.long x15_30), .second, .unset, .unset, .unset, .unset, .unset, .unset, .unset, .unset, .unset, .unset, .unset, .unset, .unset, .unset, .unset] [(.int (0 : Int32))]))
      exact Km42_1 _ ((if_pos c34_0)).symm
    · refine A (XS.ifNo X0.here hx rfl (hb hby at_34) rfl ((if0 _ _).trans (feq c34_0).1)) ?_
      show D (T0.setTop (mkF m 37 #[.val (.long p1), .second, .val (.long p2), .second, .val (.long p3), .second, .val (.long p4), .second, .val (.int p5), .val (.long x9_7), .second, .val (.long x11_14), .second, .val (.long x13_22), .second, .val (.long x15_30), .second, .unset, .unset, .unset, .unset, .unset, .unset, .unset, .unset, .unset, .unset, .unset, .unset, .unset, .unset, .unset] []))
      refine A (XS.iconst X0.here hx rfl (hb hby at_37)) ?_
      show D (T0.setTop (mkF m 38 #[.val (.long p1), .second, .val (.long p2), .second, .val (.long p3), .second, .val (.long p4), .second, .val (.int p5), .val (.long x9_7), .second, .val (.long x11_14), .second, .val (.long x13_22), .second, .val (.long x15_30), .second, .unset, .unset, .unset, .unset, .unset, .unset, .unset, .unset, .unset, .unset, .unset, .unset, .unset, .unset, .unset] [(.int (1 : Int32))]))
      refine A (XS.goto X0.here hx rfl (pc0 := 38) (pc' := 42) rfl (hb hby at_38) (by decide) (by decide)) ?_
      show D (T0.setTop (mkF m 42 #[.val (.long p1), .second, .val (.long p2), .second, .val (.long p3), .second, .val (.long p4), .second, .val (.int p5), .val (.long x9_7), .second, .val (.long x11_14), .second, .val (.long x13_22), .second, .val (.long x15_30), .second, .unset, .unset, .unset, .unset, .unset, .unset, .unset, .unset, .unset, .unset, .unset, .unset, .unset, .unset, .unset] [(.int (1 : Int32))]))
      exact Km42_1 _ ((if_neg c34_0)).symm
  intro v42s0 hv42s0
  show D (T0.setTop (mkF m 42 #[.val (.long p1), .second, .val (.long p2), .second, .val (.long p3), .second, .val (.long p4), .second, .val (.int p5), .val (.long x9_7), .second, .val (.long x11_14), .second, .val (.long x13_22), .second, .val (.long x15_30), .second, .unset, .unset, .unset, .unset, .unset, .unset, .unset, .unset, .unset, .unset, .unset, .unset, .unset, .unset, .unset] [(.int v42s0)]))
  refine A (XS.istore X0.here hx rfl (hb hby at_42) rfl (l' := #[.val (.long p1), .second, .val (.long p2), .second, .val (.long p3), .second, .val (.long p4), .second, .val (.int p5), .val (.long x9_7), .second, .val (.long x11_14), .second, .val (.long x13_22), .second, .val (.long x15_30), .second, .val (.int v42s0), .unset, .unset, .unset, .unset, .unset, .unset, .unset, .unset, .unset, .unset, .unset, .unset, .unset, .unset]) rfl) ?_
  show D (T0.setTop (mkF m 44 #[.val (.long p1), .second, .val (.long p2), .second, .val (.long p3), .second, .val (.long p4), .second, .val (.int p5), .val (.long x9_7), .second, .val (.long x11_14), .second, .val (.long x13_22), .second, .val (.long x15_30), .second, .val (.int v42s0), .unset, .unset, .unset, .unset, .unset, .unset, .unset, .unset, .unset, .unset, .unset, .unset, .unset, .unset] []))
  refine A (XS.iload X0.here hx rfl (hb hby at_44) rfl) ?_
  show D (T0.setTop (mkF m 46 #[.val (.long p1), .second, .val (.long p2), .second, .val (.long p3), .second, .val (.long p4), .second, .val (.int p5), .val (.long x9_7), .second, .val (.long x11_14), .second, .val (.long x13_22), .second, .val (.long x15_30), .second, .val (.int v42s0), .unset, .unset, .unset, .unset, .unset, .unset, .unset, .unset, .unset, .unset, .unset, .unset, .unset, .unset] [(.int p5)]))
  refine A (XS.iconst X0.here hx rfl (hb hby at_46)) ?_
  show D (T0.setTop (mkF m 47 #[.val (.long p1), .second, .val (.long p2), .second, .val (.long p3), .second, .val (.long p4), .second, .val (.int p5), .val (.long x9_7), .second, .val (.long x11_14), .second, .val (.long x13_22), .second, .val (.long x15_30), .second, .val (.int v42s0), .unset, .unset, .unset, .unset, .unset, .unset, .unset, .unset, .unset, .unset, .unset, .unset, .unset, .unset] [(.int (2 : Int32)), (.int p5)]))
  refine A (XS.iand X0.here hx rfl (hb hby at_47) rfl) ?_
  show D (T0.setTop (mkF m 48 #[.val (.long p1), .second, .val (.long p2), .second, .val (.long p3), .second, .val (.long p4), .second, .val (.int p5), .val (.long x9_7), .second, .val (.long x11_14), .second, .val (.long x13_22), .second, .val (.long x15_30), .second, .val (.int v42s0), .unset, .unset, .unset, .unset, .unset, .unset, .unset, .unset, .unset, .unset, .unset, .unset, .unset, .unset] [(.int (p5 &&& (2 : Int32)))]))
  suffices Km56_2 : ∀ (v56s0 : Int32), v56s0 = (if (p5 &&& (2 : Int32)) = (0 : Int32) then (0 : Int32) else (1 : Int32)) → D (T0.setTop (mkF m 56 #[.val (.long p1), .second, .val (.long p2), .second, .val (.long p3), .second, .val (.long p4), .second, .val (.int p5), .val (.long x9_7), .second, .val (.long x11_14), .second, .val (.long x13_22), .second, .val (.long x15_30), .second, .val (.int v42s0), .unset, .unset, .unset, .unset, .unset, .unset, .unset, .unset, .unset, .unset, .unset, .unset, .unset, .unset] [(.int v56s0)])) by
    by_cases c48_0 : (p5 &&& (2 : Int32)) = (0 : Int32)
    · refine A (XS.ifYes X0.here hx rfl (pc0 := 48) (pc' := 55) rfl (hb hby at_48) rfl ((if0 _ _).trans (teq c48_0).1) (by decide) (by decide)) ?_
      show D (T0.setTop (mkF m 55 #[.val (.long p1), .second, .val (.long p2), .second, .val (.long p3), .second, .val (.long p4), .second, .val (.int p5), .val (.long x9_7), .second, .val (.long x11_14), .second, .val (.long x13_22), .second, .val (.long x15_30), .second, .val (.int v42s0), .unset, .unset, .unset, .unset, .unset, .unset, .unset, .unset, .unset, .unset, .unset, .unset, .unset, .unset] []))
      refine A (XS.iconst X0.here hx rfl (hb hby at_55)) ?_
      show D (T0.setTop (mkF m 56 #[.val (.long p1), .second, .val (.long p2), .second, .val (.long p3), .second, .val (.long p4), .second, .val (.int p5), .val (.long x9_7), .second, .val (.long x11_14), .second, .val (.long x13_22), .second, .val (.long x15_30), .second, .val (.int v42s0), .unset, .unset, .unset, .unset, .unset, .unset, .unset, .unset, .unset, .unset, .unset, .unset, .unset, .unset] [(.int (0 : Int32))]))
      exact Km56_2 _ ((if_pos c48_0)).symm
    · refine A (XS.ifNo X0.here hx rfl (hb hby at_48) rfl ((if0 _ _).trans (feq c48_0).1)) ?_
      show D (T0.setTop (mkF m 51 #[.val (.long p1), .second, .val (.long p2), .second, .val (.long p3), .second, .val (.long p4), .second, .val (.int p5), .val (.long x9_7), .second, .val (.long x11_14), .second, .val (.long x13_22), .second, .val (.long x15_30), .second, .val (.int v42s0), .unset, .unset, .unset, .unset, .unset, .unset, .unset, .unset, .unset, .unset, .unset, .unset, .unset, .unset] []))
      refine A (XS.iconst X0.here hx rfl (hb hby at_51)) ?_
      show D (T0.setTop (mkF m 52 #[.val (.long p1), .second, .val (.long p2), .second, .val (.long p3), .second, .val (.long p4), .second, .val (.int p5), .val (.long x9_7), .second, .val (.long x11_14), .second, .val (.long x13_22), .second, .val (.long x15_30), .second, .val (.int v42s0), .unset, .unset, .unset, .unset, .unset, .unset, .unset, .unset, .unset, .unset, .unset, .unset, .unset, .unset] [(.int (1 : Int32))]))
      refine A (XS.goto X0.here hx rfl (pc0 := 52) (pc' := 56) rfl (hb hby at_52) (by decide) (by decide)) ?_
      show D (T0.setTop (mkF m 56 #[.val (.long p1), .second, .val (.long p2), .second, .val (.long p3), .second, .val (.long p4), .second, .val (.int p5), .val (.long x9_7), .second, .val (.long x11_14), .second, .val (.long x13_22), .second, .val (.long x15_30), .second, .val (.int v42s0), .unset, .unset, .unset, .unset, .unset, .unset, .unset, .unset, .unset, .unset, .unset, .unset, .unset, .unset] [(.int (1 : Int32))]))
      exact Km56_2 _ ((if_neg c48_0)).symm
  intro v56s0 hv56s0
  show D (T0.setTop (mkF m 56 #[.val (.long p1), .second, .val (.long p2), .second, .val (.long p3), .second, .val (.long p4), .second, .val (.int p5), .val (.long x9_7), .second, .val (.long x11_14), .second, .val (.long x13_22), .second, .val (.long x15_30), .second, .val (.int v42s0), .unset, .unset, .unset, .unset, .unset, .unset, .unset, .unset, .unset, .unset, .unset, .unset, .unset, .unset] [(.int v56s0)]))
  refine A (XS.istore X0.here hx rfl (hb hby at_56) rfl (l' := #[.val (.long p1), .second, .val (.long p2), .second, .val (.long p3), .second, .val (.long p4), .second, .val (.int p5), .val (.long x9_7), .second, .val (.long x11_14), .second, .val (.long x13_22), .second, .val (.long x15_30), .second, .val (.int v42s0), .val (.int v56s0), .unset, .unset, .unset, .unset, .unset, .unset, .unset, .unset, .unset, .unset, .unset, .unset, .unset]) rfl) ?_
  show D (T0.setTop (mkF m 58 #[.val (.long p1), .second, .val (.long p2), .second, .val (.long p3), .second, .val (.long p4), .second, .val (.int p5), .val (.long x9_7), .second, .val (.long x11_14), .second, .val (.long x13_22), .second, .val (.long x15_30), .second, .val (.int v42s0), .val (.int v56s0), .unset, .unset, .unset, .unset, .unset, .unset, .unset, .unset, .unset, .unset, .unset, .unset, .unset] []))
  refine A (XS.iload X0.here hx rfl (hb hby at_58) rfl) ?_
  show D (T0.setTop (mkF m 60 #[.val (.long p1), .second, .val (.long p2), .second, .val (.long p3), .second, .val (.long p4), .second, .val (.int p5), .val (.long x9_7), .second, .val (.long x11_14), .second, .val (.long x13_22), .second, .val (.long x15_30), .second, .val (.int v42s0), .val (.int v56s0), .unset, .unset, .unset, .unset, .unset, .unset, .unset, .unset, .unset, .unset, .unset, .unset, .unset] [(.int p5)]))
  refine A (XS.iconst X0.here hx rfl (hb hby at_60)) ?_
  show D (T0.setTop (mkF m 61 #[.val (.long p1), .second, .val (.long p2), .second, .val (.long p3), .second, .val (.long p4), .second, .val (.int p5), .val (.long x9_7), .second, .val (.long x11_14), .second, .val (.long x13_22), .second, .val (.long x15_30), .second, .val (.int v42s0), .val (.int v56s0), .unset, .unset, .unset, .unset, .unset, .unset, .unset, .unset, .unset, .unset, .unset, .unset, .unset] [(.int (4 : Int32)), (.int p5)]))
  refine A (XS.iand X0.here hx rfl (hb hby at_61) rfl) ?_
  show D (T0.setTop (mkF m 62 #[.val (.long p1), .second, .val (.long p2), .second, .val (.long p3), .second, .val (.long p4), .second, .val (.int p5), .val (.long x9_7), .second, .val (.long x11_14), .second, .val (.long x13_22), .second, .val (.long x15_30), .second, .val (.int v42s0), .val (.int v56s0), .unset, .unset, .unset, .unset, .unset, .unset, .unset, .unset, .unset, .unset, .unset, .unset, .unset] [(.int (p5 &&& (4 : Int32)))]))
  suffices Km70_3 : ∀ (v70s0 : Int32), v70s0 = (if (p5 &&& (4 : Int32)) = (0 : Int32) then (0 : Int32) else (1 : Int32)) → D (T0.setTop (mkF m 70 #[.val (.long p1), .second, .val (.long p2), .second, .val (.long p3), .second, .val (.long p4), .second, .val (.int p5), .val (.long x9_7), .second, .val (.long x11_14), .second, .val (.long x13_22), .second, .val (.long x15_30), .second, .val (.int v42s0), .val (.int v56s0), .unset, .unset, .unset, .unset, .unset, .unset, .unset, .unset, .unset, .unset, .unset, .unset, .unset] [(.int v70s0)])) by
    by_cases c62_0 : (p5 &&& (4 : Int32)) = (0 : Int32)
    · refine A (XS.ifYes X0.here hx rfl (pc0 := 62) (pc' := 69) rfl (hb hby at_62) rfl ((if0 _ _).trans (teq c62_0).1) (by decide) (by decide)) ?_
      show D (T0.setTop (mkF m 69 #[.val (.long p1), .second, .val (.long p2), .second, .val (.long p3), .second, .val (.long p4), .second, .val (.int p5), .val (.long x9_7), .second, .val (.long x11_14), .second, .val (.long x13_22), .second, .val (.long x15_30), .second, .val (.int v42s0), .val (.int v56s0), .unset, .unset, .unset, .unset, .unset, .unset, .unset, .unset, .unset, .unset, .unset, .unset, .unset] []))
      refine A (XS.iconst X0.here hx rfl (hb hby at_69)) ?_
      show D (T0.setTop (mkF m 70 #[.val (.long p1), .second, .val (.long p2), .second, .val (.long p3), .second, .val (.long p4), .second, .val (.int p5), .val (.long x9_7), .second, .val (.long x11_14), .second, .val (.long x13_22), .second, .val (.long x15_30), .second, .val (.int v42s0), .val (.int v56s0), .unset, .unset, .unset, .unset, .unset, .unset, .unset, .unset, .unset, .unset, .unset, .unset, .unset] [(.int (0 : Int32))]))
      exact Km70_3 _ ((if_pos c62_0)).symm
    · refine A (XS.ifNo X0.here hx rfl (hb hby at_62) rfl ((if0 _ _).trans (feq c62_0).1)) ?_
      show D (T0.setTop (mkF m 65 #[.val (.long p1), .second, .val (.long p2), .second, .val (.long p3), .second, .val (.long p4), .second, .val (.int p5), .val (.long x9_7), .second, .val (.long x11_14), .second, .val (.long x13_22), .second, .val (.long x15_30), .second, .val (.int v42s0), .val (.int v56s0), .unset, .unset, .unset, .unset, .unset, .unset, .unset, .unset, .unset, .unset, .unset, .unset, .unset] []))
      refine A (XS.iconst X0.here hx rfl (hb hby at_65)) ?_
      show D (T0.setTop (mkF m 66 #[.val (.long p1), .second, .val (.long p2), .second, .val (.long p3), .second, .val (.long p4), .second, .val (.int p5), .val (.long x9_7), .second, .val (.long x11_14), .second, .val (.long x13_22), .second, .val (.long x15_30), .second, .val (.int v42s0), .val (.int v56s0), .unset, .unset, .unset, .unset, .unset, .unset, .unset, .unset, .unset, .unset, .unset, .unset, .unset] [(.int (1 : Int32))]))
      refine A (XS.goto X0.here hx rfl (pc0 := 66) (pc' := 70) rfl (hb hby at_66) (by decide) (by decide)) ?_
      show D (T0.setTop (mkF m 70 #[.val (.long p1), .second, .val (.long p2), .second, .val (.long p3), .second, .val (.long p4), .second, .val (.int p5), .val (.long x9_7), .second, .val (.long x11_14), .second, .val (.long x13_22), .second, .val (.long x15_30), .second, .val (.int v42s0), .val (.int v56s0), .unset, .unset, .unset, .unset, .unset, .unset, .unset, .unset, .unset, .unset, .unset, .unset, .unset] [(.int (1 : Int32))]))
      exact Km70_3 _ ((if_neg c62_0)).symm
  intro v70s0 hv70s0
  show D (T0.setTop (mkF m 70 #[.val (.long p1), .second, .val (.long p2), .second, .val (.long p3), .second, .val (.long p4), .second, .val (.int p5), .val (.long x9_7), .second, .val (.long x11_14), .second, .val (.long x13_22), .second, .val (.long x15_30), .second, .val (.int v42s0), .val (.int v56s0), .unset, .unset, .unset, .unset, .unset, .unset, .unset, .unset, .unset, .unset, .unset, .unset, .unset] [(.int v70s0)]))
  refine A (XS.istore X0.here hx rfl (hb hby at_70) rfl (l' := #[.val (.long p1), .second, .val (.long p2), .second, .val (.long p3), .second, .val (.long p4), .second, .val (.int p5), .val (.long x9_7), .second, .val (.long x11_14), .second, .val (.long x13_22), .second, .val (.long x15_30), .second, .val (.int v42s0), .val (.int v56s0), .val (.int v70s0), .unset, .unset, .unset, .unset, .unset, .unset, .unset, .unset, .unset, .unset, .unset, .unset]) rfl) ?_
  show D (T0.setTop (mkF m 72 #[.val (.long p1), .second, .val (.long p2), .second, .val (.long p3), .second, .val (.long p4), .second, .val (.int p5), .val (.long x9_7), .second, .val (.long x11_14), .second, .val (.long x13_22), .second, .val (.long x15_30), .second, .val (.int v42s0), .val (.int v56s0), .val (.int v70s0), .unset, .unset, .unset, .unset, .unset, .unset, .unset, .unset, .unset, .unset, .unset, .unset] []))
  refine A (XS.iload X0.here hx rfl (hb hby at_72) rfl) ?_
  show D (T0.setTop (mkF m 74 #[.val (.long p1), .second, .val (.long p2), .second, .val (.long p3), .second, .val (.long p4), .second, .val (.int p5), .val (.long x9_7), .second, .val (.long x11_14), .second, .val (.long x13_22), .second, .val (.long x15_30), .second, .val (.int v42s0), .val (.int v56s0), .val (.int v70s0), .unset, .unset, .unset, .unset, .unset, .unset, .unset, .unset, .unset, .unset, .unset, .unset] [(.int p5)]))
  refine A (XS.bipush X0.here hx rfl (hb hby at_74)) ?_
  show D (T0.setTop (mkF m 76 #[.val (.long p1), .second, .val (.long p2), .second, .val (.long p3), .second, .val (.long p4), .second, .val (.int p5), .val (.long x9_7), .second, .val (.long x11_14), .second, .val (.long x13_22), .second, .val (.long x15_30), .second, .val (.int v42s0), .val (.int v56s0), .val (.int v70s0), .unset, .unset, .unset, .unset, .unset, .unset, .unset, .unset, .unset, .unset, .unset, .unset] [(.int (8 : Int32)), (.int p5)]))
  refine A (XS.iand X0.here hx rfl (hb hby at_76) rfl) ?_
  show D (T0.setTop (mkF m 77 #[.val (.long p1), .second, .val (.long p2), .second, .val (.long p3), .second, .val (.long p4), .second, .val (.int p5), .val (.long x9_7), .second, .val (.long x11_14), .second, .val (.long x13_22), .second, .val (.long x15_30), .second, .val (.int v42s0), .val (.int v56s0), .val (.int v70s0), .unset, .unset, .unset, .unset, .unset, .unset, .unset, .unset, .unset, .unset, .unset, .unset] [(.int (p5 &&& (8 : Int32)))]))
  suffices Km85_4 : ∀ (v85s0 : Int32), v85s0 = (if (p5 &&& (8 : Int32)) = (0 : Int32) then (0 : Int32) else (1 : Int32)) → D (T0.setTop (mkF m 85 #[.val (.long p1), .second, .val (.long p2), .second, .val (.long p3), .second, .val (.long p4), .second, .val (.int p5), .val (.long x9_7), .second, .val (.long x11_14), .second, .val (.long x13_22), .second, .val (.long x15_30), .second, .val (.int v42s0), .val (.int v56s0), .val (.int v70s0), .unset, .unset, .unset, .unset, .unset, .unset, .unset, .unset, .unset, .unset, .unset, .unset] [(.int v85s0)])) by
    by_cases c77_0 : (p5 &&& (8 : Int32)) = (0 : Int32)
    · refine A (XS.ifYes X0.here hx rfl (pc0 := 77) (pc' := 84) rfl (hb hby at_77) rfl ((if0 _ _).trans (teq c77_0).1) (by decide) (by decide)) ?_
      show D (T0.setTop (mkF m 84 #[.val (.long p1), .second, .val (.long p2), .second, .val (.long p3), .second, .val (.long p4), .second, .val (.int p5), .val (.long x9_7), .second, .val (.long x11_14), .second, .val (.long x13_22), .second, .val (.long x15_30), .second, .val (.int v42s0), .val (.int v56s0), .val (.int v70s0), .unset, .unset, .unset, .unset, .unset, .unset, .unset, .unset, .unset, .unset, .unset, .unset] []))
      refine A (XS.iconst X0.here hx rfl (hb hby at_84)) ?_
      show D (T0.setTop (mkF m 85 #[.val (.long p1), .second, .val (.long p2), .second, .val (.long p3), .second, .val (.long p4), .second, .val (.int p5), .val (.long x9_7), .second, .val (.long x11_14), .second, .val (.long x13_22), .second, .val (.long x15_30), .second, .val (.int v42s0), .val (.int v56s0), .val (.int v70s0), .unset, .unset, .unset, .unset, .unset, .unset, .unset, .unset, .unset, .unset, .unset, .unset] [(.int (0 : Int32))]))
      exact Km85_4 _ ((if_pos c77_0)).symm
    · refine A (XS.ifNo X0.here hx rfl (hb hby at_77) rfl ((if0 _ _).trans (feq c77_0).1)) ?_
      show D (T0.setTop (mkF m 80 #[.val (.long p1), .second, .val (.long p2), .second, .val (.long p3), .second, .val (.long p4), .second, .val (.int p5), .val (.long x9_7), .second, .val (.long x11_14), .second, .val (.long x13_22), .second, .val (.long x15_30), .second, .val (.int v42s0), .val (.int v56s0), .val (.int v70s0), .unset, .unset, .unset, .unset, .unset, .unset, .unset, .unset, .unset, .unset, .unset, .unset] []))
      refine A (XS.iconst X0.here hx rfl (hb hby at_80)) ?_
      show D (T0.setTop (mkF m 81 #[.val (.long p1), .second, .val (.long p2), .second, .val (.long p3), .second, .val (.long p4), .second, .val (.int p5), .val (.long x9_7), .second, .val (.long x11_14), .second, .val (.long x13_22), .second, .val (.long x15_30), .second, .val (.int v42s0), .val (.int v56s0), .val (.int v70s0), .unset, .unset, .unset, .unset, .unset, .unset, .unset, .unset, .unset, .unset, .unset, .unset] [(.int (1 : Int32))]))
      refine A (XS.goto X0.here hx rfl (pc0 := 81) (pc' := 85) rfl (hb hby at_81) (by decide) (by decide)) ?_
      show D (T0.setTop (mkF m 85 #[.val (.long p1), .second, .val (.long p2), .second, .val (.long p3), .second, .val (.long p4), .second, .val (.int p5), .val (.long x9_7), .second, .val (.long x11_14), .second, .val (.long x13_22), .second, .val (.long x15_30), .second, .val (.int v42s0), .val (.int v56s0), .val (.int v70s0), .unset, .unset, .unset, .unset, .unset, .unset, .unset, .unset, .unset, .unset, .unset, .unset] [(.int (1 : Int32))]))
      exact Km85_4 _ ((if_neg c77_0)).symm
  intro v85s0 hv85s0
  show D (T0.setTop (mkF m 85 #[.val (.long p1), .second, .val (.long p2), .second, .val (.long p3), .second, .val (.long p4), .second, .val (.int p5), .val (.long x9_7), .second, .val (.long x11_14), .second, .val (.long x13_22), .second, .val (.long x15_30), .second, .val (.int v42s0), .val (.int v56s0), .val (.int v70s0), .unset, .unset, .unset, .unset, .unset, .unset, .unset, .unset, .unset, .unset, .unset, .unset] [(.int v85s0)]))
  refine A (XS.istore X0.here hx rfl (hb hby at_85) rfl (l' := #[.val (.long p1), .second, .val (.long p2), .second, .val (.long p3), .second, .val (.long p4), .second, .val (.int p5), .val (.long x9_7), .second, .val (.long x11_14), .second, .val (.long x13_22), .second, .val (.long x15_30), .second, .val (.int v42s0), .val (.int v56s0), .val (.int v70s0), .val (.int v85s0), .unset, .unset, .unset, .unset, .unset, .unset, .unset, .unset, .unset, .unset, .unset]) rfl) ?_
  show D (T0.setTop (mkF m 87 #[.val (.long p1), .second, .val (.long p2), .second, .val (.long p3), .second, .val (.long p4), .second, .val (.int p5), .val (.long x9_7), .second, .val (.long x11_14), .second, .val (.long x13_22), .second, .val (.long x15_30), .second, .val (.int v42s0), .val (.int v56s0), .val (.int v70s0), .val (.int v85s0), .unset, .unset, .unset, .unset, .unset, .unset, .unset, .unset, .unset, .unset, .unset] []))
  refine A (XS.iload X0.here hx rfl (hb hby at_87) rfl) ?_
  show D (T0.setTop (mkF m 89 #[.val (.long p1), .second, .val (.long p2), .second, .val (.long p3), .second, .val (.long p4), .second, .val (.int p5), .val (.long x9_7), .second, .val (.long x11_14), .second, .val (.long x13_22), .second, .val (.long x15_30), .second, .val (.int v42s0), .val (.int v56s0), .val (.int v70s0), .val (.int v85s0), .unset, .unset, .unset, .unset, .unset, .unset, .unset, .unset, .unset, .unset, .unset] [(.int p5)]))
  refine A (XS.bipush X0.here hx rfl (hb hby at_89)) ?_
  show D (T0.setTop (mkF m 91 #[.val (.long p1), .second, .val (.long p2), .second, .val (.long p3), .second, .val (.long p4), .second, .val (.int p5), .val (.long x9_7), .second, .val (.long x11_14), .second, .val (.long x13_22), .second, .val (.long x15_30), .second, .val (.int v42s0), .val (.int v56s0), .val (.int v70s0), .val (.int v85s0), .unset, .unset, .unset, .unset, .unset, .unset, .unset, .unset, .unset, .unset, .unset] [(.int (16 : Int32)), (.int p5)]))
  refine A (XS.iand X0.here hx rfl (hb hby at_91) rfl) ?_
  show D (T0.setTop (mkF m 92 #[.val (.long p1), .second, .val (.long p2), .second, .val (.long p3), .second, .val (.long p4), .second, .val (.int p5), .val (.long x9_7), .second, .val (.long x11_14), .second, .val (.long x13_22), .second, .val (.long x15_30), .second, .val (.int v42s0), .val (.int v56s0), .val (.int v70s0), .val (.int v85s0), .unset, .unset, .unset, .unset, .unset, .unset, .unset, .unset, .unset, .unset, .unset] [(.int (p5 &&& (16 : Int32)))]))
  suffices Km100_5 : ∀ (v100s0 : Int32), v100s0 = (if (p5 &&& (16 : Int32)) = (0 : Int32) then (0 : Int32) else (1 : Int32)) → D (T0.setTop (mkF m 100 #[.val (.long p1), .second, .val (.long p2), .second, .val (.long p3), .second, .val (.long p4), .second, .val (.int p5), .val (.long x9_7), .second, .val (.long x11_14), .second, .val (.long x13_22), .second, .val (.long x15_30), .second, .val (.int v42s0), .val (.int v56s0), .val (.int v70s0), .val (.int v85s0), .unset, .unset, .unset, .unset, .unset, .unset, .unset, .unset, .unset, .unset, .unset] [(.int v100s0)])) by
    by_cases c92_0 : (p5 &&& (16 : Int32)) = (0 : Int32)
    · refine A (XS.ifYes X0.here hx rfl (pc0 := 92) (pc' := 99) rfl (hb hby at_92) rfl ((if0 _ _).trans (teq c92_0).1) (by decide) (by decide)) ?_
      show D (T0.setTop (mkF m 99 #[.val (.long p1), .second, .val (.long p2), .second, .val (.long p3), .second, .val (.long p4), .second, .val (.int p5), .val (.long x9_7), .second, .val (.long x11_14), .second, .val (.long x13_22), .second, .val (.long x15_30), .second, .val (.int v42s0), .val (.int v56s0), .val (.int v70s0), .val (.int v85s0), .unset, .unset, .unset, .unset, .unset, .unset, .unset, .unset, .unset, .unset, .unset] []))
      refine A (XS.iconst X0.here hx rfl (hb hby at_99)) ?_
      show D (T0.setTop (mkF m 100 #[.val (.long p1), .second, .val (.long p2), .second, .val (.long p3), .second, .val (.long p4), .second, .val (.int p5), .val (.long x9_7), .second, .val (.long x11_14), .second, .val (.long x13_22), .second, .val (.long x15_30), .second, .val (.int v42s0), .val (.int v56s0), .val (.int v70s0), .val (.int v85s0), .unset, .unset, .unset, .unset, .unset, .unset, .unset, .unset, .unset, .unset, .unset] [(.int (0 : Int32))]))
      exact Km100_5 _ ((if_pos c92_0)).symm
    · refine A (XS.ifNo X0.here hx rfl (hb hby at_92) rfl ((if0 _ _).trans (feq c92_0).1)) ?_
      show D (T0.setTop (mkF m 95 #[.val (.long p1), .second, .val (.long p2), .second, .val (.long p3), .second, .val (.long p4), .second, .val (.int p5), .val (.long x9_7), .second, .val (.long x11_14), .second, .val (.long x13_22), .second, .val (.long x15_30), .second, .val (.int v42s0), .val (.int v56s0), .val (.int v70s0), .val (.int v85s0), .unset, .unset, .unset, .unset, .unset, .unset, .unset, .unset, .unset, .unset, .unset] []))
      refine A (XS.iconst X0.here hx rfl (hb hby at_95)) ?_
      show D (T0.setTop (mkF m 96 #[.val (.long p1), .second, .val (.long p2), .second, .val (.long p3), .second, .val (.long p4), .second, .val (.int p5), .val (.long x9_7), .second, .val (.long x11_14), .second, .val (.long x13_22), .second, .val (.long x15_30), .second, .val (.int v42s0), .val (.int v56s0), .val (.int v70s0), .val (.int v85s0), .unset, .unset, .unset, .unset, .unset, .unset, .unset, .unset, .unset, .unset, .unset] [(.int (1 : Int32))]))
      refine A (XS.goto X0.here hx rfl (pc0 := 96) (pc' := 100) rfl (hb hby at_96) (by decide) (by decide)) ?_
      show D (T0.setTop (mkF m 100 #[.val (.long p1), .second, .val (.long p2), .second, .val (.long p3), .second, .val (.long p4), .second, .val (.int p5), .val (.long x9_7), .second, .val (.long x11_14), .second, .val (.long x13_22), .second, .val (.long x15_30), .second, .val (.int v42s0), .val (.int v56s0), .val (.int v70s0), .val (.int v85s0), .unset, .unset, .unset, .unset, .unset, .unset, .unset, .unset, .unset, .unset, .unset] [(.int (1 : Int32))]))
      exact Km100_5 _ ((if_neg c92_0)).symm
  intro v100s0 hv100s0
  show D (T0.setTop (mkF m 100 #[.val (.long p1), .second, .val (.long p2), .second, .val (.long p3), .second, .val (.long p4), .second, .val (.int p5), .val (.long x9_7), .second, .val (.long x11_14), .second, .val (.long x13_22), .second, .val (.long x15_30), .second, .val (.int v42s0), .val (.int v56s0), .val (.int v70s0), .val (.int v85s0), .unset, .unset, .unset, .unset, .unset, .unset, .unset, .unset, .unset, .unset, .unset] [(.int v100s0)]))
  refine A (XS.istore X0.here hx rfl (hb hby at_100) rfl (l' := #[.val (.long p1), .second, .val (.long p2), .second, .val (.long p3), .second, .val (.long p4), .second, .val (.int p5), .val (.long x9_7), .second, .val (.long x11_14), .second, .val (.long x13_22), .second, .val (.long x15_30), .second, .val (.int v42s0), .val (.int v56s0), .val (.int v70s0), .val (.int v85s0), .val (.int v100s0), .unset, .unset, .unset, .unset, .unset, .unset, .unset, .unset, .unset, .unset]) rfl) ?_
  show D (T0.setTop (mkF m 102 #[.val (.long p1), .second, .val (.long p2), .second, .val (.long p3), .second, .val (.long p4), .second, .val (.int p5), .val (.long x9_7), .second, .val (.long x11_14), .second, .val (.long x13_22), .second, .val (.long x15_30), .second, .val (.int v42s0), .val (.int v56s0), .val (.int v70s0), .val (.int v85s0), .val (.int v100s0), .unset, .unset, .unset, .unset, .unset, .unset, .unset, .unset, .unset, .unset] []))
  refine A (XS.iload X0.here hx rfl (hb hby at_102) rfl) ?_
  show D (T0.setTop (mkF m 104 #[.val (.long p1), .second, .val (.long p2), .second, .val (.long p3), .second, .val (.long p4), .second, .val (.int p5), .val (.long x9_7), .second, .val (.long x11_14), .second, .val (.long x13_22), .second, .val (.long x15_30), .second, .val (.int v42s0), .val (.int v56s0), .val (.int v70s0), .val (.int v85s0), .val (.int v100s0), .unset, .unset, .unset, .unset, .unset, .unset, .unset, .unset, .unset, .unset] [(.int p5)]))
  refine A (XS.iconst X0.here hx rfl (hb hby at_104)) ?_
  show D (T0.setTop (mkF m 105 #[.val (.long p1), .second, .val (.long p2), .second, .val (.long p3), .second, .val (.long p4), .second, .val (.int p5), .val (.long x9_7), .second, .val (.long x11_14), .second, .val (.long x13_22), .second, .val (.long x15_30), .second, .val (.int v42s0), .val (.int v56s0), .val (.int v70s0), .val (.int v85s0), .val (.int v100s0), .unset, .unset, .unset, .unset, .unset, .unset, .unset, .unset, .unset, .unset] [(.int (5 : Int32)), (.int p5)]))
  refine A (XS.iushr X0.here hx rfl (hb hby at_105) rfl) ?_
  show D (T0.setTop (mkF m 106 #[.val (.long p1), .second, .val (.long p2), .second, .val (.long p3), .second, .val (.long p4), .second, .val (.int p5), .val (.long x9_7), .second, .val (.long x11_14), .second, .val (.long x13_22), .second, .val (.long x15_30), .second, .val (.int v42s0), .val (.int v56s0), .val (.int v70s0), .val (.int v85s0), .val (.int v100s0), .unset, .unset, .unset, .unset, .unset, .unset, .unset, .unset, .unset, .unset] [(.int ((p5.toUInt32 >>> ((5 : Int32) &&& 31).toUInt32).toInt32))]))
  refine A (XS.iconst X0.here hx rfl (hb hby at_106)) ?_
  show D (T0.setTop (mkF m 107 #[.val (.long p1), .second, .val (.long p2), .second, .val (.long p3), .second, .val (.long p4), .second, .val (.int p5), .val (.long x9_7), .second, .val (.long x11_14), .second, .val (.long x13_22), .second, .val (.long x15_30), .second, .val (.int v42s0), .val (.int v56s0), .val (.int v70s0), .val (.int v85s0), .val (.int v100s0), .unset, .unset, .unset, .unset, .unset, .unset, .unset, .unset, .unset, .unset] [(.int (3 : Int32)), (.int ((p5.toUInt32 >>> ((5 : Int32) &&& 31).toUInt32).toInt32))]))
  refine A (XS.iand X0.here hx rfl (hb hby at_107) rfl) ?_
  show D (T0.setTop (mkF m 108 #[.val (.long p1), .second, .val (.long p2), .second, .val (.long p3), .second, .val (.long p4), .second, .val (.int p5), .val (.long x9_7), .second, .val (.long x11_14), .second, .val (.long x13_22), .second, .val (.long x15_30), .second, .val (.int v42s0), .val (.int v56s0), .val (.int v70s0), .val (.int v85s0), .val (.int v100s0), .unset, .unset, .unset, .unset, .unset, .unset, .unset, .unset, .unset, .unset] [(.int (((p5.toUInt32 >>> ((5 : Int32) &&& 31).toUInt32).toInt32) &&& (3 : Int32)))]))
  refine A (XS.istore X0.here hx rfl (hb hby at_108) rfl (l' := #[.val (.long p1), .second, .val (.long p2), .second, .val (.long p3), .second, .val (.long p4), .second, .val (.int p5), .val (.long x9_7), .second, .val (.long x11_14), .second, .val (.long x13_22), .second, .val (.long x15_30), .second, .val (.int v42s0), .val (.int v56s0), .val (.int v70s0), .val (.int v85s0), .val (.int v100s0), .val (.int (((p5.toUInt32 >>> ((5 : Int32) &&& 31).toUInt32).toInt32) &&& (3 : Int32))), .unset, .unset, .unset, .unset, .unset, .unset, .unset, .unset, .unset]) rfl) ?_
  show D (T0.setTop (mkF m 110 #[.val (.long p1), .second, .val (.long p2), .second, .val (.long p3), .second, .val (.long p4), .second, .val (.int p5), .val (.long x9_7), .second, .val (.long x11_14), .second, .val (.long x13_22), .second, .val (.long x15_30), .second, .val (.int v42s0), .val (.int v56s0), .val (.int v70s0), .val (.int v85s0), .val (.int v100s0), .val (.int (((p5.toUInt32 >>> ((5 : Int32) &&& 31).toUInt32).toInt32) &&& (3 : Int32))), .unset, .unset, .unset, .unset, .unset, .unset, .unset, .unset, .unset] []))
  suffices Kx22_110 : ∀ x22_110 : Int32, x22_110 = (((p5.toUInt32 >>> ((5 : Int32) &&& 31).toUInt32).toInt32) &&& (3 : Int32)) → D (T0.setTop (mkF m 110 #[.val (.long p1), .second, .val (.long p2), .second, .val (.long p3), .second, .val (.long p4), .second, .val (.int p5), .val (.long x9_7), .second, .val (.long x11_14), .second, .val (.long x13_22), .second, .val (.long x15_30), .second, .val (.int v42s0), .val (.int v56s0), .val (.int v70s0), .val (.int v85s0), .val (.int v100s0), .val (.int x22_110), .unset, .unset, .unset, .unset, .unset, .unset, .unset, .unset, .unset] [])) from Kx22_110 _ rfl
  intro x22_110 hx22_110
  refine A (XS.iload X0.here hx rfl (hb hby at_110) rfl) ?_
  show D (T0.setTop (mkF m 112 #[.val (.long p1), .second, .val (.long p2), .second, .val (.long p3), .second, .val (.long p4), .second, .val (.int p5), .val (.long x9_7), .second, .val (.long x11_14), .second, .val (.long x13_22), .second, .val (.long x15_30), .second, .val (.int v42s0), .val (.int v56s0), .val (.int v70s0), .val (.int v85s0), .val (.int v100s0), .val (.int x22_110), .unset, .unset, .unset, .unset, .unset, .unset, .unset, .unset, .unset] [(.int x22_110)]))
  suffices Km144_6 : ∀ (v144s0 : Int64), v144s0 = (if x22_110 = (0 : Int32) then x9_7 else (if x22_110 = (1 : Int32) then x11_14 else (if x22_110 = (2 : Int32) then x13_22 else x15_30))) → D (T0.setTop (mkF m 144 #[.val (.long p1), .second, .val (.long p2), .second, .val (.long p3), .second, .val (.long p4), .second, .val (.int p5), .val (.long x9_7), .second, .val (.long x11_14), .second, .val (.long x13_22), .second, .val (.long x15_30), .second, .val (.int v42s0), .val (.int v56s0), .val (.int v70s0), .val (.int v85s0), .val (.int v100s0), .val (.int x22_110), .unset, .unset, .unset, .unset, .unset, .unset, .unset, .unset, .unset] [(.long v144s0)])) by
    by_cases c112_0 : x22_110 = (0 : Int32)
    · refine A (XS.ifNo X0.here hx rfl (hb hby at_112) rfl ((if0 _ _).trans (teq c112_0).2)) ?_
      show D (T0.setTop (mkF m 115 #[.val (.long p1), .second, .val (.long p2), .second, .val (.long p3), .second, .val (.long p4), .second, .val (.int p5), .val (.long x9_7), .second, .val (.long x11_14), .second, .val (.long x13_22), .second, .val (.long x15_30), .second, .val (.int v42s0), .val (.int v56s0), .val (.int v70s0), .val (.int v85s0), .val (.int v100s0), .val (.int x22_110), .unset, .unset, .unset, .unset, .unset, .unset, .unset, .unset, .unset] []))
      refine A (XS.lload X0.here hx rfl (hb hby at_115) rfl) ?_
      show D (T0.setTop (mkF m 117 #[.val (.long p1), .second, .val (.long p2), .second, .val (.long p3), .second, .val (.long p4), .second, .val (.int p5), .val (.long x9_7), .second, .val (.long x11_14), .second, .val (.long x13_22), .second, .val (.long x15_30), .second, .val (.int v42s0), .val (.int v56s0), .val (.int v70s0), .val (.int v85s0), .val (.int v100s0), .val (.int x22_110), .unset, .unset, .unset, .unset, .unset, .unset, .unset, .unset, .unset] [(.long x9_7)]))
      refine A (XS.goto X0.here hx rfl (pc0 := 117) (pc' := 144) rfl (hb hby at_117) (by decide) (by decide)) ?_
      show D (T0.setTop (mkF m 144 #[.val (.long p1), .second, .val (.long p2), .second, .val (.long p3), .second, .val (.long p4), .second, .val (.int p5), .val (.long x9_7), .second, .val (.long x11_14), .second, .val (.long x13_22), .second, .val (.long x15_30), .second, .val (.int v42s0), .val (.int v56s0), .val (.int v70s0), .val (.int v85s0), .val (.int v100s0), .val (.int x22_110), .unset, .unset, .unset, .unset, .unset, .unset, .unset, .unset, .unset] [(.long x9_7)]))
      exact Km144_6 _ ((if_pos c112_0)).symm
    · refine A (XS.ifYes X0.here hx rfl (pc0 := 112) (pc' := 120) rfl (hb hby at_112) rfl ((if0 _ _).trans (feq c112_0).2) (by decide) (by decide)) ?_
      show D (T0.setTop (mkF m 120 #[.val (.long p1), .second, .val (.long p2), .second, .val (.long p3), .second, .val (.long p4), .second, .val (.int p5), .val (.long x9_7), .second, .val (.long x11_14), .second, .val (.long x13_22), .second, .val (.long x15_30), .second, .val (.int v42s0), .val (.int v56s0), .val (.int v70s0), .val (.int v85s0), .val (.int v100s0), .val (.int x22_110), .unset, .unset, .unset, .unset, .unset, .unset, .unset, .unset, .unset] []))
      refine A (XS.iload X0.here hx rfl (hb hby at_120) rfl) ?_
      show D (T0.setTop (mkF m 122 #[.val (.long p1), .second, .val (.long p2), .second, .val (.long p3), .second, .val (.long p4), .second, .val (.int p5), .val (.long x9_7), .second, .val (.long x11_14), .second, .val (.long x13_22), .second, .val (.long x15_30), .second, .val (.int v42s0), .val (.int v56s0), .val (.int v70s0), .val (.int v85s0), .val (.int v100s0), .val (.int x22_110), .unset, .unset, .unset, .unset, .unset, .unset, .unset, .unset, .unset] [(.int x22_110)]))
      refine A (XS.iconst X0.here hx rfl (hb hby at_122)) ?_
      show D (T0.setTop (mkF m 123 #[.val (.long p1), .second, .val (.long p2), .second, .val (.long p3), .second, .val (.long p4), .second, .val (.int p5), .val (.long x9_7), .second, .val (.long x11_14), .second, .val (.long x13_22), .second, .val (.long x15_30), .second, .val (.int v42s0), .val (.int v56s0), .val (.int v70s0), .val (.int v85s0), .val (.int v100s0), .val (.int x22_110), .unset, .unset, .unset, .unset, .unset, .unset, .unset, .unset, .unset] [(.int (1 : Int32)), (.int x22_110)]))
      by_cases c123_1 : x22_110 = (1 : Int32)
      · refine A (XS.icmpNo X0.here hx rfl (hb hby at_123) rfl (teq c123_1).2) ?_
        show D (T0.setTop (mkF m 126 #[.val (.long p1), .second, .val (.long p2), .second, .val (.long p3), .second, .val (.long p4), .second, .val (.int p5), .val (.long x9_7), .second, .val (.long x11_14), .second, .val (.long x13_22), .second, .val (.long x15_30), .second, .val (.int v42s0), .val (.int v56s0), .val (.int v70s0), .val (.int v85s0), .val (.int v100s0), .val (.int x22_110), .unset, .unset, .unset, .unset, .unset, .unset, .unset, .unset, .unset] []))
        refine A (XS.lload X0.here hx rfl (hb hby at_126) rfl) ?_
        show D (T0.setTop (mkF m 128 #[.val (.long p1), .second, .val (.long p2), .second, .val (.long p3), .second, .val (.long p4), .second, .val (.int p5), .val (.long x9_7), .second, .val (.long x11_14), .second, .val (.long x13_22), .second, .val (.long x15_30), .second, .val (.int v42s0), .val (.int v56s0), .val (.int v70s0), .val (.int v85s0), .val (.int v100s0), .val (.int x22_110), .unset, .unset, .unset, .unset, .unset, .unset, .unset, .unset, .unset] [(.long x11_14)]))
        refine A (XS.goto X0.here hx rfl (pc0 := 128) (pc' := 144) rfl (hb hby at_128) (by decide) (by decide)) ?_
        show D (T0.setTop (mkF m 144 #[.val (.long p1), .second, .val (.long p2), .second, .val (.long p3), .second, .val (.long p4), .second, .val (.int p5), .val (.long x9_7), .second, .val (.long x11_14), .second, .val (.long x13_22), .second, .val (.long x15_30), .second, .val (.int v42s0), .val (.int v56s0), .val (.int v70s0), .val (.int v85s0), .val (.int v100s0), .val (.int x22_110), .unset, .unset, .unset, .unset, .unset, .unset, .unset, .unset, .unset] [(.long x11_14)]))
        exact Km144_6 _ (((if_neg c112_0)).trans (if_pos c123_1)).symm
      · refine A (XS.icmpYes X0.here hx rfl (pc0 := 123) (pc' := 131) rfl (hb hby at_123) rfl (feq c123_1).2 (by decide) (by decide)) ?_
        show D (T0.setTop (mkF m 131 #[.val (.long p1), .second, .val (.long p2), .second, .val (.long p3), .second, .val (.long p4), .second, .val (.int p5), .val (.long x9_7), .second, .val (.long x11_14), .second, .val (.long x13_22), .second, .val (.long x15_30), .second, .val (.int v42s0), .val (.int v56s0), .val (.int v70s0), .val (.int v85s0), .val (.int v100s0), .val (.int x22_110), .unset, .unset, .unset, .unset, .unset, .unset, .unset, .unset, .unset] []))
        refine A (XS.iload X0.here hx rfl (hb hby at_131) rfl) ?_
        show D (T0.setTop (mkF m 133 #[.val (.long p1), .second, .val (.long p2), .second, .val (.long p3), .second, .val (.long p4), .second, .val (.int p5), .val (.long x9_7), .second, .val (.long x11_14), .second, .val (.long x13_22), .second, .val (.long x15_30), .second, .val (.int v42s0), .val (.int v56s0), .val (.int v70s0), .val (.int v85s0), .val (.int v100s0), .val (.int x22_110), .unset, .unset, .unset, .unset, .unset, .unset, .unset, .unset, .unset] [(.int x22_110)]))
        refine A (XS.iconst X0.here hx rfl (hb hby at_133)) ?_
        show D (T0.setTop (mkF m 134 #[.val (.long p1), .second, .val (.long p2), .second, .val (.long p3), .second, .val (.long p4), .second, .val (.int p5), .val (.long x9_7), .second, .val (.long x11_14), .second, .val (.long x13_22), .second, .val (.long x15_30), .second, .val (.int v42s0), .val (.int v56s0), .val (.int v70s0), .val (.int v85s0), .val (.int v100s0), .val (.int x22_110), .unset, .unset, .unset, .unset, .unset, .unset, .unset, .unset, .unset] [(.int (2 : Int32)), (.int x22_110)]))
        by_cases c134_2 : x22_110 = (2 : Int32)
        · refine A (XS.icmpNo X0.here hx rfl (hb hby at_134) rfl (teq c134_2).2) ?_
          show D (T0.setTop (mkF m 137 #[.val (.long p1), .second, .val (.long p2), .second, .val (.long p3), .second, .val (.long p4), .second, .val (.int p5), .val (.long x9_7), .second, .val (.long x11_14), .second, .val (.long x13_22), .second, .val (.long x15_30), .second, .val (.int v42s0), .val (.int v56s0), .val (.int v70s0), .val (.int v85s0), .val (.int v100s0), .val (.int x22_110), .unset, .unset, .unset, .unset, .unset, .unset, .unset, .unset, .unset] []))
          refine A (XS.lload X0.here hx rfl (hb hby at_137) rfl) ?_
          show D (T0.setTop (mkF m 139 #[.val (.long p1), .second, .val (.long p2), .second, .val (.long p3), .second, .val (.long p4), .second, .val (.int p5), .val (.long x9_7), .second, .val (.long x11_14), .second, .val (.long x13_22), .second, .val (.long x15_30), .second, .val (.int v42s0), .val (.int v56s0), .val (.int v70s0), .val (.int v85s0), .val (.int v100s0), .val (.int x22_110), .unset, .unset, .unset, .unset, .unset, .unset, .unset, .unset, .unset] [(.long x13_22)]))
          refine A (XS.goto X0.here hx rfl (pc0 := 139) (pc' := 144) rfl (hb hby at_139) (by decide) (by decide)) ?_
          show D (T0.setTop (mkF m 144 #[.val (.long p1), .second, .val (.long p2), .second, .val (.long p3), .second, .val (.long p4), .second, .val (.int p5), .val (.long x9_7), .second, .val (.long x11_14), .second, .val (.long x13_22), .second, .val (.long x15_30), .second, .val (.int v42s0), .val (.int v56s0), .val (.int v70s0), .val (.int v85s0), .val (.int v100s0), .val (.int x22_110), .unset, .unset, .unset, .unset, .unset, .unset, .unset, .unset, .unset] [(.long x13_22)]))
          exact Km144_6 _ ((((if_neg c112_0)).trans (if_neg c123_1)).trans (if_pos c134_2)).symm
        · refine A (XS.icmpYes X0.here hx rfl (pc0 := 134) (pc' := 142) rfl (hb hby at_134) rfl (feq c134_2).2 (by decide) (by decide)) ?_
          show D (T0.setTop (mkF m 142 #[.val (.long p1), .second, .val (.long p2), .second, .val (.long p3), .second, .val (.long p4), .second, .val (.int p5), .val (.long x9_7), .second, .val (.long x11_14), .second, .val (.long x13_22), .second, .val (.long x15_30), .second, .val (.int v42s0), .val (.int v56s0), .val (.int v70s0), .val (.int v85s0), .val (.int v100s0), .val (.int x22_110), .unset, .unset, .unset, .unset, .unset, .unset, .unset, .unset, .unset] []))
          refine A (XS.lload X0.here hx rfl (hb hby at_142) rfl) ?_
          show D (T0.setTop (mkF m 144 #[.val (.long p1), .second, .val (.long p2), .second, .val (.long p3), .second, .val (.long p4), .second, .val (.int p5), .val (.long x9_7), .second, .val (.long x11_14), .second, .val (.long x13_22), .second, .val (.long x15_30), .second, .val (.int v42s0), .val (.int v56s0), .val (.int v70s0), .val (.int v85s0), .val (.int v100s0), .val (.int x22_110), .unset, .unset, .unset, .unset, .unset, .unset, .unset, .unset, .unset] [(.long x15_30)]))
          exact Km144_6 _ ((((if_neg c112_0)).trans (if_neg c123_1)).trans (if_neg c134_2)).symm
  intro v144s0 hv144s0
  show D (T0.setTop (mkF m 144 #[.val (.long p1), .second, .val (.long p2), .second, .val (.long p3), .second, .val (.long p4), .second, .val (.int p5), .val (.long x9_7), .second, .val (.long x11_14), .second, .val (.long x13_22), .second, .val (.long x15_30), .second, .val (.int v42s0), .val (.int v56s0), .val (.int v70s0), .val (.int v85s0), .val (.int v100s0), .val (.int x22_110), .unset, .unset, .unset, .unset, .unset, .unset, .unset, .unset, .unset] [(.long v144s0)]))
  refine A (XS.lstore X0.here hx rfl (hb hby at_144) rfl (l' := #[.val (.long p1), .second, .val (.long p2), .second, .val (.long p3), .second, .val (.long p4), .second, .val (.int p5), .val (.long x9_7), .second, .val (.long x11_14), .second, .val (.long x13_22), .second, .val (.long x15_30), .second, .val (.int v42s0), .val (.int v56s0), .val (.int v70s0), .val (.int v85s0), .val (.int v100s0), .val (.int x22_110), .val (.long v144s0), .second, .unset, .unset, .unset, .unset, .unset, .unset, .unset]) rfl) ?_
  show D (T0.setTop (mkF m 146 #[.val (.long p1), .second, .val (.long p2), .second, .val (.long p3), .second, .val (.long p4), .second, .val (.int p5), .val (.long x9_7), .second, .val (.long x11_14), .second, .val (.long x13_22), .second, .val (.long x15_30), .second, .val (.int v42s0), .val (.int v56s0), .val (.int v70s0), .val (.int v85s0), .val (.int v100s0), .val (.int x22_110), .val (.long v144s0), .second, .unset, .unset, .unset, .unset, .unset, .unset, .unset] []))
  have hk23 : v144s0 ≠ -1 := by
    rw [hv144s0]
    repeat' split
    all_goals assumption
  refine A (XS.lload X0.here hx rfl (hb hby at_146) rfl) ?_
  show D (T0.setTop (mkF m 148 #[.val (.long p1), .second, .val (.long p2), .second, .val (.long p3), .second, .val (.long p4), .second, .val (.int p5), .val (.long x9_7), .second, .val (.long x11_14), .second, .val (.long x13_22), .second, .val (.long x15_30), .second, .val (.int v42s0), .val (.int v56s0), .val (.int v70s0), .val (.int v85s0), .val (.int v100s0), .val (.int x22_110), .val (.long v144s0), .second, .unset, .unset, .unset, .unset, .unset, .unset, .unset] [(.long v144s0)]))
  refine A (XS.iload X0.here hx rfl (hb hby at_148) rfl) ?_
  show D (T0.setTop (mkF m 150 #[.val (.long p1), .second, .val (.long p2), .second, .val (.long p3), .second, .val (.long p4), .second, .val (.int p5), .val (.long x9_7), .second, .val (.long x11_14), .second, .val (.long x13_22), .second, .val (.long x15_30), .second, .val (.int v42s0), .val (.int v56s0), .val (.int v70s0), .val (.int v85s0), .val (.int v100s0), .val (.int x22_110), .val (.long v144s0), .second, .unset, .unset, .unset, .unset, .unset, .unset, .unset] [(.int v42s0), (.long v144s0)]))
  refine A (XS.iload X0.here hx rfl (hb hby at_150) rfl) ?_
  show D (T0.setTop (mkF m 152 #[.val (.long p1), .second, .val (.long p2), .second, .val (.long p3), .second, .val (.long p4), .second, .val (.int p5), .val (.long x9_7), .second, .val (.long x11_14), .second, .val (.long x13_22), .second, .val (.long x15_30), .second, .val (.int v42s0), .val (.int v56s0), .val (.int v70s0), .val (.int v85s0), .val (.int v100s0), .val (.int x22_110), .val (.long v144s0), .second, .unset, .unset, .unset, .unset, .unset, .unset, .unset] [(.int v56s0), (.int v42s0), (.long v144s0)]))
  refine A (XS.iload X0.here hx rfl (hb hby at_152) rfl) ?_
  show D (T0.setTop (mkF m 154 #[.val (.long p1), .second, .val (.long p2), .second, .val (.long p3), .second, .val (.long p4), .second, .val (.int p5), .val (.long x9_7), .second, .val (.long x11_14), .second, .val (.long x13_22), .second, .val (.long x15_30), .second, .val (.int v42s0), .val (.int v56s0), .val (.int v70s0), .val (.int v85s0), .val (.int v100s0), .val (.int x22_110), .val (.long v144s0), .second, .unset, .unset, .unset, .unset, .unset, .unset, .unset] [(.int v70s0), (.int v56s0), (.int v42s0), (.long v144s0)]))
  refine A (XS.iload X0.here hx rfl (hb hby at_154) rfl) ?_
  show D (T0.setTop (mkF m 156 #[.val (.long p1), .second, .val (.long p2), .second, .val (.long p3), .second, .val (.long p4), .second, .val (.int p5), .val (.long x9_7), .second, .val (.long x11_14), .second, .val (.long x13_22), .second, .val (.long x15_30), .second, .val (.int v42s0), .val (.int v56s0), .val (.int v70s0), .val (.int v85s0), .val (.int v100s0), .val (.int x22_110), .val (.long v144s0), .second, .unset, .unset, .unset, .unset, .unset, .unset, .unset] [(.int v85s0), (.int v70s0), (.int v56s0), (.int v42s0), (.long v144s0)]))
  refine A (XS.lload X0.here hx rfl (hb hby at_156) rfl) ?_
  show D (T0.setTop (mkF m 158 #[.val (.long p1), .second, .val (.long p2), .second, .val (.long p3), .second, .val (.long p4), .second, .val (.int p5), .val (.long x9_7), .second, .val (.long x11_14), .second, .val (.long x13_22), .second, .val (.long x15_30), .second, .val (.int v42s0), .val (.int v56s0), .val (.int v70s0), .val (.int v85s0), .val (.int v100s0), .val (.int x22_110), .val (.long v144s0), .second, .unset, .unset, .unset, .unset, .unset, .unset, .unset] [(.long x9_7), (.int v85s0), (.int v70s0), (.int v56s0), (.int v42s0), (.long v144s0)]))
  refine A (XS.lload X0.here hx rfl (hb hby at_158) rfl) ?_
  show D (T0.setTop (mkF m 160 #[.val (.long p1), .second, .val (.long p2), .second, .val (.long p3), .second, .val (.long p4), .second, .val (.int p5), .val (.long x9_7), .second, .val (.long x11_14), .second, .val (.long x13_22), .second, .val (.long x15_30), .second, .val (.int v42s0), .val (.int v56s0), .val (.int v70s0), .val (.int v85s0), .val (.int v100s0), .val (.int x22_110), .val (.long v144s0), .second, .unset, .unset, .unset, .unset, .unset, .unset, .unset] [(.long x11_14), (.long x9_7), (.int v85s0), (.int v70s0), (.int v56s0), (.int v42s0), (.long v144s0)]))
  refine A (XS.lload X0.here hx rfl (hb hby at_160) rfl) ?_
  show D (T0.setTop (mkF m 162 #[.val (.long p1), .second, .val (.long p2), .second, .val (.long p3), .second, .val (.long p4), .second, .val (.int p5), .val (.long x9_7), .second, .val (.long x11_14), .second, .val (.long x13_22), .second, .val (.long x15_30), .second, .val (.int v42s0), .val (.int v56s0), .val (.int v70s0), .val (.int v85s0), .val (.int v100s0), .val (.int x22_110), .val (.long v144s0), .second, .unset, .unset, .unset, .unset, .unset, .unset, .unset] [(.long x13_22), (.long x11_14), (.long x9_7), (.int v85s0), (.int v70s0), (.int v56s0), (.int v42s0), (.long v144s0)]))
  refine Adv.callS A X0 hx hZ hown (hw _ (List.mem_of_getElem? (i := 1) rfl)) (hw _ (List.mem_of_getElem? (i := 2) rfl)) (hw _ (List.mem_of_getElem? (i := 3) rfl)) (hw _ (List.mem_of_getElem? (i := 4) rfl)) e0 (rm1 l Z a0 hw [] v144s0 v42s0 v56s0 v70s0 v85s0 x9_7 x11_14 x13_22 h0 n0) 0 (g := (mkF m 162 #[.val (.long p1), .second, .val (.long p2), .second, .val (.long p3), .second, .val (.long p4), .second, .val (.int p5), .val (.long x9_7), .second, .val (.long x11_14), .second, .val (.long x13_22), .second, .val (.long x15_30), .second, .val (.int v42s0), .val (.int v56s0), .val (.int v70s0), .val (.int v85s0), .val (.int v100s0), .val (.int x22_110), .val (.long v144s0), .second, .unset, .unset, .unset, .unset, .unset, .unset, .unset] [(.long x13_22), (.long x11_14), (.long x9_7), (.int v85s0), (.int v70s0), (.int v56s0), (.int v42s0), (.long v144s0)])) rfl (by rw [hml]; rfl) [(.long v144s0), (.int v42s0), (.int v56s0), (.int v70s0), (.int v85s0), (.long x9_7), (.long x11_14), (.long x13_22)] [] rfl (lenOf pd0_0 rfl) rfl (by show 2 * 0 + _ ≤ _; exact Nat.le_of_eq rfl) (hb hby at_162) (by decide) (by decide) (by decide) (by decide) (by decide) ?_
  rintro T7 L7 _ X7 ⟨rfl, N7_q, e7⟩
  have N7 := Fr.app (Fr.nil n0) N7_q
  show D (T7.setTop (mkF m 165 #[.val (.long p1), .second, .val (.long p2), .second, .val (.long p3), .second, .val (.long p4), .second, .val (.int p5), .val (.long x9_7), .second, .val (.long x11_14), .second, .val (.long x13_22), .second, .val (.long x15_30), .second, .val (.int v42s0), .val (.int v56s0), .val (.int v70s0), .val (.int v85s0), .val (.int v100s0), .val (.int x22_110), .val (.long v144s0), .second, .unset, .unset, .unset, .unset, .unset, .unset, .unset] [(.int (f1 v144s0 v42s0 v56s0 v70s0 v85s0 x9_7 x11_14 x13_22))]))
  refine A (XS.istore X7.here hx rfl (hb hby at_165) rfl (l' := #[.val (.long p1), .second, .val (.long p2), .second, .val (.long p3), .second, .val (.long p4), .second, .val (.int p5), .val (.long x9_7), .second, .val (.long x11_14), .second, .val (.long x13_22), .second, .val (.long x15_30), .second, .val (.int v42s0), .val (.int v56s0), .val (.int v70s0), .val (.int v85s0), .val (.int v100s0), .val (.int x22_110), .val (.long v144s0), .second, .val (.int (f1 v144s0 v42s0 v56s0 v70s0 v85s0 x9_7 x11_14 x13_22)), .unset, .unset, .unset, .unset, .unset, .unset]) rfl) ?_
  show D (T7.setTop (mkF m 167 #[.val (.long p1), .second, .val (.long p2), .second, .val (.long p3), .second, .val (.long p4), .second, .val (.int p5), .val (.long x9_7), .second, .val (.long x11_14), .second, .val (.long x13_22), .second, .val (.long x15_30), .second, .val (.int v42s0), .val (.int v56s0), .val (.int v70s0), .val (.int v85s0), .val (.int v100s0), .val (.int x22_110), .val (.long v144s0), .second, .val (.int (f1 v144s0 v42s0 v56s0 v70s0 v85s0 x9_7 x11_14 x13_22)), .unset, .unset, .unset, .unset, .unset, .unset] []))
  suffices Kx25_167 : ∀ x25_167 : Int32, x25_167 = (f1 v144s0 v42s0 v56s0 v70s0 v85s0 x9_7 x11_14 x13_22) → D (T7.setTop (mkF m 167 #[.val (.long p1), .second, .val (.long p2), .second, .val (.long p3), .second, .val (.long p4), .second, .val (.int p5), .val (.long x9_7), .second, .val (.long x11_14), .second, .val (.long x13_22), .second, .val (.long x15_30), .second, .val (.int v42s0), .val (.int v56s0), .val (.int v70s0), .val (.int v85s0), .val (.int v100s0), .val (.int x22_110), .val (.long v144s0), .second, .val (.int x25_167), .unset, .unset, .unset, .unset, .unset, .unset] [])) from Kx25_167 _ rfl
  intro x25_167 hx25_167
  refine A (XS.iload X7.here hx rfl (hb hby at_167) rfl) ?_
  show D (T7.setTop (mkF m 169 #[.val (.long p1), .second, .val (.long p2), .second, .val (.long p3), .second, .val (.long p4), .second, .val (.int p5), .val (.long x9_7), .second, .val (.long x11_14), .second, .val (.long x13_22), .second, .val (.long x15_30), .second, .val (.int v42s0), .val (.int v56s0), .val (.int v70s0), .val (.int v85s0), .val (.int v100s0), .val (.int x22_110), .val (.long v144s0), .second, .val (.int x25_167), .unset, .unset, .unset, .unset, .unset, .unset] [(.int v100s0)]))
  suffices Km182_8 : ∀ (v182s0 : Int32), v182s0 = (if v100s0 = (0 : Int32) then (0 : Int32) else (if (0 : Int32) < x25_167 then (1 : Int32) else (0 : Int32))) → D (T7.setTop (mkF m 182 #[.val (.long p1), .second, .val (.long p2), .second, .val (.long p3), .second, .val (.long p4), .second, .val (.int p5), .val (.long x9_7), .second, .val (.long x11_14), .second, .val (.long x13_22), .second, .val (.long x15_30), .second, .val (.int v42s0), .val (.int v56s0), .val (.int v70s0), .val (.int v85s0), .val (.int v100s0), .val (.int x22_110), .val (.long v144s0), .second, .val (.int x25_167), .unset, .unset, .unset, .unset, .unset, .unset] [(.int v182s0)])) by
    by_cases c169_0 : v100s0 = (0 : Int32)
    · refine A (XS.ifYes X7.here hx rfl (pc0 := 169) (pc' := 181) rfl (hb hby at_169) rfl ((if0 _ _).trans (teq c169_0).1) (by decide) (by decide)) ?_
      show D (T7.setTop (mkF m 181 #[.val (.long p1), .second, .val (.long p2), .second, .val (.long p3), .second, .val (.long p4), .second, .val (.int p5), .val (.long x9_7), .second, .val (.long x11_14), .second, .val (.long x13_22), .second, .val (.long x15_30), .second, .val (.int v42s0), .val (.int v56s0), .val (.int v70s0), .val (.int v85s0), .val (.int v100s0), .val (.int x22_110), .val (.long v144s0), .second, .val (.int x25_167), .unset, .unset, .unset, .unset, .unset, .unset] []))
      refine A (XS.iconst X7.here hx rfl (hb hby at_181)) ?_
      show D (T7.setTop (mkF m 182 #[.val (.long p1), .second, .val (.long p2), .second, .val (.long p3), .second, .val (.long p4), .second, .val (.int p5), .val (.long x9_7), .second, .val (.long x11_14), .second, .val (.long x13_22), .second, .val (.long x15_30), .second, .val (.int v42s0), .val (.int v56s0), .val (.int v70s0), .val (.int v85s0), .val (.int v100s0), .val (.int x22_110), .val (.long v144s0), .second, .val (.int x25_167), .unset, .unset, .unset, .unset, .unset, .unset] [(.int (0 : Int32))]))
      exact Km182_8 _ ((if_pos c169_0)).symm
    · refine A (XS.ifNo X7.here hx rfl (hb hby at_169) rfl ((if0 _ _).trans (feq c169_0).1)) ?_
      show D (T7.setTop (mkF m 172 #[.val (.long p1), .second, .val (.long p2), .second, .val (.long p3), .second, .val (.long p4), .second, .val (.int p5), .val (.long x9_7), .second, .val (.long x11_14), .second, .val (.long x13_22), .second, .val (.long x15_30), .second, .val (.int v42s0), .val (.int v56s0), .val (.int v70s0), .val (.int v85s0), .val (.int v100s0), .val (.int x22_110), .val (.long v144s0), .second, .val (.int x25_167), .unset, .unset, .unset, .unset, .unset, .unset] []))
      refine A (XS.iload X7.here hx rfl (hb hby at_172) rfl) ?_
      show D (T7.setTop (mkF m 174 #[.val (.long p1), .second, .val (.long p2), .second, .val (.long p3), .second, .val (.long p4), .second, .val (.int p5), .val (.long x9_7), .second, .val (.long x11_14), .second, .val (.long x13_22), .second, .val (.long x15_30), .second, .val (.int v42s0), .val (.int v56s0), .val (.int v70s0), .val (.int v85s0), .val (.int v100s0), .val (.int x22_110), .val (.long v144s0), .second, .val (.int x25_167), .unset, .unset, .unset, .unset, .unset, .unset] [(.int x25_167)]))
      by_cases c174_1 : (0 : Int32) < x25_167
      · refine A (XS.ifNo X7.here hx rfl (hb hby at_174) rfl ((if0 _ _).trans (tlt c174_1).2.2.2)) ?_
        show D (T7.setTop (mkF m 177 #[.val (.long p1), .second, .val (.long p2), .second, .val (.long p3), .second, .val (.long p4), .second, .val (.int p5), .val (.long x9_7), .second, .val (.long x11_14), .second, .val (.long x13_22), .second, .val (.long x15_30), .second, .val (.int v42s0), .val (.int v56s0), .val (.int v70s0), .val (.int v85s0), .val (.int v100s0), .val (.int x22_110), .val (.long v144s0), .second, .val (.int x25_167), .unset, .unset, .unset, .unset, .unset, .unset] []))
        refine A (XS.iconst X7.here hx rfl (hb hby at_177)) ?_
        show D (T7.setTop (mkF m 178 #[.val (.long p1), .second, .val (.long p2), .second, .val (.long p3), .second, .val (.long p4), .second, .val (.int p5), .val (.long x9_7), .second, .val (.long x11_14), .second, .val (.long x13_22), .second, .val (.long x15_30), .second, .val (.int v42s0), .val (.int v56s0), .val (.int v70s0), .val (.int v85s0), .val (.int v100s0), .val (.int x22_110), .val (.long v144s0), .second, .val (.int x25_167), .unset, .unset, .unset, .unset, .unset, .unset] [(.int (1 : Int32))]))
        refine A (XS.goto X7.here hx rfl (pc0 := 178) (pc' := 182) rfl (hb hby at_178) (by decide) (by decide)) ?_
        show D (T7.setTop (mkF m 182 #[.val (.long p1), .second, .val (.long p2), .second, .val (.long p3), .second, .val (.long p4), .second, .val (.int p5), .val (.long x9_7), .second, .val (.long x11_14), .second, .val (.long x13_22), .second, .val (.long x15_30), .second, .val (.int v42s0), .val (.int v56s0), .val (.int v70s0), .val (.int v85s0), .val (.int v100s0), .val (.int x22_110), .val (.long v144s0), .second, .val (.int x25_167), .unset, .unset, .unset, .unset, .unset, .unset] [(.int (1 : Int32))]))
        exact Km182_8 _ (((if_neg c169_0)).trans (if_pos c174_1)).symm
      · refine A (XS.ifYes X7.here hx rfl (pc0 := 174) (pc' := 181) rfl (hb hby at_174) rfl ((if0 _ _).trans (flt c174_1).2.2.2) (by decide) (by decide)) ?_
        show D (T7.setTop (mkF m 181 #[.val (.long p1), .second, .val (.long p2), .second, .val (.long p3), .second, .val (.long p4), .second, .val (.int p5), .val (.long x9_7), .second, .val (.long x11_14), .second, .val (.long x13_22), .second, .val (.long x15_30), .second, .val (.int v42s0), .val (.int v56s0), .val (.int v70s0), .val (.int v85s0), .val (.int v100s0), .val (.int x22_110), .val (.long v144s0), .second, .val (.int x25_167), .unset, .unset, .unset, .unset, .unset, .unset] []))
        refine A (XS.iconst X7.here hx rfl (hb hby at_181)) ?_
        show D (T7.setTop (mkF m 182 #[.val (.long p1), .second, .val (.long p2), .second, .val (.long p3), .second, .val (.long p4), .second, .val (.int p5), .val (.long x9_7), .second, .val (.long x11_14), .second, .val (.long x13_22), .second, .val (.long x15_30), .second, .val (.int v42s0), .val (.int v56s0), .val (.int v70s0), .val (.int v85s0), .val (.int v100s0), .val (.int x22_110), .val (.long v144s0), .second, .val (.int x25_167), .unset, .unset, .unset, .unset, .unset, .unset] [(.int (0 : Int32))]))
        exact Km182_8 _ (((if_neg c169_0)).trans (if_neg c174_1)).symm
  intro v182s0 hv182s0
  show D (T7.setTop (mkF m 182 #[.val (.long p1), .second, .val (.long p2), .second, .val (.long p3), .second, .val (.long p4), .second, .val (.int p5), .val (.long x9_7), .second, .val (.long x11_14), .second, .val (.long x13_22), .second, .val (.long x15_30), .second, .val (.int v42s0), .val (.int v56s0), .val (.int v70s0), .val (.int v85s0), .val (.int v100s0), .val (.int x22_110), .val (.long v144s0), .second, .val (.int x25_167), .unset, .unset, .unset, .unset, .unset, .unset] [(.int v182s0)]))
  refine A (XS.istore X7.here hx rfl (hb hby at_182) rfl (l' := #[.val (.long p1), .second, .val (.long p2), .second, .val (.long p3), .second, .val (.long p4), .second, .val (.int p5), .val (.long x9_7), .second, .val (.long x11_14), .second, .val (.long x13_22), .second, .val (.long x15_30), .second, .val (.int v42s0), .val (.int v56s0), .val (.int v70s0), .val (.int v85s0), .val (.int v100s0), .val (.int x22_110), .val (.long v144s0), .second, .val (.int x25_167), .val (.int v182s0), .unset, .unset, .unset, .unset, .unset]) rfl) ?_
  show D (T7.setTop (mkF m 184 #[.val (.long p1), .second, .val (.long p2), .second, .val (.long p3), .second, .val (.long p4), .second, .val (.int p5), .val (.long x9_7), .second, .val (.long x11_14), .second, .val (.long x13_22), .second, .val (.long x15_30), .second, .val (.int v42s0), .val (.int v56s0), .val (.int v70s0), .val (.int v85s0), .val (.int v100s0), .val (.int x22_110), .val (.long v144s0), .second, .val (.int x25_167), .val (.int v182s0), .unset, .unset, .unset, .unset, .unset] []))
  obtain ⟨T9, h9, X9, e9, E9, A9, D9, -, st9⟩ := newO X7 hx hZ hown (hw _ (List.mem_of_getElem? (i := 5) rfl)) (hw _ (List.mem_of_getElem? (i := 6) rfl)) (hw _ (List.mem_of_getElem? (i := 7) rfl)) e7 (g := (mkF m 184 #[.val (.long p1), .second, .val (.long p2), .second, .val (.long p3), .second, .val (.long p4), .second, .val (.int p5), .val (.long x9_7), .second, .val (.long x11_14), .second, .val (.long x13_22), .second, .val (.long x15_30), .second, .val (.int v42s0), .val (.int v56s0), .val (.int v70s0), .val (.int v85s0), .val (.int v100s0), .val (.int x22_110), .val (.long v144s0), .second, .val (.int x25_167), .val (.int v182s0), .unset, .unset, .unset, .unset, .unset] [])) rfl (hb hby at_184) (by decide) (by decide)
  obtain ⟨b9, q_b9⟩ : ∃ z, z = h0.size := ⟨_, rfl⟩
  rw [← q_b9] at A9 D9 st9
  have g_b9 : n0 ≤ b9 := Nat.le_trans Z0 (Nat.le_of_eq q_b9.symm)
  have Z_9 : n0 ≤ h9.size := Nat.le_trans Z0 E9.1
  have F_keys_b9 : Fld Z h9 b9 "com/example/enklave/enklave/anonymize/CountMap" "keys" "[J" .null := D9 (Or.inl (hw _ (List.mem_of_getElem? (i := 20) rfl))) (ty := (.array .long)) (by decide)
  have F_counts_b9 : Fld Z h9 b9 "com/example/enklave/enklave/anonymize/CountMap" "counts" "[I" .null := D9 (Or.inl (hw _ (List.mem_of_getElem? (i := 28) rfl))) (ty := (.array .int)) (by decide)
  have F_mask_b9 : Fld Z h9 b9 "com/example/enklave/enklave/anonymize/CountMap" "mask" "I" (.int (0 : Int32)) := D9 (Or.inl (hw _ (List.mem_of_getElem? (i := 30) rfl))) (ty := .int) (by decide)
  have F_shift_b9 : Fld Z h9 b9 "com/example/enklave/enklave/anonymize/CountMap" "shift" "I" (.int (0 : Int32)) := D9 (Or.inl (hw _ (List.mem_of_getElem? (i := 41) rfl))) (ty := .int) (by decide)
  have F_size_b9 : Fld Z h9 b9 "com/example/enklave/enklave/anonymize/CountMap" "size" "I" (.int (0 : Int32)) := D9 (Or.inl (hw _ (List.mem_of_getElem? (i := 57) rfl))) (ty := .int) (by decide)
  refine A (st9 _) ?_
  show D (T9.setTop (mkF m 187 #[.val (.long p1), .second, .val (.long p2), .second, .val (.long p3), .second, .val (.long p4), .second, .val (.int p5), .val (.long x9_7), .second, .val (.long x11_14), .second, .val (.long x13_22), .second, .val (.long x15_30), .second, .val (.int v42s0), .val (.int v56s0), .val (.int v70s0), .val (.int v85s0), .val (.int v100s0), .val (.int x22_110), .val (.long v144s0), .second, .val (.int x25_167), .val (.int v182s0), .unset, .unset, .unset, .unset, .unset] [(.ref b9)]))
  refine A (XS.dup X9.here hx rfl (hb hby at_187) rfl rfl) ?_
  show D (T9.setTop (mkF m 188 #[.val (.long p1), .second, .val (.long p2), .second, .val (.long p3), .second, .val (.long p4), .second, .val (.int p5), .val (.long x9_7), .second, .val (.long x11_14), .second, .val (.long x13_22), .second, .val (.long x15_30), .second, .val (.int v42s0), .val (.int v56s0), .val (.int v70s0), .val (.int v85s0), .val (.int v100s0), .val (.int x22_110), .val (.long v144s0), .second, .val (.int x25_167), .val (.int v182s0), .unset, .unset, .unset, .unset, .unset] [(.ref b9), (.ref b9)]))
  refine Adv.callI A X9 hx hZ hown rfl (hw _ (List.mem_of_getElem? (i := 8) rfl)) (hw _ (List.mem_of_getElem? (i := 9) rfl)) (hw _ (List.mem_of_getElem? (i := 7) rfl)) (hw _ (List.mem_of_getElem? (i := 10) rfl)) e9 (rm2 l Z a0 hw [] b9 h9 n0 Z_9 g_b9 A9 F_keys_b9 F_counts_b9 F_mask_b9 F_shift_b9 F_size_b9) 1 (g := (mkF m 188 #[.val (.long p1), .second, .val (.long p2), .second, .val (.long p3), .second, .val (.long p4), .second, .val (.int p5), .val (.long x9_7), .second, .val (.long x11_14), .second, .val (.long x13_22), .second, .val (.long x15_30), .second, .val (.int v42s0), .val (.int v56s0), .val (.int v70s0), .val (.int v85s0), .val (.int v100s0), .val (.int x22_110), .val (.long v144s0), .second, .val (.int x25_167), .val (.int v182s0), .unset, .unset, .unset, .unset, .unset] [(.ref b9), (.ref b9)])) rfl (by rw [hml]; rfl) b9 [] [(.ref b9)] rfl (lenOf pd0_1 rfl) rfl (by show 2 * 0 + _ ≤ _; exact Nat.le_of_eq rfl) (hb hby at_188) (by decide) (by decide) (by decide) (by decide) (by decide) ?_
  rintro T10 L10 _ X10 ⟨rfl, ka10, cb10, N10_q, K10, -, F10_keys, F10_counts, F10_mask, F10_shift, F10_size, V10_k, V10_c, szq_ka10, szq_cb10⟩
  have N10 := Fr.app N7 N10_q
  have ne_b9_ka10 : b9 ≠ ka10 := Nat.ne_of_lt (Nat.lt_of_lt_of_le A9.lt szq_ka10)
  have g_ka10 : n0 ≤ ka10 := Nat.le_trans Z_9 szq_ka10
  have ne_b9_cb10 : b9 ≠ cb10 := Nat.ne_of_lt (Nat.lt_of_lt_of_le A9.lt szq_cb10)
  have g_cb10 : n0 ≤ cb10 := Nat.le_trans Z_9 szq_cb10
  have E_b9_10 := A9.keep K10
  have Z_10 : n0 ≤ T10.heap.size := Nat.le_trans Z_9 K10.1
  show D (T10.setTop (mkF m 191 #[.val (.long p1), .second, .val (.long p2), .second, .val (.long p3), .second, .val (.long p4), .second, .val (.int p5), .val (.long x9_7), .second, .val (.long x11_14), .second, .val (.long x13_22), .second, .val (.long x15_30), .second, .val (.int v42s0), .val (.int v56s0), .val (.int v70s0), .val (.int v85s0), .val (.int v100s0), .val (.int x22_110), .val (.long v144s0), .second, .val (.int x25_167), .val (.int v182s0), .unset, .unset, .unset, .unset, .unset] [(.ref b9)]))
  refine A (XS.astore X10.here hx rfl (hb hby at_191) rfl rfl (l' := #[.val (.long p1), .second, .val (.long p2), .second, .val (.long p3), .second, .val (.long p4), .second, .val (.int p5), .val (.long x9_7), .second, .val (.long x11_14), .second, .val (.long x13_22), .second, .val (.long x15_30), .second, .val (.int v42s0), .val (.int v56s0), .val (.int v70s0), .val (.int v85s0), .val (.int v100s0), .val (.int x22_110), .val (.long v144s0), .second, .val (.int x25_167), .val (.int v182s0), .val (.ref b9), .unset, .unset, .unset, .unset]) rfl) ?_
  show D (T10.setTop (mkF m 193 #[.val (.long p1), .second, .val (.long p2), .second, .val (.long p3), .second, .val (.long p4), .second, .val (.int p5), .val (.long x9_7), .second, .val (.long x11_14), .second, .val (.long x13_22), .second, .val (.long x15_30), .second, .val (.int v42s0), .val (.int v56s0), .val (.int v70s0), .val (.int v85s0), .val (.int v100s0), .val (.int x22_110), .val (.long v144s0), .second, .val (.int x25_167), .val (.int v182s0), .val (.ref b9), .unset, .unset, .unset, .unset] []))
  refine A (XS.iload X10.here hx rfl (hb hby at_193) rfl) ?_
  show D (T10.setTop (mkF m 195 #[.val (.long p1), .second, .val (.long p2), .second, .val (.long p3), .second, .val (.long p4), .second, .val (.int p5), .val (.long x9_7), .second, .val (.long x11_14), .second, .val (.long x13_22), .second, .val (.long x15_30), .second, .val (.int v42s0), .val (.int v56s0), .val (.int v70s0), .val (.int v85s0), .val (.int v100s0), .val (.int x22_110), .val (.long v144s0), .second, .val (.int x25_167), .val (.int v182s0), .val (.ref b9), .unset, .unset, .unset, .unset] [(.int v42s0)]))
  have HJ11 : ∀ (mj206 : Int64 → Int32) (kj206 : Nat → Int64) (cj206 : Nat → Int32) (szj206 : Int32) (T11 : State) (H11 : Heap) (lc11 : List Loc), (own_CM kj206 cj206 mj206) → (own_Occ kj206 1) → (own_Sz szj206 1) → (mj206 = if v42s0 = (0 : Int32) then (fun _ => (0 : Int32)) else own_up (fun _ => (0 : Int32)) x9_7 ((fun _ => (0 : Int32)) x9_7 + 1)) → (Stand p l e room_1 s m #[(.long p1), (.long p2), (.long p3), (.long p4), (.int p5)] below meth c T11 lc11 3 2053) → (T11.heap = H11) → (Fr n0 lc11) → (n0 ≤ H11.size) → (Exa Z H11 b9 "com/example/enklave/enklave/anonymize/CountMap") → (Fld Z H11 b9 "com/example/enklave/enklave/anonymize/CountMap" "keys" "[J" (.ref ka10)) → (Fld Z H11 b9 "com/example/enklave/enklave/anonymize/CountMap" "counts" "[I" (.ref cb10)) → (Fld Z H11 b9 "com/example/enklave/enklave/anonymize/CountMap" "mask" "I" (.int (1023 : Int32))) → (Fld Z H11 b9 "com/example/enklave/enklave/anonymize/CountMap" "shift" "I" (.int (54 : Int32))) → (Fld Z H11 b9 "com/example/enklave/enklave/anonymize/CountMap" "size" "I" (.int szj206)) → (ArJ Z H11 ka10 1024 kj206) → (ArI Z H11 cb10 .int 1024 cj206) → D (T11.setTop (mkF m 206 #[.val (.long p1), .second, .val (.long p2), .second, .val (.long p3), .second, .val (.long p4), .second, .val (.int p5), .val (.long x9_7), .second, .val (.long x11_14), .second, .val (.long x13_22), .second, .val (.long x15_30), .second, .val (.int v42s0), .val (.int v56s0), .val (.int v70s0), .val (.int v85s0), .val (.int v100s0), .val (.int x22_110), .val (.long v144s0), .second, .val (.int x25_167), .val (.int v182s0), .val (.ref b9), .unset, .unset, .unset, .unset] [])) := by
    intro mj206 kj206 cj206 szj206 T11 H11 lc11 hcj206 hoj206 hzj206 hej206 X11 e11 N11 Zq11 E_b9_11 F_keys_b9_11 F_counts_b9_11 F_mask_b9_11 F_shift_b9_11 F_size_b9_11 V_ka10_11 V_cb10_11
    show D (T11.setTop (mkF m 206 #[.val (.long p1), .second, .val (.long p2), .second, .val (.long p3), .second, .val (.long p4), .second, .val (.int p5), .val (.long x9_7), .second, .val (.long x11_14), .second, .val (.long x13_22), .second, .val (.long x15_30), .second, .val (.int v42s0), .val (.int v56s0), .val (.int v70s0), .val (.int v85s0), .val (.int v100s0), .val (.int x22_110), .val (.long v144s0), .second, .val (.int x25_167), .val (.int v182s0), .val (.ref b9), .unset, .unset, .unset, .unset] []))
    refine A (XS.iload X11.here hx rfl (hb hby at_206) rfl) ?_
    show D (T11.setTop (mkF m 208 #[.val (.long p1), .second, .val (.long p2), .second, .val (.long p3), .second, .val (.long p4), .second, .val (.int p5), .val (.long x9_7), .second, .val (.long x11_14), .second, .val (.long x13_22), .second, .val (.long x15_30), .second, .val (.int v42s0), .val (.int v56s0), .val (.int v70s0), .val (.int v85s0), .val (.int v100s0), .val (.int x22_110), .val (.long v144s0), .second, .val (.int x25_167), .val (.int v182s0), .val (.ref b9), .unset, .unset, .unset, .unset] [(.int v56s0)]))
    have HJ12 : ∀ (mj219 : Int64 → Int32) (kj219 : Nat → Int64) (cj219 : Nat → Int32) (szj219 : Int32) (T12 : State) (H12 : Heap) (lc12 : List Loc), (own_CM kj219 cj219 mj219) → (own_Occ kj219 2) → (own_Sz szj219 2) → (mj219 = if v56s0 = (0 : Int32) then mj206 else own_up mj206 x11_14 (mj206 x11_14 + 1)) → (Stand p l e room_1 s m #[(.long p1), (.long p2), (.long p3), (.long p4), (.int p5)] below meth c T12 lc12 3 2053) → (T12.heap = H12) → (Fr n0 lc12) → (n0 ≤ H12.size) → (Exa Z H12 b9 "com/example/enklave/enklave/anonymize/CountMap") → (Fld Z H12 b9 "com/example/enklave/enklave/anonymize/CountMap" "keys" "[J" (.ref ka10)) → (Fld Z H12 b9 "com/example/enklave/enklave/anonymize/CountMap" "counts" "[I" (.ref cb10)) → (Fld Z H12 b9 "com/example/enklave/enklave/anonymize/CountMap" "mask" "I" (.int (1023 : Int32))) → (Fld Z H12 b9 "com/example/enklave/enklave/anonymize/CountMap" "shift" "I" (.int (54 : Int32))) → (Fld Z H12 b9 "com/example/enklave/enklave/anonymize/CountMap" "size" "I" (.int szj219)) → (ArJ Z H12 ka10 1024 kj219) → (ArI Z H12 cb10 .int 1024 cj219) → D (T12.setTop (mkF m 219 #[.val (.long p1), .second, .val (.long p2), .second, .val (.long p3), .second, .val (.long p4), .second, .val (.int p5), .val (.long x9_7), .second, .val (.long x11_14), .second, .val (.long x13_22), .second, .val (.long x15_30), .second, .val (.int v42s0), .val (.int v56s0), .val (.int v70s0), .val (.int v85s0), .val (.int v100s0), .val (.int x22_110), .val (.long v144s0), .second, .val (.int x25_167), .val (.int v182s0), .val (.ref b9), .unset, .unset, .unset, .unset] [])) := by
      intro mj219 kj219 cj219 szj219 T12 H12 lc12 hcj219 hoj219 hzj219 hej219 X12 e12 N12 Zq12 E_b9_12 F_keys_b9_12 F_counts_b9_12 F_mask_b9_12 F_shift_b9_12 F_size_b9_12 V_ka10_12 V_cb10_12
      show D (T12.setTop (mkF m 219 #[.val (.long p1), .second, .val (.long p2), .second, .val (.long p3), .second, .val (.long p4), .second, .val (.int p5), .val (.long x9_7), .second, .val (.long x11_14), .second, .val (.long x13_22), .second, .val (.long x15_30), .second, .val (.int v42s0), .val (.int v56s0), .val (.int v70s0), .val (.int v85s0), .val (.int v100s0), .val (.int x22_110), .val (.long v144s0), .second, .val (.int x25_167), .val (.int v182s0), .val (.ref b9), .unset, .unset, .unset, .unset] []))
      refine A (XS.iload X12.here hx rfl (hb hby at_219) rfl) ?_
      show D (T12.setTop (mkF m 221 #[.val (.long p1), .second, .val (.long p2), .second, .val (.long p3), .second, .val (.long p4), .second, .val (.int p5), .val (.long x9_7), .second, .val (.long x11_14), .second, .val (.long x13_22), .second, .val (.long x15_30), .second, .val (.int v42s0), .val (.int v56s0), .val (.int v70s0), .val (.int v85s0), .val (.int v100s0), .val (.int x22_110), .val (.long v144s0), .second, .val (.int x25_167), .val (.int v182s0), .val (.ref b9), .unset, .unset, .unset, .unset] [(.int v70s0)]))
      have HJ13 : ∀ (mj232 : Int64 → Int32) (kj232 : Nat → Int64) (cj232 : Nat → Int32) (szj232 : Int32) (T13 : State) (H13 : Heap) (lc13 : List Loc), (own_CM kj232 cj232 mj232) → (own_Occ kj232 3) → (own_Sz szj232 3) → (mj232 = if v70s0 = (0 : Int32) then mj219 else own_up mj219 x13_22 (mj219 x13_22 + 1)) → (Stand p l e room_1 s m #[(.long p1), (.long p2), (.long p3), (.long p4), (.int p5)] below meth c T13 lc13 3 2053) → (T13.heap = H13) → (Fr n0 lc13) → (n0 ≤ H13.size) → (Exa Z H13 b9 "com/example/enklave/enklave/anonymize/CountMap") → (Fld Z H13 b9 "com/example/enklave/enklave/anonymize/CountMap" "keys" "[J" (.ref ka10)) → (Fld Z H13 b9 "com/example/enklave/enklave/anonymize/CountMap" "counts" "[I" (.ref cb10)) → (Fld Z H13 b9 "com/example/enklave/enklave/anonymize/CountMap" "mask" "I" (.int (1023 : Int32))) → (Fld Z H13 b9 "com/example/enklave/enklave/anonymize/CountMap" "shift" "I" (.int (54 : Int32))) → (Fld Z H13 b9 "com/example/enklave/enklave/anonymize/CountMap" "size" "I" (.int szj232)) → (ArJ Z H13 ka10 1024 kj232) → (ArI Z H13 cb10 .int 1024 cj232) → D (T13.setTop (mkF m 232 #[.val (.long p1), .second, .val (.long p2), .second, .val (.long p3), .second, .val (.long p4), .second, .val (.int p5), .val (.long x9_7), .second, .val (.long x11_14), .second, .val (.long x13_22), .second, .val (.long x15_30), .second, .val (.int v42s0), .val (.int v56s0), .val (.int v70s0), .val (.int v85s0), .val (.int v100s0), .val (.int x22_110), .val (.long v144s0), .second, .val (.int x25_167), .val (.int v182s0), .val (.ref b9), .unset, .unset, .unset, .unset] [])) := by
        intro mj232 kj232 cj232 szj232 T13 H13 lc13 hcj232 hoj232 hzj232 hej232 X13 e13 N13 Zq13 E_b9_13 F_keys_b9_13 F_counts_b9_13 F_mask_b9_13 F_shift_b9_13 F_size_b9_13 V_ka10_13 V_cb10_13
        show D (T13.setTop (mkF m 232 #[.val (.long p1), .second, .val (.long p2), .second, .val (.long p3), .second, .val (.long p4), .second, .val (.int p5), .val (.long x9_7), .second, .val (.long x11_14), .second, .val (.long x13_22), .second, .val (.long x15_30), .second, .val (.int v42s0), .val (.int v56s0), .val (.int v70s0), .val (.int v85s0), .val (.int v100s0), .val (.int x22_110), .val (.long v144s0), .second, .val (.int x25_167), .val (.int v182s0), .val (.ref b9), .unset, .unset, .unset, .unset] []))
        refine A (XS.iload X13.here hx rfl (hb hby at_232) rfl) ?_
        show D (T13.setTop (mkF m 234 #[.val (.long p1), .second, .val (.long p2), .second, .val (.long p3), .second, .val (.long p4), .second, .val (.int p5), .val (.long x9_7), .second, .val (.long x11_14), .second, .val (.long x13_22), .second, .val (.long x15_30), .second, .val (.int v42s0), .val (.int v56s0), .val (.int v70s0), .val (.int v85s0), .val (.int v100s0), .val (.int x22_110), .val (.long v144s0), .second, .val (.int x25_167), .val (.int v182s0), .val (.ref b9), .unset, .unset, .unset, .unset] [(.int v85s0)]))
        have HJ14 : ∀ (mj245 : Int64 → Int32) (kj245 : Nat → Int64) (cj245 : Nat → Int32) (szj245 : Int32) (T14 : State) (H14 : Heap) (lc14 : List Loc), (own_CM kj245 cj245 mj245) → (own_Occ kj245 4) → (own_Sz szj245 4) → (mj245 = if v85s0 = (0 : Int32) then mj232 else own_up mj232 x9_7 (mj232 x9_7 + 1)) → (Stand p l e room_1 s m #[(.long p1), (.long p2), (.long p3), (.long p4), (.int p5)] below meth c T14 lc14 3 2053) → (T14.heap = H14) → (Fr n0 lc14) → (n0 ≤ H14.size) → (Exa Z H14 b9 "com/example/enklave/enklave/anonymize/CountMap") → (Fld Z H14 b9 "com/example/enklave/enklave/anonymize/CountMap" "keys" "[J" (.ref ka10)) → (Fld Z H14 b9 "com/example/enklave/enklave/anonymize/CountMap" "counts" "[I" (.ref cb10)) → (Fld Z H14 b9 "com/example/enklave/enklave/anonymize/CountMap" "mask" "I" (.int (1023 : Int32))) → (Fld Z H14 b9 "com/example/enklave/enklave/anonymize/CountMap" "shift" "I" (.int (54 : Int32))) → (Fld Z H14 b9 "com/example/enklave/enklave/anonymize/CountMap" "size" "I" (.int szj245)) → (ArJ Z H14 ka10 1024 kj245) → (ArI Z H14 cb10 .int 1024 cj245) → D (T14.setTop (mkF m 245 #[.val (.long p1), .second, .val (.long p2), .second, .val (.long p3), .second, .val (.long p4), .second, .val (.int p5), .val (.long x9_7), .second, .val (.long x11_14), .second, .val (.long x13_22), .second, .val (.long x15_30), .second, .val (.int v42s0), .val (.int v56s0), .val (.int v70s0), .val (.int v85s0), .val (.int v100s0), .val (.int x22_110), .val (.long v144s0), .second, .val (.int x25_167), .val (.int v182s0), .val (.ref b9), .unset, .unset, .unset, .unset] [])) := by
          intro mj245 kj245 cj245 szj245 T14 H14 lc14 hcj245 hoj245 hzj245 hej245 X14 e14 N14 Zq14 E_b9_14 F_keys_b9_14 F_counts_b9_14 F_mask_b9_14 F_shift_b9_14 F_size_b9_14 V_ka10_14 V_cb10_14
          show D (T14.setTop (mkF m 245 #[.val (.long p1), .second, .val (.long p2), .second, .val (.long p3), .second, .val (.long p4), .second, .val (.int p5), .val (.long x9_7), .second, .val (.long x11_14), .second, .val (.long x13_22), .second, .val (.long x15_30), .second, .val (.int v42s0), .val (.int v56s0), .val (.int v70s0), .val (.int v85s0), .val (.int v100s0), .val (.int x22_110), .val (.long v144s0), .second, .val (.int x25_167), .val (.int v182s0), .val (.ref b9), .unset, .unset, .unset, .unset] []))
          refine A (XS.iload X14.here hx rfl (hb hby at_245) rfl) ?_
          show D (T14.setTop (mkF m 247 #[.val (.long p1), .second, .val (.long p2), .second, .val (.long p3), .second, .val (.long p4), .second, .val (.int p5), .val (.long x9_7), .second, .val (.long x11_14), .second, .val (.long x13_22), .second, .val (.long x15_30), .second, .val (.int v42s0), .val (.int v56s0), .val (.int v70s0), .val (.int v85s0), .val (.int v100s0), .val (.int x22_110), .val (.long v144s0), .second, .val (.int x25_167), .val (.int v182s0), .val (.ref b9), .unset, .unset, .unset, .unset] [(.int v182s0)]))
          have hall4 := own_ups hej206 hej219 hej232 hej245
          have HJ15 : ∀ (mj258 : Int64 → Int32) (kj258 : Nat → Int64) (cj258 : Nat → Int32) (szj258 : Int32) (T15 : State) (H15 : Heap) (lc15 : List Loc), (own_CM kj258 cj258 mj258) → (own_Occ kj258 5) → (own_Sz szj258 5) → (mj258 = if v182s0 = (0 : Int32) then mj245 else own_up mj245 v144s0 (mj245 v144s0 - 1)) → (Stand p l e room_1 s m #[(.long p1), (.long p2), (.long p3), (.long p4), (.int p5)] below meth c T15 lc15 3 2053) → (T15.heap = H15) → (Fr n0 lc15) → (n0 ≤ H15.size) → (Exa Z H15 b9 "com/example/enklave/enklave/anonymize/CountMap") → (Fld Z H15 b9 "com/example/enklave/enklave/anonymize/CountMap" "keys" "[J" (.ref ka10)) → (Fld Z H15 b9 "com/example/enklave/enklave/anonymize/CountMap" "counts" "[I" (.ref cb10)) → (Fld Z H15 b9 "com/example/enklave/enklave/anonymize/CountMap" "mask" "I" (.int (1023 : Int32))) → (Fld Z H15 b9 "com/example/enklave/enklave/anonymize/CountMap" "shift" "I" (.int (54 : Int32))) → (Fld Z H15 b9 "com/example/enklave/enklave/anonymize/CountMap" "size" "I" (.int szj258)) → (ArJ Z H15 ka10 1024 kj258) → (ArI Z H15 cb10 .int 1024 cj258) → D (T15.setTop (mkF m 258 #[.val (.long p1), .second, .val (.long p2), .second, .val (.long p3), .second, .val (.long p4), .second, .val (.int p5), .val (.long x9_7), .second, .val (.long x11_14), .second, .val (.long x13_22), .second, .val (.long x15_30), .second, .val (.int v42s0), .val (.int v56s0), .val (.int v70s0), .val (.int v85s0), .val (.int v100s0), .val (.int x22_110), .val (.long v144s0), .second, .val (.int x25_167), .val (.int v182s0), .val (.ref b9), .unset, .unset, .unset, .unset] [])) := by
            intro mj258 kj258 cj258 szj258 T15 H15 lc15 hcj258 hoj258 hzj258 hej258 X15 e15 N15 Zq15 E_b9_15 F_keys_b9_15 F_counts_b9_15 F_mask_b9_15 F_shift_b9_15 F_size_b9_15 V_ka10_15 V_cb10_15
            show D (T15.setTop (mkF m 258 #[.val (.long p1), .second, .val (.long p2), .second, .val (.long p3), .second, .val (.long p4), .second, .val (.int p5), .val (.long x9_7), .second, .val (.long x11_14), .second, .val (.long x13_22), .second, .val (.long x15_30), .second, .val (.int v42s0), .val (.int v56s0), .val (.int v70s0), .val (.int v85s0), .val (.int v100s0), .val (.int x22_110), .val (.long v144s0), .second, .val (.int x25_167), .val (.int v182s0), .val (.ref b9), .unset, .unset, .unset, .unset] []))
            have hall5 := own_ref hall4 hej258
            refine A (XS.aload X15.here hx rfl (hb hby at_258) rfl rfl) ?_
            show D (T15.setTop (mkF m 260 #[.val (.long p1), .second, .val (.long p2), .second, .val (.long p3), .second, .val (.long p4), .second, .val (.int p5), .val (.long x9_7), .second, .val (.long x11_14), .second, .val (.long x13_22), .second, .val (.long x15_30), .second, .val (.int v42s0), .val (.int v56s0), .val (.int v70s0), .val (.int v85s0), .val (.int v100s0), .val (.int x22_110), .val (.long v144s0), .second, .val (.int x25_167), .val (.int v182s0), .val (.ref b9), .unset, .unset, .unset, .unset] [(.ref b9)]))
            refine A (XS.lload X15.here hx rfl (hb hby at_260) rfl) ?_
            show D (T15.setTop (mkF m 262 #[.val (.long p1), .second, .val (.long p2), .second, .val (.long p3), .second, .val (.long p4), .second, .val (.int p5), .val (.long x9_7), .second, .val (.long x11_14), .second, .val (.long x13_22), .second, .val (.long x15_30), .second, .val (.int v42s0), .val (.int v56s0), .val (.int v70s0), .val (.int v85s0), .val (.int v100s0), .val (.int x22_110), .val (.long v144s0), .second, .val (.int x25_167), .val (.int v182s0), .val (.ref b9), .unset, .unset, .unset, .unset] [(.long x9_7), (.ref b9)]))
            refine Adv.callV A X15 hx hZ hown (hw _ (List.mem_of_getElem? (i := 58) rfl)) (hw _ (List.mem_of_getElem? (i := 59) rfl)) (notFace_of_selects (args := #[]) (mvT hZ (hw _ (List.mem_of_getElem? (i := 61) rfl)))) (hw _ (List.mem_of_getElem? (i := 61) rfl)) (hw _ (List.mem_of_getElem? (i := 60) rfl)) (hw _ (List.mem_of_getElem? (i := 7) rfl)) (hw _ (List.mem_of_getElem? (i := 62) rfl)) e15 E_b9_15 (rm11 l Z a0 hw [] b9 x9_7 H15 n0 szj258 ka10 cb10 kj258 cj258 mj258 5 Zq15 g_b9 g_ka10 g_cb10 E_b9_15 F_keys_b9_15 F_counts_b9_15 F_mask_b9_15 F_shift_b9_15 F_size_b9_15 V_ka10_15 V_cb10_15 hoj258 (by decide) hzj258 hcj258 hk9) 0 (g := (mkF m 262 #[.val (.long p1), .second, .val (.long p2), .second, .val (.long p3), .second, .val (.long p4), .second, .val (.int p5), .val (.long x9_7), .second, .val (.long x11_14), .second, .val (.long x13_22), .second, .val (.long x15_30), .second, .val (.int v42s0), .val (.int v56s0), .val (.int v70s0), .val (.int v85s0), .val (.int v100s0), .val (.int x22_110), .val (.long v144s0), .second, .val (.int x25_167), .val (.int v182s0), .val (.ref b9), .unset, .unset, .unset, .unset] [(.long x9_7), (.ref b9)])) rfl (by rw [hml]; rfl) [(.long x9_7)] [] rfl (lenOf pd0_2 rfl) rfl (by show 2 * 0 + _ ≤ _; exact Nat.le_of_eq rfl) (hb hby at_262) (by decide) (by decide) (by decide) (by decide) (by decide) ?_
            rintro T16 L16 _ X16 ⟨rfl, N16_q, e16⟩
            have N16 := Fr.app N15 N16_q
            show D (T16.setTop (mkF m 265 #[.val (.long p1), .second, .val (.long p2), .second, .val (.long p3), .second, .val (.long p4), .second, .val (.int p5), .val (.long x9_7), .second, .val (.long x11_14), .second, .val (.long x13_22), .second, .val (.long x15_30), .second, .val (.int v42s0), .val (.int v56s0), .val (.int v70s0), .val (.int v85s0), .val (.int v100s0), .val (.int x22_110), .val (.long v144s0), .second, .val (.int x25_167), .val (.int v182s0), .val (.ref b9), .unset, .unset, .unset, .unset] [(.int (mj258 x9_7))]))
            refine A (XS.lload X16.here hx rfl (hb hby at_265) rfl) ?_
            show D (T16.setTop (mkF m 267 #[.val (.long p1), .second, .val (.long p2), .second, .val (.long p3), .second, .val (.long p4), .second, .val (.int p5), .val (.long x9_7), .second, .val (.long x11_14), .second, .val (.long x13_22), .second, .val (.long x15_30), .second, .val (.int v42s0), .val (.int v56s0), .val (.int v70s0), .val (.int v85s0), .val (.int v100s0), .val (.int x22_110), .val (.long v144s0), .second, .val (.int x25_167), .val (.int v182s0), .val (.ref b9), .unset, .unset, .unset, .unset] [(.long x9_7), (.int (mj258 x9_7))]))
            refine A (XS.iload X16.here hx rfl (hb hby at_267) rfl) ?_
            show D (T16.setTop (mkF m 269 #[.val (.long p1), .second, .val (.long p2), .second, .val (.long p3), .second, .val (.long p4), .second, .val (.int p5), .val (.long x9_7), .second, .val (.long x11_14), .second, .val (.long x13_22), .second, .val (.long x15_30), .second, .val (.int v42s0), .val (.int v56s0), .val (.int v70s0), .val (.int v85s0), .val (.int v100s0), .val (.int x22_110), .val (.long v144s0), .second, .val (.int x25_167), .val (.int v182s0), .val (.ref b9), .unset, .unset, .unset, .unset] [(.int v42s0), (.long x9_7), (.int (mj258 x9_7))]))
            refine A (XS.iload X16.here hx rfl (hb hby at_269) rfl) ?_
            show D (T16.setTop (mkF m 271 #[.val (.long p1), .second, .val (.long p2), .second, .val (.long p3), .second, .val (.long p4), .second, .val (.int p5), .val (.long x9_7), .second, .val (.long x11_14), .second, .val (.long x13_22), .second, .val (.long x15_30), .second, .val (.int v42s0), .val (.int v56s0), .val (.int v70s0), .val (.int v85s0), .val (.int v100s0), .val (.int x22_110), .val (.long v144s0), .second, .val (.int x25_167), .val (.int v182s0), .val (.ref b9), .unset, .unset, .unset, .unset] [(.int v56s0), (.int v42s0), (.long x9_7), (.int (mj258 x9_7))]))
            refine A (XS.iload X16.here hx rfl (hb hby at_271) rfl) ?_
            show D (T16.setTop (mkF m 273 #[.val (.long p1), .second, .val (.long p2), .second, .val (.long p3), .second, .val (.long p4), .second, .val (.int p5), .val (.long x9_7), .second, .val (.long x11_14), .second, .val (.long x13_22), .second, .val (.long x15_30), .second, .val (.int v42s0), .val (.int v56s0), .val (.int v70s0), .val (.int v85s0), .val (.int v100s0), .val (.int x22_110), .val (.long v144s0), .second, .val (.int x25_167), .val (.int v182s0), .val (.ref b9), .unset, .unset, .unset, .unset] [(.int v70s0), (.int v56s0), (.int v42s0), (.long x9_7), (.int (mj258 x9_7))]))
            refine A (XS.iload X16.here hx rfl (hb hby at_273) rfl) ?_
            show D (T16.setTop (mkF m 275 #[.val (.long p1), .second, .val (.long p2), .second, .val (.long p3), .second, .val (.long p4), .second, .val (.int p5), .val (.long x9_7), .second, .val (.long x11_14), .second, .val (.long x13_22), .second, .val (.long x15_30), .second, .val (.int v42s0), .val (.int v56s0), .val (.int v70s0), .val (.int v85s0), .val (.int v100s0), .val (.int x22_110), .val (.long v144s0), .second, .val (.int x25_167), .val (.int v182s0), .val (.ref b9), .unset, .unset, .unset, .unset] [(.int v85s0), (.int v70s0), (.int v56s0), (.int v42s0), (.long x9_7), (.int (mj258 x9_7))]))
            refine A (XS.iload X16.here hx rfl (hb hby at_275) rfl) ?_
            show D (T16.setTop (mkF m 277 #[.val (.long p1), .second, .val (.long p2), .second, .val (.long p3), .second, .val (.long p4), .second, .val (.int p5), .val (.long x9_7), .second, .val (.long x11_14), .second, .val (.long x13_22), .second, .val (.long x15_30), .second, .val (.int v42s0), .val (.int v56s0), .val (.int v70s0), .val (.int v85s0), .val (.int v100s0), .val (.int x22_110), .val (.long v144s0), .second, .val (.int x25_167), .val (.int v182s0), .val (.ref b9), .unset, .unset, .unset, .unset] [(.int v182s0), (.int v85s0), (.int v70s0), (.int v56s0), (.int v42s0), (.long x9_7), (.int (mj258 x9_7))]))
            refine A (XS.lload X16.here hx rfl (hb hby at_277) rfl) ?_
            show D (T16.setTop (mkF m 279 #[.val (.long p1), .second, .val (.long p2), .second, .val (.long p3), .second, .val (.long p4), .second, .val (.int p5), .val (.long x9_7), .second, .val (.long x11_14), .second, .val (.long x13_22), .second, .val (.long x15_30), .second, .val (.int v42s0), .val (.int v56s0), .val (.int v70s0), .val (.int v85s0), .val (.int v100s0), .val (.int x22_110), .val (.long v144s0), .second, .val (.int x25_167), .val (.int v182s0), .val (.ref b9), .unset, .unset, .unset, .unset] [(.long x9_7), (.int v182s0), (.int v85s0), (.int v70s0), (.int v56s0), (.int v42s0), (.long x9_7), (.int (mj258 x9_7))]))
            refine A (XS.lload X16.here hx rfl (hb hby at_279) rfl) ?_
            show D (T16.setTop (mkF m 281 #[.val (.long p1), .second, .val (.long p2), .second, .val (.long p3), .second, .val (.long p4), .second, .val (.int p5), .val (.long x9_7), .second, .val (.long x11_14), .second, .val (.long x13_22), .second, .val (.long x15_30), .second, .val (.int v42s0), .val (.int v56s0), .val (.int v70s0), .val (.int v85s0), .val (.int v100s0), .val (.int x22_110), .val (.long v144s0), .second, .val (.int x25_167), .val (.int v182s0), .val (.ref b9), .unset, .unset, .unset, .unset] [(.long x11_14), (.long x9_7), (.int v182s0), (.int v85s0), (.int v70s0), (.int v56s0), (.int v42s0), (.long x9_7), (.int (mj258 x9_7))]))
            refine A (XS.lload X16.here hx rfl (hb hby at_281) rfl) ?_
            show D (T16.setTop (mkF m 283 #[.val (.long p1), .second, .val (.long p2), .second, .val (.long p3), .second, .val (.long p4), .second, .val (.int p5), .val (.long x9_7), .second, .val (.long x11_14), .second, .val (.long x13_22), .second, .val (.long x15_30), .second, .val (.int v42s0), .val (.int v56s0), .val (.int v70s0), .val (.int v85s0), .val (.int v100s0), .val (.int x22_110), .val (.long v144s0), .second, .val (.int x25_167), .val (.int v182s0), .val (.ref b9), .unset, .unset, .unset, .unset] [(.long x13_22), (.long x11_14), (.long x9_7), (.int v182s0), (.int v85s0), (.int v70s0), (.int v56s0), (.int v42s0), (.long x9_7), (.int (mj258 x9_7))]))
            refine A (XS.lload X16.here hx rfl (hb hby at_283) rfl) ?_
            show D (T16.setTop (mkF m 285 #[.val (.long p1), .second, .val (.long p2), .second, .val (.long p3), .second, .val (.long p4), .second, .val (.int p5), .val (.long x9_7), .second, .val (.long x11_14), .second, .val (.long x13_22), .second, .val (.long x15_30), .second, .val (.int v42s0), .val (.int v56s0), .val (.int v70s0), .val (.int v85s0), .val (.int v100s0), .val (.int x22_110), .val (.long v144s0), .second, .val (.int x25_167), .val (.int v182s0), .val (.ref b9), .unset, .unset, .unset, .unset] [(.long v144s0), (.long x13_22), (.long x11_14), (.long x9_7), (.int v182s0), (.int v85s0), (.int v70s0), (.int v56s0), (.int v42s0), (.long x9_7), (.int (mj258 x9_7))]))
            refine Adv.callS A X16 hx hZ hown (hw _ (List.mem_of_getElem? (i := 63) rfl)) (hw _ (List.mem_of_getElem? (i := 64) rfl)) (hw _ (List.mem_of_getElem? (i := 3) rfl)) (hw _ (List.mem_of_getElem? (i := 65) rfl)) e16 (rm12 l Z a0 hw [] x9_7 v42s0 v56s0 v70s0 v85s0 v182s0 x9_7 x11_14 x13_22 v144s0 H15 n0) 1 (g := (mkF m 285 #[.val (.long p1), .second, .val (.long p2), .second, .val (.long p3), .second, .val (.long p4), .second, .val (.int p5), .val (.long x9_7), .second, .val (.long x11_14), .second, .val (.long x13_22), .second, .val (.long x15_30), .second, .val (.int v42s0), .val (.int v56s0), .val (.int v70s0), .val (.int v85s0), .val (.int v100s0), .val (.int x22_110), .val (.long v144s0), .second, .val (.int x25_167), .val (.int v182s0), .val (.ref b9), .unset, .unset, .unset, .unset] [(.long v144s0), (.long x13_22), (.long x11_14), (.long x9_7), (.int v182s0), (.int v85s0), (.int v70s0), (.int v56s0), (.int v42s0), (.long x9_7), (.int (mj258 x9_7))])) rfl (by rw [hml]; rfl) [(.long x9_7), (.int v42s0), (.int v56s0), (.int v70s0), (.int v85s0), (.int v182s0), (.long x9_7), (.long x11_14), (.long x13_22), (.long v144s0)] [(.int (mj258 x9_7))] rfl (lenOf pd0_3 rfl) rfl (by show 2 * 0 + _ ≤ _; exact Nat.le_of_eq rfl) (hb hby at_285) (by decide) (by decide) (by decide) (by decide) (by decide) ?_
            rintro T17 L17 _ X17 ⟨rfl, N17_q, e17⟩
            have N17 := Fr.app N16 N17_q
            show D (T17.setTop (mkF m 288 #[.val (.long p1), .second, .val (.long p2), .second, .val (.long p3), .second, .val (.long p4), .second, .val (.int p5), .val (.long x9_7), .second, .val (.long x11_14), .second, .val (.long x13_22), .second, .val (.long x15_30), .second, .val (.int v42s0), .val (.int v56s0), .val (.int v70s0), .val (.int v85s0), .val (.int v100s0), .val (.int x22_110), .val (.long v144s0), .second, .val (.int x25_167), .val (.int v182s0), .val (.ref b9), .unset, .unset, .unset, .unset] [(.int (f12 x9_7 v42s0 v56s0 v70s0 v85s0 v182s0 x9_7 x11_14 x13_22 v144s0)), (.int (mj258 x9_7))]))
            suffices Km296_18 : ∀ (v296s0 : Int32), v296s0 = (if (mj258 x9_7) = (f12 x9_7 v42s0 v56s0 v70s0 v85s0 v182s0 x9_7 x11_14 x13_22 v144s0) then (1 : Int32) else (0 : Int32)) → D (T17.setTop (mkF m 296 #[.val (.long p1), .second, .val (.long p2), .second, .val (.long p3), .second, .val (.long p4), .second, .val (.int p5), .val (.long x9_7), .second, .val (.long x11_14), .second, .val (.long x13_22), .second, .val (.long x15_30), .second, .val (.int v42s0), .val (.int v56s0), .val (.int v70s0), .val (.int v85s0), .val (.int v100s0), .val (.int x22_110), .val (.long v144s0), .second, .val (.int x25_167), .val (.int v182s0), .val (.ref b9), .unset, .unset, .unset, .unset] [(.int v296s0)])) by
              by_cases c288_0 : (mj258 x9_7) = (f12 x9_7 v42s0 v56s0 v70s0 v85s0 v182s0 x9_7 x11_14 x13_22 v144s0)
              · refine A (XS.icmpNo X17.here hx rfl (hb hby at_288) rfl (teq c288_0).2) ?_
                show D (T17.setTop (mkF m 291 #[.val (.long p1), .second, .val (.long p2), .second, .val (.long p3), .second, .val (.long p4), .second, .val (.int p5), .val (.long x9_7), .second, .val (.long x11_14), .second, .val (.long x13_22), .second, .val (.long x15_30), .second, .val (.int v42s0), .val (.int v56s0), .val (.int v70s0), .val (.int v85s0), .val (.int v100s0), .val (.int x22_110), .val (.long v144s0), .second, .val (.int x25_167), .val (.int v182s0), .val (.ref b9), .unset, .unset, .unset, .unset] []))
                refine A (XS.iconst X17.here hx rfl (hb hby at_291)) ?_
                show D (T17.setTop (mkF m 292 #[.val (.long p1), .second, .val (.long p2), .second, .val (.long p3), .second, .val (.long p4), .second, .val (.int p5), .val (.long x9_7), .second, .val (.long x11_14), .second, .val (.long x13_22), .second, .val (.long x15_30), .second, .val (.int v42s0), .val (.int v56s0), .val (.int v70s0), .val (.int v85s0), .val (.int v100s0), .val (.int x22_110), .val (.long v144s0), .second, .val (.int x25_167), .val (.int v182s0), .val (.ref b9), .unset, .unset, .unset, .unset] [(.int (1 : Int32))]))
                refine A (XS.goto X17.here hx rfl (pc0 := 292) (pc' := 296) rfl (hb hby at_292) (by decide) (by decide)) ?_
                show D (T17.setTop (mkF m 296 #[.val (.long p1), .second, .val (.long p2), .second, .val (.long p3), .second, .val (.long p4), .second, .val (.int p5), .val (.long x9_7), .second, .val (.long x11_14), .second, .val (.long x13_22), .second, .val (.long x15_30), .second, .val (.int v42s0), .val (.int v56s0), .val (.int v70s0), .val (.int v85s0), .val (.int v100s0), .val (.int x22_110), .val (.long v144s0), .second, .val (.int x25_167), .val (.int v182s0), .val (.ref b9), .unset, .unset, .unset, .unset] [(.int (1 : Int32))]))
                exact Km296_18 _ ((if_pos c288_0)).symm
              · refine A (XS.icmpYes X17.here hx rfl (pc0 := 288) (pc' := 295) rfl (hb hby at_288) rfl (feq c288_0).2 (by decide) (by decide)) ?_
                show D (T17.setTop (mkF m 295 #[.val (.long p1), .second, .val (.long p2), .second, .val (.long p3), .second, .val (.long p4), .second, .val (.int p5), .val (.long x9_7), .second, .val (.long x11_14), .second, .val (.long x13_22), .second, .val (.long x15_30), .second, .val (.int v42s0), .val (.int v56s0), .val (.int v70s0), .val (.int v85s0), .val (.int v100s0), .val (.int x22_110), .val (.long v144s0), .second, .val (.int x25_167), .val (.int v182s0), .val (.ref b9), .unset, .unset, .unset, .unset] []))
                refine A (XS.iconst X17.here hx rfl (hb hby at_295)) ?_
                show D (T17.setTop (mkF m 296 #[.val (.long p1), .second, .val (.long p2), .second, .val (.long p3), .second, .val (.long p4), .second, .val (.int p5), .val (.long x9_7), .second, .val (.long x11_14), .second, .val (.long x13_22), .second, .val (.long x15_30), .second, .val (.int v42s0), .val (.int v56s0), .val (.int v70s0), .val (.int v85s0), .val (.int v100s0), .val (.int x22_110), .val (.long v144s0), .second, .val (.int x25_167), .val (.int v182s0), .val (.ref b9), .unset, .unset, .unset, .unset] [(.int (0 : Int32))]))
                exact Km296_18 _ ((if_neg c288_0)).symm
            intro v296s0 hv296s0
            show D (T17.setTop (mkF m 296 #[.val (.long p1), .second, .val (.long p2), .second, .val (.long p3), .second, .val (.long p4), .second, .val (.int p5), .val (.long x9_7), .second, .val (.long x11_14), .second, .val (.long x13_22), .second, .val (.long x15_30), .second, .val (.int v42s0), .val (.int v56s0), .val (.int v70s0), .val (.int v85s0), .val (.int v100s0), .val (.int x22_110), .val (.long v144s0), .second, .val (.int x25_167), .val (.int v182s0), .val (.ref b9), .unset, .unset, .unset, .unset] [(.int v296s0)]))
            refine A (XS.istore X17.here hx rfl (hb hby at_296) rfl (l' := #[.val (.long p1), .second, .val (.long p2), .second, .val (.long p3), .second, .val (.long p4), .second, .val (.int p5), .val (.long x9_7), .second, .val (.long x11_14), .second, .val (.long x13_22), .second, .val (.long x15_30), .second, .val (.int v42s0), .val (.int v56s0), .val (.int v70s0), .val (.int v85s0), .val (.int v100s0), .val (.int x22_110), .val (.long v144s0), .second, .val (.int x25_167), .val (.int v182s0), .val (.ref b9), .val (.int v296s0), .unset, .unset, .unset]) rfl) ?_
            show D (T17.setTop (mkF m 298 #[.val (.long p1), .second, .val (.long p2), .second, .val (.long p3), .second, .val (.long p4), .second, .val (.int p5), .val (.long x9_7), .second, .val (.long x11_14), .second, .val (.long x13_22), .second, .val (.long x15_30), .second, .val (.int v42s0), .val (.int v56s0), .val (.int v70s0), .val (.int v85s0), .val (.int v100s0), .val (.int x22_110), .val (.long v144s0), .second, .val (.int x25_167), .val (.int v182s0), .val (.ref b9), .val (.int v296s0), .unset, .unset, .unset] []))
            refine A (XS.aload X17.here hx rfl (hb hby at_298) rfl rfl) ?_
            show D (T17.setTop (mkF m 300 #[.val (.long p1), .second, .val (.long p2), .second, .val (.long p3), .second, .val (.long p4), .second, .val (.int p5), .val (.long x9_7), .second, .val (.long x11_14), .second, .val (.long x13_22), .second, .val (.long x15_30), .second, .val (.int v42s0), .val (.int v56s0), .val (.int v70s0), .val (.int v85s0), .val (.int v100s0), .val (.int x22_110), .val (.long v144s0), .second, .val (.int x25_167), .val (.int v182s0), .val (.ref b9), .val (.int v296s0), .unset, .unset, .unset] [(.ref b9)]))
            refine A (XS.lload X17.here hx rfl (hb hby at_300) rfl) ?_
            show D (T17.setTop (mkF m 302 #[.val (.long p1), .second, .val (.long p2), .second, .val (.long p3), .second, .val (.long p4), .second, .val (.int p5), .val (.long x9_7), .second, .val (.long x11_14), .second, .val (.long x13_22), .second, .val (.long x15_30), .second, .val (.int v42s0), .val (.int v56s0), .val (.int v70s0), .val (.int v85s0), .val (.int v100s0), .val (.int x22_110), .val (.long v144s0), .second, .val (.int x25_167), .val (.int v182s0), .val (.ref b9), .val (.int v296s0), .unset, .unset, .unset] [(.long x11_14), (.ref b9)]))
            refine Adv.callV A X17 hx hZ hown (hw _ (List.mem_of_getElem? (i := 58) rfl)) (hw _ (List.mem_of_getElem? (i := 59) rfl)) (notFace_of_selects (args := #[]) (mvT hZ (hw _ (List.mem_of_getElem? (i := 61) rfl)))) (hw _ (List.mem_of_getElem? (i := 61) rfl)) (hw _ (List.mem_of_getElem? (i := 60) rfl)) (hw _ (List.mem_of_getElem? (i := 7) rfl)) (hw _ (List.mem_of_getElem? (i := 62) rfl)) e17 E_b9_15 (rm11 l Z a0 hw [] b9 x11_14 H15 n0 szj258 ka10 cb10 kj258 cj258 mj258 5 Zq15 g_b9 g_ka10 g_cb10 E_b9_15 F_keys_b9_15 F_counts_b9_15 F_mask_b9_15 F_shift_b9_15 F_size_b9_15 V_ka10_15 V_cb10_15 hoj258 (by decide) hzj258 hcj258 hk11) 0 (g := (mkF m 302 #[.val (.long p1), .second, .val (.long p2), .second, .val (.long p3), .second, .val (.long p4), .second, .val (.int p5), .val (.long x9_7), .second, .val (.long x11_14), .second, .val (.long x13_22), .second, .val (.long x15_30), .second, .val (.int v42s0), .val (.int v56s0), .val (.int v70s0), .val (.int v85s0), .val (.int v100s0), .val (.int x22_110), .val (.long v144s0), .second, .val (.int x25_167), .val (.int v182s0), .val (.ref b9), .val (.int v296s0), .unset, .unset, .unset] [(.long x11_14), (.ref b9)])) rfl (by rw [hml]; rfl) [(.long x11_14)] [] rfl (lenOf pd0_2 rfl) rfl (by show 2 * 0 + _ ≤ _; exact Nat.le_of_eq rfl) (hb hby at_302) (by decide) (by decide) (by decide) (by decide) (by decide) ?_
            rintro T19 L19 _ X19 ⟨rfl, N19_q, e19⟩
            have N19 := Fr.app N17 N19_q
            show D (T19.setTop (mkF m 305 #[.val (.long p1), .second, .val (.long p2), .second, .val (.long p3), .second, .val (.long p4), .second, .val (.int p5), .val (.long x9_7), .second, .val (.long x11_14), .second, .val (.long x13_22), .second, .val (.long x15_30), .second, .val (.int v42s0), .val (.int v56s0), .val (.int v70s0), .val (.int v85s0), .val (.int v100s0), .val (.int x22_110), .val (.long v144s0), .second, .val (.int x25_167), .val (.int v182s0), .val (.ref b9), .val (.int v296s0), .unset, .unset, .unset] [(.int (mj258 x11_14))]))
            refine A (XS.lload X19.here hx rfl (hb hby at_305) rfl) ?_
            show D (T19.setTop (mkF m 307 #[.val (.long p1), .second, .val (.long p2), .second, .val (.long p3), .second, .val (.long p4), .second, .val (.int p5), .val (.long x9_7), .second, .val (.long x11_14), .second, .val (.long x13_22), .second, .val (.long x15_30), .second, .val (.int v42s0), .val (.int v56s0), .val (.int v70s0), .val (.int v85s0), .val (.int v100s0), .val (.int x22_110), .val (.long v144s0), .second, .val (.int x25_167), .val (.int v182s0), .val (.ref b9), .val (.int v296s0), .unset, .unset, .unset] [(.long x11_14), (.int (mj258 x11_14))]))
            refine A (XS.iload X19.here hx rfl (hb hby at_307) rfl) ?_
            show D (T19.setTop (mkF m 309 #[.val (.long p1), .second, .val (.long p2), .second, .val (.long p3), .second, .val (.long p4), .second, .val (.int p5), .val (.long x9_7), .second, .val (.long x11_14), .second, .val (.long x13_22), .second, .val (.long x15_30), .second, .val (.int v42s0), .val (.int v56s0), .val (.int v70s0), .val (.int v85s0), .val (.int v100s0), .val (.int x22_110), .val (.long v144s0), .second, .val (.int x25_167), .val (.int v182s0), .val (.ref b9), .val (.int v296s0), .unset, .unset, .unset] [(.int v42s0), (.long x11_14), (.int (mj258 x11_14))]))
            refine A (XS.iload X19.here hx rfl (hb hby at_309) rfl) ?_
            show D (T19.setTop (mkF m 311 #[.val (.long p1), .second, .val (.long p2), .second, .val (.long p3), .second, .val (.long p4), .second, .val (.int p5), .val (.long x9_7), .second, .val (.long x11_14), .second, .val (.long x13_22), .second, .val (.long x15_30), .second, .val (.int v42s0), .val (.int v56s0), .val (.int v70s0), .val (.int v85s0), .val (.int v100s0), .val (.int x22_110), .val (.long v144s0), .second, .val (.int x25_167), .val (.int v182s0), .val (.ref b9), .val (.int v296s0), .unset, .unset, .unset] [(.int v56s0), (.int v42s0), (.long x11_14), (.int (mj258 x11_14))]))
            refine A (XS.iload X19.here hx rfl (hb hby at_311) rfl) ?_
            show D (T19.setTop (mkF m 313 #[.val (.long p1), .second, .val (.long p2), .second, .val (.long p3), .second, .val (.long p4), .second, .val (.int p5), .val (.long x9_7), .second, .val (.long x11_14), .second, .val (.long x13_22), .second, .val (.long x15_30), .second, .val (.int v42s0), .val (.int v56s0), .val (.int v70s0), .val (.int v85s0), .val (.int v100s0), .val (.int x22_110), .val (.long v144s0), .second, .val (.int x25_167), .val (.int v182s0), .val (.ref b9), .val (.int v296s0), .unset, .unset, .unset] [(.int v70s0), (.int v56s0), (.int v42s0), (.long x11_14), (.int (mj258 x11_14))]))
            refine A (XS.iload X19.here hx rfl (hb hby at_313) rfl) ?_
            show D (T19.setTop (mkF m 315 #[.val (.long p1), .second, .val (.long p2), .second, .val (.long p3), .second, .val (.long p4), .second, .val (.int p5), .val (.long x9_7), .second, .val (.long x11_14), .second, .val (.long x13_22), .second, .val (.long x15_30), .second, .val (.int v42s0), .val (.int v56s0), .val (.int v70s0), .val (.int v85s0), .val (.int v100s0), .val (.int x22_110), .val (.long v144s0), .second, .val (.int x25_167), .val (.int v182s0), .val (.ref b9), .val (.int v296s0), .unset, .unset, .unset] [(.int v85s0), (.int v70s0), (.int v56s0), (.int v42s0), (.long x11_14), (.int (mj258 x11_14))]))
            refine A (XS.iload X19.here hx rfl (hb hby at_315) rfl) ?_
            show D (T19.setTop (mkF m 317 #[.val (.long p1), .second, .val (.long p2), .second, .val (.long p3), .second, .val (.long p4), .second, .val (.int p5), .val (.long x9_7), .second, .val (.long x11_14), .second, .val (.long x13_22), .second, .val (.long x15_30), .second, .val (.int v42s0), .val (.int v56s0), .val (.int v70s0), .val (.int v85s0), .val (.int v100s0), .val (.int x22_110), .val (.long v144s0), .second, .val (.int x25_167), .val (.int v182s0), .val (.ref b9), .val (.int v296s0), .unset, .unset, .unset] [(.int v182s0), (.int v85s0), (.int v70s0), (.int v56s0), (.int v42s0), (.long x11_14), (.int (mj258 x11_14))]))
            refine A (XS.lload X19.here hx rfl (hb hby at_317) rfl) ?_
            show D (T19.setTop (mkF m 319 #[.val (.long p1), .second, .val (.long p2), .second, .val (.long p3), .second, .val (.long p4), .second, .val (.int p5), .val (.long x9_7), .second, .val (.long x11_14), .second, .val (.long x13_22), .second, .val (.long x15_30), .second, .val (.int v42s0), .val (.int v56s0), .val (.int v70s0), .val (.int v85s0), .val (.int v100s0), .val (.int x22_110), .val (.long v144s0), .second, .val (.int x25_167), .val (.int v182s0), .val (.ref b9), .val (.int v296s0), .unset, .unset, .unset] [(.long x9_7), (.int v182s0), (.int v85s0), (.int v70s0), (.int v56s0), (.int v42s0), (.long x11_14), (.int (mj258 x11_14))]))
            refine A (XS.lload X19.here hx rfl (hb hby at_319) rfl) ?_
            show D (T19.setTop (mkF m 321 #[.val (.long p1), .second, .val (.long p2), .second, .val (.long p3), .second, .val (.long p4), .second, .val (.int p5), .val (.long x9_7), .second, .val (.long x11_14), .second, .val (.long x13_22), .second, .val (.long x15_30), .second, .val (.int v42s0), .val (.int v56s0), .val (.int v70s0), .val (.int v85s0), .val (.int v100s0), .val (.int x22_110), .val (.long v144s0), .second, .val (.int x25_167), .val (.int v182s0), .val (.ref b9), .val (.int v296s0), .unset, .unset, .unset] [(.long x11_14), (.long x9_7), (.int v182s0), (.int v85s0), (.int v70s0), (.int v56s0), (.int v42s0), (.long x11_14), (.int (mj258 x11_14))]))
            refine A (XS.lload X19.here hx rfl (hb hby at_321) rfl) ?_
            show D (T19.setTop (mkF m 323 #[.val (.long p1), .second, .val (.long p2), .second, .val (.long p3), .second, .val (.long p4), .second, .val (.int p5), .val (.long x9_7), .second, .val (.long x11_14), .second, .val (.long x13_22), .second, .val (.long x15_30), .second, .val (.int v42s0), .val (.int v56s0), .val (.int v70s0), .val (.int v85s0), .val (.int v100s0), .val (.int x22_110), .val (.long v144s0), .second, .val (.int x25_167), .val (.int v182s0), .val (.ref b9), .val (.int v296s0), .unset, .unset, .unset] [(.long x13_22), (.long x11_14), (.long x9_7), (.int v182s0), (.int v85s0), (.int v70s0), (.int v56s0), (.int v42s0), (.long x11_14), (.int (mj258 x11_14))]))
            refine A (XS.lload X19.here hx rfl (hb hby at_323) rfl) ?_
            show D (T19.setTop (mkF m 325 #[.val (.long p1), .second, .val (.long p2), .second, .val (.long p3), .second, .val (.long p4), .second, .val (.int p5), .val (.long x9_7), .second, .val (.long x11_14), .second, .val (.long x13_22), .second, .val (.long x15_30), .second, .val (.int v42s0), .val (.int v56s0), .val (.int v70s0), .val (.int v85s0), .val (.int v100s0), .val (.int x22_110), .val (.long v144s0), .second, .val (.int x25_167), .val (.int v182s0), .val (.ref b9), .val (.int v296s0), .unset, .unset, .unset] [(.long v144s0), (.long x13_22), (.long x11_14), (.long x9_7), (.int v182s0), (.int v85s0), (.int v70s0), (.int v56s0), (.int v42s0), (.long x11_14), (.int (mj258 x11_14))]))
            refine Adv.callS A X19 hx hZ hown (hw _ (List.mem_of_getElem? (i := 63) rfl)) (hw _ (List.mem_of_getElem? (i := 64) rfl)) (hw _ (List.mem_of_getElem? (i := 3) rfl)) (hw _ (List.mem_of_getElem? (i := 65) rfl)) e19 (rm12 l Z a0 hw [] x11_14 v42s0 v56s0 v70s0 v85s0 v182s0 x9_7 x11_14 x13_22 v144s0 H15 n0) 1 (g := (mkF m 325 #[.val (.long p1), .second, .val (.long p2), .second, .val (.long p3), .second, .val (.long p4), .second, .val (.int p5), .val (.long x9_7), .second, .val (.long x11_14), .second, .val (.long x13_22), .second, .val (.long x15_30), .second, .val (.int v42s0), .val (.int v56s0), .val (.int v70s0), .val (.int v85s0), .val (.int v100s0), .val (.int x22_110), .val (.long v144s0), .second, .val (.int x25_167), .val (.int v182s0), .val (.ref b9), .val (.int v296s0), .unset, .unset, .unset] [(.long v144s0), (.long x13_22), (.long x11_14), (.long x9_7), (.int v182s0), (.int v85s0), (.int v70s0), (.int v56s0), (.int v42s0), (.long x11_14), (.int (mj258 x11_14))])) rfl (by rw [hml]; rfl) [(.long x11_14), (.int v42s0), (.int v56s0), (.int v70s0), (.int v85s0), (.int v182s0), (.long x9_7), (.long x11_14), (.long x13_22), (.long v144s0)] [(.int (mj258 x11_14))] rfl (lenOf pd0_3 rfl) rfl (by show 2 * 0 + _ ≤ _; exact Nat.le_of_eq rfl) (hb hby at_325) (by decide) (by decide) (by decide) (by decide) (by decide) ?_
            rintro T20 L20 _ X20 ⟨rfl, N20_q, e20⟩
            have N20 := Fr.app N19 N20_q
            show D (T20.setTop (mkF m 328 #[.val (.long p1), .second, .val (.long p2), .second, .val (.long p3), .second, .val (.long p4), .second, .val (.int p5), .val (.long x9_7), .second, .val (.long x11_14), .second, .val (.long x13_22), .second, .val (.long x15_30), .second, .val (.int v42s0), .val (.int v56s0), .val (.int v70s0), .val (.int v85s0), .val (.int v100s0), .val (.int x22_110), .val (.long v144s0), .second, .val (.int x25_167), .val (.int v182s0), .val (.ref b9), .val (.int v296s0), .unset, .unset, .unset] [(.int (f12 x11_14 v42s0 v56s0 v70s0 v85s0 v182s0 x9_7 x11_14 x13_22 v144s0)), (.int (mj258 x11_14))]))
            suffices Km336_21 : ∀ (v336s0 : Int32), v336s0 = (if (mj258 x11_14) = (f12 x11_14 v42s0 v56s0 v70s0 v85s0 v182s0 x9_7 x11_14 x13_22 v144s0) then (1 : Int32) else (0 : Int32)) → D (T20.setTop (mkF m 336 #[.val (.long p1), .second, .val (.long p2), .second, .val (.long p3), .second, .val (.long p4), .second, .val (.int p5), .val (.long x9_7), .second, .val (.long x11_14), .second, .val (.long x13_22), .second, .val (.long x15_30), .second, .val (.int v42s0), .val (.int v56s0), .val (.int v70s0), .val (.int v85s0), .val (.int v100s0), .val (.int x22_110), .val (.long v144s0), .second, .val (.int x25_167), .val (.int v182s0), .val (.ref b9), .val (.int v296s0), .unset, .unset, .unset] [(.int v336s0)])) by
              by_cases c328_0 : (mj258 x11_14) = (f12 x11_14 v42s0 v56s0 v70s0 v85s0 v182s0 x9_7 x11_14 x13_22 v144s0)
              · refine A (XS.icmpNo X20.here hx rfl (hb hby at_328) rfl (teq c328_0).2) ?_
                show D (T20.setTop (mkF m 331 #[.val (.long p1), .second, .val (.long p2), .second, .val (.long p3), .second, .val (.long p4), .second, .val (.int p5), .val (.long x9_7), .second, .val (.long x11_14), .second, .val (.long x13_22), .second, .val (.long x15_30), .second, .val (.int v42s0), .val (.int v56s0), .val (.int v70s0), .val (.int v85s0), .val (.int v100s0), .val (.int x22_110), .val (.long v144s0), .second, .val (.int x25_167), .val (.int v182s0), .val (.ref b9), .val (.int v296s0), .unset, .unset, .unset] []))
                refine A (XS.iconst X20.here hx rfl (hb hby at_331)) ?_
                show D (T20.setTop (mkF m 332 #[.val (.long p1), .second, .val (.long p2), .second, .val (.long p3), .second, .val (.long p4), .second, .val (.int p5), .val (.long x9_7), .second, .val (.long x11_14), .second, .val (.long x13_22), .second, .val (.long x15_30), .second, .val (.int v42s0), .val (.int v56s0), .val (.int v70s0), .val (.int v85s0), .val (.int v100s0), .val (.int x22_110), .val (.long v144s0), .second, .val (.int x25_167), .val (.int v182s0), .val (.ref b9), .val (.int v296s0), .unset, .unset, .unset] [(.int (1 : Int32))]))
                refine A (XS.goto X20.here hx rfl (pc0 := 332) (pc' := 336) rfl (hb hby at_332) (by decide) (by decide)) ?_
                show D (T20.setTop (mkF m 336 #[.val (.long p1), .second, .val (.long p2), .second, .val (.long p3), .second, .val (.long p4), .second, .val (.int p5), .val (.long x9_7), .second, .val (.long x11_14), .second, .val (.long x13_22), .second, .val (.long x15_30), .second, .val (.int v42s0), .val (.int v56s0), .val (.int v70s0), .val (.int v85s0), .val (.int v100s0), .val (.int x22_110), .val (.long v144s0), .second, .val (.int x25_167), .val (.int v182s0), .val (.ref b9), .val (.int v296s0), .unset, .unset, .unset] [(.int (1 : Int32))]))
                exact Km336_21 _ ((if_pos c328_0)).symm
              · refine A (XS.icmpYes X20.here hx rfl (pc0 := 328) (pc' := 335) rfl (hb hby at_328) rfl (feq c328_0).2 (by decide) (by decide)) ?_
                show D (T20.setTop (mkF m 335 #[.val (.long p1), .second, .val (.long p2), .second, .val (.long p3), .second, .val (.long p4), .second, .val (.int p5), .val (.long x9_7), .second, .val (.long x11_14), .second, .val (.long x13_22), .second, .val (.long x15_30), .second, .val (.int v42s0), .val (.int v56s0), .val (.int v70s0), .val (.int v85s0), .val (.int v100s0), .val (.int x22_110), .val (.long v144s0), .second, .val (.int x25_167), .val (.int v182s0), .val (.ref b9), .val (.int v296s0), .unset, .unset, .unset] []))
                refine A (XS.iconst X20.here hx rfl (hb hby at_335)) ?_
                show D (T20.setTop (mkF m 336 #[.val (.long p1), .second, .val (.long p2), .second, .val (.long p3), .second, .val (.long p4), .second, .val (.int p5), .val (.long x9_7), .second, .val (.long x11_14), .second, .val (.long x13_22), .second, .val (.long x15_30), .second, .val (.int v42s0), .val (.int v56s0), .val (.int v70s0), .val (.int v85s0), .val (.int v100s0), .val (.int x22_110), .val (.long v144s0), .second, .val (.int x25_167), .val (.int v182s0), .val (.ref b9), .val (.int v296s0), .unset, .unset, .unset] [(.int (0 : Int32))]))
                exact Km336_21 _ ((if_neg c328_0)).symm
            intro v336s0 hv336s0
            show D (T20.setTop (mkF m 336 #[.val (.long p1), .second, .val (.long p2), .second, .val (.long p3), .second, .val (.long p4), .second, .val (.int p5), .val (.long x9_7), .second, .val (.long x11_14), .second, .val (.long x13_22), .second, .val (.long x15_30), .second, .val (.int v42s0), .val (.int v56s0), .val (.int v70s0), .val (.int v85s0), .val (.int v100s0), .val (.int x22_110), .val (.long v144s0), .second, .val (.int x25_167), .val (.int v182s0), .val (.ref b9), .val (.int v296s0), .unset, .unset, .unset] [(.int v336s0)]))
            refine A (XS.istore X20.here hx rfl (hb hby at_336) rfl (l' := #[.val (.long p1), .second, .val (.long p2), .second, .val (.long p3), .second, .val (.long p4), .second, .val (.int p5), .val (.long x9_7), .second, .val (.long x11_14), .second, .val (.long x13_22), .second, .val (.long x15_30), .second, .val (.int v42s0), .val (.int v56s0), .val (.int v70s0), .val (.int v85s0), .val (.int v100s0), .val (.int x22_110), .val (.long v144s0), .second, .val (.int x25_167), .val (.int v182s0), .val (.ref b9), .val (.int v296s0), .val (.int v336s0), .unset, .unset]) rfl) ?_
            show D (T20.setTop (mkF m 338 #[.val (.long p1), .second, .val (.long p2), .second, .val (.long p3), .second, .val (.long p4), .second, .val (.int p5), .val (.long x9_7), .second, .val (.long x11_14), .second, .val (.long x13_22), .second, .val (.long x15_30), .second, .val (.int v42s0), .val (.int v56s0), .val (.int v70s0), .val (.int v85s0), .val (.int v100s0), .val (.int x22_110), .val (.long v144s0), .second, .val (.int x25_167), .val (.int v182s0), .val (.ref b9), .val (.int v296s0), .val (.int v336s0), .unset, .unset] []))
            refine A (XS.aload X20.here hx rfl (hb hby at_338) rfl rfl) ?_
            show D (T20.setTop (mkF m 340 #[.val (.long p1), .second, .val (.long p2), .second, .val (.long p3), .second, .val (.long p4), .second, .val (.int p5), .val (.long x9_7), .second, .val (.long x11_14), .second, .val (.long x13_22), .second, .val (.long x15_30), .second, .val (.int v42s0), .val (.int v56s0), .val (.int v70s0), .val (.int v85s0), .val (.int v100s0), .val (.int x22_110), .val (.long v144s0), .second, .val (.int x25_167), .val (.int v182s0), .val (.ref b9), .val (.int v296s0), .val (.int v336s0), .unset, .unset] [(.ref b9)]))
            refine A (XS.lload X20.here hx rfl (hb hby at_340) rfl) ?_
            show D (T20.setTop (mkF m 342 #[.val (.long p1), .second, .val (.long p2), .second, .val (.long p3), .second, .val (.long p4), .second, .val (.int p5), .val (.long x9_7), .second, .val (.long x11_14), .second, .val (.long x13_22), .second, .val (.long x15_30), .second, .val (.int v42s0), .val (.int v56s0), .val (.int v70s0), .val (.int v85s0), .val (.int v100s0), .val (.int x22_110), .val (.long v144s0), .second, .val (.int x25_167), .val (.int v182s0), .val (.ref b9), .val (.int v296s0), .val (.int v336s0), .unset, .unset] [(.long x13_22), (.ref b9)]))
            refine Adv.callV A X20 hx hZ hown (hw _ (List.mem_of_getElem? (i := 58) rfl)) (hw _ (List.mem_of_getElem? (i := 59) rfl)) (notFace_of_selects (args := #[]) (mvT hZ (hw _ (List.mem_of_getElem? (i := 61) rfl)))) (hw _ (List.mem_of_getElem? (i := 61) rfl)) (hw _ (List.mem_of_getElem? (i := 60) rfl)) (hw _ (List.mem_of_getElem? (i := 7) rfl)) (hw _ (List.mem_of_getElem? (i := 62) rfl)) e20 E_b9_15 (rm11 l Z a0 hw [] b9 x13_22 H15 n0 szj258 ka10 cb10 kj258 cj258 mj258 5 Zq15 g_b9 g_ka10 g_cb10 E_b9_15 F_keys_b9_15 F_counts_b9_15 F_mask_b9_15 F_shift_b9_15 F_size_b9_15 V_ka10_15 V_cb10_15 hoj258 (by decide) hzj258 hcj258 hk13) 0 (g := (mkF m 342 #[.val (.long p1), .second, .val (.long p2), .second, .val (.long p3), .second, .val (.long p4), .second, .val (.int p5), .val (.long x9_7), .second, .val (.long x11_14), .second, .val (.long x13_22), .second, .val (.long x15_30), .second, .val (.int v42s0), .val (.int v56s0), .val (.int v70s0), .val (.int v85s0), .val (.int v100s0), .val (.int x22_110), .val (.long v144s0), .second, .val (.int x25_167), .val (.int v182s0), .val (.ref b9), .val (.int v296s0), .val (.int v336s0), .unset, .unset] [(.long x13_22), (.ref b9)])) rfl (by rw [hml]; rfl) [(.long x13_22)] [] rfl (lenOf pd0_2 rfl) rfl (by show 2 * 0 + _ ≤ _; exact Nat.le_of_eq rfl) (hb hby at_342) (by decide) (by decide) (by decide) (by decide) (by decide) ?_
            rintro T22 L22 _ X22 ⟨rfl, N22_q, e22⟩
            have N22 := Fr.app N20 N22_q
            show D (T22.setTop (mkF m 345 #[.val (.long p1), .second, .val (.long p2), .second, .val (.long p3), .second, .val (.long p4), .second, .val (.int p5), .val (.long x9_7), .second, .val (.long x11_14), .second, .val (.long x13_22), .second, .val (.long x15_30), .second, .val (.int v42s0), .val (.int v56s0), .val (.int v70s0), .val (.int v85s0), .val (.int v100s0), .val (.int x22_110), .val (.long v144s0), .second, .val (.int x25_167), .val (.int v182s0), .val (.ref b9), .val (.int v296s0), .val (.int v336s0), .unset, .unset] [(.int (mj258 x13_22))]))
            refine A (XS.lload X22.here hx rfl (hb hby at_345) rfl) ?_
            show D (T22.setTop (mkF m 347 #[.val (.long p1), .second, .val (.long p2), .second, .val (.long p3), .second, .val (.long p4), .second, .val (.int p5), .val (.long x9_7), .second, .val (.long x11_14), .second, .val (.long x13_22), .second, .val (.long x15_30), .second, .val (.int v42s0), .val (.int v56s0), .val (.int v70s0), .val (.int v85s0), .val (.int v100s0), .val (.int x22_110), .val (.long v144s0), .second, .val (.int x25_167), .val (.int v182s0), .val (.ref b9), .val (.int v296s0), .val (.int v336s0), .unset, .unset] [(.long x13_22), (.int (mj258 x13_22))]))
            refine A (XS.iload X22.here hx rfl (hb hby at_347) rfl) ?_
            show D (T22.setTop (mkF m 349 #[.val (.long p1), .second, .val (.long p2), .second, .val (.long p3), .second, .val (.long p4), .second, .val (.int p5), .val (.long x9_7), .second, .val (.long x11_14), .second, .val (.long x13_22), .second, .val (.long x15_30), .second, .val (.int v42s0), .val (.int v56s0), .val (.int v70s0), .val (.int v85s0), .val (.int v100s0), .val (.int x22_110), .val (.long v144s0), .second, .val (.int x25_167), .val (.int v182s0), .val (.ref b9), .val (.int v296s0), .val (.int v336s0), .unset, .unset] [(.int v42s0), (.long x13_22), (.int (mj258 x13_22))]))
            refine A (XS.iload X22.here hx rfl (hb hby at_349) rfl) ?_
            show D (T22.setTop (mkF m 351 #[.val (.long p1), .second, .val (.long p2), .second, .val (.long p3), .second, .val (.long p4), .second, .val (.int p5), .val (.long x9_7), .second, .val (.long x11_14), .second, .val (.long x13_22), .second, .val (.long x15_30), .second, .val (.int v42s0), .val (.int v56s0), .val (.int v70s0), .val (.int v85s0), .val (.int v100s0), .val (.int x22_110), .val (.long v144s0), .second, .val (.int x25_167), .val (.int v182s0), .val (.ref b9), .val (.int v296s0), .val (.int v336s0), .unset, .unset] [(.int v56s0), (.int v42s0), (.long x13_22), (.int (mj258 x13_22))]))
            refine A (XS.iload X22.here hx rfl (hb hby at_351) rfl) ?_
            show D (T22.setTop (mkF m 353 #[.val (.long p1), .second, .val (.long p2), .second, .val (.long p3), .second, .val (.long p4), .second, .val (.int p5), .val (.long x9_7), .second, .val (.long x11_14), .second, .val (.long x13_22), .second, .val (.long x15_30), .second, .val (.int v42s0), .val (.int v56s0), .val (.int v70s0), .val (.int v85s0), .val (.int v100s0), .val (.int x22_110), .val (.long v144s0), .second, .val (.int x25_167), .val (.int v182s0), .val (.ref b9), .val (.int v296s0), .val (.int v336s0), .unset, .unset] [(.int v70s0), (.int v56s0), (.int v42s0), (.long x13_22), (.int (mj258 x13_22))]))
            refine A (XS.iload X22.here hx rfl (hb hby at_353) rfl) ?_
            show D (T22.setTop (mkF m 355 #[.val (.long p1), .second, .val (.long p2), .second, .val (.long p3), .second, .val (.long p4), .second, .val (.int p5), .val (.long x9_7), .second, .val (.long x11_14), .second, .val (.long x13_22), .second, .val (.long x15_30), .second, .val (.int v42s0), .val (.int v56s0), .val (.int v70s0), .val (.int v85s0), .val (.int v100s0), .val (.int x22_110), .val (.long v144s0), .second, .val (.int x25_167), .val (.int v182s0), .val (.ref b9), .val (.int v296s0), .val (.int v336s0), .unset, .unset] [(.int v85s0), (.int v70s0), (.int v56s0), (.int v42s0), (.long x13_22), (.int (mj258 x13_22))]))
            refine A (XS.iload X22.here hx rfl (hb hby at_355) rfl) ?_
            show D (T22.setTop (mkF m 357 #[.val (.long p1), .second, .val (.long p2), .second, .val (.long p3), .second, .val (.long p4), .second, .val (.int p5), .val (.long x9_7), .second, .val (.long x11_14), .second, .val (.long x13_22), .second, .val (.long x15_30), .second, .val (.int v42s0), .val (.int v56s0), .val (.int v70s0), .val (.int v85s0), .val (.int v100s0), .val (.int x22_110), .val (.long v144s0), .second, .val (.int x25_167), .val (.int v182s0), .val (.ref b9), .val (.int v296s0), .val (.int v336s0), .unset, .unset] [(.int v182s0), (.int v85s0), (.int v70s0), (.int v56s0), (.int v42s0), (.long x13_22), (.int (mj258 x13_22))]))
            refine A (XS.lload X22.here hx rfl (hb hby at_357) rfl) ?_
            show D (T22.setTop (mkF m 359 #[.val (.long p1), .second, .val (.long p2), .second, .val (.long p3), .second, .val (.long p4), .second, .val (.int p5), .val (.long x9_7), .second, .val (.long x11_14), .second, .val (.long x13_22), .second, .val (.long x15_30), .second, .val (.int v42s0), .val (.int v56s0), .val (.int v70s0), .val (.int v85s0), .val (.int v100s0), .val (.int x22_110), .val (.long v144s0), .second, .val (.int x25_167), .val (.int v182s0), .val (.ref b9), .val (.int v296s0), .val (.int v336s0), .unset, .unset] [(.long x9_7), (.int v182s0), (.int v85s0), (.int v70s0), (.int v56s0), (.int v42s0), (.long x13_22), (.int (mj258 x13_22))]))
            refine A (XS.lload X22.here hx rfl (hb hby at_359) rfl) ?_
            show D (T22.setTop (mkF m 361 #[.val (.long p1), .second, .val (.long p2), .second, .val (.long p3), .second, .val (.long p4), .second, .val (.int p5), .val (.long x9_7), .second, .val (.long x11_14), .second, .val (.long x13_22), .second, .val (.long x15_30), .second, .val (.int v42s0), .val (.int v56s0), .val (.int v70s0), .val (.int v85s0), .val (.int v100s0), .val (.int x22_110), .val (.long v144s0), .second, .val (.int x25_167), .val (.int v182s0), .val (.ref b9), .val (.int v296s0), .val (.int v336s0), .unset, .unset] [(.long x11_14), (.long x9_7), (.int v182s0), (.int v85s0), (.int v70s0), (.int v56s0), (.int v42s0), (.long x13_22), (.int (mj258 x13_22))]))
            refine A (XS.lload X22.here hx rfl (hb hby at_361) rfl) ?_
            show D (T22.setTop (mkF m 363 #[.val (.long p1), .second, .val (.long p2), .second, .val (.long p3), .second, .val (.long p4), .second, .val (.int p5), .val (.long x9_7), .second, .val (.long x11_14), .second, .val (.long x13_22), .second, .val (.long x15_30), .second, .val (.int v42s0), .val (.int v56s0), .val (.int v70s0), .val (.int v85s0), .val (.int v100s0), .val (.int x22_110), .val (.long v144s0), .second, .val (.int x25_167), .val (.int v182s0), .val (.ref b9), .val (.int v296s0), .val (.int v336s0), .unset, .unset] [(.long x13_22), (.long x11_14), (.long x9_7), (.int v182s0), (.int v85s0), (.int v70s0), (.int v56s0), (.int v42s0), (.long x13_22), (.int (mj258 x13_22))]))
            refine A (XS.lload X22.here hx rfl (hb hby at_363) rfl) ?_
            show D (T22.setTop (mkF m 365 #[.val (.long p1), .second, .val (.long p2), .second, .val (.long p3), .second, .val (.long p4), .second, .val (.int p5), .val (.long x9_7), .second, .val (.long x11_14), .second, .val (.long x13_22), .second, .val (.long x15_30), .second, .val (.int v42s0), .val (.int v56s0), .val (.int v70s0), .val (.int v85s0), .val (.int v100s0), .val (.int x22_110), .val (.long v144s0), .second, .val (.int x25_167), .val (.int v182s0), .val (.ref b9), .val (.int v296s0), .val (.int v336s0), .unset, .unset] [(.long v144s0), (.long x13_22), (.long x11_14), (.long x9_7), (.int v182s0), (.int v85s0), (.int v70s0), (.int v56s0), (.int v42s0), (.long x13_22), (.int (mj258 x13_22))]))
            refine Adv.callS A X22 hx hZ hown (hw _ (List.mem_of_getElem? (i := 63) rfl)) (hw _ (List.mem_of_getElem? (i := 64) rfl)) (hw _ (List.mem_of_getElem? (i := 3) rfl)) (hw _ (List.mem_of_getElem? (i := 65) rfl)) e22 (rm12 l Z a0 hw [] x13_22 v42s0 v56s0 v70s0 v85s0 v182s0 x9_7 x11_14 x13_22 v144s0 H15 n0) 1 (g := (mkF m 365 #[.val (.long p1), .second, .val (.long p2), .second, .val (.long p3), .second, .val (.long p4), .second, .val (.int p5), .val (.long x9_7), .second, .val (.long x11_14), .second, .val (.long x13_22), .second, .val (.long x15_30), .second, .val (.int v42s0), .val (.int v56s0), .val (.int v70s0), .val (.int v85s0), .val (.int v100s0), .val (.int x22_110), .val (.long v144s0), .second, .val (.int x25_167), .val (.int v182s0), .val (.ref b9), .val (.int v296s0), .val (.int v336s0), .unset, .unset] [(.long v144s0), (.long x13_22), (.long x11_14), (.long x9_7), (.int v182s0), (.int v85s0), (.int v70s0), (.int v56s0), (.int v42s0), (.long x13_22), (.int (mj258 x13_22))])) rfl (by rw [hml]; rfl) [(.long x13_22), (.int v42s0), (.int v56s0), (.int v70s0), (.int v85s0), (.int v182s0), (.long x9_7), (.long x11_14), (.long x13_22), (.long v144s0)] [(.int (mj258 x13_22))] rfl (lenOf pd0_3 rfl) rfl (by show 2 * 0 + _ ≤ _; exact Nat.le_of_eq rfl) (hb hby at_365) (by decide) (by decide) (by decide) (by decide) (by decide) ?_
            rintro T23 L23 _ X23 ⟨rfl, N23_q, e23⟩
            have N23 := Fr.app N22 N23_q
            show D (T23.setTop (mkF m 368 #[.val (.long p1), .second, .val (.long p2), .second, .val (.long p3), .second, .val (.long p4), .second, .val (.int p5), .val (.long x9_7), .second, .val (.long x11_14), .second, .val (.long x13_22), .second, .val (.long x15_30), .second, .val (.int v42s0), .val (.int v56s0), .val (.int v70s0), .val (.int v85s0), .val (.int v100s0), .val (.int x22_110), .val (.long v144s0), .second, .val (.int x25_167), .val (.int v182s0), .val (.ref b9), .val (.int v296s0), .val (.int v336s0), .unset, .unset] [(.int (f12 x13_22 v42s0 v56s0 v70s0 v85s0 v182s0 x9_7 x11_14 x13_22 v144s0)), (.int (mj258 x13_22))]))
            suffices Km376_24 : ∀ (v376s0 : Int32), v376s0 = (if (mj258 x13_22) = (f12 x13_22 v42s0 v56s0 v70s0 v85s0 v182s0 x9_7 x11_14 x13_22 v144s0) then (1 : Int32) else (0 : Int32)) → D (T23.setTop (mkF m 376 #[.val (.long p1), .second, .val (.long p2), .second, .val (.long p3), .second, .val (.long p4), .second, .val (.int p5), .val (.long x9_7), .second, .val (.long x11_14), .second, .val (.long x13_22), .second, .val (.long x15_30), .second, .val (.int v42s0), .val (.int v56s0), .val (.int v70s0), .val (.int v85s0), .val (.int v100s0), .val (.int x22_110), .val (.long v144s0), .second, .val (.int x25_167), .val (.int v182s0), .val (.ref b9), .val (.int v296s0), .val (.int v336s0), .unset, .unset] [(.int v376s0)])) by
              by_cases c368_0 : (mj258 x13_22) = (f12 x13_22 v42s0 v56s0 v70s0 v85s0 v182s0 x9_7 x11_14 x13_22 v144s0)
              · refine A (XS.icmpNo X23.here hx rfl (hb hby at_368) rfl (teq c368_0).2) ?_
                show D (T23.setTop (mkF m 371 #[.val (.long p1), .second, .val (.long p2), .second, .val (.long p3), .second, .val (.long p4), .second, .val (.int p5), .val (.long x9_7), .second, .val (.long x11_14), .second, .val (.long x13_22), .second, .val (.long x15_30), .second, .val (.int v42s0), .val (.int v56s0), .val (.int v70s0), .val (.int v85s0), .val (.int v100s0), .val (.int x22_110), .val (.long v144s0), .second, .val (.int x25_167), .val (.int v182s0), .val (.ref b9), .val (.int v296s0), .val (.int v336s0), .unset, .unset] []))
                refine A (XS.iconst X23.here hx rfl (hb hby at_371)) ?_
                show D (T23.setTop (mkF m 372 #[.val (.long p1), .second, .val (.long p2), .second, .val (.long p3), .second, .val (.long p4), .second, .val (.int p5), .val (.long x9_7), .second, .val (.long x11_14), .second, .val (.long x13_22), .second, .val (.long x15_30), .second, .val (.int v42s0), .val (.int v56s0), .val (.int v70s0), .val (.int v85s0), .val (.int v100s0), .val (.int x22_110), .val (.long v144s0), .second, .val (.int x25_167), .val (.int v182s0), .val (.ref b9), .val (.int v296s0), .val (.int v336s0), .unset, .unset] [(.int (1 : Int32))]))
                refine A (XS.goto X23.here hx rfl (pc0 := 372) (pc' := 376) rfl (hb hby at_372) (by decide) (by decide)) ?_
                show D (T23.setTop (mkF m 376 #[.val (.long p1), .second, .val (.long p2), .second, .val (.long p3), .second, .val (.long p4), .second, .val (.int p5), .val (.long x9_7), .second, .val (.long x11_14), .second, .val (.long x13_22), .second, .val (.long x15_30), .second, .val (.int v42s0), .val (.int v56s0), .val (.int v70s0), .val (.int v85s0), .val (.int v100s0), .val (.int x22_110), .val (.long v144s0), .second, .val (.int x25_167), .val (.int v182s0), .val (.ref b9), .val (.int v296s0), .val (.int v336s0), .unset, .unset] [(.int (1 : Int32))]))
                exact Km376_24 _ ((if_pos c368_0)).symm
              · refine A (XS.icmpYes X23.here hx rfl (pc0 := 368) (pc' := 375) rfl (hb hby at_368) rfl (feq c368_0).2 (by decide) (by decide)) ?_
                show D (T23.setTop (mkF m 375 #[.val (.long p1), .second, .val (.long p2), .second, .val (.long p3), .second, .val (.long p4), .second, .val (.int p5), .val (.long x9_7), .second, .val (.long x11_14), .second, .val (.long x13_22), .second, .val (.long x15_30), .second, .val (.int v42s0), .val (.int v56s0), .val (.int v70s0), .val (.int v85s0), .val (.int v100s0), .val (.int x22_110), .val (.long v144s0), .second, .val (.int x25_167), .val (.int v182s0), .val (.ref b9), .val (.int v296s0), .val (.int v336s0), .unset, .unset] []))
                refine A (XS.iconst X23.here hx rfl (hb hby at_375)) ?_
                show D (T23.setTop (mkF m 376 #[.val (.long p1), .second, .val (.long p2), .second, .val (.long p3), .second, .val (.long p4), .second, .val (.int p5), .val (.long x9_7), .second, .val (.long x11_14), .second, .val (.long x13_22), .second, .val (.long x15_30), .second, .val (.int v42s0), .val (.int v56s0), .val (.int v70s0), .val (.int v85s0), .val (.int v100s0), .val (.int x22_110), .val (.long v144s0), .second, .val (.int x25_167), .val (.int v182s0), .val (.ref b9), .val (.int v296s0), .val (.int v336s0), .unset, .unset] [(.int (0 : Int32))]))
                exact Km376_24 _ ((if_neg c368_0)).symm
            intro v376s0 hv376s0
            show D (T23.setTop (mkF m 376 #[.val (.long p1), .second, .val (.long p2), .second, .val (.long p3), .second, .val (.long p4), .second, .val (.int p5), .val (.long x9_7), .second, .val (.long x11_14), .second, .val (.long x13_22), .second, .val (.long x15_30), .second, .val (.int v42s0), .val (.int v56s0), .val (.int v70s0), .val (.int v85s0), .val (.int v100s0), .val (.int x22_110), .val (.long v144s0), .second, .val (.int x25_167), .val (.int v182s0), .val (.ref b9), .val (.int v296s0), .val (.int v336s0), .unset, .unset] [(.int v376s0)]))
            refine A (XS.istore X23.here hx rfl (hb hby at_376) rfl (l' := #[.val (.long p1), .second, .val (.long p2), .second, .val (.long p3), .second, .val (.long p4), .second, .val (.int p5), .val (.long x9_7), .second, .val (.long x11_14), .second, .val (.long x13_22), .second, .val (.long x15_30), .second, .val (.int v42s0), .val (.int v56s0), .val (.int v70s0), .val (.int v85s0), .val (.int v100s0), .val (.int x22_110), .val (.long v144s0), .second, .val (.int x25_167), .val (.int v182s0), .val (.ref b9), .val (.int v296s0), .val (.int v336s0), .val (.int v376s0), .unset]) rfl) ?_
            show D (T23.setTop (mkF m 378 #[.val (.long p1), .second, .val (.long p2), .second, .val (.long p3), .second, .val (.long p4), .second, .val (.int p5), .val (.long x9_7), .second, .val (.long x11_14), .second, .val (.long x13_22), .second, .val (.long x15_30), .second, .val (.int v42s0), .val (.int v56s0), .val (.int v70s0), .val (.int v85s0), .val (.int v100s0), .val (.int x22_110), .val (.long v144s0), .second, .val (.int x25_167), .val (.int v182s0), .val (.ref b9), .val (.int v296s0), .val (.int v336s0), .val (.int v376s0), .unset] []))
            refine A (XS.aload X23.here hx rfl (hb hby at_378) rfl rfl) ?_
            show D (T23.setTop (mkF m 380 #[.val (.long p1), .second, .val (.long p2), .second, .val (.long p3), .second, .val (.long p4), .second, .val (.int p5), .val (.long x9_7), .second, .val (.long x11_14), .second, .val (.long x13_22), .second, .val (.long x15_30), .second, .val (.int v42s0), .val (.int v56s0), .val (.int v70s0), .val (.int v85s0), .val (.int v100s0), .val (.int x22_110), .val (.long v144s0), .second, .val (.int x25_167), .val (.int v182s0), .val (.ref b9), .val (.int v296s0), .val (.int v336s0), .val (.int v376s0), .unset] [(.ref b9)]))
            refine A (XS.lload X23.here hx rfl (hb hby at_380) rfl) ?_
            show D (T23.setTop (mkF m 382 #[.val (.long p1), .second, .val (.long p2), .second, .val (.long p3), .second, .val (.long p4), .second, .val (.int p5), .val (.long x9_7), .second, .val (.long x11_14), .second, .val (.long x13_22), .second, .val (.long x15_30), .second, .val (.int v42s0), .val (.int v56s0), .val (.int v70s0), .val (.int v85s0), .val (.int v100s0), .val (.int x22_110), .val (.long v144s0), .second, .val (.int x25_167), .val (.int v182s0), .val (.ref b9), .val (.int v296s0), .val (.int v336s0), .val (.int v376s0), .unset] [(.long x15_30), (.ref b9)]))
            refine Adv.callV A X23 hx hZ hown (hw _ (List.mem_of_getElem? (i := 58) rfl)) (hw _ (List.mem_of_getElem? (i := 59) rfl)) (notFace_of_selects (args := #[]) (mvT hZ (hw _ (List.mem_of_getElem? (i := 61) rfl)))) (hw _ (List.mem_of_getElem? (i := 61) rfl)) (hw _ (List.mem_of_getElem? (i := 60) rfl)) (hw _ (List.mem_of_getElem? (i := 7) rfl)) (hw _ (List.mem_of_getElem? (i := 62) rfl)) e23 E_b9_15 (rm11 l Z a0 hw [] b9 x15_30 H15 n0 szj258 ka10 cb10 kj258 cj258 mj258 5 Zq15 g_b9 g_ka10 g_cb10 E_b9_15 F_keys_b9_15 F_counts_b9_15 F_mask_b9_15 F_shift_b9_15 F_size_b9_15 V_ka10_15 V_cb10_15 hoj258 (by decide) hzj258 hcj258 hk15) 0 (g := (mkF m 382 #[.val (.long p1), .second, .val (.long p2), .second, .val (.long p3), .second, .val (.long p4), .second, .val (.int p5), .val (.long x9_7), .second, .val (.long x11_14), .second, .val (.long x13_22), .second, .val (.long x15_30), .second, .val (.int v42s0), .val (.int v56s0), .val (.int v70s0), .val (.int v85s0), .val (.int v100s0), .val (.int x22_110), .val (.long v144s0), .second, .val (.int x25_167), .val (.int v182s0), .val (.ref b9), .val (.int v296s0), .val (.int v336s0), .val (.int v376s0), .unset] [(.long x15_30), (.ref b9)])) rfl (by rw [hml]; rfl) [(.long x15_30)] [] rfl (lenOf pd0_2 rfl) rfl (by show 2 * 0 + _ ≤ _; exact Nat.le_of_eq rfl) (hb hby at_382) (by decide) (by decide) (by decide) (by decide) (by decide) ?_
            rintro T25 L25 _ X25 ⟨rfl, N25_q, e25⟩
            have N25 := Fr.app N23 N25_q
            show D (T25.setTop (mkF m 385 #[.val (.long p1), .second, .val (.long p2), .second, .val (.long p3), .second, .val (.long p4), .second, .val (.int p5), .val (.long x9_7), .second, .val (.long x11_14), .second, .val (.long x13_22), .second, .val (.long x15_30), .second, .val (.int v42s0), .val (.int v56s0), .val (.int v70s0), .val (.int v85s0), .val (.int v100s0), .val (.int x22_110), .val (.long v144s0), .second, .val (.int x25_167), .val (.int v182s0), .val (.ref b9), .val (.int v296s0), .val (.int v336s0), .val (.int v376s0), .unset] [(.int (mj258 x15_30))]))
            refine A (XS.lload X25.here hx rfl (hb hby at_385) rfl) ?_
            show D (T25.setTop (mkF m 387 #[.val (.long p1), .second, .val (.long p2), .second, .val (.long p3), .second, .val (.long p4), .second, .val (.int p5), .val (.long x9_7), .second, .val (.long x11_14), .second, .val (.long x13_22), .second, .val (.long x15_30), .second, .val (.int v42s0), .val (.int v56s0), .val (.int v70s0), .val (.int v85s0), .val (.int v100s0), .val (.int x22_110), .val (.long v144s0), .second, .val (.int x25_167), .val (.int v182s0), .val (.ref b9), .val (.int v296s0), .val (.int v336s0), .val (.int v376s0), .unset] [(.long x15_30), (.int (mj258 x15_30))]))
            refine A (XS.iload X25.here hx rfl (hb hby at_387) rfl) ?_
            show D (T25.setTop (mkF m 389 #[.val (.long p1), .second, .val (.long p2), .second, .val (.long p3), .second, .val (.long p4), .second, .val (.int p5), .val (.long x9_7), .second, .val (.long x11_14), .second, .val (.long x13_22), .second, .val (.long x15_30), .second, .val (.int v42s0), .val (.int v56s0), .val (.int v70s0), .val (.int v85s0), .val (.int v100s0), .val (.int x22_110), .val (.long v144s0), .second, .val (.int x25_167), .val (.int v182s0), .val (.ref b9), .val (.int v296s0), .val (.int v336s0), .val (.int v376s0), .unset] [(.int v42s0), (.long x15_30), (.int (mj258 x15_30))]))
            refine A (XS.iload X25.here hx rfl (hb hby at_389) rfl) ?_
            show D (T25.setTop (mkF m 391 #[.val (.long p1), .second, .val (.long p2), .second, .val (.long p3), .second, .val (.long p4), .second, .val (.int p5), .val (.long x9_7), .second, .val (.long x11_14), .second, .val (.long x13_22), .second, .val (.long x15_30), .second, .val (.int v42s0), .val (.int v56s0), .val (.int v70s0), .val (.int v85s0), .val (.int v100s0), .val (.int x22_110), .val (.long v144s0), .second, .val (.int x25_167), .val (.int v182s0), .val (.ref b9), .val (.int v296s0), .val (.int v336s0), .val (.int v376s0), .unset] [(.int v56s0), (.int v42s0), (.long x15_30), (.int (mj258 x15_30))]))
            refine A (XS.iload X25.here hx rfl (hb hby at_391) rfl) ?_
            show D (T25.setTop (mkF m 393 #[.val (.long p1), .second, .val (.long p2), .second, .val (.long p3), .second, .val (.long p4), .second, .val (.int p5), .val (.long x9_7), .second, .val (.long x11_14), .second, .val (.long x13_22), .second, .val (.long x15_30), .second, .val (.int v42s0), .val (.int v56s0), .val (.int v70s0), .val (.int v85s0), .val (.int v100s0), .val (.int x22_110), .val (.long v144s0), .second, .val (.int x25_167), .val (.int v182s0), .val (.ref b9), .val (.int v296s0), .val (.int v336s0), .val (.int v376s0), .unset] [(.int v70s0), (.int v56s0), (.int v42s0), (.long x15_30), (.int (mj258 x15_30))]))
            refine A (XS.iload X25.here hx rfl (hb hby at_393) rfl) ?_
            show D (T25.setTop (mkF m 395 #[.val (.long p1), .second, .val (.long p2), .second, .val (.long p3), .second, .val (.long p4), .second, .val (.int p5), .val (.long x9_7), .second, .val (.long x11_14), .second, .val (.long x13_22), .second, .val (.long x15_30), .second, .val (.int v42s0), .val (.int v56s0), .val (.int v70s0), .val (.int v85s0), .val (.int v100s0), .val (.int x22_110), .val (.long v144s0), .second, .val (.int x25_167), .val (.int v182s0), .val (.ref b9), .val (.int v296s0), .val (.int v336s0), .val (.int v376s0), .unset] [(.int v85s0), (.int v70s0), (.int v56s0), (.int v42s0), (.long x15_30), (.int (mj258 x15_30))]))
            refine A (XS.iload X25.here hx rfl (hb hby at_395) rfl) ?_
            show D (T25.setTop (mkF m 397 #[.val (.long p1), .second, .val (.long p2), .second, .val (.long p3), .second, .val (.long p4), .second, .val (.int p5), .val (.long x9_7), .second, .val (.long x11_14), .second, .val (.long x13_22), .second, .val (.long x15_30), .second, .val (.int v42s0), .val (.int v56s0), .val (.int v70s0), .val (.int v85s0), .val (.int v100s0), .val (.int x22_110), .val (.long v144s0), .second, .val (.int x25_167), .val (.int v182s0), .val (.ref b9), .val (.int v296s0), .val (.int v336s0), .val (.int v376s0), .unset] [(.int v182s0), (.int v85s0), (.int v70s0), (.int v56s0), (.int v42s0), (.long x15_30), (.int (mj258 x15_30))]))
            refine A (XS.lload X25.here hx rfl (hb hby at_397) rfl) ?_
            show D (T25.setTop (mkF m 399 #[.val (.long p1), .second, .val (.long p2), .second, .val (.long p3), .second, .val (.long p4), .second, .val (.int p5), .val (.long x9_7), .second, .val (.long x11_14), .second, .val (.long x13_22), .second, .val (.long x15_30), .second, .val (.int v42s0), .val (.int v56s0), .val (.int v70s0), .val (.int v85s0), .val (.int v100s0), .val (.int x22_110), .val (.long v144s0), .second, .val (.int x25_167), .val (.int v182s0), .val (.ref b9), .val (.int v296s0), .val (.int v336s0), .val (.int v376s0), .unset] [(.long x9_7), (.int v182s0), (.int v85s0), (.int v70s0), (.int v56s0), (.int v42s0), (.long x15_30), (.int (mj258 x15_30))]))
            refine A (XS.lload X25.here hx rfl (hb hby at_399) rfl) ?_
            show D (T25.setTop (mkF m 401 #[.val (.long p1), .second, .val (.long p2), .second, .val (.long p3), .second, .val (.long p4), .second, .val (.int p5), .val (.long x9_7), .second, .val (.long x11_14), .second, .val (.long x13_22), .second, .val (.long x15_30), .second, .val (.int v42s0), .val (.int v56s0), .val (.int v70s0), .val (.int v85s0), .val (.int v100s0), .val (.int x22_110), .val (.long v144s0), .second, .val (.int x25_167), .val (.int v182s0), .val (.ref b9), .val (.int v296s0), .val (.int v336s0), .val (.int v376s0), .unset] [(.long x11_14), (.long x9_7), (.int v182s0), (.int v85s0), (.int v70s0), (.int v56s0), (.int v42s0), (.long x15_30), (.int (mj258 x15_30))]))
            refine A (XS.lload X25.here hx rfl (hb hby at_401) rfl) ?_
            show D (T25.setTop (mkF m 403 #[.val (.long p1), .second, .val (.long p2), .second, .val (.long p3), .second, .val (.long p4), .second, .val (.int p5), .val (.long x9_7), .second, .val (.long x11_14), .second, .val (.long x13_22), .second, .val (.long x15_30), .second, .val (.int v42s0), .val (.int v56s0), .val (.int v70s0), .val (.int v85s0), .val (.int v100s0), .val (.int x22_110), .val (.long v144s0), .second, .val (.int x25_167), .val (.int v182s0), .val (.ref b9), .val (.int v296s0), .val (.int v336s0), .val (.int v376s0), .unset] [(.long x13_22), (.long x11_14), (.long x9_7), (.int v182s0), (.int v85s0), (.int v70s0), (.int v56s0), (.int v42s0), (.long x15_30), (.int (mj258 x15_30))]))
            refine A (XS.lload X25.here hx rfl (hb hby at_403) rfl) ?_
            show D (T25.setTop (mkF m 405 #[.val (.long p1), .second, .val (.long p2), .second, .val (.long p3), .second, .val (.long p4), .second, .val (.int p5), .val (.long x9_7), .second, .val (.long x11_14), .second, .val (.long x13_22), .second, .val (.long x15_30), .second, .val (.int v42s0), .val (.int v56s0), .val (.int v70s0), .val (.int v85s0), .val (.int v100s0), .val (.int x22_110), .val (.long v144s0), .second, .val (.int x25_167), .val (.int v182s0), .val (.ref b9), .val (.int v296s0), .val (.int v336s0), .val (.int v376s0), .unset] [(.long v144s0), (.long x13_22), (.long x11_14), (.long x9_7), (.int v182s0), (.int v85s0), (.int v70s0), (.int v56s0), (.int v42s0), (.long x15_30), (.int (mj258 x15_30))]))
            refine Adv.callS A X25 hx hZ hown (hw _ (List.mem_of_getElem? (i := 63) rfl)) (hw _ (List.mem_of_getElem? (i := 64) rfl)) (hw _ (List.mem_of_getElem? (i := 3) rfl)) (hw _ (List.mem_of_getElem? (i := 65) rfl)) e25 (rm12 l Z a0 hw [] x15_30 v42s0 v56s0 v70s0 v85s0 v182s0 x9_7 x11_14 x13_22 v144s0 H15 n0) 1 (g := (mkF m 405 #[.val (.long p1), .second, .val (.long p2), .second, .val (.long p3), .second, .val (.long p4), .second, .val (.int p5), .val (.long x9_7), .second, .val (.long x11_14), .second, .val (.long x13_22), .second, .val (.long x15_30), .second, .val (.int v42s0), .val (.int v56s0), .val (.int v70s0), .val (.int v85s0), .val (.int v100s0), .val (.int x22_110), .val (.long v144s0), .second, .val (.int x25_167), .val (.int v182s0), .val (.ref b9), .val (.int v296s0), .val (.int v336s0), .val (.int v376s0), .unset] [(.long v144s0), (.long x13_22), (.long x11_14), (.long x9_7), (.int v182s0), (.int v85s0), (.int v70s0), (.int v56s0), (.int v42s0), (.long x15_30), (.int (mj258 x15_30))])) rfl (by rw [hml]; rfl) [(.long x15_30), (.int v42s0), (.int v56s0), (.int v70s0), (.int v85s0), (.int v182s0), (.long x9_7), (.long x11_14), (.long x13_22), (.long v144s0)] [(.int (mj258 x15_30))] rfl (lenOf pd0_3 rfl) rfl (by show 2 * 0 + _ ≤ _; exact Nat.le_of_eq rfl) (hb hby at_405) (by decide) (by decide) (by decide) (by decide) (by decide) ?_
            rintro T26 L26 _ X26 ⟨rfl, N26_q, e26⟩
            have N26 := Fr.app N25 N26_q
            show D (T26.setTop (mkF m 408 #[.val (.long p1), .second, .val (.long p2), .second, .val (.long p3), .second, .val (.long p4), .second, .val (.int p5), .val (.long x9_7), .second, .val (.long x11_14), .second, .val (.long x13_22), .second, .val (.long x15_30), .second, .val (.int v42s0), .val (.int v56s0), .val (.int v70s0), .val (.int v85s0), .val (.int v100s0), .val (.int x22_110), .val (.long v144s0), .second, .val (.int x25_167), .val (.int v182s0), .val (.ref b9), .val (.int v296s0), .val (.int v336s0), .val (.int v376s0), .unset] [(.int (f12 x15_30 v42s0 v56s0 v70s0 v85s0 v182s0 x9_7 x11_14 x13_22 v144s0)), (.int (mj258 x15_30))]))
            suffices Km416_27 : ∀ (v416s0 : Int32), v416s0 = (if (mj258 x15_30) = (f12 x15_30 v42s0 v56s0 v70s0 v85s0 v182s0 x9_7 x11_14 x13_22 v144s0) then (1 : Int32) else (0 : Int32)) → D (T26.setTop (mkF m 416 #[.val (.long p1), .second, .val (.long p2), .second, .val (.long p3), .second, .val (.long p4), .second, .val (.int p5), .val (.long x9_7), .second, .val (.long x11_14), .second, .val (.long x13_22), .second, .val (.long x15_30), .second, .val (.int v42s0), .val (.int v56s0), .val (.int v70s0), .val (.int v85s0), .val (.int v100s0), .val (.int x22_110), .val (.long v144s0), .second, .val (.int x25_167), .val (.int v182s0), .val (.ref b9), .val (.int v296s0), .val (.int v336s0), .val (.int v376s0), .unset] [(.int v416s0)])) by
              by_cases c408_0 : (mj258 x15_30) = (f12 x15_30 v42s0 v56s0 v70s0 v85s0 v182s0 x9_7 x11_14 x13_22 v144s0)
              · refine A (XS.icmpNo X26.here hx rfl (hb hby at_408) rfl (teq c408_0).2) ?_
                show D (T26.setTop (mkF m 411 #[.val (.long p1), .second, .val (.long p2), .second, .val (.long p3), .second, .val (.long p4), .second, .val (.int p5), .val (.long x9_7), .second, .val (.long x11_14), .second, .val (.long x13_22), .second, .val (.long x15_30), .second, .val (.int v42s0), .val (.int v56s0), .val (.int v70s0), .val (.int v85s0), .val (.int v100s0), .val (.int x22_110), .val (.long v144s0), .second, .val (.int x25_167), .val (.int v182s0), .val (.ref b9), .val (.int v296s0), .val (.int v336s0), .val (.int v376s0), .unset] []))
                refine A (XS.iconst X26.here hx rfl (hb hby at_411)) ?_
                show D (T26.setTop (mkF m 412 #[.val (.long p1), .second, .val (.long p2), .second, .val (.long p3), .second, .val (.long p4), .second, .val (.int p5), .val (.long x9_7), .second, .val (.long x11_14), .second, .val (.long x13_22), .second, .val (.long x15_30), .second, .val (.int v42s0), .val (.int v56s0), .val (.int v70s0), .val (.int v85s0), .val (.int v100s0), .val (.int x22_110), .val (.long v144s0), .second, .val (.int x25_167), .val (.int v182s0), .val (.ref b9), .val (.int v296s0), .val (.int v336s0), .val (.int v376s0), .unset] [(.int (1 : Int32))]))
                refine A (XS.goto X26.here hx rfl (pc0 := 412) (pc' := 416) rfl (hb hby at_412) (by decide) (by decide)) ?_
                show D (T26.setTop (mkF m 416 #[.val (.long p1), .second, .val (.long p2), .second, .val (.long p3), .second, .val (.long p4), .second, .val (.int p5), .val (.long x9_7), .second, .val (.long x11_14), .second, .val (.long x13_22), .second, .val (.long x15_30), .second, .val (.int v42s0), .val (.int v56s0), .val (.int v70s0), .val (.int v85s0), .val (.int v100s0), .val (.int x22_110), .val (.long v144s0), .second, .val (.int x25_167), .val (.int v182s0), .val (.ref b9), .val (.int v296s0), .val (.int v336s0), .val (.int v376s0), .unset] [(.int (1 : Int32))]))
                exact Km416_27 _ ((if_pos c408_0)).symm
              · refine A (XS.icmpYes X26.here hx rfl (pc0 := 408) (pc' := 415) rfl (hb hby at_408) rfl (feq c408_0).2 (by decide) (by decide)) ?_
                show D (T26.setTop (mkF m 415 #[.val (.long p1), .second, .val (.long p2), .second, .val (.long p3), .second, .val (.long p4), .second, .val (.int p5), .val (.long x9_7), .second, .val (.long x11_14), .second, .val (.long x13_22), .second, .val (.long x15_30), .second, .val (.int v42s0), .val (.int v56s0), .val (.int v70s0), .val (.int v85s0), .val (.int v100s0), .val (.int x22_110), .val (.long v144s0), .second, .val (.int x25_167), .val (.int v182s0), .val (.ref b9), .val (.int v296s0), .val (.int v336s0), .val (.int v376s0), .unset] []))
                refine A (XS.iconst X26.here hx rfl (hb hby at_415)) ?_
                show D (T26.setTop (mkF m 416 #[.val (.long p1), .second, .val (.long p2), .second, .val (.long p3), .second, .val (.long p4), .second, .val (.int p5), .val (.long x9_7), .second, .val (.long x11_14), .second, .val (.long x13_22), .second, .val (.long x15_30), .second, .val (.int v42s0), .val (.int v56s0), .val (.int v70s0), .val (.int v85s0), .val (.int v100s0), .val (.int x22_110), .val (.long v144s0), .second, .val (.int x25_167), .val (.int v182s0), .val (.ref b9), .val (.int v296s0), .val (.int v336s0), .val (.int v376s0), .unset] [(.int (0 : Int32))]))
                exact Km416_27 _ ((if_neg c408_0)).symm
            intro v416s0 hv416s0
            show D (T26.setTop (mkF m 416 #[.val (.long p1), .second, .val (.long p2), .second, .val (.long p3), .second, .val (.long p4), .second, .val (.int p5), .val (.long x9_7), .second, .val (.long x11_14), .second, .val (.long x13_22), .second, .val (.long x15_30), .second, .val (.int v42s0), .val (.int v56s0), .val (.int v70s0), .val (.int v85s0), .val (.int v100s0), .val (.int x22_110), .val (.long v144s0), .second, .val (.int x25_167), .val (.int v182s0), .val (.ref b9), .val (.int v296s0), .val (.int v336s0), .val (.int v376s0), .unset] [(.int v416s0)]))
            refine A (XS.istore X26.here hx rfl (hb hby at_416) rfl (l' := #[.val (.long p1), .second, .val (.long p2), .second, .val (.long p3), .second, .val (.long p4), .second, .val (.int p5), .val (.long x9_7), .second, .val (.long x11_14), .second, .val (.long x13_22), .second, .val (.long x15_30), .second, .val (.int v42s0), .val (.int v56s0), .val (.int v70s0), .val (.int v85s0), .val (.int v100s0), .val (.int x22_110), .val (.long v144s0), .second, .val (.int x25_167), .val (.int v182s0), .val (.ref b9), .val (.int v296s0), .val (.int v336s0), .val (.int v376s0), .val (.int v416s0)]) rfl) ?_
            show D (T26.setTop (mkF m 418 #[.val (.long p1), .second, .val (.long p2), .second, .val (.long p3), .second, .val (.long p4), .second, .val (.int p5), .val (.long x9_7), .second, .val (.long x11_14), .second, .val (.long x13_22), .second, .val (.long x15_30), .second, .val (.int v42s0), .val (.int v56s0), .val (.int v70s0), .val (.int v85s0), .val (.int v100s0), .val (.int x22_110), .val (.long v144s0), .second, .val (.int x25_167), .val (.int v182s0), .val (.ref b9), .val (.int v296s0), .val (.int v336s0), .val (.int v376s0), .val (.int v416s0)] []))
            refine A (XS.iload X26.here hx rfl (hb hby at_418) rfl) ?_
            show D (T26.setTop (mkF m 420 #[.val (.long p1), .second, .val (.long p2), .second, .val (.long p3), .second, .val (.long p4), .second, .val (.int p5), .val (.long x9_7), .second, .val (.long x11_14), .second, .val (.long x13_22), .second, .val (.long x15_30), .second, .val (.int v42s0), .val (.int v56s0), .val (.int v70s0), .val (.int v85s0), .val (.int v100s0), .val (.int x22_110), .val (.long v144s0), .second, .val (.int x25_167), .val (.int v182s0), .val (.ref b9), .val (.int v296s0), .val (.int v336s0), .val (.int v376s0), .val (.int v416s0)] [(.int v296s0)]))
            suffices Km443_28 : ∀ (v443s0 : Int32), v443s0 = (if v296s0 = (0 : Int32) then (0 : Int32) else (if v336s0 = (0 : Int32) then (0 : Int32) else (if v376s0 = (0 : Int32) then (0 : Int32) else (if v416s0 = (0 : Int32) then (0 : Int32) else (1 : Int32))))) → D (T26.setTop (mkF m 443 #[.val (.long p1), .second, .val (.long p2), .second, .val (.long p3), .second, .val (.long p4), .second, .val (.int p5), .val (.long x9_7), .second, .val (.long x11_14), .second, .val (.long x13_22), .second, .val (.long x15_30), .second, .val (.int v42s0), .val (.int v56s0), .val (.int v70s0), .val (.int v85s0), .val (.int v100s0), .val (.int x22_110), .val (.long v144s0), .second, .val (.int x25_167), .val (.int v182s0), .val (.ref b9), .val (.int v296s0), .val (.int v336s0), .val (.int v376s0), .val (.int v416s0)] [(.int v443s0)])) by
              by_cases c420_0 : v296s0 = (0 : Int32)
              · refine A (XS.ifYes X26.here hx rfl (pc0 := 420) (pc' := 442) rfl (hb hby at_420) rfl ((if0 _ _).trans (teq c420_0).1) (by decide) (by decide)) ?_
                show D (T26.setTop (mkF m 442 #[.val (.long p1), .second, .val (.long p2), .second, .val (.long p3), .second, .val (.long p4), .second, .val (.int p5), .val (.long x9_7), .second, .val (.long x11_14), .second, .val (.long x13_22), .second, .val (.long x15_30), .second, .val (.int v42s0), .val (.int v56s0), .val (.int v70s0), .val (.int v85s0), .val (.int v100s0), .val (.int x22_110), .val (.long v144s0), .second, .val (.int x25_167), .val (.int v182s0), .val (.ref b9), .val (.int v296s0), .val (.int v336s0), .val (.int v376s0), .val (.int v416s0)] []))
                refine A (XS.iconst X26.here hx rfl (hb hby at_442)) ?_
                show D (T26.setTop (mkF m 443 #[.val (.long p1), .second, .val (.long p2), .second, .val (.long p3), .second, .val (.long p4), .second, .val (.int p5), .val (.long x9_7), .second, .val (.long x11_14), .second, .val (.long x13_22), .second, .val (.long x15_30), .second, .val (.int v42s0), .val (.int v56s0), .val (.int v70s0), .val (.int v85s0), .val (.int v100s0), .val (.int x22_110), .val (.long v144s0), .second, .val (.int x25_167), .val (.int v182s0), .val (.ref b9), .val (.int v296s0), .val (.int v336s0), .val (.int v376s0), .val (.int v416s0)] [(.int (0 : Int32))]))
                exact Km443_28 _ ((if_pos c420_0)).symm
              · refine A (XS.ifNo X26.here hx rfl (hb hby at_420) rfl ((if0 _ _).trans (feq c420_0).1)) ?_
                show D (T26.setTop (mkF m 423 #[.val (.long p1), .second, .val (.long p2), .second, .val (.long p3), .second, .val (.long p4), .second, .val (.int p5), .val (.long x9_7), .second, .val (.long x11_14), .second, .val (.long x13_22), .second, .val (.long x15_30), .second, .val (.int v42s0), .val (.int v56s0), .val (.int v70s0), .val (.int v85s0), .val (.int v100s0), .val (.int x22_110), .val (.long v144s0), .second, .val (.int x25_167), .val (.int v182s0), .val (.ref b9), .val (.int v296s0), .val (.int v336s0), .val (.int v376s0), .val (.int v416s0)] []))
                refine A (XS.iload X26.here hx rfl (hb hby at_423) rfl) ?_
                show D (T26.setTop (mkF m 425 #[.val (.long p1), .second, .val (.long p2), .second, .val (.long p3), .second, .val (.long p4), .second, .val (.int p5), .val (.long x9_7), .second, .val (.long x11_14), .second, .val (.long x13_22), .second, .val (.long x15_30), .second, .val (.int v42s0), .val (.int v56s0), .val (.int v70s0), .val (.int v85s0), .val (.int v100s0), .val (.int x22_110), .val (.long v144s0), .second, .val (.int x25_167), .val (.int v182s0), .val (.ref b9), .val (.int v296s0), .val (.int v336s0), .val (.int v376s0), .val (.int v416s0)] [(.int v336s0)]))
                by_cases c425_1 : v336s0 = (0 : Int32)
                · refine A (XS.ifYes X26.here hx rfl (pc0 := 425) (pc' := 442) rfl (hb hby at_425) rfl ((if0 _ _).trans (teq c425_1).1) (by decide) (by decide)) ?_
                  show D (T26.setTop (mkF m 442 #[.val (.long p1), .second, .val (.long p2), .second, .val (.long p3), .second, .val (.long p4), .second, .val (.int p5), .val (.long x9_7), .second, .val (.long x11_14), .second, .val (.long x13_22), .second, .val (.long x15_30), .second, .val (.int v42s0), .val (.int v56s0), .val (.int v70s0), .val (.int v85s0), .val (.int v100s0), .val (.int x22_110), .val (.long v144s0), .second, .val (.int x25_167), .val (.int v182s0), .val (.ref b9), .val (.int v296s0), .val (.int v336s0), .val (.int v376s0), .val (.int v416s0)] []))
                  refine A (XS.iconst X26.here hx rfl (hb hby at_442)) ?_
                  show D (T26.setTop (mkF m 443 #[.val (.long p1), .second, .val (.long p2), .second, .val (.long p3), .second, .val (.long p4), .second, .val (.int p5), .val (.long x9_7), .second, .val (.long x11_14), .second, .val (.long x13_22), .second, .val (.long x15_30), .second, .val (.int v42s0), .val (.int v56s0), .val (.int v70s0), .val (.int v85s0), .val (.int v100s0), .val (.int x22_110), .val (.long v144s0), .second, .val (.int x25_167), .val (.int v182s0), .val (.ref b9), .val (.int v296s0), .val (.int v336s0), .val (.int v376s0), .val (.int v416s0)] [(.int (0 : Int32))]))
                  exact Km443_28 _ (((if_neg c420_0)).trans (if_pos c425_1)).symm
                · refine A (XS.ifNo X26.here hx rfl (hb hby at_425) rfl ((if0 _ _).trans (feq c425_1).1)) ?_
                  show D (T26.setTop (mkF m 428 #[.val (.long p1), .second, .val (.long p2), .second, .val (.long p3), .second, .val (.long p4), .second, .val (.int p5), .val (.long x9_7), .second, .val (.long x11_14), .second, .val (.long x13_22), .second, .val (.long x15_30), .second, .val (.int v42s0), .val (.int v56s0), .val (.int v70s0), .val (.int v85s0), .val (.int v100s0), .val (.int x22_110), .val (.long v144s0), .second, .val (.int x25_167), .val (.int v182s0), .val (.ref b9), .val (.int v296s0), .val (.int v336s0), .val (.int v376s0), .val (.int v416s0)] []))
                  refine A (XS.iload X26.here hx rfl (hb hby at_428) rfl) ?_
                  show D (T26.setTop (mkF m 430 #[.val (.long p1), .second, .val (.long p2), .second, .val (.long p3), .second, .val (.long p4), .second, .val (.int p5), .val (.long x9_7), .second, .val (.long x11_14), .second, .val (.long x13_22), .second, .val (.long x15_30), .second, .val (.int v42s0), .val (.int v56s0), .val (.int v70s0), .val (.int v85s0), .val (.int v100s0), .val (.int x22_110), .val (.long v144s0), .second, .val (.int x25_167), .val (.int v182s0), .val (.ref b9), .val (.int v296s0), .val (.int v336s0), .val (.int v376s0), .val (.int v416s0)] [(.int v376s0)]))
                  by_cases c430_2 : v376s0 = (0 : Int32)
                  · refine A (XS.ifYes X26.here hx rfl (pc0 := 430) (pc' := 442) rfl (hb hby at_430) rfl ((if0 _ _).trans (teq c430_2).1) (by decide) (by decide)) ?_
                    show D (T26.setTop (mkF m 442 #[.val (.long p1), .second, .val (.long p2), .second, .val (.long p3), .second, .val (.long p4), .second, .val (.int p5), .val (.long x9_7), .second, .val (.long x11_14), .second, .val (.long x13_22), .second, .val (.long x15_30), .second, .val (.int v42s0), .val (.int v56s0), .val (.int v70s0), .val (.int v85s0), .val (.int v100s0), .val (.int x22_110), .val (.long v144s0), .second, .val (.int x25_167), .val (.int v182s0), .val (.ref b9), .val (.int v296s0), .val (.int v336s0), .val (.int v376s0), .val (.int v416s0)] []))
                    refine A (XS.iconst X26.here hx rfl (hb hby at_442)) ?_
                    show D (T26.setTop (mkF m 443 #[.val (.long p1), .second, .val (.long p2), .second, .val (.long p3), .second, .val (.long p4), .second, .val (.int p5), .val (.long x9_7), .second, .val (.long x11_14), .second, .val (.long x13_22), .second, .val (.long x15_30), .second, .val (.int v42s0), .val (.int v56s0), .val (.int v70s0), .val (.int v85s0), .val (.int v100s0), .val (.int x22_110), .val (.long v144s0), .second, .val (.int x25_167), .val (.int v182s0), .val (.ref b9), .val (.int v296s0), .val (.int v336s0), .val (.int v376s0), .val (.int v416s0)] [(.int (0 : Int32))]))
                    exact Km443_28 _ ((((if_neg c420_0)).trans (if_neg c425_1)).trans (if_pos c430_2)).symm
                  · refine A (XS.ifNo X26.here hx rfl (hb hby at_430) rfl ((if0 _ _).trans (feq c430_2).1)) ?_
                    show D (T26.setTop (mkF m 433 #[.val (.long p1), .second, .val (.long p2), .second, .val (.long p3), .second, .val (.long p4), .second, .val (.int p5), .val (.long x9_7), .second, .val (.long x11_14), .second, .val (.long x13_22), .second, .val (.long x15_30), .second, .val (.int v42s0), .val (.int v56s0), .val (.int v70s0), .val (.int v85s0), .val (.int v100s0), .val (.int x22_110), .val (.long v144s0), .second, .val (.int x25_167), .val (.int v182s0), .val (.ref b9), .val (.int v296s0), .val (.int v336s0), .val (.int v376s0), .val (.int v416s0)] []))
                    refine A (XS.iload X26.here hx rfl (hb hby at_433) rfl) ?_
                    show D (T26.setTop (mkF m 435 #[.val (.long p1), .second, .val (.long p2), .second, .val (.long p3), .second, .val (.long p4), .second, .val (.int p5), .val (.long x9_7), .second, .val (.long x11_14), .second, .val (.long x13_22), .second, .val (.long x15_30), .second, .val (.int v42s0), .val (.int v56s0), .val (.int v70s0), .val (.int v85s0), .val (.int v100s0), .val (.int x22_110), .val (.long v144s0), .second, .val (.int x25_167), .val (.int v182s0), .val (.ref b9), .val (.int v296s0), .val (.int v336s0), .val (.int v376s0), .val (.int v416s0)] [(.int v416s0)]))
                    by_cases c435_3 : v416s0 = (0 : Int32)
                    · refine A (XS.ifYes X26.here hx rfl (pc0 := 435) (pc' := 442) rfl (hb hby at_435) rfl ((if0 _ _).trans (teq c435_3).1) (by decide) (by decide)) ?_
                      show D (T26.setTop (mkF m 442 #[.val (.long p1), .second, .val (.long p2), .second, .val (.long p3), .second, .val (.long p4), .second, .val (.int p5), .val (.long x9_7), .second, .val (.long x11_14), .second, .val (.long x13_22), .second, .val (.long x15_30), .second, .val (.int v42s0), .val (.int v56s0), .val (.int v70s0), .val (.int v85s0), .val (.int v100s0), .val (.int x22_110), .val (.long v144s0), .second, .val (.int x25_167), .val (.int v182s0), .val (.ref b9), .val (.int v296s0), .val (.int v336s0), .val (.int v376s0), .val (.int v416s0)] []))
                      refine A (XS.iconst X26.here hx rfl (hb hby at_442)) ?_
                      show D (T26.setTop (mkF m 443 #[.val (.long p1), .second, .val (.long p2), .second, .val (.long p3), .second, .val (.long p4), .second, .val (.int p5), .val (.long x9_7), .second, .val (.long x11_14), .second, .val (.long x13_22), .second, .val (.long x15_30), .second, .val (.int v42s0), .val (.int v56s0), .val (.int v70s0), .val (.int v85s0), .val (.int v100s0), .val (.int x22_110), .val (.long v144s0), .second, .val (.int x25_167), .val (.int v182s0), .val (.ref b9), .val (.int v296s0), .val (.int v336s0), .val (.int v376s0), .val (.int v416s0)] [(.int (0 : Int32))]))
                      exact Km443_28 _ (((((if_neg c420_0)).trans (if_neg c425_1)).trans (if_neg c430_2)).trans (if_pos c435_3)).symm
                    · refine A (XS.ifNo X26.here hx rfl (hb hby at_435) rfl ((if0 _ _).trans (feq c435_3).1)) ?_
                      show D (T26.setTop (mkF m 438 #[.val (.long p1), .second, .val (.long p2), .second, .val (.long p3), .second, .val (.long p4), .second, .val (.int p5), .val (.long x9_7), .second, .val (.long x11_14), .second, .val (.long x13_22), .second, .val (.long x15_30), .second, .val (.int v42s0), .val (.int v56s0), .val (.int v70s0), .val (.int v85s0), .val (.int v100s0), .val (.int x22_110), .val (.long v144s0), .second, .val (.int x25_167), .val (.int v182s0), .val (.ref b9), .val (.int v296s0), .val (.int v336s0), .val (.int v376s0), .val (.int v416s0)] []))
                      refine A (XS.iconst X26.here hx rfl (hb hby at_438)) ?_
                      show D (T26.setTop (mkF m 439 #[.val (.long p1), .second, .val (.long p2), .second, .val (.long p3), .second, .val (.long p4), .second, .val (.int p5), .val (.long x9_7), .second, .val (.long x11_14), .second, .val (.long x13_22), .second, .val (.long x15_30), .second, .val (.int v42s0), .val (.int v56s0), .val (.int v70s0), .val (.int v85s0), .val (.int v100s0), .val (.int x22_110), .val (.long v144s0), .second, .val (.int x25_167), .val (.int v182s0), .val (.ref b9), .val (.int v296s0), .val (.int v336s0), .val (.int v376s0), .val (.int v416s0)] [(.int (1 : Int32))]))
                      refine A (XS.goto X26.here hx rfl (pc0 := 439) (pc' := 443) rfl (hb hby at_439) (by decide) (by decide)) ?_
                      show D (T26.setTop (mkF m 443 #[.val (.long p1), .second, .val (.long p2), .second, .val (.long p3), .second, .val (.long p4), .second, .val (.int p5), .val (.long x9_7), .second, .val (.long x11_14), .second, .val (.long x13_22), .second, .val (.long x15_30), .second, .val (.int v42s0), .val (.int v56s0), .val (.int v70s0), .val (.int v85s0), .val (.int v100s0), .val (.int x22_110), .val (.long v144s0), .second, .val (.int x25_167), .val (.int v182s0), .val (.ref b9), .val (.int v296s0), .val (.int v336s0), .val (.int v376s0), .val (.int v416s0)] [(.int (1 : Int32))]))
                      exact Km443_28 _ (((((if_neg c420_0)).trans (if_neg c425_1)).trans (if_neg c430_2)).trans (if_neg c435_3)).symm
            intro v443s0 hv443s0
            show D (T26.setTop (mkF m 443 #[.val (.long p1), .second, .val (.long p2), .second, .val (.long p3), .second, .val (.long p4), .second, .val (.int p5), .val (.long x9_7), .second, .val (.long x11_14), .second, .val (.long x13_22), .second, .val (.long x15_30), .second, .val (.int v42s0), .val (.int v56s0), .val (.int v70s0), .val (.int v85s0), .val (.int v100s0), .val (.int x22_110), .val (.long v144s0), .second, .val (.int x25_167), .val (.int v182s0), .val (.ref b9), .val (.int v296s0), .val (.int v336s0), .val (.int v376s0), .val (.int v416s0)] [(.int v443s0)]))
            obtain rfl : v443s0 = (1 : Int32) := by
              have e28 : v296s0 = 1 := by rw [hv296s0, if_pos (hall5 _)]
              have e29 : v336s0 = 1 := by rw [hv336s0, if_pos (hall5 _)]
              have e30 : v376s0 = 1 := by rw [hv376s0, if_pos (hall5 _)]
              have e31 : v416s0 = 1 := by rw [hv416s0, if_pos (hall5 _)]
              rw [hv443s0, e28, e29, e30, e31]
              decide
            show D (T26.setTop (mkF m 443 #[.val (.long p1), .second, .val (.long p2), .second, .val (.long p3), .second, .val (.long p4), .second, .val (.int p5), .val (.long x9_7), .second, .val (.long x11_14), .second, .val (.long x13_22), .second, .val (.long x15_30), .second, .val (.int v42s0), .val (.int v56s0), .val (.int v70s0), .val (.int v85s0), .val (.int v100s0), .val (.int x22_110), .val (.long v144s0), .second, .val (.int x25_167), .val (.int v182s0), .val (.ref b9), .val (.int v296s0), .val (.int v336s0), .val (.int v376s0), .val (.int v416s0)] [(.int (1 : Int32))]))
            exact F _ (Jvm.JW.ret X26 hlk (v := some (.int (1 : Int32))) (fun h => by rw [hrt] at h; cases h) (fun fs hr => retOut X26 hx hrt rfl (Or.inl ⟨rfl, Or.inr (Or.inl rfl), _, rfl⟩) (hb hby at_443) hr) rfl ⟨rfl, N26⟩ (by decide) (by decide))
          by_cases c247_29 : v182s0 = (0 : Int32)
          · refine A (XS.ifYes X14.here hx rfl (pc0 := 247) (pc' := 258) rfl (hb hby at_247) rfl ((if0 _ _).trans (teq c247_29).1) (by decide) (by decide)) ?_
            show D (T14.setTop (mkF m 258 #[.val (.long p1), .second, .val (.long p2), .second, .val (.long p3), .second, .val (.long p4), .second, .val (.int p5), .val (.long x9_7), .second, .val (.long x11_14), .second, .val (.long x13_22), .second, .val (.long x15_30), .second, .val (.int v42s0), .val (.int v56s0), .val (.int v70s0), .val (.int v85s0), .val (.int v100s0), .val (.int x22_110), .val (.long v144s0), .second, .val (.int x25_167), .val (.int v182s0), .val (.ref b9), .unset, .unset, .unset, .unset] []))
            exact HJ15 mj245 kj245 cj245 szj245 _ _ _ hcj245 (own_Occ.up hoj245) (own_Sz.up hzj245) (if_pos c247_29).symm X14 e14 N14 Zq14 E_b9_14 F_keys_b9_14 F_counts_b9_14 F_mask_b9_14 F_shift_b9_14 F_size_b9_14 V_ka10_14 V_cb10_14
          · refine A (XS.ifNo X14.here hx rfl (hb hby at_247) rfl ((if0 _ _).trans (feq c247_29).1)) ?_
            show D (T14.setTop (mkF m 250 #[.val (.long p1), .second, .val (.long p2), .second, .val (.long p3), .second, .val (.long p4), .second, .val (.int p5), .val (.long x9_7), .second, .val (.long x11_14), .second, .val (.long x13_22), .second, .val (.long x15_30), .second, .val (.int v42s0), .val (.int v56s0), .val (.int v70s0), .val (.int v85s0), .val (.int v100s0), .val (.int x22_110), .val (.long v144s0), .second, .val (.int x25_167), .val (.int v182s0), .val (.ref b9), .unset, .unset, .unset, .unset] []))
            refine A (XS.aload X14.here hx rfl (hb hby at_250) rfl rfl) ?_
            show D (T14.setTop (mkF m 252 #[.val (.long p1), .second, .val (.long p2), .second, .val (.long p3), .second, .val (.long p4), .second, .val (.int p5), .val (.long x9_7), .second, .val (.long x11_14), .second, .val (.long x13_22), .second, .val (.long x15_30), .second, .val (.int v42s0), .val (.int v56s0), .val (.int v70s0), .val (.int v85s0), .val (.int v100s0), .val (.int x22_110), .val (.long v144s0), .second, .val (.int x25_167), .val (.int v182s0), .val (.ref b9), .unset, .unset, .unset, .unset] [(.ref b9)]))
            refine A (XS.lload X14.here hx rfl (hb hby at_252) rfl) ?_
            show D (T14.setTop (mkF m 254 #[.val (.long p1), .second, .val (.long p2), .second, .val (.long p3), .second, .val (.long p4), .second, .val (.int p5), .val (.long x9_7), .second, .val (.long x11_14), .second, .val (.long x13_22), .second, .val (.long x15_30), .second, .val (.int v42s0), .val (.int v56s0), .val (.int v70s0), .val (.int v85s0), .val (.int v100s0), .val (.int x22_110), .val (.long v144s0), .second, .val (.int x25_167), .val (.int v182s0), .val (.ref b9), .unset, .unset, .unset, .unset] [(.long v144s0), (.ref b9)]))
            refine Adv.callV A X14 hx hZ hown (hw _ (List.mem_of_getElem? (i := 66) rfl)) (hw _ (List.mem_of_getElem? (i := 67) rfl)) (notFace_of_selects (args := #[]) (mvT hZ (hw _ (List.mem_of_getElem? (i := 69) rfl)))) (hw _ (List.mem_of_getElem? (i := 69) rfl)) (hw _ (List.mem_of_getElem? (i := 68) rfl)) (hw _ (List.mem_of_getElem? (i := 7) rfl)) (hw _ (List.mem_of_getElem? (i := 70) rfl)) e14 E_b9_14 (rm13 l Z a0 hw [] b9 v144s0 H14 n0 szj245 ka10 cb10 kj245 cj245 mj245 4 Zq14 g_b9 g_ka10 g_cb10 E_b9_14 F_keys_b9_14 F_counts_b9_14 F_mask_b9_14 F_shift_b9_14 F_size_b9_14 V_ka10_14 V_cb10_14 hoj245 (by decide) hzj245 hcj245 hk23 (by rw [hall4]; have q := own_pos hv182s0 c247_29; rw [hx25_167] at q; exact q)) 0 (g := (mkF m 254 #[.val (.long p1), .second, .val (.long p2), .second, .val (.long p3), .second, .val (.long p4), .second, .val (.int p5), .val (.long x9_7), .second, .val (.long x11_14), .second, .val (.long x13_22), .second, .val (.long x15_30), .second, .val (.int v42s0), .val (.int v56s0), .val (.int v70s0), .val (.int v85s0), .val (.int v100s0), .val (.int x22_110), .val (.long v144s0), .second, .val (.int x25_167), .val (.int v182s0), .val (.ref b9), .unset, .unset, .unset, .unset] [(.long v144s0), (.ref b9)])) rfl (by rw [hml]; rfl) [(.long v144s0)] [] rfl (lenOf pd0_2 rfl) rfl (by show 2 * 0 + _ ≤ _; exact Nat.le_of_eq rfl) (hb hby at_254) (by decide) (by decide) (by decide) (by decide) (by decide) ?_
            rintro T30 L30 _ X30 ⟨sq30, kq30, cq30, rfl, N30_q, K30, -, F30_keys, F30_counts, F30_mask, F30_shift, F30_size, V30_k, V30_c, hc30, ho30, hz30⟩
            have N30 := Fr.app N14 N30_q
            have E_b9_30 := E_b9_14.keep K30
            have Z_30 : n0 ≤ T30.heap.size := Nat.le_trans Zq14 K30.1
            obtain ⟨mp30, hmp30⟩ : ∃ z, z = own_up mj245 v144s0 (mj245 v144s0 - 1) := ⟨_, rfl⟩
            rw [← hmp30] at hc30
            show D (T30.setTop (mkF m 257 #[.val (.long p1), .second, .val (.long p2), .second, .val (.long p3), .second, .val (.long p4), .second, .val (.int p5), .val (.long x9_7), .second, .val (.long x11_14), .second, .val (.long x13_22), .second, .val (.long x15_30), .second, .val (.int v42s0), .val (.int v56s0), .val (.int v70s0), .val (.int v85s0), .val (.int v100s0), .val (.int x22_110), .val (.long v144s0), .second, .val (.int x25_167), .val (.int v182s0), .val (.ref b9), .unset, .unset, .unset, .unset] [(.int (mj245 v144s0 - 1))]))
            refine A (XS.pop X30.here hx rfl (hb hby at_257) rfl rfl) ?_
            show D (T30.setTop (mkF m 258 #[.val (.long p1), .second, .val (.long p2), .second, .val (.long p3), .second, .val (.long p4), .second, .val (.int p5), .val (.long x9_7), .second, .val (.long x11_14), .second, .val (.long x13_22), .second, .val (.long x15_30), .second, .val (.int v42s0), .val (.int v56s0), .val (.int v70s0), .val (.int v85s0), .val (.int v100s0), .val (.int x22_110), .val (.long v144s0), .second, .val (.int x25_167), .val (.int v182s0), .val (.ref b9), .unset, .unset, .unset, .unset] []))
            exact HJ15 mp30 kq30 cq30 sq30 _ _ _ hc30 ho30 hz30 (hmp30.trans (if_neg c247_29).symm) X30 rfl N30 Z_30 E_b9_30 F30_keys F30_counts F30_mask F30_shift F30_size V30_k V30_c
        by_cases c234_31 : v85s0 = (0 : Int32)
        · refine A (XS.ifYes X13.here hx rfl (pc0 := 234) (pc' := 245) rfl (hb hby at_234) rfl ((if0 _ _).trans (teq c234_31).1) (by decide) (by decide)) ?_
          show D (T13.setTop (mkF m 245 #[.val (.long p1), .second, .val (.long p2), .second, .val (.long p3), .second, .val (.long p4), .second, .val (.int p5), .val (.long x9_7), .second, .val (.long x11_14), .second, .val (.long x13_22), .second, .val (.long x15_30), .second, .val (.int v42s0), .val (.int v56s0), .val (.int v70s0), .val (.int v85s0), .val (.int v100s0), .val (.int x22_110), .val (.long v144s0), .second, .val (.int x25_167), .val (.int v182s0), .val (.ref b9), .unset, .unset, .unset, .unset] []))
          exact HJ14 mj232 kj232 cj232 szj232 _ _ _ hcj232 (own_Occ.up hoj232) (own_Sz.up hzj232) (if_pos c234_31).symm X13 e13 N13 Zq13 E_b9_13 F_keys_b9_13 F_counts_b9_13 F_mask_b9_13 F_shift_b9_13 F_size_b9_13 V_ka10_13 V_cb10_13
        · refine A (XS.ifNo X13.here hx rfl (hb hby at_234) rfl ((if0 _ _).trans (feq c234_31).1)) ?_
          show D (T13.setTop (mkF m 237 #[.val (.long p1), .second, .val (.long p2), .second, .val (.long p3), .second, .val (.long p4), .second, .val (.int p5), .val (.long x9_7), .second, .val (.long x11_14), .second, .val (.long x13_22), .second, .val (.long x15_30), .second, .val (.int v42s0), .val (.int v56s0), .val (.int v70s0), .val (.int v85s0), .val (.int v100s0), .val (.int x22_110), .val (.long v144s0), .second, .val (.int x25_167), .val (.int v182s0), .val (.ref b9), .unset, .unset, .unset, .unset] []))
          refine A (XS.aload X13.here hx rfl (hb hby at_237) rfl rfl) ?_
          show D (T13.setTop (mkF m 239 #[.val (.long p1), .second, .val (.long p2), .second, .val (.long p3), .second, .val (.long p4), .second, .val (.int p5), .val (.long x9_7), .second, .val (.long x11_14), .second, .val (.long x13_22), .second, .val (.long x15_30), .second, .val (.int v42s0), .val (.int v56s0), .val (.int v70s0), .val (.int v85s0), .val (.int v100s0), .val (.int x22_110), .val (.long v144s0), .second, .val (.int x25_167), .val (.int v182s0), .val (.ref b9), .unset, .unset, .unset, .unset] [(.ref b9)]))
          refine A (XS.lload X13.here hx rfl (hb hby at_239) rfl) ?_
          show D (T13.setTop (mkF m 241 #[.val (.long p1), .second, .val (.long p2), .second, .val (.long p3), .second, .val (.long p4), .second, .val (.int p5), .val (.long x9_7), .second, .val (.long x11_14), .second, .val (.long x13_22), .second, .val (.long x15_30), .second, .val (.int v42s0), .val (.int v56s0), .val (.int v70s0), .val (.int v85s0), .val (.int v100s0), .val (.int x22_110), .val (.long v144s0), .second, .val (.int x25_167), .val (.int v182s0), .val (.ref b9), .unset, .unset, .unset, .unset] [(.long x9_7), (.ref b9)]))
          refine Adv.callV A X13 hx hZ hown (hw _ (List.mem_of_getElem? (i := 42) rfl)) (hw _ (List.mem_of_getElem? (i := 43) rfl)) (notFace_of_selects (args := #[]) (mvT hZ (hw _ (List.mem_of_getElem? (i := 45) rfl)))) (hw _ (List.mem_of_getElem? (i := 45) rfl)) (hw _ (List.mem_of_getElem? (i := 44) rfl)) (hw _ (List.mem_of_getElem? (i := 7) rfl)) (hw _ (List.mem_of_getElem? (i := 46) rfl)) e13 E_b9_13 (rm8 l Z a0 hw [] b9 x9_7 H13 n0 szj232 ka10 cb10 kj232 cj232 mj232 3 Zq13 g_b9 g_ka10 g_cb10 E_b9_13 F_keys_b9_13 F_counts_b9_13 F_mask_b9_13 F_shift_b9_13 F_size_b9_13 V_ka10_13 V_cb10_13 hoj232 (by decide) hzj232 hcj232 hk9) 0 (g := (mkF m 241 #[.val (.long p1), .second, .val (.long p2), .second, .val (.long p3), .second, .val (.long p4), .second, .val (.int p5), .val (.long x9_7), .second, .val (.long x11_14), .second, .val (.long x13_22), .second, .val (.long x15_30), .second, .val (.int v42s0), .val (.int v56s0), .val (.int v70s0), .val (.int v85s0), .val (.int v100s0), .val (.int x22_110), .val (.long v144s0), .second, .val (.int x25_167), .val (.int v182s0), .val (.ref b9), .unset, .unset, .unset, .unset] [(.long x9_7), (.ref b9)])) rfl (by rw [hml]; rfl) [(.long x9_7)] [] rfl (lenOf pd0_2 rfl) rfl (by show 2 * 0 + _ ≤ _; exact Nat.le_of_eq rfl) (hb hby at_241) (by decide) (by decide) (by decide) (by decide) (by decide) ?_
          rintro T32 L32 _ X32 ⟨rr32, sq32, kq32, cq32, rfl, N32_q, K32, -, F32_keys, F32_counts, F32_mask, F32_shift, F32_size, V32_k, V32_c, hc32, ho32, hz32⟩
          have N32 := Fr.app N13 N32_q
          have E_b9_32 := E_b9_13.keep K32
          have Z_32 : n0 ≤ T32.heap.size := Nat.le_trans Zq13 K32.1
          obtain ⟨mp32, hmp32⟩ : ∃ z, z = own_up mj232 x9_7 (mj232 x9_7 + 1) := ⟨_, rfl⟩
          rw [← hmp32] at hc32
          show D (T32.setTop (mkF m 244 #[.val (.long p1), .second, .val (.long p2), .second, .val (.long p3), .second, .val (.long p4), .second, .val (.int p5), .val (.long x9_7), .second, .val (.long x11_14), .second, .val (.long x13_22), .second, .val (.long x15_30), .second, .val (.int v42s0), .val (.int v56s0), .val (.int v70s0), .val (.int v85s0), .val (.int v100s0), .val (.int x22_110), .val (.long v144s0), .second, .val (.int x25_167), .val (.int v182s0), .val (.ref b9), .unset, .unset, .unset, .unset] [(.int rr32)]))
          refine A (XS.pop X32.here hx rfl (hb hby at_244) rfl rfl) ?_
          show D (T32.setTop (mkF m 245 #[.val (.long p1), .second, .val (.long p2), .second, .val (.long p3), .second, .val (.long p4), .second, .val (.int p5), .val (.long x9_7), .second, .val (.long x11_14), .second, .val (.long x13_22), .second, .val (.long x15_30), .second, .val (.int v42s0), .val (.int v56s0), .val (.int v70s0), .val (.int v85s0), .val (.int v100s0), .val (.int x22_110), .val (.long v144s0), .second, .val (.int x25_167), .val (.int v182s0), .val (.ref b9), .unset, .unset, .unset, .unset] []))
          exact HJ14 mp32 kq32 cq32 sq32 _ _ _ hc32 ho32 hz32 (hmp32.trans (if_neg c234_31).symm) X32 rfl N32 Z_32 E_b9_32 F32_keys F32_counts F32_mask F32_shift F32_size V32_k V32_c
      by_cases c221_33 : v70s0 = (0 : Int32)
      · refine A (XS.ifYes X12.here hx rfl (pc0 := 221) (pc' := 232) rfl (hb hby at_221) rfl ((if0 _ _).trans (teq c221_33).1) (by decide) (by decide)) ?_
        show D (T12.setTop (mkF m 232 #[.val (.long p1), .second, .val (.long p2), .second, .val (.long p3), .second, .val (.long p4), .second, .val (.int p5), .val (.long x9_7), .second, .val (.long x11_14), .second, .val (.long x13_22), .second, .val (.long x15_30), .second, .val (.int v42s0), .val (.int v56s0), .val (.int v70s0), .val (.int v85s0), .val (.int v100s0), .val (.int x22_110), .val (.long v144s0), .second, .val (.int x25_167), .val (.int v182s0), .val (.ref b9), .unset, .unset, .unset, .unset] []))
        exact HJ13 mj219 kj219 cj219 szj219 _ _ _ hcj219 (own_Occ.up hoj219) (own_Sz.up hzj219) (if_pos c221_33).symm X12 e12 N12 Zq12 E_b9_12 F_keys_b9_12 F_counts_b9_12 F_mask_b9_12 F_shift_b9_12 F_size_b9_12 V_ka10_12 V_cb10_12
      · refine A (XS.ifNo X12.here hx rfl (hb hby at_221) rfl ((if0 _ _).trans (feq c221_33).1)) ?_
        show D (T12.setTop (mkF m 224 #[.val (.long p1), .second, .val (.long p2), .second, .val (.long p3), .second, .val (.long p4), .second, .val (.int p5), .val (.long x9_7), .second, .val (.long x11_14), .second, .val (.long x13_22), .second, .val (.long x15_30), .second, .val (.int v42s0), .val (.int v56s0), .val (.int v70s0), .val (.int v85s0), .val (.int v100s0), .val (.int x22_110), .val (.long v144s0), .second, .val (.int x25_167), .val (.int v182s0), .val (.ref b9), .unset, .unset, .unset, .unset] []))
        refine A (XS.aload X12.here hx rfl (hb hby at_224) rfl rfl) ?_
        show D (T12.setTop (mkF m 226 #[.val (.long p1), .second, .val (.long p2), .second, .val (.long p3), .second, .val (.long p4), .second, .val (.int p5), .val (.long x9_7), .second, .val (.long x11_14), .second, .val (.long x13_22), .second, .val (.long x15_30), .second, .val (.int v42s0), .val (.int v56s0), .val (.int v70s0), .val (.int v85s0), .val (.int v100s0), .val (.int x22_110), .val (.long v144s0), .second, .val (.int x25_167), .val (.int v182s0), .val (.ref b9), .unset, .unset, .unset, .unset] [(.ref b9)]))
        refine A (XS.lload X12.here hx rfl (hb hby at_226) rfl) ?_
        show D (T12.setTop (mkF m 228 #[.val (.long p1), .second, .val (.long p2), .second, .val (.long p3), .second, .val (.long p4), .second, .val (.int p5), .val (.long x9_7), .second, .val (.long x11_14), .second, .val (.long x13_22), .second, .val (.long x15_30), .second, .val (.int v42s0), .val (.int v56s0), .val (.int v70s0), .val (.int v85s0), .val (.int v100s0), .val (.int x22_110), .val (.long v144s0), .second, .val (.int x25_167), .val (.int v182s0), .val (.ref b9), .unset, .unset, .unset, .unset] [(.long x13_22), (.ref b9)]))
        refine Adv.callV A X12 hx hZ hown (hw _ (List.mem_of_getElem? (i := 42) rfl)) (hw _ (List.mem_of_getElem? (i := 43) rfl)) (notFace_of_selects (args := #[]) (mvT hZ (hw _ (List.mem_of_getElem? (i := 45) rfl)))) (hw _ (List.mem_of_getElem? (i := 45) rfl)) (hw _ (List.mem_of_getElem? (i := 44) rfl)) (hw _ (List.mem_of_getElem? (i := 7) rfl)) (hw _ (List.mem_of_getElem? (i := 46) rfl)) e12 E_b9_12 (rm8 l Z a0 hw [] b9 x13_22 H12 n0 szj219 ka10 cb10 kj219 cj219 mj219 2 Zq12 g_b9 g_ka10 g_cb10 E_b9_12 F_keys_b9_12 F_counts_b9_12 F_mask_b9_12 F_shift_b9_12 F_size_b9_12 V_ka10_12 V_cb10_12 hoj219 (by decide) hzj219 hcj219 hk13) 0 (g := (mkF m 228 #[.val (.long p1), .second, .val (.long p2), .second, .val (.long p3), .second, .val (.long p4), .second, .val (.int p5), .val (.long x9_7), .second, .val (.long x11_14), .second, .val (.long x13_22), .second, .val (.long x15_30), .second, .val (.int v42s0), .val (.int v56s0), .val (.int v70s0), .val (.int v85s0), .val (.int v100s0), .val (.int x22_110), .val (.long v144s0), .second, .val (.int x25_167), .val (.int v182s0), .val (.ref b9), .unset, .unset, .unset, .unset] [(.long x13_22), (.ref b9)])) rfl (by rw [hml]; rfl) [(.long x13_22)] [] rfl (lenOf pd0_2 rfl) rfl (by show 2 * 0 + _ ≤ _; exact Nat.le_of_eq rfl) (hb hby at_228) (by decide) (by decide) (by decide) (by decide) (by decide) ?_
        rintro T34 L34 _ X34 ⟨rr34, sq34, kq34, cq34, rfl, N34_q, K34, -, F34_keys, F34_counts, F34_mask, F34_shift, F34_size, V34_k, V34_c, hc34, ho34, hz34⟩
        have N34 := Fr.app N12 N34_q
        have E_b9_34 := E_b9_12.keep K34
        have Z_34 : n0 ≤ T34.heap.size := Nat.le_trans Zq12 K34.1
        obtain ⟨mp34, hmp34⟩ : ∃ z, z = own_up mj219 x13_22 (mj219 x13_22 + 1) := ⟨_, rfl⟩
        rw [← hmp34] at hc34
        show D (T34.setTop (mkF m 231 #[.val (.long p1), .second, .val (.long p2), .second, .val (.long p3), .second, .val (.long p4), .second, .val (.int p5), .val (.long x9_7), .second, .val (.long x11_14), .second, .val (.long x13_22), .second, .val (.long x15_30), .second, .val (.int v42s0), .val (.int v56s0), .val (.int v70s0), .val (.int v85s0), .val (.int v100s0), .val (.int x22_110), .val (.long v144s0), .second, .val (.int x25_167), .val (.int v182s0), .val (.ref b9), .unset, .unset, .unset, .unset] [(.int rr34)]))
        refine A (XS.pop X34.here hx rfl (hb hby at_231) rfl rfl) ?_
        show D (T34.setTop (mkF m 232 #[.val (.long p1), .second, .val (.long p2), .second, .val (.long p3), .second, .val (.long p4), .second, .val (.int p5), .val (.long x9_7), .second, .val (.long x11_14), .second, .val (.long x13_22), .second, .val (.long x15_30), .second, .val (.int v42s0), .val (.int v56s0), .val (.int v70s0), .val (.int v85s0), .val (.int v100s0), .val (.int x22_110), .val (.long v144s0), .second, .val (.int x25_167), .val (.int v182s0), .val (.ref b9), .unset, .unset, .unset, .unset] []))
        exact HJ13 mp34 kq34 cq34 sq34 _ _ _ hc34 ho34 hz34 (hmp34.trans (if_neg c221_33).symm) X34 rfl N34 Z_34 E_b9_34 F34_keys F34_counts F34_mask F34_shift F34_size V34_k V34_c
    by_cases c208_35 : v56s0 = (0 : Int32)
    · refine A (XS.ifYes X11.here hx rfl (pc0 := 208) (pc' := 219) rfl (hb hby at_208) rfl ((if0 _ _).trans (teq c208_35).1) (by decide) (by decide)) ?_
      show D (T11.setTop (mkF m 219 #[.val (.long p1), .second, .val (.long p2), .second, .val (.long p3), .second, .val (.long p4), .second, .val (.int p5), .val (.long x9_7), .second, .val (.long x11_14), .second, .val (.long x13_22), .second, .val (.long x15_30), .second, .val (.int v42s0), .val (.int v56s0), .val (.int v70s0), .val (.int v85s0), .val (.int v100s0), .val (.int x22_110), .val (.long v144s0), .second, .val (.int x25_167), .val (.int v182s0), .val (.ref b9), .unset, .unset, .unset, .unset] []))
      exact HJ12 mj206 kj206 cj206 szj206 _ _ _ hcj206 (own_Occ.up hoj206) (own_Sz.up hzj206) (if_pos c208_35).symm X11 e11 N11 Zq11 E_b9_11 F_keys_b9_11 F_counts_b9_11 F_mask_b9_11 F_shift_b9_11 F_size_b9_11 V_ka10_11 V_cb10_11
    · refine A (XS.ifNo X11.here hx rfl (hb hby at_208) rfl ((if0 _ _).trans (feq c208_35).1)) ?_
      show D (T11.setTop (mkF m 211 #[.val (.long p1), .second, .val (.long p2), .second, .val (.long p3), .second, .val (.long p4), .second, .val (.int p5), .val (.long x9_7), .second, .val (.long x11_14), .second, .val (.long x13_22), .second, .val (.long x15_30), .second, .val (.int v42s0), .val (.int v56s0), .val (.int v70s0), .val (.int v85s0), .val (.int v100s0), .val (.int x22_110), .val (.long v144s0), .second, .val (.int x25_167), .val (.int v182s0), .val (.ref b9), .unset, .unset, .unset, .unset] []))
      refine A (XS.aload X11.here hx rfl (hb hby at_211) rfl rfl) ?_
      show D (T11.setTop (mkF m 213 #[.val (.long p1), .second, .val (.long p2), .second, .val (.long p3), .second, .val (.long p4), .second, .val (.int p5), .val (.long x9_7), .second, .val (.long x11_14), .second, .val (.long x13_22), .second, .val (.long x15_30), .second, .val (.int v42s0), .val (.int v56s0), .val (.int v70s0), .val (.int v85s0), .val (.int v100s0), .val (.int x22_110), .val (.long v144s0), .second, .val (.int x25_167), .val (.int v182s0), .val (.ref b9), .unset, .unset, .unset, .unset] [(.ref b9)]))
      refine A (XS.lload X11.here hx rfl (hb hby at_213) rfl) ?_
      show D (T11.setTop (mkF m 215 #[.val (.long p1), .second, .val (.long p2), .second, .val (.long p3), .second, .val (.long p4), .second, .val (.int p5), .val (.long x9_7), .second, .val (.long x11_14), .second, .val (.long x13_22), .second, .val (.long x15_30), .second, .val (.int v42s0), .val (.int v56s0), .val (.int v70s0), .val (.int v85s0), .val (.int v100s0), .val (.int x22_110), .val (.long v144s0), .second, .val (.int x25_167), .val (.int v182s0), .val (.ref b9), .unset, .unset, .unset, .unset] [(.long x11_14), (.ref b9)]))
      refine Adv.callV A X11 hx hZ hown (hw _ (List.mem_of_getElem? (i := 42) rfl)) (hw _ (List.mem_of_getElem? (i := 43) rfl)) (notFace_of_selects (args := #[]) (mvT hZ (hw _ (List.mem_of_getElem? (i := 45) rfl)))) (hw _ (List.mem_of_getElem? (i := 45) rfl)) (hw _ (List.mem_of_getElem? (i := 44) rfl)) (hw _ (List.mem_of_getElem? (i := 7) rfl)) (hw _ (List.mem_of_getElem? (i := 46) rfl)) e11 E_b9_11 (rm8 l Z a0 hw [] b9 x11_14 H11 n0 szj206 ka10 cb10 kj206 cj206 mj206 1 Zq11 g_b9 g_ka10 g_cb10 E_b9_11 F_keys_b9_11 F_counts_b9_11 F_mask_b9_11 F_shift_b9_11 F_size_b9_11 V_ka10_11 V_cb10_11 hoj206 (by decide) hzj206 hcj206 hk11) 0 (g := (mkF m 215 #[.val (.long p1), .second, .val (.long p2), .second, .val (.long p3), .second, .val (.long p4), .second, .val (.int p5), .val (.long x9_7), .second, .val (.long x11_14), .second, .val (.long x13_22), .second, .val (.long x15_30), .second, .val (.int v42s0), .val (.int v56s0), .val (.int v70s0), .val (.int v85s0), .val (.int v100s0), .val (.int x22_110), .val (.long v144s0), .second, .val (.int x25_167), .val (.int v182s0), .val (.ref b9), .unset, .unset, .unset, .unset] [(.long x11_14), (.ref b9)])) rfl (by rw [hml]; rfl) [(.long x11_14)] [] rfl (lenOf pd0_2 rfl) rfl (by show 2 * 0 + _ ≤ _; exact Nat.le_of_eq rfl) (hb hby at_215) (by decide) (by decide) (by decide) (by decide) (by decide) ?_
      rintro T36 L36 _ X36 ⟨rr36, sq36, kq36, cq36, rfl, N36_q, K36, -, F36_keys, F36_counts, F36_mask, F36_shift, F36_size, V36_k, V36_c, hc36, ho36, hz36⟩
      have N36 := Fr.app N11 N36_q
      have E_b9_36 := E_b9_11.keep K36
      have Z_36 : n0 ≤ T36.heap.size := Nat.le_trans Zq11 K36.1
      obtain ⟨mp36, hmp36⟩ : ∃ z, z = own_up mj206 x11_14 (mj206 x11_14 + 1) := ⟨_, rfl⟩
      rw [← hmp36] at hc36
      show D (T36.setTop (mkF m 218 #[.val (.long p1), .second, .val (.long p2), .second, .val (.long p3), .second, .val (.long p4), .second, .val (.int p5), .val (.long x9_7), .second, .val (.long x11_14), .second, .val (.long x13_22), .second, .val (.long x15_30), .second, .val (.int v42s0), .val (.int v56s0), .val (.int v70s0), .val (.int v85s0), .val (.int v100s0), .val (.int x22_110), .val (.long v144s0), .second, .val (.int x25_167), .val (.int v182s0), .val (.ref b9), .unset, .unset, .unset, .unset] [(.int rr36)]))
      refine A (XS.pop X36.here hx rfl (hb hby at_218) rfl rfl) ?_
      show D (T36.setTop (mkF m 219 #[.val (.long p1), .second, .val (.long p2), .second, .val (.long p3), .second, .val (.long p4), .second, .val (.int p5), .val (.long x9_7), .second, .val (.long x11_14), .second, .val (.long x13_22), .second, .val (.long x15_30), .second, .val (.int v42s0), .val (.int v56s0), .val (.int v70s0), .val (.int v85s0), .val (.int v100s0), .val (.int x22_110), .val (.long v144s0), .second, .val (.int x25_167), .val (.int v182s0), .val (.ref b9), .unset, .unset, .unset, .unset] []))
      exact HJ12 mp36 kq36 cq36 sq36 _ _ _ hc36 ho36 hz36 (hmp36.trans (if_neg c208_35).symm) X36 rfl N36 Z_36 E_b9_36 F36_keys F36_counts F36_mask F36_shift F36_size V36_k V36_c
  by_cases c195_37 : v42s0 = (0 : Int32)
  · refine A (XS.ifYes X10.here hx rfl (pc0 := 195) (pc' := 206) rfl (hb hby at_195) rfl ((if0 _ _).trans (teq c195_37).1) (by decide) (by decide)) ?_
    show D (T10.setTop (mkF m 206 #[.val (.long p1), .second, .val (.long p2), .second, .val (.long p3), .second, .val (.long p4), .second, .val (.int p5), .val (.long x9_7), .second, .val (.long x11_14), .second, .val (.long x13_22), .second, .val (.long x15_30), .second, .val (.int v42s0), .val (.int v56s0), .val (.int v70s0), .val (.int v85s0), .val (.int v100s0), .val (.int x22_110), .val (.long v144s0), .second, .val (.int x25_167), .val (.int v182s0), .val (.ref b9), .unset, .unset, .unset, .unset] []))
    exact HJ11 (fun _ => (0 : Int32)) (fun _ => (-1 : Int64)) (fun _ => 0) (0 : Int32) _ _ _ own_CM0 (own_Occ.up own_Occ0) (own_Sz.up own_Sz0) (if_pos c195_37).symm X10 rfl N10 Z_10 E_b9_10 F10_keys F10_counts F10_mask F10_shift F10_size V10_k V10_c
  · refine A (XS.ifNo X10.here hx rfl (hb hby at_195) rfl ((if0 _ _).trans (feq c195_37).1)) ?_
    show D (T10.setTop (mkF m 198 #[.val (.long p1), .second, .val (.long p2), .second, .val (.long p3), .second, .val (.long p4), .second, .val (.int p5), .val (.long x9_7), .second, .val (.long x11_14), .second, .val (.long x13_22), .second, .val (.long x15_30), .second, .val (.int v42s0), .val (.int v56s0), .val (.int v70s0), .val (.int v85s0), .val (.int v100s0), .val (.int x22_110), .val (.long v144s0), .second, .val (.int x25_167), .val (.int v182s0), .val (.ref b9), .unset, .unset, .unset, .unset] []))
    refine A (XS.aload X10.here hx rfl (hb hby at_198) rfl rfl) ?_
    show D (T10.setTop (mkF m 200 #[.val (.long p1), .second, .val (.long p2), .second, .val (.long p3), .second, .val (.long p4), .second, .val (.int p5), .val (.long x9_7), .second, .val (.long x11_14), .second, .val (.long x13_22), .second, .val (.long x15_30), .second, .val (.int v42s0), .val (.int v56s0), .val (.int v70s0), .val (.int v85s0), .val (.int v100s0), .val (.int x22_110), .val (.long v144s0), .second, .val (.int x25_167), .val (.int v182s0), .val (.ref b9), .unset, .unset, .unset, .unset] [(.ref b9)]))
    refine A (XS.lload X10.here hx rfl (hb hby at_200) rfl) ?_
    show D (T10.setTop (mkF m 202 #[.val (.long p1), .second, .val (.long p2), .second, .val (.long p3), .second, .val (.long p4), .second, .val (.int p5), .val (.long x9_7), .second, .val (.long x11_14), .second, .val (.long x13_22), .second, .val (.long x15_30), .second, .val (.int v42s0), .val (.int v56s0), .val (.int v70s0), .val (.int v85s0), .val (.int v100s0), .val (.int x22_110), .val (.long v144s0), .second, .val (.int x25_167), .val (.int v182s0), .val (.ref b9), .unset, .unset, .unset, .unset] [(.long x9_7), (.ref b9)]))
    refine Adv.callV A X10 hx hZ hown (hw _ (List.mem_of_getElem? (i := 42) rfl)) (hw _ (List.mem_of_getElem? (i := 43) rfl)) (notFace_of_selects (args := #[]) (mvT hZ (hw _ (List.mem_of_getElem? (i := 45) rfl)))) (hw _ (List.mem_of_getElem? (i := 45) rfl)) (hw _ (List.mem_of_getElem? (i := 44) rfl)) (hw _ (List.mem_of_getElem? (i := 7) rfl)) (hw _ (List.mem_of_getElem? (i := 46) rfl)) rfl E_b9_10 (rm8 l Z a0 hw [] b9 x9_7 T10.heap n0 (0 : Int32) ka10 cb10 (fun _ => (-1 : Int64)) (fun _ => 0) (fun _ => (0 : Int32)) 0 Z_10 g_b9 g_ka10 g_cb10 E_b9_10 F10_keys F10_counts F10_mask F10_shift F10_size V10_k V10_c own_Occ0 (by decide) own_Sz0 own_CM0 hk9) 0 (g := (mkF m 202 #[.val (.long p1), .second, .val (.long p2), .second, .val (.long p3), .second, .val (.long p4), .second, .val (.int p5), .val (.long x9_7), .second, .val (.long x11_14), .second, .val (.long x13_22), .second, .val (.long x15_30), .second, .val (.int v42s0), .val (.int v56s0), .val (.int v70s0), .val (.int v85s0), .val (.int v100s0), .val (.int x22_110), .val (.long v144s0), .second, .val (.int x25_167), .val (.int v182s0), .val (.ref b9), .unset, .unset, .unset, .unset] [(.long x9_7), (.ref b9)])) rfl (by rw [hml]; rfl) [(.long x9_7)] [] rfl (lenOf pd0_2 rfl) rfl (by show 2 * 0 + _ ≤ _; exact Nat.le_of_eq rfl) (hb hby at_202) (by decide) (by decide) (by decide) (by decide) (by decide) ?_
    rintro T38 L38 _ X38 ⟨rr38, sq38, kq38, cq38, rfl, N38_q, K38, -, F38_keys, F38_counts, F38_mask, F38_shift, F38_size, V38_k, V38_c, hc38, ho38, hz38⟩
    have N38 := Fr.app N10 N38_q
    have E_b9_38 := E_b9_10.keep K38
    have Z_38 : n0 ≤ T38.heap.size := Nat.le_trans Z_10 K38.1
    obtain ⟨mp38, hmp38⟩ : ∃ z, z = own_up (fun _ => (0 : Int32)) x9_7 ((fun _ => (0 : Int32)) x9_7 + 1) := ⟨_, rfl⟩
    rw [← hmp38] at hc38
    show D (T38.setTop (mkF m 205 #[.val (.long p1), .second, .val (.long p2), .second, .val (.long p3), .second, .val (.long p4), .second, .val (.int p5), .val (.long x9_7), .second, .val (.long x11_14), .second, .val (.long x13_22), .second, .val (.long x15_30), .second, .val (.int v42s0), .val (.int v56s0), .val (.int v70s0), .val (.int v85s0), .val (.int v100s0), .val (.int x22_110), .val (.long v144s0), .second, .val (.int x25_167), .val (.int v182s0), .val (.ref b9), .unset, .unset, .unset, .unset] [(.int rr38)]))
    refine A (XS.pop X38.here hx rfl (hb hby at_205) rfl rfl) ?_
    show D (T38.setTop (mkF m 206 #[.val (.long p1), .second, .val (.long p2), .second, .val (.long p3), .second, .val (.long p4), .second, .val (.int p5), .val (.long x9_7), .second, .val (.long x11_14), .second, .val (.long x13_22), .second, .val (.long x15_30), .second, .val (.int v42s0), .val (.int v56s0), .val (.int v70s0), .val (.int v85s0), .val (.int v100s0), .val (.int x22_110), .val (.long v144s0), .second, .val (.int x25_167), .val (.int v182s0), .val (.ref b9), .unset, .unset, .unset, .unset] []))
    exact HJ11 mp38 kq38 cq38 sq38 _ _ _ hc38 ho38 hz38 (hmp38.trans (if_neg c195_37).symm) X38 rfl N38 Z_38 E_b9_38 F38_keys F38_counts F38_mask F38_shift F38_size V38_k V38_c
set_option maxRecDepth 65536 in
set_option maxHeartbeats 40000000 in
theorem comes_1 {Post : Tables → Env → Array Value → State → Outcome → State → Prop} (hpost : ∀ tb e args s v u, (limb_1_1.after args s (.returned v) u = true ∧ limb_1_2.after args s (.returned v) u = true ∧ True) → FrameEnd s (.returned v) u (Jvm.fieldLocs frame_1_writes args s ++ Jvm.arrayLocs frame_1_arrays args s ++ Jvm.staticLocs frame_1_statics s) 16 4224 → Post tb e args s (.returned v) u) :
    ArmFor flags0 classFile x code maxLocals ret World_1 tables_1 room_1 Calls_1 rest_1 Pre_1 Post := by
  intro l hfl _ _ p e ha hc hk s m args below hf hA hF happ hP
  obtain ⟨hcalls, hrest, hpre⟩ := hP
  obtain ⟨-, -, -, hnamed, -, -, -, hat⟩ := (Spec.applies_iff hf).mp happ
  obtain ⟨hg, hn⟩ := and_e (Cond.before_iff.mp (show (Jvm.Cond.and given_1 narrow_1).before args s = true from hpre))
  obtain ⟨g0, g1⟩ := and_e hg
  obtain ⟨t1, g2⟩ := and_e g1
  obtain ⟨t2, g3⟩ := and_e g2
  obtain ⟨t3, g4⟩ := and_e g3
  obtain ⟨t4, g5⟩ := and_e g4
  obtain ⟨w0, w1, w2, w3, w4, rfl⟩ : ∃ w0 w1 w2 w3 w4 : Value, args = #[w0, w1, w2, w3, w4] := by
    have hs : args.size = 5 := by simpa [Cond.value, given_1] using g0
    obtain ⟨L⟩ := args
    match L, hs with
    | [w0, w1, w2, w3, w4], _ => exact ⟨w0, w1, w2, w3, w4, rfl⟩
  have hw := fun d (hd : d ∈ tables_1) => atoms_spec (ws := Jvm.Cond.code x code maxLocals ret :: tables_1) hat d (List.mem_cons_of_mem _ hd)
  obtain ⟨i0, q0⟩ := isL_v t1
  obtain rfl : w0 = (.long i0) := Option.some.inj q0
  obtain ⟨i1, q1⟩ := isL_v t2
  obtain rfl : w1 = (.long i1) := Option.some.inj q1
  obtain ⟨i2, q2⟩ := isL_v t3
  obtain rfl : w2 = (.long i2) := Option.some.inj q2
  obtain ⟨i3, q3⟩ := isL_v t4
  obtain rfl : w3 = (.long i3) := Option.some.inj q3
  obtain ⟨i4, q4⟩ := is_v g5
  obtain rfl : w4 = (.int i4) := Option.some.inj q4
  obtain ⟨n, o, h1, h2, h3, _, L, rfl, ⟨rfl, N⟩, hq⟩ := rm0 l s _ hw tables_1 i0 i1 i2 i3 i4 s.heap s.heap.size (Nat.le_refl _) p e ha hc hk s m _ below hf ((Spec.applies_iff_loose hf).mp happ).1 ⟨rfl, State.Warmed39.refl s, rfl⟩ trivial
  refine ⟨n, _, h1, h2, h3, hpost _ _ _ _ _ _ ⟨Cond.after_iff.mpr rfl, Cond.after_iff.mpr (eq_i res_at (Term.int_eval (1)) rfl), trivial⟩ ⟨hq.1, hq.2.1, (hq.2.2.sift fun y hy => Or.inr (N y hy)).mono (by decide) (by decide)⟩⟩
theorem main_1_1 : Claimed_1_1 := comes_1 fun _ _ _ _ _ _ h hF => ⟨h.1, hF⟩
theorem main_1_2 : Claimed_1_2 := comes_1 fun _ _ _ _ _ _ h hF => ⟨h.2.1, hF⟩
end Jvm.Pilot.@@N@@
namespace Jvm.Pilot.@@N@@
open Jvm Jvm.ClassFile Sem Op Lib Jvm.Free Jvm.Stand Jvm.Pilot.@@N@@.Jvm.D
/-! MADE BY PROGRAM (witnessworld.py) out of the Statement's table words and the real class files: 18 classes; the members and pool entries that the words name. The judged class is class 1, her method 3. -/
namespace start1
open Jvm.ClassFile
def u (s : String) : CpInfo := .utf8 (stringToUtf16 s)
/-- a pool by its gaps: so many unusable entries, then the entry; so many at the end -/
def gap : Nat → List CpInfo → List CpInfo
  | 0, r => r
  | n + 1, r => .unusable :: gap n r
def poolList (es : List (Nat × CpInfo)) (last : Nat) : List CpInfo := es.foldr (fun e r => gap e.1 (e.2 :: r)) (gap last [])
def pool (es : List (Nat × CpInfo)) (last : Nat) : Array CpInfo := ⟨poolList es last⟩
def fileOf (pool : Array CpInfo) (this : Nat) (attrs : Array Attribute := #[]) (ms : Array MethodInfo := #[]) (fl : Nat := 33) (sup : Nat := 0) (ifs : Array Nat := #[]) (fds : Array FieldInfo := #[]) : ClassFile where
  minorVersion := 0
  majorVersion := 65
  constantPool := pool
  accessFlags := fl
  thisClass := this
  superClass := sup
  interfaces := ifs
  fields := fds
  methods := ms
  attributes := attrs
def plain (name : String) (sup : Option ClassId) : Class where
  name := name
  kind := .ordinary
  loader := none
  accessFlags := 33
  super := sup
  interfaces := #[]
  cf := none
  fields := #[]
  methods := #[]
  instanceTypes := #[]
  staticTypes := #[]
  resolved := #[]
  callSites := []
  init := .initialized
  statics := none
  mirror := none

def pool0 : Array CpInfo := pool [(5, u "<init>"), (0, u "()V"), (1, .class_ 10), (1, u "java/lang/Object")] 113

def k0c0 : Code := { maxStack := 0, maxLocals := 1, code := object_method_1_code, exceptionTable := #[], attributes := #[] }
def k0m0 : Method := { name := "<init>", desc := "()V", sig := { parameters := [], returnType := none }, accessFlags := 1, code := some k0c0 }
/-- java/lang/Object -/
def k0 : Class := { plain "java/lang/Object" none with
  accessFlags := 33
  interfaces := #[]
  cf := some (fileOf pool0 8 #[] #[{ accessFlags := 1, nameIndex := 5, descriptorIndex := 6, attributes := #[] }] 33 0 #[] #[])
  fields := #[]
  methods := #[k0m0]
  instanceTypes := #[]
  staticTypes := #[]
  resolved := Array.replicate 124 none
  statics := none }

def pool1 : Array CpInfo := pool [(2, .class_ 4), (0, .nameAndType 5 6), (0, u "java/lang/Object"), (0, u "<init>"), (0, u "()V"), (0, .methodref 8 9), (0, .class_ 10), (0, .nameAndType 11 12), (0, u "com/example/enklave/enklave/anonymize/CountMapGetPinLaw"), (0, u "ups"), (0, u "(JZZZZJJJ)I"), (2, .long 9223372036854775807), (1, .class_ 18), (0, u "com/example/enklave/enklave/anonymize/CountMap"), (0, .methodref 17 3), (0, .methodref 17 21), (0, .nameAndType 22 23), (0, u "increment"), (0, u "(J)I"), (0, .methodref 17 25), (0, .nameAndType 26 23), (0, u "decrement"), (0, .methodref 17 28), (0, .nameAndType 29 23), (0, u "get"), (0, .methodref 8 31), (0, .nameAndType 32 33), (0, u "ref"), (0, u "(JZZZZZJJJJ)I"), (3, u "law"), (0, u "(JJJJI)Z")] 2

def k1m0 : Method := { name := "<init>", desc := "()V", sig := { parameters := [], returnType := none }, accessFlags := 1, code := none }
def k1c1 : Code := { maxStack := 4, maxLocals := 13, code := method_2_code, exceptionTable := #[], attributes := #[] }
def k1m1 : Method := { name := "ups", desc := "(JZZZZJJJ)I", sig := { parameters := [.long, .boolean, .boolean, .boolean, .boolean, .long, .long, .long], returnType := some .int }, accessFlags := 10, code := some k1c1 }
def k1c2 : Code := { maxStack := 12, maxLocals := 16, code := method_3_code, exceptionTable := #[], attributes := #[] }
def k1m2 : Method := { name := "ref", desc := "(JZZZZZJJJJ)I", sig := { parameters := [.long, .boolean, .boolean, .boolean, .boolean, .boolean, .long, .long, .long, .long], returnType := some .int }, accessFlags := 10, code := some k1c2 }
def k1c3 : Code := { maxStack := 16, maxLocals := 32, code := code, exceptionTable := #[], attributes := #[] }
def k1m3 : Method := { name := "law", desc := "(JJJJI)Z", sig := { parameters := [.long, .long, .long, .long, .int], returnType := some .boolean }, accessFlags := 9, code := some k1c3 }
/-- com/example/enklave/enklave/anonymize/CountMapGetPinLaw -/
def k1 : Class := { plain "com/example/enklave/enklave/anonymize/CountMapGetPinLaw" (some 0) with
  accessFlags := 49
  interfaces := #[]
  cf := some (fileOf pool1 8 #[] #[{ accessFlags := 1, nameIndex := 5, descriptorIndex := 6, attributes := #[] }, { accessFlags := 10, nameIndex := 11, descriptorIndex := 12, attributes := #[] }, { accessFlags := 10, nameIndex := 32, descriptorIndex := 33, attributes := #[] }, { accessFlags := 9, nameIndex := 37, descriptorIndex := 38, attributes := #[] }] 49 2 #[] #[])
  fields := #[]
  methods := #[k1m0, k1m1, k1m2, k1m3]
  instanceTypes := #[]
  staticTypes := #[]
  resolved := Array.replicate 41 none
  statics := none }

def pool2 : Array CpInfo := pool [(1, .methodref 2 3), (0, .class_ 4), (0, .nameAndType 5 6), (0, u "java/lang/Object"), (0, u "<init>"), (0, u "()V"), (0, .methodref 8 9), (0, .class_ 10), (0, .nameAndType 11 12), (0, u "com/example/enklave/enklave/anonymize/CountMap"), (0, u "allocate"), (0, u "(I)V"), (0, .methodref 8 14), (0, .nameAndType 15 16), (0, u "find"), (0, u "(J)I"), (0, .fieldref 8 18), (0, .nameAndType 19 20), (0, u "keys"), (0, u "[J"), (0, .long 18446744073709551615), (1, .fieldref 8 24), (0, .nameAndType 25 26), (0, u "counts"), (0, u "[I"), (0, .fieldref 8 28), (0, .nameAndType 29 30), (0, u "size"), (0, u "I"), (12, .methodref 8 44), (0, .nameAndType 45 12), (0, u "delete"), (0, .methodref 8 47), (0, .nameAndType 48 16), (0, u "home"), (0, .fieldref 8 50), (0, .nameAndType 51 30), (0, u "mask"), (0, .long 11400714819323198485), (1, .fieldref 8 55), (0, .nameAndType 56 30), (0, u "shift"), (0, .methodref 58 59), (0, .class_ 60), (0, .nameAndType 61 62), (0, u "java/util/Arrays"), (0, u "fill"), (0, u "([JJ)V"), (0, .methodref 64 65), (0, .class_ 66), (0, .nameAndType 67 16), (0, u "java/lang/Long"), (0, u "numberOfLeadingZeros"), (0, u "EMPTY"), (0, u "J"), (1, u "MIX"), (2, u "get"), (1, u "increment"), (0, u "decrement")] 19

def k2c0 : Code := { maxStack := 2, maxLocals := 1, code := prog_9_method_1_code, exceptionTable := #[], attributes := #[] }
def k2m0 : Method := { name := "<init>", desc := "()V", sig := { parameters := [], returnType := none }, accessFlags := 0, code := some k2c0 }
def k2c1 : Code := { maxStack := 4, maxLocals := 4, code := prog_9_method_2_code, exceptionTable := #[], attributes := #[] }
def k2m1 : Method := { name := "get", desc := "(J)I", sig := { parameters := [.long], returnType := some .int }, accessFlags := 0, code := some k2c1 }
def k2c2 : Code := { maxStack := 4, maxLocals := 5, code := prog_9_method_3_code, exceptionTable := #[], attributes := #[] }
def k2m2 : Method := { name := "increment", desc := "(J)I", sig := { parameters := [.long], returnType := some .int }, accessFlags := 0, code := some k2c2 }
def k2c3 : Code := { maxStack := 4, maxLocals := 5, code := prog_9_method_4_code, exceptionTable := #[], attributes := #[] }
def k2m3 : Method := { name := "decrement", desc := "(J)I", sig := { parameters := [.long], returnType := some .int }, accessFlags := 0, code := some k2c3 }
def k2c4 : Code := { maxStack := 4, maxLocals := 4, code := prog_9_method_5_code, exceptionTable := #[], attributes := #[] }
def k2m4 : Method := { name := "find", desc := "(J)I", sig := { parameters := [.long], returnType := some .int }, accessFlags := 2, code := some k2c4 }
def k2c5 : Code := { maxStack := 4, maxLocals := 3, code := prog_9_method_6_code, exceptionTable := #[], attributes := #[] }
def k2m5 : Method := { name := "home", desc := "(J)I", sig := { parameters := [.long], returnType := some .int }, accessFlags := 2, code := some k2c5 }
def k2c6 : Code := { maxStack := 4, maxLocals := 6, code := prog_9_method_7_code, exceptionTable := #[], attributes := #[] }
def k2m6 : Method := { name := "delete", desc := "(I)V", sig := { parameters := [.int], returnType := none }, accessFlags := 2, code := some k2c6 }
def k2c7 : Code := { maxStack := 3, maxLocals := 2, code := prog_9_method_9_code, exceptionTable := #[], attributes := #[] }
def k2m7 : Method := { name := "allocate", desc := "(I)V", sig := { parameters := [.int], returnType := none }, accessFlags := 2, code := some k2c7 }
/-- com/example/enklave/enklave/anonymize/CountMap -/
def k2 : Class := { plain "com/example/enklave/enklave/anonymize/CountMap" (some 0) with
  accessFlags := 48
  interfaces := #[]
  cf := some (fileOf pool2 8 #[] #[{ accessFlags := 0, nameIndex := 5, descriptorIndex := 6, attributes := #[] }, { accessFlags := 0, nameIndex := 74, descriptorIndex := 16, attributes := #[] }, { accessFlags := 0, nameIndex := 76, descriptorIndex := 16, attributes := #[] }, { accessFlags := 0, nameIndex := 77, descriptorIndex := 16, attributes := #[] }, { accessFlags := 2, nameIndex := 15, descriptorIndex := 16, attributes := #[] }, { accessFlags := 2, nameIndex := 48, descriptorIndex := 16, attributes := #[] }, { accessFlags := 2, nameIndex := 45, descriptorIndex := 12, attributes := #[] }, { accessFlags := 2, nameIndex := 11, descriptorIndex := 12, attributes := #[] }] 48 2 #[] #[{ accessFlags := 26, nameIndex := 68, descriptorIndex := 69, attributes := #[] }, { accessFlags := 26, nameIndex := 71, descriptorIndex := 69, attributes := #[] }, { accessFlags := 2, nameIndex := 19, descriptorIndex := 20, attributes := #[] }, { accessFlags := 2, nameIndex := 25, descriptorIndex := 26, attributes := #[] }, { accessFlags := 2, nameIndex := 51, descriptorIndex := 30, attributes := #[] }, { accessFlags := 2, nameIndex := 56, descriptorIndex := 30, attributes := #[] }, { accessFlags := 2, nameIndex := 29, descriptorIndex := 30, attributes := #[] }])
  fields := #[{ name := "EMPTY", type := .long, accessFlags := 26, slot := 0, constantValue := 0 }, { name := "MIX", type := .long, accessFlags := 26, slot := 1, constantValue := 0 }, { name := "keys", type := (.array .long), accessFlags := 2, slot := 0, constantValue := 0 }, { name := "counts", type := (.array .int), accessFlags := 2, slot := 1, constantValue := 0 }, { name := "mask", type := .int, accessFlags := 2, slot := 2, constantValue := 0 }, { name := "shift", type := .int, accessFlags := 2, slot := 3, constantValue := 0 }, { name := "size", type := .int, accessFlags := 2, slot := 4, constantValue := 0 }]
  methods := #[k2m0, k2m1, k2m2, k2m3, k2m4, k2m5, k2m6, k2m7]
  instanceTypes := #[(.array .long), (.array .int), .int, .int, .int]
  staticTypes := #[.long, .long]
  resolved := Array.replicate 97 none
  statics := none }

def pool3 : Array CpInfo := pool [(2, .class_ 4), (1, u "java/lang/Object"), (0, u "<init>"), (0, u "()V"), (7, .class_ 16), (1, u "java/util/Arrays"), (57, .class_ 76), (1, u "java/util/Arrays$NaturalOrder"), (36, .class_ 115), (1, u "java/util/Arrays$LegacyMergeSort"), (1, u "Z"), (257, .class_ 376), (0, u "java/util/Arrays$ArrayList"), (68, u "$assertionsDisabled"), (269, u "MIN_ARRAY_SORT_GRAN"), (0, u "I"), (2, u "INSERTIONSORT_THRESHOLD"), (120, u "fill"), (0, u "([JJ)V"), (133, .class_ 976), (0, u "java/util/Arrays$ArrayItr")] 52

def k3m0 : Method := { name := "<init>", desc := "()V", sig := { parameters := [], returnType := none }, accessFlags := 2, code := none }
def k3c1 : Code := { maxStack := 4, maxLocals := 5, code := jdk_65_method_101_code, exceptionTable := #[], attributes := #[] }
def k3m1 : Method := { name := "fill", desc := "([JJ)V", sig := { parameters := [(.array .long), .long], returnType := none }, accessFlags := 9, code := some k3c1 }
/-- java/util/Arrays -/
def k3 : Class := { plain "java/util/Arrays" (some 0) with
  accessFlags := 49
  interfaces := #[]
  cf := some (fileOf pool3 14 #[.nestMembers #[975, 375, 113, 74]] #[{ accessFlags := 2, nameIndex := 5, descriptorIndex := 6, attributes := #[] }, { accessFlags := 9, nameIndex := 840, descriptorIndex := 841, attributes := #[] }] 49 2 #[] #[{ accessFlags := 26, nameIndex := 715, descriptorIndex := 716, attributes := #[] }, { accessFlags := 26, nameIndex := 719, descriptorIndex := 716, attributes := #[] }, { accessFlags := 4120, nameIndex := 445, descriptorIndex := 117, attributes := #[] }])
  fields := #[{ name := "MIN_ARRAY_SORT_GRAN", type := .int, accessFlags := 26, slot := 0, constantValue := 0 }, { name := "INSERTIONSORT_THRESHOLD", type := .int, accessFlags := 26, slot := 1, constantValue := 0 }, { name := "$assertionsDisabled", type := .boolean, accessFlags := 4120, slot := 2, constantValue := 0 }]
  methods := #[k3m0, k3m1]
  instanceTypes := #[]
  staticTypes := #[.int, .int, .boolean]
  resolved := Array.replicate 1029 none
  statics := none }

def pool4 : Array CpInfo := pool [(1, .class_ 2), (0, u "java/io/Serializable"), (0, .class_ 4), (0, u "java/lang/Object")] 2

/-- java/io/Serializable -/
def k4 : Class := { plain "java/io/Serializable" (some 0) with
  accessFlags := 1537
  interfaces := #[]
  cf := some (fileOf pool4 1 #[] #[] 1537 3 #[] #[])
  fields := #[]
  methods := #[]
  instanceTypes := #[]
  staticTypes := #[]
  resolved := Array.replicate 7 none
  statics := none }

def pool5 : Array CpInfo := pool [(2, .class_ 4), (1, u "java/lang/Object"), (0, u "<init>"), (0, u "()V"), (1, .class_ 10), (1, u "java/lang/Number"), (2, .class_ 14), (0, u "java/io/Serializable"), (0, u "serialVersionUID"), (0, u "J")] 20

def k5m0 : Method := { name := "<init>", desc := "()V", sig := { parameters := [], returnType := none }, accessFlags := 1, code := none }
/-- java/lang/Number -/
def k5 : Class := { plain "java/lang/Number" (some 0) with
  accessFlags := 1057
  interfaces := #[4]
  cf := some (fileOf pool5 8 #[] #[{ accessFlags := 1, nameIndex := 5, descriptorIndex := 6, attributes := #[] }] 1057 2 #[13] #[{ accessFlags := 26, nameIndex := 15, descriptorIndex := 16, attributes := #[] }])
  fields := #[{ name := "serialVersionUID", type := .long, accessFlags := 26, slot := 0, constantValue := 0 }]
  methods := #[k5m0]
  instanceTypes := #[]
  staticTypes := #[.long]
  resolved := Array.replicate 37 none
  statics := none }

def pool6 : Array CpInfo := pool [(1, .class_ 2), (0, u "java/lang/Comparable"), (0, .class_ 4), (0, u "java/lang/Object")] 7

/-- java/lang/Comparable -/
def k6 : Class := { plain "java/lang/Comparable" (some 0) with
  accessFlags := 1537
  interfaces := #[]
  cf := some (fileOf pool6 1 #[] #[] 1537 3 #[] #[])
  fields := #[]
  methods := #[]
  instanceTypes := #[]
  staticTypes := #[]
  resolved := Array.replicate 12 none
  statics := none }

def pool7 : Array CpInfo := pool [(1, .class_ 2), (0, u "java/lang/constant/Constable"), (0, .class_ 4), (0, u "java/lang/Object")] 6

/-- java/lang/constant/Constable -/
def k7 : Class := { plain "java/lang/constant/Constable" (some 0) with
  accessFlags := 1537
  interfaces := #[]
  cf := some (fileOf pool7 1 #[] #[] 1537 3 #[] #[])
  fields := #[]
  methods := #[]
  instanceTypes := #[]
  staticTypes := #[]
  resolved := Array.replicate 11 none
  statics := none }

def pool8 : Array CpInfo := pool [(1, .class_ 2), (0, u "java/lang/constant/ConstantDesc"), (0, .class_ 4), (0, u "java/lang/Object")] 32

/-- java/lang/constant/ConstantDesc -/
def k8 : Class := { plain "java/lang/constant/ConstantDesc" (some 0) with
  accessFlags := 1537
  interfaces := #[]
  cf := some (fileOf pool8 1 #[] #[] 1537 3 #[] #[])
  fields := #[]
  methods := #[]
  instanceTypes := #[]
  staticTypes := #[]
  resolved := Array.replicate 37 none
  statics := none }

def pool9 : Array CpInfo := pool [(1, .class_ 2), (0, u "java/lang/Long"), (15, .class_ 20), (1, u "java/lang/Integer"), (79, u "numberOfLeadingZeros"), (0, u "(J)I"), (133, .class_ 237), (1, u "java/lang/Long$LongCache"), (33, .class_ 272), (0, u "java/lang/Number"), (2, u "value"), (0, u "J"), (31, .methodref 18 309), (0, .nameAndType 100 310), (0, u "(I)I"), (50, u "TYPE"), (0, u "Ljava/lang/Class;"), (0, .class_ 364), (0, u "java/lang/Comparable"), (0, .class_ 366), (0, u "java/lang/constant/Constable"), (0, .class_ 368), (0, u "java/lang/constant/ConstantDesc"), (0, u "MIN_VALUE"), (1, u "MAX_VALUE"), (4, u "SIZE"), (0, u "I"), (1, u "BYTES"), (1, u "serialVersionUID")] 142

def k9c0 : Code := { maxStack := 3, maxLocals := 3, code := jdk_35_method_48_code, exceptionTable := #[], attributes := #[] }
def k9m0 : Method := { name := "numberOfLeadingZeros", desc := "(J)I", sig := { parameters := [.long], returnType := some .int }, accessFlags := 9, code := some k9c0 }
/-- java/lang/Long -/
def k9 : Class := { plain "java/lang/Long" (some 5) with
  accessFlags := 49
  interfaces := #[6, 7, 8]
  cf := some (fileOf pool9 1 #[.nestMembers #[235]] #[{ accessFlags := 9, nameIndex := 100, descriptorIndex := 101, attributes := #[] }] 49 271 #[363, 365, 367] #[{ accessFlags := 25, nameIndex := 369, descriptorIndex := 276, attributes := #[] }, { accessFlags := 25, nameIndex := 371, descriptorIndex := 276, attributes := #[] }, { accessFlags := 25, nameIndex := 361, descriptorIndex := 362, attributes := #[] }, { accessFlags := 18, nameIndex := 275, descriptorIndex := 276, attributes := #[] }, { accessFlags := 25, nameIndex := 376, descriptorIndex := 377, attributes := #[] }, { accessFlags := 25, nameIndex := 379, descriptorIndex := 377, attributes := #[] }, { accessFlags := 26, nameIndex := 381, descriptorIndex := 276, attributes := #[] }])
  fields := #[{ name := "MIN_VALUE", type := .long, accessFlags := 25, slot := 0, constantValue := 0 }, { name := "MAX_VALUE", type := .long, accessFlags := 25, slot := 1, constantValue := 0 }, { name := "TYPE", type := (.object "java/lang/Class"), accessFlags := 25, slot := 2, constantValue := 0 }, { name := "value", type := .long, accessFlags := 18, slot := 0, constantValue := 0 }, { name := "SIZE", type := .int, accessFlags := 25, slot := 3, constantValue := 0 }, { name := "BYTES", type := .int, accessFlags := 25, slot := 4, constantValue := 0 }, { name := "serialVersionUID", type := .long, accessFlags := 26, slot := 5, constantValue := 0 }]
  methods := #[k9m0]
  instanceTypes := #[.long]
  staticTypes := #[.long, .long, (.object "java/lang/Class"), .int, .int, .long]
  resolved := Array.replicate 524 none
  statics := none }

def pool10 : Array CpInfo := pool [(1, .class_ 2), (0, u "java/lang/Integer"), (16, u "digits"), (0, u "[C"), (32, u "numberOfLeadingZeros"), (0, u "(I)I"), (30, u "DigitOnes"), (0, u "[B"), (2, u "DigitTens"), (99, .class_ 190), (0, u "java/lang/Integer$IntegerCache"), (3, u "I"), (8, .class_ 204), (0, u "java/lang/Number"), (2, u "value"), (56, .integer 65536), (37, u "TYPE"), (0, u "Ljava/lang/Class;"), (0, .class_ 305), (0, u "java/lang/Comparable"), (0, .class_ 307), (0, u "java/lang/constant/Constable"), (0, .class_ 309), (0, u "java/lang/constant/ConstantDesc"), (0, u "MIN_VALUE"), (1, u "MAX_VALUE"), (3, u "SIZE"), (1, u "BYTES"), (1, u "serialVersionUID"), (0, u "J")] 131

def k10c0 : Code := { maxStack := 3, maxLocals := 2, code := jdk_33_method_47_code, exceptionTable := #[], attributes := #[] }
def k10m0 : Method := { name := "numberOfLeadingZeros", desc := "(I)I", sig := { parameters := [.int], returnType := some .int }, accessFlags := 9, code := some k10c0 }
/-- java/lang/Integer -/
def k10 : Class := { plain "java/lang/Integer" (some 5) with
  accessFlags := 49
  interfaces := #[6, 7, 8]
  cf := some (fileOf pool10 1 #[.nestMembers #[189]] #[{ accessFlags := 9, nameIndex := 53, descriptorIndex := 54, attributes := #[] }] 49 203 #[304, 306, 308] #[{ accessFlags := 25, nameIndex := 310, descriptorIndex := 194, attributes := #[] }, { accessFlags := 25, nameIndex := 312, descriptorIndex := 194, attributes := #[] }, { accessFlags := 25, nameIndex := 302, descriptorIndex := 303, attributes := #[] }, { accessFlags := 24, nameIndex := 19, descriptorIndex := 20, attributes := #[] }, { accessFlags := 24, nameIndex := 89, descriptorIndex := 86, attributes := #[] }, { accessFlags := 24, nameIndex := 85, descriptorIndex := 86, attributes := #[] }, { accessFlags := 18, nameIndex := 207, descriptorIndex := 194, attributes := #[] }, { accessFlags := 25, nameIndex := 316, descriptorIndex := 194, attributes := #[] }, { accessFlags := 25, nameIndex := 318, descriptorIndex := 194, attributes := #[] }, { accessFlags := 26, nameIndex := 320, descriptorIndex := 321, attributes := #[] }])
  fields := #[{ name := "MIN_VALUE", type := .int, accessFlags := 25, slot := 0, constantValue := 0 }, { name := "MAX_VALUE", type := .int, accessFlags := 25, slot := 1, constantValue := 0 }, { name := "TYPE", type := (.object "java/lang/Class"), accessFlags := 25, slot := 2, constantValue := 0 }, { name := "digits", type := (.array .char), accessFlags := 24, slot := 3, constantValue := 0 }, { name := "DigitTens", type := (.array .byte), accessFlags := 24, slot := 4, constantValue := 0 }, { name := "DigitOnes", type := (.array .byte), accessFlags := 24, slot := 5, constantValue := 0 }, { name := "value", type := .int, accessFlags := 18, slot := 0, constantValue := 0 }, { name := "SIZE", type := .int, accessFlags := 25, slot := 6, constantValue := 0 }, { name := "BYTES", type := .int, accessFlags := 25, slot := 7, constantValue := 0 }, { name := "serialVersionUID", type := .long, accessFlags := 26, slot := 8, constantValue := 0 }]
  methods := #[k10m0]
  instanceTypes := #[.int]
  staticTypes := #[.int, .int, (.object "java/lang/Class"), (.array .char), (.array .byte), (.array .byte), .int, .int, .long]
  resolved := Array.replicate 453 none
  statics := none }

def pool11 : Array CpInfo := pool [(1, u "java/lang/Cloneable"), (0, .class_ 1), (0, u "java/lang/Object"), (0, .class_ 3)] 3

/-- java/lang/Cloneable -/
def k11 : Class := { plain "java/lang/Cloneable" (some 0) with
  accessFlags := 1537
  interfaces := #[]
  cf := some (fileOf pool11 2 #[] #[] 1537 4 #[] #[])
  fields := #[]
  methods := #[]
  instanceTypes := #[]
  staticTypes := #[]
  resolved := Array.replicate 8 none
  statics := none }

/-- the primitive byte -/
def k12 : Class := { plain "byte" none with kind := .primitive 'B', accessFlags := 0x411 }
/-- [B -/
def k13 : Class := { plain "[B" (some 0) with kind := .array 12 .byte, interfaces := #[11, 4], accessFlags := 1041 }

/-- the primitive int -/
def k14 : Class := { plain "int" none with kind := .primitive 'I', accessFlags := 0x411 }
/-- [I -/
def k15 : Class := { plain "[I" (some 0) with kind := .array 14 .int, interfaces := #[11, 4], accessFlags := 1041 }

/-- the primitive long -/
def k16 : Class := { plain "long" none with kind := .primitive 'J', accessFlags := 0x411 }
/-- [J -/
def k17 : Class := { plain "[J" (some 0) with kind := .array 16 .long, interfaces := #[11, 4], accessFlags := 1041 }

def heap : Heap := #[]
def classes : Array Class := #[k0, k1, k2, k3, k4, k5, k6, k7, k8, k9, k10, k11, k12, k13, k14, k15, k16, k17]
def interned : List (Array UInt16 × Addr) := []
def slotsUsed : Nat := 0
def theMethod : MethodId := ⟨1, 3⟩
def args0 : Array Value := #[.long 3, .long 4, .long 5, .long 6, .int 7]
def aboutOver (below : List Frame) : State where
  vm := { classes := classes, interned := interned.toArray }
  heap := heap
  slotsUsed := slotsUsed
  threads := #[{ frames := .invoking theMethod args0 :: below }]
def below0 : List Frame := [.native { method := ⟨0, 0⟩, args := #[] }]
def about1 : State := aboutOver below0
def p0 : Program := .bare "" "" ""
def e0 : Env := launch0.env 0 0 0
theorem w_frames : about1.frames = Frame.invoking theMethod args0 :: below0 := rfl
set_option maxRecDepth 65536 in
theorem w_args : argsFit about1.vm theMethod args0 = true := by decide +kernel
set_option maxRecDepth 65536 in
theorem w_heap : heapFits about1 = true := by decide +kernel
set_option maxRecDepth 65536 in
theorem w_runnable : about1.curStatus? = some .runnable := by decide +kernel
set_option maxRecDepth 65536 in
theorem w_alone : about1.alone = true := by decide +kernel
set_option maxRecDepth 65536 in
theorem w_named : about1.methodNamed? x = some theMethod := by decide +kernel
set_option maxRecDepth 65536 in
theorem w_hears : about1.hears theMethod below0 = true := by decide +kernel
set_option maxRecDepth 65536 in
theorem w_ripe : about1.ripe theMethod args0 below0 = true := by decide +kernel
theorem w_running : about1.status = .running := rfl
set_option maxRecDepth 65536 in
theorem w_room : about1.hasRoom e0.platform room_1 = true :=
  launch0.hasRoom_least _ room_1 (by decide +kernel) (by decide +kernel) (by decide +kernel) (by decide +kernel) (by decide +kernel) (by decide +kernel)
theorem allAtoms_all (ts : List Jvm.Cond) (a : Array Jvm.Value) (st : Jvm.State) : (allAtoms ts).before a st = ts.all (fun c => c.before a st) := by
  induction ts with
  | nil => rfl
  | cons c t ih =>
    show (Jvm.Cond.and c (allAtoms t)).before a st = _
    rw [Jvm.Cond.before_and, ih, List.all_cons]
def words1 : List Jvm.Cond := Jvm.Cond.code x code maxLocals ret :: tables_1
/-- a 'code' word, met by the world's own term for the bytes: nothing is compared byte by byte -/
theorem code_word {y : MethodName} {bytes : ByteArray} {mx : Nat} {rt : Option FieldType} {a : Array Value} {s : State} {m : MethodId} {meth : Method} {c : Code} (h1 : s.methodNamed? y = some m) (h2 : s.vm.method? m = some meth) (h3 : meth.code = some c) (h4 : c.code = bytes)
    (h5 : (c.maxLocals == mx && c.exceptionTable.isEmpty && decide (c.maxStack ≤ mostOperands) && decide (meth.sig.returnType = rt) && !meth.locks && decide (parseMethodDescriptor y.desc = some meth.sig)) = true) : (Jvm.Cond.code y bytes mx rt).before a s = true := by
  simp only [Bool.and_eq_true, beq_iff_eq, Bool.not_eq_true', decide_eq_true_eq] at h5
  obtain ⟨⟨⟨⟨⟨g1, g2⟩, g3⟩, g4⟩, g5⟩, g6⟩ := h5
  simp [Cond.before, Cond.holds, Cond.value, h1, h2, h3, h4, g1, g2, g3, g4, g5, g6]
def isCode : Jvm.Cond → Bool
  | .code _ _ _ _ => true
  | _ => false
theorem all_split {L : List Jvm.Cond} {P : Jvm.Cond → Bool} (h1 : L.all (fun c => isCode c || P c) = true) (h2 : ∀ c ∈ L.filter isCode, P c = true) : L.all P = true := by
  refine List.all_eq_true.mpr fun c hc => ?_
  have h := List.all_eq_true.mp h1 c hc
  rcases Bool.eq_false_or_eq_true (isCode c) with hi | hi
  · exact h2 c (List.mem_filter.mpr ⟨hc, hi⟩)
  · simpa [hi] using h
set_option maxRecDepth 65536 in
theorem w_c0 : (Jvm.Cond.code x code maxLocals ret).before args0 about1 = true := code_word (m := ⟨1, 3⟩) (meth := k1m3) (c := k1c3) (by decide +kernel) rfl rfl rfl (by decide +kernel)
set_option maxRecDepth 65536 in
theorem w_c1 : (Jvm.Cond.code ({ cls := "com/example/enklave/enklave/anonymize/CountMapGetPinLaw", name := "ups", desc := "(JZZZZJJJ)I" } : Jvm.MethodName) method_2_code (13 : Nat) (Option.some Jvm.ClassFile.FieldType.int)).before args0 about1 = true := code_word (m := ⟨1, 1⟩) (meth := k1m1) (c := k1c1) (by decide +kernel) rfl rfl rfl (by decide +kernel)
set_option maxRecDepth 65536 in
theorem w_c2 : (Jvm.Cond.code ({ cls := "com/example/enklave/enklave/anonymize/CountMap", name := "<init>", desc := "()V" } : Jvm.MethodName) prog_9_method_1_code (1 : Nat) (Option.none : Option Jvm.ClassFile.FieldType)).before args0 about1 = true := code_word (m := ⟨2, 0⟩) (meth := k2m0) (c := k2c0) (by decide +kernel) rfl rfl rfl (by decide +kernel)
set_option maxRecDepth 65536 in
theorem w_c3 : (Jvm.Cond.code ({ cls := "java/lang/Object", name := "<init>", desc := "()V" } : Jvm.MethodName) object_method_1_code (1 : Nat) (Option.none : Option Jvm.ClassFile.FieldType)).before args0 about1 = true := code_word (m := ⟨0, 0⟩) (meth := k0m0) (c := k0c0) (by decide +kernel) rfl rfl rfl (by decide +kernel)
set_option maxRecDepth 65536 in
theorem w_c4 : (Jvm.Cond.code ({ cls := "com/example/enklave/enklave/anonymize/CountMap", name := "allocate", desc := "(I)V" } : Jvm.MethodName) prog_9_method_9_code (2 : Nat) (Option.none : Option Jvm.ClassFile.FieldType)).before args0 about1 = true := code_word (m := ⟨2, 7⟩) (meth := k2m7) (c := k2c7) (by decide +kernel) rfl rfl rfl (by decide +kernel)
set_option maxRecDepth 65536 in
theorem w_c5 : (Jvm.Cond.code ({ cls := "java/util/Arrays", name := "fill", desc := "([JJ)V" } : Jvm.MethodName) jdk_65_method_101_code (5 : Nat) (Option.none : Option Jvm.ClassFile.FieldType)).before args0 about1 = true := code_word (m := ⟨3, 1⟩) (meth := k3m1) (c := k3c1) (by decide +kernel) rfl rfl rfl (by decide +kernel)
set_option maxRecDepth 65536 in
theorem w_c6 : (Jvm.Cond.code ({ cls := "java/lang/Long", name := "numberOfLeadingZeros", desc := "(J)I" } : Jvm.MethodName) jdk_35_method_48_code (3 : Nat) (Option.some Jvm.ClassFile.FieldType.int)).before args0 about1 = true := code_word (m := ⟨9, 0⟩) (meth := k9m0) (c := k9c0) (by decide +kernel) rfl rfl rfl (by decide +kernel)
set_option maxRecDepth 65536 in
theorem w_c7 : (Jvm.Cond.code ({ cls := "java/lang/Integer", name := "numberOfLeadingZeros", desc := "(I)I" } : Jvm.MethodName) jdk_33_method_47_code (2 : Nat) (Option.some Jvm.ClassFile.FieldType.int)).before args0 about1 = true := code_word (m := ⟨10, 0⟩) (meth := k10m0) (c := k10c0) (by decide +kernel) rfl rfl rfl (by decide +kernel)
set_option maxRecDepth 65536 in
theorem w_c8 : (Jvm.Cond.code ({ cls := "com/example/enklave/enklave/anonymize/CountMap", name := "increment", desc := "(J)I" } : Jvm.MethodName) prog_9_method_3_code (5 : Nat) (Option.some Jvm.ClassFile.FieldType.int)).before args0 about1 = true := code_word (m := ⟨2, 2⟩) (meth := k2m2) (c := k2c2) (by decide +kernel) rfl rfl rfl (by decide +kernel)
set_option maxRecDepth 65536 in
theorem w_c9 : (Jvm.Cond.code ({ cls := "com/example/enklave/enklave/anonymize/CountMap", name := "find", desc := "(J)I" } : Jvm.MethodName) prog_9_method_5_code (4 : Nat) (Option.some Jvm.ClassFile.FieldType.int)).before args0 about1 = true := code_word (m := ⟨2, 4⟩) (meth := k2m4) (c := k2c4) (by decide +kernel) rfl rfl rfl (by decide +kernel)
set_option maxRecDepth 65536 in
theorem w_c10 : (Jvm.Cond.code ({ cls := "com/example/enklave/enklave/anonymize/CountMap", name := "home", desc := "(J)I" } : Jvm.MethodName) prog_9_method_6_code (3 : Nat) (Option.some Jvm.ClassFile.FieldType.int)).before args0 about1 = true := code_word (m := ⟨2, 5⟩) (meth := k2m5) (c := k2c5) (by decide +kernel) rfl rfl rfl (by decide +kernel)
set_option maxRecDepth 65536 in
theorem w_c11 : (Jvm.Cond.code ({ cls := "com/example/enklave/enklave/anonymize/CountMap", name := "get", desc := "(J)I" } : Jvm.MethodName) prog_9_method_2_code (4 : Nat) (Option.some Jvm.ClassFile.FieldType.int)).before args0 about1 = true := code_word (m := ⟨2, 1⟩) (meth := k2m1) (c := k2c1) (by decide +kernel) rfl rfl rfl (by decide +kernel)
set_option maxRecDepth 65536 in
theorem w_c12 : (Jvm.Cond.code ({ cls := "com/example/enklave/enklave/anonymize/CountMapGetPinLaw", name := "ref", desc := "(JZZZZZJJJJ)I" } : Jvm.MethodName) method_3_code (16 : Nat) (Option.some Jvm.ClassFile.FieldType.int)).before args0 about1 = true := code_word (m := ⟨1, 2⟩) (meth := k1m2) (c := k1c2) (by decide +kernel) rfl rfl rfl (by decide +kernel)
set_option maxRecDepth 65536 in
theorem w_c13 : (Jvm.Cond.code ({ cls := "com/example/enklave/enklave/anonymize/CountMap", name := "decrement", desc := "(J)I" } : Jvm.MethodName) prog_9_method_4_code (5 : Nat) (Option.some Jvm.ClassFile.FieldType.int)).before args0 about1 = true := code_word (m := ⟨2, 3⟩) (meth := k2m3) (c := k2c3) (by decide +kernel) rfl rfl rfl (by decide +kernel)
set_option maxRecDepth 65536 in
theorem w_c14 : (Jvm.Cond.code ({ cls := "com/example/enklave/enklave/anonymize/CountMap", name := "delete", desc := "(I)V" } : Jvm.MethodName) prog_9_method_7_code (6 : Nat) (Option.none : Option Jvm.ClassFile.FieldType)).before args0 about1 = true := code_word (m := ⟨2, 6⟩) (meth := k2m6) (c := k2c6) (by decide +kernel) rfl rfl rfl (by decide +kernel)
def codes1 : List Jvm.Cond := [Jvm.Cond.code x code maxLocals ret, Jvm.Cond.code ({ cls := "com/example/enklave/enklave/anonymize/CountMapGetPinLaw", name := "ups", desc := "(JZZZZJJJ)I" } : Jvm.MethodName) method_2_code (13 : Nat) (Option.some Jvm.ClassFile.FieldType.int), Jvm.Cond.code ({ cls := "com/example/enklave/enklave/anonymize/CountMap", name := "<init>", desc := "()V" } : Jvm.MethodName) prog_9_method_1_code (1 : Nat) (Option.none : Option Jvm.ClassFile.FieldType), Jvm.Cond.code ({ cls := "java/lang/Object", name := "<init>", desc := "()V" } : Jvm.MethodName) object_method_1_code (1 : Nat) (Option.none : Option Jvm.ClassFile.FieldType), Jvm.Cond.code ({ cls := "com/example/enklave/enklave/anonymize/CountMap", name := "allocate", desc := "(I)V" } : Jvm.MethodName) prog_9_method_9_code (2 : Nat) (Option.none : Option Jvm.ClassFile.FieldType), Jvm.Cond.code ({ cls := "java/util/Arrays", name := "fill", desc := "([JJ)V" } : Jvm.MethodName) jdk_65_method_101_code (5 : Nat) (Option.none : Option Jvm.ClassFile.FieldType), Jvm.Cond.code ({ cls := "java/lang/Long", name := "numberOfLeadingZeros", desc := "(J)I" } : Jvm.MethodName) jdk_35_method_48_code (3 : Nat) (Option.some Jvm.ClassFile.FieldType.int), Jvm.Cond.code ({ cls := "java/lang/Integer", name := "numberOfLeadingZeros", desc := "(I)I" } : Jvm.MethodName) jdk_33_method_47_code (2 : Nat) (Option.some Jvm.ClassFile.FieldType.int), Jvm.Cond.code ({ cls := "com/example/enklave/enklave/anonymize/CountMap", name := "increment", desc := "(J)I" } : Jvm.MethodName) prog_9_method_3_code (5 : Nat) (Option.some Jvm.ClassFile.FieldType.int), Jvm.Cond.code ({ cls := "com/example/enklave/enklave/anonymize/CountMap", name := "find", desc := "(J)I" } : Jvm.MethodName) prog_9_method_5_code (4 : Nat) (Option.some Jvm.ClassFile.FieldType.int), Jvm.Cond.code ({ cls := "com/example/enklave/enklave/anonymize/CountMap", name := "home", desc := "(J)I" } : Jvm.MethodName) prog_9_method_6_code (3 : Nat) (Option.some Jvm.ClassFile.FieldType.int), Jvm.Cond.code ({ cls := "com/example/enklave/enklave/anonymize/CountMap", name := "get", desc := "(J)I" } : Jvm.MethodName) prog_9_method_2_code (4 : Nat) (Option.some Jvm.ClassFile.FieldType.int), Jvm.Cond.code ({ cls := "com/example/enklave/enklave/anonymize/CountMapGetPinLaw", name := "ref", desc := "(JZZZZZJJJJ)I" } : Jvm.MethodName) method_3_code (16 : Nat) (Option.some Jvm.ClassFile.FieldType.int), Jvm.Cond.code ({ cls := "com/example/enklave/enklave/anonymize/CountMap", name := "decrement", desc := "(J)I" } : Jvm.MethodName) prog_9_method_4_code (5 : Nat) (Option.some Jvm.ClassFile.FieldType.int), Jvm.Cond.code ({ cls := "com/example/enklave/enklave/anonymize/CountMap", name := "delete", desc := "(I)V" } : Jvm.MethodName) prog_9_method_7_code (6 : Nat) (Option.none : Option Jvm.ClassFile.FieldType)]
set_option maxRecDepth 65536 in
theorem codes_eq : words1.filter isCode = codes1 := rfl
theorem w_codes : ∀ c ∈ words1.filter isCode, c.before args0 about1 = true := by
  rw [codes_eq]
  intro c hc
  simp only [codes1, List.mem_cons, List.not_mem_nil, or_false] at hc
  rcases hc with rfl | rfl | rfl | rfl | rfl | rfl | rfl | rfl | rfl | rfl | rfl | rfl | rfl | rfl | rfl
  · exact w_c0
  · exact w_c1
  · exact w_c2
  · exact w_c3
  · exact w_c4
  · exact w_c5
  · exact w_c6
  · exact w_c7
  · exact w_c8
  · exact w_c9
  · exact w_c10
  · exact w_c11
  · exact w_c12
  · exact w_c13
  · exact w_c14
set_option maxRecDepth 65536 in
theorem w_t1 : (words1.take 24).all (fun c => isCode c || c.before args0 about1) = true := by decide +kernel
set_option maxRecDepth 65536 in
theorem w_t2 : ((words1.drop 24).take 24).all (fun c => isCode c || c.before args0 about1) = true := by decide +kernel
set_option maxRecDepth 65536 in
theorem w_t3 : (((words1.drop 24).drop 24).take 24).all (fun c => isCode c || c.before args0 about1) = true := by decide +kernel
set_option maxRecDepth 65536 in
theorem w_t4 : (((words1.drop 24).drop 24).drop 24).all (fun c => isCode c || c.before args0 about1) = true := by decide +kernel
theorem w_tables : (allAtoms (Jvm.Cond.code x code maxLocals ret :: tables_1)).before args0 about1 = true := by
  rw [allAtoms_all]
  show words1.all (fun c => c.before args0 about1) = true
  refine all_split ?_ w_codes
  rw [← List.take_append_drop 24 words1, List.all_append, w_t1, ← List.take_append_drop 24 (words1.drop 24), List.all_append, w_t2, ← List.take_append_drop 24 ((words1.drop 24).drop 24), List.all_append, w_t3, w_t4]
  rfl
set_option maxRecDepth 65536 in
theorem w_case : (Jvm.Cond.and given_1 narrow_1).before args0 about1 = true := by decide +kernel
theorem w_applies : (headSpec (Jvm.Cond.code x code maxLocals ret :: tables_1) room_1).applies x e0.platform about1 = true :=
  (Spec.applies_iff w_frames).mpr ⟨w_running, w_runnable, w_alone, w_named, w_hears, w_ripe, w_room, w_tables⟩
theorem atStart : AtStart classFile x code maxLocals ret World_1 tables_1 room_1 Calls_1 rest_1 Pre_1 launch0 p0 e0 about1 theMethod args0 below0 :=
  ⟨lists_1, trivial, launch0.admits_env _ _ _, launch0.least_env, fairChoices_fair.cas, fairChoices_fair.clock, w_frames, w_args, w_heap, w_applies, trivial, trivial, w_case⟩
end start1
theorem witness_1 : WitnessClaimed_1 := ⟨start1.p0, start1.e0, start1.about1, start1.theMethod, start1.args0, start1.below0, start1.atStart⟩
end Jvm.Pilot.@@N@@
