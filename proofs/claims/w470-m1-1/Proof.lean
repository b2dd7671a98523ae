import JvmDerived
import JvmDerived.Pilot.@@N@@Statement
import JvmDerived.Pilot.@@N@@Code
set_option linter.unusedVariables false
set_option linter.unusedSimpArgs false
namespace Jvm.JW
open Sem ClassFile Op Lib Jvm.Stand Jvm.Free Jvm.LawKit Jvm.RoadKit
/-! The walk in continuation form: D holds of a machine state if the run from it ends as the contract says. -/
def Dn (p : Program) (e : Env) (below : List Frame) (s : State) (Q : Option Value → Heap → List Loc → Prop) (k n : Nat) (S : State) : Prop :=
  ∃ s₂ o, Steps p.tables e below S s₂ ∧ s₂.status = .running ∧ Ended s₂ below o ∧ ∃ v L, o = .returned v ∧ Q v s₂.heap L ∧ FrameEnd s o s₂ L k n
def Adv (p : Program) (e : Env) (below : List Frame) (D : State → Prop) : Prop :=
  ∀ {S S' : State}, (∀ {t : State}, Steps p.tables e below S' t → Steps p.tables e below S t) → D S' → D S
theorem Adv.dn {p : Program} {e : Env} {below : List Frame} {s : State} {Q : Option Value → Heap → List Loc → Prop} {k n : Nat} : Adv p e below (Dn p e below s Q k n) := by
  intro S S' h d
  obtain ⟨s2, o, h1, h2⟩ := d
  exact ⟨s2, o, h h1, h2⟩
theorem Adv.tr {p : Program} {e : Env} {below : List Frame} {D : State → Prop} (A : Adv p e below D) {S S' : State} (h : Steps p.tables e below S S') (d : D S') : D S := A (fun k => h.trans k) d
abbrev JMet (l : Launch) (Z : State) (y : MethodName) (bytes : ByteArray) (maxL : Nat) (ret : Option FieldType) (ws : List Cond) (rm : Room) (as' : Array Value) (h0 : Heap) (Q : Option Value → Heap → List Loc → Prop) : Prop :=
  MetFree l y (head1 (Cond.code y bytes maxL ret :: ws) rm) (fun a U => a = as' ∧ Z.Warmed39 U.vm ∧ U.heap = h0) (fun _ _ _ _ _ => True) (fun _ U o U' => ∃ v L, o = .returned v ∧ Q v U'.heap L ∧ FrameEnd U o U' L rm.cells rm.slots)
/-- a body that returns r and leaves the heap as it was -/
def QP (r : Value) (h0 : Heap) (n0 : Nat) (v : Option Value) (h : Heap) (L : List Loc) : Prop := v = some r ∧ Fr n0 L ∧ h = h0
/-- the law: it returns 1; nothing that stood at the start is written -/
def QL (n0 : Nat) (v : Option Value) (h : Heap) (L : List Loc) : Prop := v = some (.int 1) ∧ Fr n0 L
section Kit
variable {p : Program} {l : Launch} {e : Env} {R : Room} {s : State} {m : MethodId} {args : Array Value} {below : List Frame} {meth : Method} {c : Code} {T : State} {locs : List Loc} {cells slots : Nat} {Z : State} {a0 : Array Value} {h : Heap} {D : State → Prop}
theorem ret (X : Stand p l e R s m args below meth c T locs cells slots) (hlk : meth.locks = false) {Q : Option Value → Heap → List Loc → Prop} {k n : Nat} {S : State} {v : Option Value} (hv : meth.sig.returnType = none → v = none)
    (hst : ∀ fs, (∀ (f : JFrame) (acts : List Action), f.method = m → f.locked = none → f.entered = [] → (doReturn e (T.setTop f) acts v).1 = T.setFrames fs) → Steps p.tables e below S (T.setFrames fs))
    {hh : Heap} (eT : T.heap = hh) (hq : Q v hh locs) (hk : cells ≤ k) (hn : slots ≤ n) : Dn p e below s Q k n S := by
  subst eT
  obtain ⟨fs, hr, hrun, hended, hW, hsame⟩ := X.leave (v := v) hv hlk
  exact ⟨_, _, hst fs hr, hrun, hended, _, _, rfl, hq, ⟨_, rfl⟩, hW, hsame.mono hk hn⟩
theorem body {y : MethodName} {bytes : ByteArray} {maxL : Nat} {rt : Option FieldType} {ws : List Cond} {rm : Room} {as' : Array Value} {h0 : Heap} {Q : Option Value → Heap → List Loc → Prop} (Ls : Array Slot) (hpl : plainFor y = true) (hef : ∀ m, entryFrame m as' maxL = mkF m 0 Ls [])
    (bd : ∀ (p : Program) (e : Env) (s : State) (m : MethodId) (below : List Frame) (meth : Method) (c : Code) (T0 : State) (D : State → Prop), Adv p e below D → (∀ S, Dn p e below s Q rm.cells rm.slots S → D S) → Stand p l e rm s m as' below meth c T0 [] 0 0 → p.tables.exec = Jvm.exec → Z.Warmed39 s.vm → c.code = bytes → c.maxLocals = maxL → s.vm.findClass y.cls = some m.cls → meth.name = y.name → meth.sig.returnType = rt → meth.locks = false → T0.heap = h0 → D (T0.setTop (mkF m 0 Ls []))) :
    JMet l Z y bytes maxL rt ws rm as' h0 Q := by
  refine MetFree.of_bodySF hpl hisR ?_
  intro p e s m args below meth c s₁ Bd hml hP hK
  obtain ⟨rfl, hZ, hh⟩ := hP
  have q := bd p e s m below meth c s₁ (Dn p e below s Q rm.cells rm.slots) Adv.dn (fun _ d => d) (Stand.of_body Bd) Bd.exec hZ Bd.bytes hml (findClass_of_methodNamed Bd.named) (name_of_methodNamed Bd.named Bd.method).1 Bd.returns Bd.notSynchronized (by rw [← hh, Bd.state]; rfl)
  rw [← hef m] at q
  exact q
theorem Adv.callS (A : Adv p e below D) (X : Stand p l e R s m args below meth c T locs cells slots) (hx : p.tables.exec = Jvm.exec) (hZ : Z.Warmed39 s.vm) {own : String} {index : Nat} {y : MethodName} {bytes : ByteArray} {maxL : Nat} {rt : Option FieldType} {rm : Room} {as' : Array Value} {Q : Option Value → Heap → List Loc → Prop}
    (hown : s.vm.findClass own = some m.cls) (w1 : (Cond.methodLink own index y).before a0 Z = true) (w2 : (Cond.static y).before a0 Z = true) (w3 : (Cond.initialized y.cls).before a0 Z = true) (w4 : (Cond.code y bytes maxL rt).before a0 Z = true) (eT : T.heap = h)
    (hM : JMet l Z y bytes maxL rt [] rm as' h Q) (W : Nat) {g : JFrame} (hg : g.method = m) (hsz : g.locals.size = c.maxLocals) (argsL rest : List Value) (has : as' = argsL.toArray)
    (hlen : ∀ sig, parseMethodDescriptor y.desc = some sig → argsL.length = sig.parameters.length) (hstack : g.stack = argsL.reverse ++ rest) (hW : 2 * g.monitorRoom + (rest.map fun v => v.category).sum ≤ W)
    (hd : decode c.code g.pc = .ok (.invokestatic index, 3)) (hy : y.cls ≠ "java/lang/invoke/MethodHandle" ∧ y.cls ≠ "java/lang/invoke/VarHandle") (hf : rm.frames + 1 ≤ R.frames) (hl : W + (maxL + 11) + rm.locals ≤ R.locals) (hc : cells + rm.cells ≤ R.cells) (hs : slots + rm.slots ≤ R.slots)
    (k : ∀ (T' : State) (L' : List Loc) (v : Option Value), Stand p l e R s m args below meth c T' (locs ++ L') (cells + rm.cells) (slots + rm.slots) → Q v T'.heap L' → D (T'.setTop { g with pc := g.pc + 3, stack := v.toList ++ rest })) : D (T.setTop g) := by
  subst has
  obtain ⟨v, _, ⟨T', L, k', n'⟩, -, X', ⟨Lc, hQ, l', y', z'⟩, st⟩ := Jvm.LawKit.callS X hx (y := y) hown (mvT hZ w1) (mvT hZ w2) (mvT hZ w3) (mvT hZ w4) hy (backOf (W := W) hM hZ w4 w3 hf hl) (g := g) hg hsz (argsL := argsL) (rest := rest) hlen hstack hW hd (fun _ _ => ⟨rfl, eT, hc, hs⟩)
  dsimp only [Pt.U, Pt.locs, Pt.cells, Pt.slots] at X' l' y' z' st hQ
  subst l' y' z'
  exact A (fun q => st _ q) (k T' Lc v X' hQ)
theorem Adv.callI (A : Adv p e below D) (X : Stand p l e R s m args below meth c T locs cells slots) (hx : p.tables.exec = Jvm.exec) (hZ : Z.Warmed39 s.vm) {own : String} {index : Nat} {y : MethodName} {bytes : ByteArray} {maxL : Nat} {rm : Room} {as' : Array Value} {Q : Option Value → Heap → List Loc → Prop}
    (hown : s.vm.findClass own = some m.cls) (hi : y.name = "<init>") (w1 : (Cond.methodLink own index y).before a0 Z = true) (w2 : (Cond.instanceMethod y).before a0 Z = true) (w3 : (Cond.initialized y.cls).before a0 Z = true) (w4 : (Cond.code y bytes maxL none).before a0 Z = true) (eT : T.heap = h)
    (hM : JMet l Z y bytes maxL none [] rm as' h Q) (W : Nat) {g : JFrame} (hg : g.method = m) (hsz : g.locals.size = c.maxLocals) (a : Addr) (argsL rest : List Value) (has : as' = (.ref a :: argsL).toArray)
    (hlen : ∀ sig, parseMethodDescriptor y.desc = some sig → argsL.length = sig.parameters.length) (hstack : g.stack = argsL.reverse ++ .ref a :: rest) (hW : 2 * g.monitorRoom + (rest.map fun v => v.category).sum ≤ W)
    (hd : decode c.code g.pc = .ok (.invokespecial index, 3)) (hy : y.cls ≠ "java/lang/invoke/MethodHandle" ∧ y.cls ≠ "java/lang/invoke/VarHandle") (hf : rm.frames + 1 ≤ R.frames) (hl : W + (maxL + 11) + rm.locals ≤ R.locals) (hc : cells + rm.cells ≤ R.cells) (hs : slots + rm.slots ≤ R.slots)
    (k : ∀ (T' : State) (L' : List Loc) (v : Option Value), Stand p l e R s m args below meth c T' (locs ++ L') (cells + rm.cells) (slots + rm.slots) → Q v T'.heap L' → D (T'.setTop { g with pc := g.pc + 3, stack := v.toList ++ rest })) : D (T.setTop g) := by
  subst has
  obtain ⟨v, _, ⟨T', L, k', n'⟩, -, X', ⟨Lc, hQ, l', y', z'⟩, st⟩ := X.specialBack hx (y := y) hi hown (mvT hZ w1) (mvT hZ w2) (mvT hZ w4) hy (backOf (W := W) hM hZ w4 w3 hf hl) (g := g) hg hsz (Steps.refl _) (a := a) (argsL := argsL) (rest := rest) hlen hstack hW hd (fun _ _ => ⟨rfl, eT, hc, hs⟩)
  dsimp only [Pt.U, Pt.locs, Pt.cells, Pt.slots] at X' l' y' z' st hQ
  subst l' y' z'
  exact A.tr st (k T' Lc v X' hQ)
theorem Adv.callV (A : Adv p e below D) (X : Stand p l e R s m args below meth c T locs cells slots) (hx : p.tables.exec = Jvm.exec) (hZ : Z.Warmed39 s.vm) {own C : String} {index : Nat} {y z : MethodName} {bytes : ByteArray} {maxL : Nat} {rt : Option FieldType} {rm : Room} {as' : Array Value} {Q : Option Value → Heap → List Loc → Prop} {a : Addr}
    (hown : s.vm.findClass own = some m.cls) (w1 : (Cond.methodLink own index y).before a0 Z = true) (w2 : (Cond.declares y).before a0 Z = true) (nf : NotFace s y) (w5 : (Cond.selects C y z).before a0 Z = true) (w6 : (Cond.instanceMethod z).before a0 Z = true) (w3 : (Cond.initialized z.cls).before a0 Z = true) (w4 : (Cond.code z bytes maxL rt).before a0 Z = true) (eT : T.heap = h) (E : Exa Z h a C)
    (hM : JMet l Z z bytes maxL rt [] rm as' h Q) (W : Nat) {g : JFrame} (hg : g.method = m) (hsz : g.locals.size = c.maxLocals) (argsL rest : List Value) (has : as' = (.ref a :: argsL).toArray)
    (hlen : ∀ sig, parseMethodDescriptor y.desc = some sig → argsL.length = sig.parameters.length) (hstack : g.stack = argsL.reverse ++ .ref a :: rest) (hW : 2 * g.monitorRoom + (rest.map fun v => v.category).sum ≤ W)
    (hd : decode c.code g.pc = .ok (.invokevirtual index, 3)) (hy : y.cls ≠ "java/lang/invoke/MethodHandle" ∧ y.cls ≠ "java/lang/invoke/VarHandle") (hf : rm.frames + 1 ≤ R.frames) (hl : W + (maxL + 11) + rm.locals ≤ R.locals) (hc : cells + rm.cells ≤ R.cells) (hs : slots + rm.slots ≤ R.slots)
    (k : ∀ (T' : State) (L' : List Loc) (v : Option Value), Stand p l e R s m args below meth c T' (locs ++ L') (cells + rm.cells) (slots + rm.slots) → Q v T'.heap L' → D (T'.setTop { g with pc := g.pc + 3, stack := v.toList ++ rest })) : D (T.setTop g) := by
  subst has
  obtain ⟨cq, kq, qa, qb, qc⟩ := isOf hZ eT E
  obtain ⟨v, _, ⟨T', L, k', n'⟩, -, X', ⟨Lc, hQ, l', y', z'⟩, st⟩ := X.virtualBack hx (y := y) (z := z) hown (mvT hZ w1) (mvT hZ w2) nf (mvT hZ w5) (mvT hZ w6) hy (backOf (W := W) hM hZ w4 w3 hf hl) qa qc (g := g) hg hsz (Steps.refl _) (argsL := argsL) (rest := rest) hlen hstack hW hd (fun _ _ => ⟨rfl, eT, hc, hs⟩)
  dsimp only [Pt.U, Pt.locs, Pt.cells, Pt.slots] at X' l' y' z' st hQ
  subst l' y' z'
  exact A.tr st (k T' Lc v X' hQ)
theorem Adv.callU (A : Adv p e below D) (X : Stand p l e R s m args below meth c T locs cells slots) (hx : p.tables.exec = Jvm.exec) (hZ : Z.Warmed39 s.vm) {own C owner : String} {index : Nat} {y z : MethodName} {bytes : ByteArray} {maxL : Nat} {rt : Option FieldType} {rm : Room} {as' : Array Value} {Q : Option Value → Heap → List Loc → Prop} {a : Addr}
    (hown : s.vm.findClass own = some m.cls) (w1 : (Cond.methodLink own index y).before a0 Z = true) (w7 : (Cond.sameMethod y.cls owner y.name y.desc).before a0 Z = true) (w2 : (Cond.declares ⟨owner, y.name, y.desc⟩).before a0 Z = true) (w5 : (Cond.selects C y z).before a0 Z = true) (w6 : (Cond.instanceMethod z).before a0 Z = true) (w3 : (Cond.initialized z.cls).before a0 Z = true) (w4 : (Cond.code z bytes maxL rt).before a0 Z = true) (eT : T.heap = h) (E : Exa Z h a C)
    (hM : JMet l Z z bytes maxL rt [] rm as' h Q) (W : Nat) {g : JFrame} (hg : g.method = m) (hsz : g.locals.size = c.maxLocals) (argsL rest : List Value) (has : as' = (.ref a :: argsL).toArray)
    (hlen : ∀ sig, parseMethodDescriptor y.desc = some sig → argsL.length = sig.parameters.length) (hstack : g.stack = argsL.reverse ++ .ref a :: rest) (hW : 2 * g.monitorRoom + (rest.map fun v => v.category).sum ≤ W)
    (hd : decode c.code g.pc = .ok (.invokevirtual index, 3)) (hy : owner ≠ "java/lang/invoke/MethodHandle" ∧ owner ≠ "java/lang/invoke/VarHandle") (hf : rm.frames + 1 ≤ R.frames) (hl : W + (maxL + 11) + rm.locals ≤ R.locals) (hc : cells + rm.cells ≤ R.cells) (hs : slots + rm.slots ≤ R.slots)
    (k : ∀ (T' : State) (L' : List Loc) (v : Option Value), Stand p l e R s m args below meth c T' (locs ++ L') (cells + rm.cells) (slots + rm.slots) → Q v T'.heap L' → D (T'.setTop { g with pc := g.pc + 3, stack := v.toList ++ rest })) : D (T.setTop g) := by
  subst has
  obtain ⟨cq, kq, qa, qb, qc⟩ := isOf hZ eT E
  obtain ⟨v, _, ⟨T', L, k', n'⟩, -, X', ⟨Lc, hQ, l', y', z'⟩, st⟩ := X.virtualBackUp hx (x := y) (y := z) (owner := owner) hown (mvT hZ w1) (mvT hZ w7) (mvT hZ w2) hy (mvT hZ w5) (mvT hZ w6) (backOf (W := W) hM hZ w4 w3 hf hl) qa qc (g := g) hg hsz (Steps.refl _) (argsL := argsL) (rest := rest) hlen hstack hW hd (fun _ _ => ⟨rfl, eT, hc, hs⟩)
  dsimp only [Pt.U, Pt.locs, Pt.cells, Pt.slots] at X' l' y' z' st hQ
  subst l' y' z'
  exact A.tr st (k T' Lc v X' hQ)
theorem Adv.callP (A : Adv p e below D) (X : Stand p l e R s m args below meth c T locs cells slots) (hx : p.tables.exec = Jvm.exec) (hZ : Z.Warmed39 s.vm) {own C : String} {index kn : Nat} {y : MethodName} {bytes : ByteArray} {maxL : Nat} {rt : Option FieldType} {rm : Room} {as' : Array Value} {Q : Option Value → Heap → List Loc → Prop} {a : Addr}
    (hown : s.vm.findClass own = some m.cls) (w1 : (Cond.methodLink own index y).before a0 Z = true) (w2 : (Cond.instanceMethod y).before a0 Z = true) (wi : (Cond.instantiable y.cls kn).before a0 Z = true) (w5 : (Cond.privateMethod y).before a0 Z = true) (w3 : (Cond.initialized y.cls).before a0 Z = true) (w4 : (Cond.code y bytes maxL rt).before a0 Z = true) (eT : T.heap = h) (E : Exa Z h a C)
    (hM : JMet l Z y bytes maxL rt [] rm as' h Q) (W : Nat) {g : JFrame} (hg : g.method = m) (hsz : g.locals.size = c.maxLocals) (argsL rest : List Value) (has : as' = (.ref a :: argsL).toArray)
    (hlen : ∀ sig, parseMethodDescriptor y.desc = some sig → argsL.length = sig.parameters.length) (hstack : g.stack = argsL.reverse ++ .ref a :: rest) (hW : 2 * g.monitorRoom + (rest.map fun v => v.category).sum ≤ W)
    (hd : decode c.code g.pc = .ok (.invokevirtual index, 3)) (hy : y.cls ≠ "java/lang/invoke/MethodHandle" ∧ y.cls ≠ "java/lang/invoke/VarHandle") (hf : rm.frames + 1 ≤ R.frames) (hl : W + (maxL + 11) + rm.locals ≤ R.locals) (hc : cells + rm.cells ≤ R.cells) (hs : slots + rm.slots ≤ R.slots)
    (k : ∀ (T' : State) (L' : List Loc) (v : Option Value), Stand p l e R s m args below meth c T' (locs ++ L') (cells + rm.cells) (slots + rm.slots) → Q v T'.heap L' → D (T'.setTop { g with pc := g.pc + 3, stack := v.toList ++ rest })) : D (T.setTop g) := by
  subst has
  obtain ⟨ce, hce, hob⟩ := E.cell
  have hpriv : s.PrivateAt y := Cond.privateMethod_at (mvP hZ w5 (args := #[]))
  have hins : (Cond.instanceMethod y).before args s = true := mvT hZ w2
  have hwi : (Cond.instantiable y.cls kn).before args s = true := mvT hZ wi
  obtain ⟨ck, kk, c1, c2, -, c4, -⟩ := Cond.instantiable_spec hwi
  have hsel := selects_self_of_private c1 c2 (Bool.or_eq_false_iff.mp c4).1 hpriv hins hy
  obtain ⟨v, _, ⟨T', L, k', n'⟩, -, X', ⟨Lc, hQ, l', y', z'⟩, st⟩ := X.privateBack hx (y := y) hown (mvT hZ w1) hins hsel hpriv (mvT hZ w4) hy (backOf (W := W) hM hZ w4 w3 hf hl) (g := g) hg hsz (Steps.refl _) (a := a) (cell := ce) (by rw [eT]; exact hce) hob (argsL := argsL) (rest := rest) hlen hstack hW hd (fun _ _ => ⟨rfl, eT, hc, hs⟩)
  dsimp only [Pt.U, Pt.locs, Pt.cells, Pt.slots] at X' l' y' z' st hQ
  subst l' y' z'
  exact A.tr st (k T' Lc v X' hQ)
end Kit
/-! ### arrays by a function of the place -/
section Arrays
variable {p : Program} {l : Launch} {e : Env} {R : Room} {s : State} {m : MethodId} {args : Array Value} {below : List Frame} {meth : Method} {c : Code} {T : State} {locs : List Loc} {cells slots : Nat} {Z : State} {a0 : Array Value} {h h' : Heap} {D : State → Prop} {a b : Addr} {ty : FieldType} {n : Nat} {f : Nat → Int32} {fJ : Nat → Int64} {sl : Nat} {v : Value} {ws : List Addr}
def ArI (Z : State) (h : Heap) (a : Addr) (ty : FieldType) (n : Nat) (f : Nat → Int32) : Prop :=
  n < 2147483648 ∧ ∃ c : Cell, Arr Z h a c ty ∧ c.slots.size = n ∧ ∀ i, i < n → c.slots[i]? = some (.int (f i))
def ArJ (Z : State) (h : Heap) (a : Addr) (n : Nat) (f : Nat → Int64) : Prop :=
  n < 2147483648 ∧ ∃ c : Cell, Arr Z h a c .long ∧ c.slots.size = n ∧ ∀ i, i < n → c.slots[i]? = some (.long (f i))
theorem ArI.lt (F : ArI Z h a ty n f) : a < h.size := by obtain ⟨-, c, A, -⟩ := F; exact A.lt
theorem ArI.ext (F : ArI Z h a ty n f) (E : Ext h h') : ArI Z h' a ty n f := by obtain ⟨q, c, A, r⟩ := F; exact ⟨q, c, A.ext E, r⟩
theorem ArI.other (F : ArI Z h b ty n f) (W : Wr h h' a sl v) (q : b ≠ a) : ArI Z h' b ty n f := by obtain ⟨z, c, A, r⟩ := F; exact ⟨z, c, A.other W q, r⟩
theorem ArI.keep (F : ArI Z h a ty n f) (K : Keep h h' ws) (q : a ∉ ws) : ArI Z h' a ty n f := by obtain ⟨z, c, A, r⟩ := F; exact ⟨z, c, ⟨K.2.1 a c A.1 q, A.2⟩, r⟩
theorem ArI.eqf {g : Nat → Int32} (F : ArI Z h a ty n f) (q : ∀ i, i < n → f i = g i) : ArI Z h a ty n g := by
  obtain ⟨z, c, A, r, H⟩ := F; exact ⟨z, c, A, r, fun i hi => by rw [← q i hi]; exact H i hi⟩
theorem ArJ.lt (F : ArJ Z h a n fJ) : a < h.size := by obtain ⟨-, c, A, -⟩ := F; exact A.lt
theorem ArJ.ext (F : ArJ Z h a n fJ) (E : Ext h h') : ArJ Z h' a n fJ := by obtain ⟨q, c, A, r⟩ := F; exact ⟨q, c, A.ext E, r⟩
theorem ArJ.other (F : ArJ Z h b n fJ) (W : Wr h h' a sl v) (q : b ≠ a) : ArJ Z h' b n fJ := by obtain ⟨z, c, A, r⟩ := F; exact ⟨z, c, A.other W q, r⟩
theorem ArJ.keep (F : ArJ Z h a n fJ) (K : Keep h h' ws) (q : a ∉ ws) : ArJ Z h' a n fJ := by obtain ⟨z, c, A, r⟩ := F; exact ⟨z, c, ⟨K.2.1 a c A.1 q, A.2⟩, r⟩
theorem ArJ.eqf {g : Nat → Int64} (F : ArJ Z h a n fJ) (q : ∀ i, i < n → fJ i = g i) : ArJ Z h a n g := by
  obtain ⟨z, c, A, r, H⟩ := F; exact ⟨z, c, A, r, fun i hi => by rw [← q i hi]; exact H i hi⟩
theorem ne_ari {C : String} {k : Nat} (F : Exa Z h a C) (wi : (Cond.instantiable C k).before a0 Z = true) (G : ArI Z h b ty n f) : a ≠ b := by obtain ⟨-, c, A, -⟩ := G; exact ne_arr F wi A
theorem ne_arj {C : String} {k : Nat} (F : Exa Z h a C) (wi : (Cond.instantiable C k).before a0 Z = true) (G : ArJ Z h b n fJ) : a ≠ b := by obtain ⟨-, c, A, -⟩ := G; exact ne_arr F wi A
theorem ne_arr2 {c1 c2 : Cell} {t1 t2 : FieldType} (F : Arr Z h a c1 t1) (G : Arr Z h b c2 t2) (hn : t1 ≠ t2) : a ≠ b := fun q => by
  subst q
  cases F.1.symm.trans G.1
  obtain ⟨-, k1, j1, comp1, j2⟩ := F.2.1
  obtain ⟨-, k2, i1, comp2, i2⟩ := G.2.1
  cases j1.symm.trans i1
  rw [j2] at i2
  injection i2 with _ q2
  exact hn q2
theorem ne_aij {n' : Nat} (F : ArI Z h a ty n f) (G : ArJ Z h b n' fJ) (hn : ty ≠ .long) : a ≠ b := by obtain ⟨-, c, A, -⟩ := F; obtain ⟨-, c', A', -⟩ := G; exact ne_arr2 A A' hn
theorem to_nat {j : Int32} {k : Nat} (hk : j.toInt = k) : j.toNatClampNeg = k := by simp only [Int32.toNatClampNeg, hk, Int.toNat_natCast]
theorem inb {cl : Cell} {j : Int32} {k : Nat} (hk : j.toInt = k) (hkn : k < n) (hs : cl.slots.size = n) : ¬ (j < 0 ∨ cl.slots.size ≤ j.toNatClampNeg) := by
  rw [to_nat hk, hs, Int32.lt_iff_toInt_lt, hk, show (0 : Int32).toInt = 0 from rfl]; omega
theorem ixadd {x d : Int32} {k j : Nat} (hx : x.toInt = k) (hd : d.toInt = j) (h : k + j < 2147483648) : (x + d).toInt = ((k + j : Nat) : Int) := by
  have h2 := c_iadd x d
  have h3 := rng32 (x + d)
  omega
theorem ArI.mk {k : ClassId} {z : Int32} (A : Arr Z h a (newA k ty z) ty) (hn : z.toInt = n) (hd : defaultValue ty = .int 0) : ArI Z h a ty n (fun _ => 0) := by
  have hz := to_nat hn
  refine ⟨?_, _, A, by rw [sz_new, hz], fun i hi => ?_⟩
  · have := Int32.toInt_lt z; omega
  · simp [newA, hz, hi, hd]
theorem ArJ.mk {k : ClassId} {z : Int32} (A : Arr Z h a (newA k .long z) .long) (hn : z.toInt = n) : ArJ Z h a n (fun _ => 0) := by
  have hz := to_nat hn
  refine ⟨?_, _, A, by rw [sz_new, hz], fun i hi => ?_⟩
  · have := Int32.toInt_lt z; omega
  · simp [newA, hz, hi, defaultValue]
theorem set_at {cl : Cell} {i k : Nat} (hk : k < cl.slots.size) : (cl.setSlot k v).slots[i]? = if i = k then some v else cl.slots[i]? := by
  simp only [Cell.setSlot, Array.getElem?_setIfInBounds]
  by_cases q : i = k
  · subst q; simp [hk]
  · simp [q, Ne.symm q]
theorem ArI.set {x : Int32} {k : Nat} (F : ArI Z h a ty n f) (W : Wr h h' a k (.int x)) (hk : k < n) : ArI Z h' a ty n (fun i => if i = k then x else f i) := by
  obtain ⟨z, c, A, r, H⟩ := F
  refine ⟨z, _, A.same W, by rw [sz_set, r], fun i hi => ?_⟩
  rw [set_at (by omega)]
  by_cases q : i = k
  · simp [q]
  · simp [q, H i hi]
theorem ArJ.set {x : Int64} {k : Nat} (F : ArJ Z h a n fJ) (W : Wr h h' a k (.long x)) (hk : k < n) : ArJ Z h' a n (fun i => if i = k then x else fJ i) := by
  obtain ⟨z, c, A, r, H⟩ := F
  refine ⟨z, _, A.same W, by rw [sz_set, r], fun i hi => ?_⟩
  rw [set_at (by omega)]
  by_cases q : i = k
  · simp [q]
  · simp [q, H i hi]
theorem Adv.ldI (A : Adv p e below D) (X : Stand p l e R s m args below meth c T locs cells slots) (hx : p.tables.exec = Jvm.exec) (hZ : Z.Warmed39 s.vm) (eT : T.heap = h) (F : ArI Z h a .int n f) {j : Int32} {k : Nat} (hk : j.toInt = k) (hkn : k < n) {g : JFrame} (hg : g.method = m) {rest : List Value} (hs : g.stack = .int j :: .ref a :: rest) (hd : decode c.code g.pc = .ok (.iaload, 1))
    (kk : D (T.setTop { g with pc := g.pc + 1, stack := .int (f k) :: rest })) : D (T.setTop g) := by
  obtain ⟨-, cl, Ar, r, H⟩ := F
  exact A (X.iaload hx (j := j) (v := .int (f k)) (by rw [eT]; exact Ar.1) (State.isArrayOf_alike hZ.alike Ar.2.1) Ar.2.2 (inb hk hkn r) (by rw [to_nat hk]; exact H k hkn) (g := g) hg hs hd _) kk
theorem Adv.ldB (A : Adv p e below D) (X : Stand p l e R s m args below meth c T locs cells slots) (hx : p.tables.exec = Jvm.exec) (hZ : Z.Warmed39 s.vm) (eT : T.heap = h) (F : ArI Z h a .byte n f) {j : Int32} {k : Nat} (hk : j.toInt = k) (hkn : k < n) {g : JFrame} (hg : g.method = m) {rest : List Value} (hs : g.stack = .int j :: .ref a :: rest) (hd : decode c.code g.pc = .ok (.baload, 1))
    (kk : D (T.setTop { g with pc := g.pc + 1, stack := .int (f k) :: rest })) : D (T.setTop g) := by
  obtain ⟨-, cl, Ar, r, H⟩ := F
  exact A (X.baloadBytes hx (j := j) (v := .int (f k)) (by rw [eT]; exact Ar.1) (State.isArrayOf_alike hZ.alike Ar.2.1) Ar.2.2 (inb hk hkn r) (by rw [to_nat hk]; exact H k hkn) (g := g) hg hs hd _) kk
theorem Adv.ldJ (A : Adv p e below D) (X : Stand p l e R s m args below meth c T locs cells slots) (hx : p.tables.exec = Jvm.exec) (hZ : Z.Warmed39 s.vm) (eT : T.heap = h) (F : ArJ Z h a n fJ) {j : Int32} {k : Nat} (hk : j.toInt = k) (hkn : k < n) {g : JFrame} (hg : g.method = m) {rest : List Value} (hs : g.stack = .int j :: .ref a :: rest) (hd : decode c.code g.pc = .ok (.laload, 1))
    (kk : D (T.setTop { g with pc := g.pc + 1, stack := .long (fJ k) :: rest })) : D (T.setTop g) := by
  obtain ⟨-, cl, Ar, r, H⟩ := F
  exact A (X.laload hx (j := j) (v := .long (fJ k)) (by rw [eT]; exact Ar.1) (State.isArrayOf_alike hZ.alike Ar.2.1) Ar.2.2 (inb hk hkn r) (by rw [to_nat hk]; exact H k hkn) (g := g) hg hs hd _) kk
theorem len32 {cl : Cell} (z : n < 2147483648) (r : cl.slots.size = n) : cl.slots.size.toInt32 = Int32.ofNat n   := by rw [r]
theorem Adv.lenI (A : Adv p e below D) (X : Stand p l e R s m args below meth c T locs cells slots) (hx : p.tables.exec = Jvm.exec) (hZ : Z.Warmed39 s.vm) (eT : T.heap = h) (F : ArI Z h a ty n f) {g : JFrame} (hg : g.method = m) {rest : List Value} (hs : g.stack = .ref a :: rest) (hd : decode c.code g.pc = .ok (.arraylength, 1))
    (kk : D (T.setTop { g with pc := g.pc + 1, stack := .int (Int32.ofNat n) :: rest })) : D (T.setTop g) := by
  obtain ⟨z, cl, Ar, r, H⟩ := F
  rw [← len32 z r] at kk
  exact A (X.arraylength hx (by rw [eT]; exact Ar.1) (State.isArrayOf_alike hZ.alike Ar.2.1) (g := g) hg hs hd _) kk
theorem Adv.lenJ (A : Adv p e below D) (X : Stand p l e R s m args below meth c T locs cells slots) (hx : p.tables.exec = Jvm.exec) (hZ : Z.Warmed39 s.vm) (eT : T.heap = h) (F : ArJ Z h a n fJ) {g : JFrame} (hg : g.method = m) {rest : List Value} (hs : g.stack = .ref a :: rest) (hd : decode c.code g.pc = .ok (.arraylength, 1))
    (kk : D (T.setTop { g with pc := g.pc + 1, stack := .int (Int32.ofNat n) :: rest })) : D (T.setTop g) := by
  obtain ⟨z, cl, Ar, r, H⟩ := F
  rw [← len32 z r] at kk
  exact A (X.arraylength hx (by rw [eT]; exact Ar.1) (State.isArrayOf_alike hZ.alike Ar.2.1) (g := g) hg hs hd _) kk
theorem Adv.stI (A : Adv p e below D) (X : Stand p l e R s m args below meth c T locs cells slots) (hx : p.tables.exec = Jvm.exec) (hZ : Z.Warmed39 s.vm) (eT : T.heap = h) (F : ArI Z h a .int n f) {j x : Int32} {k : Nat} (hk : j.toInt = k) (hkn : k < n) {g : JFrame} (hg : g.method = m) {rest : List Value} (hs : g.stack = .int x :: .int j :: .ref a :: rest) (hd : decode c.code g.pc = .ok (.iastore, 1))
    (kk : ∀ T' h', Stand p l e R s m args below meth c T' (locs ++ [⟨a, k⟩]) cells slots → T'.heap = h' → Wr h h' a k (.int x) → ArI Z h' a .int n (fun i => if i = k then x else f i) → D (T'.setTop { g with pc := g.pc + 1, stack := rest })) : D (T.setTop g) := by
  obtain ⟨cl, Ar, r, H⟩ := F.2
  obtain ⟨T', h', X', e', W, st⟩ := Jvm.RoadKit.stI X hx hZ eT Ar (j := j) (x := x) (inb hk hkn r) hg hs hd
  rw [to_nat hk] at X' W
  exact A (fun q => st _ q) (kk T' h' X' e' W (F.set W hkn))
theorem Adv.stB (A : Adv p e below D) (X : Stand p l e R s m args below meth c T locs cells slots) (hx : p.tables.exec = Jvm.exec) (hZ : Z.Warmed39 s.vm) (eT : T.heap = h) (F : ArI Z h a .byte n f) {j x : Int32} {k : Nat} (hk : j.toInt = k) (hkn : k < n) {g : JFrame} (hg : g.method = m) {rest : List Value} (hs : g.stack = .int x :: .int j :: .ref a :: rest) (hd : decode c.code g.pc = .ok (.bastore, 1))
    (kk : ∀ T' h', Stand p l e R s m args below meth c T' (locs ++ [⟨a, k⟩]) cells slots → T'.heap = h' → Wr h h' a k (.int x.toInt8.toInt32) → ArI Z h' a .byte n (fun i => if i = k then x.toInt8.toInt32 else f i) → D (T'.setTop { g with pc := g.pc + 1, stack := rest })) : D (T.setTop g) := by
  obtain ⟨cl, Ar, r, H⟩ := F.2
  obtain ⟨T', h', X', e', W, st⟩ := Jvm.RoadKit.stB X hx hZ eT Ar (j := j) (x := x) (inb hk hkn r) hg hs hd
  rw [to_nat hk] at X' W
  exact A (fun q => st _ q) (kk T' h' X' e' W (F.set W hkn))
theorem Adv.stJ (A : Adv p e below D) (X : Stand p l e R s m args below meth c T locs cells slots) (hx : p.tables.exec = Jvm.exec) (hZ : Z.Warmed39 s.vm) (eT : T.heap = h) (F : ArJ Z h a n fJ) {j : Int32} {x : Int64} {k : Nat} (hk : j.toInt = k) (hkn : k < n) {g : JFrame} (hg : g.method = m) {rest : List Value} (hs : g.stack = .long x :: .int j :: .ref a :: rest) (hd : decode c.code g.pc = .ok (.lastore, 1))
    (kk : ∀ T' h', Stand p l e R s m args below meth c T' (locs ++ [⟨a, k⟩]) cells slots → T'.heap = h' → Wr h h' a k (.long x) → ArJ Z h' a n (fun i => if i = k then x else fJ i) → D (T'.setTop { g with pc := g.pc + 1, stack := rest })) : D (T.setTop g) := by
  obtain ⟨cl, Ar, r, H⟩ := F.2
  obtain ⟨T', h', X', e', W, st⟩ := Jvm.RoadKit.stJ X hx hZ eT Ar (j := j) (x := x) (inb hk hkn r) hg hs hd
  rw [to_nat hk] at X' W
  exact A (fun q => st _ q) (kk T' h' X' e' W (F.set W hkn))
theorem Adv.newI (A : Adv p e below D) (X : Stand p l e R s m args below meth c T locs cells slots) (hx : p.tables.exec = Jvm.exec) (hZ : Z.Warmed39 s.vm) {aty : ArrayType} (w : (Cond.arrayClass (newarray.typeOf aty)).before a0 Z = true) (eT : T.heap = h) {z : Int32} (hz : z.toInt = n) (cap : Nat) (hcap : n ≤ cap) (hb : cap * 8 ≤ 536870912) (hdv : defaultValue (newarray.typeOf aty) = .int 0) {ad : String} (had : "[" ++ (newarray.typeOf aty).toString = ad) (hc : cells + 1 ≤ R.cells) (hl : slots + cap ≤ R.slots) {g : JFrame} (hg : g.method = m) {rest : List Value} (hs : g.stack = .int z :: rest) (hd : decode c.code g.pc = .ok (.newarray aty, 2))
    (kk : ∀ T' h' a, a = h.size → Stand p l e R s m args below meth c T' locs (cells + 1) (slots + cap) → T'.heap = h' → Ext h h' → ArI Z h' a (newarray.typeOf aty) n (fun _ => 0) → Exa Z h' a ad → D (T'.setTop { g with pc := g.pc + 2, stack := .ref a :: rest })) : D (T.setTop g) := by
  have q0 : ¬ z < 0 := by rw [Int32.lt_iff_toInt_lt, hz, show (0 : Int32).toInt = 0 from rfl]; omega
  obtain ⟨T', h', k, X', e', E, Ar, Ex, st⟩ := newPE X hx hZ w eT hg hd hs q0 (cap := cap) (by rw [to_nat hz]; exact hcap) hb hc hl had
  exact A (fun q => st _ q) (kk T' h' _ rfl X' e' E (ArI.mk Ar hz hdv) Ex)
theorem Adv.newJ (A : Adv p e below D) (X : Stand p l e R s m args below meth c T locs cells slots) (hx : p.tables.exec = Jvm.exec) (hZ : Z.Warmed39 s.vm) (w : (Cond.arrayClass .long).before a0 Z = true) (eT : T.heap = h) {z : Int32} (hz : z.toInt = n) (cap : Nat) (hcap : n ≤ cap) (hb : cap * 8 ≤ 536870912) (hc : cells + 1 ≤ R.cells) (hl : slots + cap ≤ R.slots) {g : JFrame} (hg : g.method = m) {rest : List Value} (hs : g.stack = .int z :: rest) (hd : decode c.code g.pc = .ok (.newarray .long, 2))
    (kk : ∀ T' h' a, a = h.size → Stand p l e R s m args below meth c T' locs (cells + 1) (slots + cap) → T'.heap = h' → Ext h h' → ArJ Z h' a n (fun _ => 0) → D (T'.setTop { g with pc := g.pc + 2, stack := .ref a :: rest })) : D (T.setTop g) := by
  have q0 : ¬ z < 0 := by rw [Int32.lt_iff_toInt_lt, hz, show (0 : Int32).toInt = 0 from rfl]; omega
  obtain ⟨T', h', k, X', e', E, Ar, st⟩   := newP (aty := .long) X hx hZ w eT hg hd hs q0 (cap := cap) (by rw [to_nat hz]; exact hcap) hb hc hl
  exact A (fun q => st _ q) (kk T' h' _ rfl X' e' E (ArJ.mk Ar hz))
theorem Adv.cloneI (A : Adv p e below D) (X : Stand p l e R s m args below meth c T locs cells slots) (hx : p.tables.exec = Jvm.exec) (hZ : Z.Warmed39 s.vm) {own ad : String} {index : Nat} (hown : s.vm.findClass own = some m.cls)
    (w1 : (Cond.methodLink own index ⟨ad, "clone", "()Ljava/lang/Object;"⟩).before a0 Z = true) (w2 : (Cond.sameMethod ad "java/lang/Object" "clone" "()Ljava/lang/Object;").before a0 Z = true) (w3 : (Cond.native ⟨"java/lang/Object", "clone", "()Ljava/lang/Object;"⟩).before a0 Z = true)
    (w4 : (Cond.instanceMethod ⟨"java/lang/Object", "clone", "()Ljava/lang/Object;"⟩).before a0 Z = true) (w5 : (Cond.selects ad ⟨ad, "clone", "()Ljava/lang/Object;"⟩ ⟨"java/lang/Object", "clone", "()Ljava/lang/Object;"⟩).before a0 Z = true) (w6 : (Cond.castable ad "java/lang/Cloneable").before a0 Z = true)
    (eT : T.heap = h) (F : ArI Z h a ty n f) (hfit : ∀ i, i < n → fits ty (.int (f i)) = true) (E : Exa Z h a ad) (W cap : Nat) (hcap : n ≤ cap) {g : JFrame} (hg : g.method = m) (hsz : g.locals.size = c.maxLocals) {rest : List Value} (hs : g.stack = .ref a :: rest) (hd : decode c.code g.pc = .ok (.invokevirtual index, 3))
    (hW : 2 * g.monitorRoom + (rest.map fun v => v.category).sum ≤ W) (hf : 1 ≤ R.frames) (hl : W + 14 ≤ R.locals) (hc : cells + 1 ≤ R.cells) (hsl : slots + cap ≤ R.slots)
    (kk : ∀ T' h' b, b = h.size → Stand p l e R s m args below meth c T' locs (cells + 1) (slots + cap) → T'.heap = h' → Ext h h' → ArI Z h' b ty n f → Exa Z h' b ad → D (T'.setTop { g with pc := g.pc + 3, stack := .ref b :: rest })) : D (T.setTop g) := by
  obtain ⟨z, cl, Ar, r, H⟩ := F
  have FC : FitC Z cl := fitC_of Ar fun i hi v hv => by rw [H i (by omega)] at hv; cases hv; exact hfit i (by omega)
  obtain ⟨T', h', X', e', Ex, Ar', E', st⟩ := cloneA X hx hZ hown w1 w2 w3 w4 w5 w6 eT Ar E FC hg hsz hs hd hf hW hl (by rw [r]; exact hcap) hc hsl
  exact A (fun q => st _ q) (kk T' h' _ rfl X' e' Ex ⟨z, _, Ar', r, H⟩ E')
theorem ofNat32 (hn : n < 2147483648) : (Int32.ofNat n).toInt = (n : Int) := Int32.toInt_ofNat_of_lt (by omega)
theorem getD_map (vs : Nat → Value) (d : Value) {i : Nat} (hi : i < n) : (((List.range n).map vs).getD i d) = vs i := by
  simp [List.getD, hi]
theorem ArI.arv (F : ArI Z h a ty n f) (hfit : ∀ i, i < n → fits ty (.int (f i)) = true) : ∃ k, Arv Z h a k ty (Int32.ofNat n) ((List.range n).map fun i => .int (f i)) (.int 0) := by
  obtain ⟨z, cl, Ar, r, H⟩ := F
  have e : (Int32.ofNat n).toNatClampNeg = n := to_nat (ofNat32 z)
  refine ⟨cl.cls, cl, Ar, rfl, by rw [r, e], ?_, fun i hi => ?_, fun i hi => ?_⟩
  · rw [Int32.lt_iff_toInt_lt, ofNat32 z, show (0 : Int32).toInt = 0 from rfl]; omega
  · rw [getD_map _ _ (by omega)]; exact H i (by omega)
  · rw [getD_map _ _ (by omega)]; exact hfit i (by omega)
def intOf : Value → Int32
  | .int x => x
  | _ => 0
theorem Arv.toI {k : ClassId} {vs : List Value} {dv : Value} (F : Arv Z h a k ty (Int32.ofNat n) vs dv) (hn : n < 2147483648) (ht : ty = .int ∨ ty = .boolean ∨ ty = .byte ∨ ty = .char ∨ ty = .short) : ArI Z h a ty n (fun i => intOf (vs.getD i dv)) ∧ ∀ i, i < n → fits ty (.int (intOf (vs.getD i dv))) = true := by
  obtain ⟨cl, Ar, -, S, -, H, G⟩ := F
  rw [to_nat (ofNat32 hn)] at S
  have q : ∀ i, i < n → vs.getD i dv = .int (intOf (vs.getD i dv)) := fun i hi => by
    obtain ⟨x, hx⟩ := fit_I (G i (by omega)) ht
    rw [hx]; rfl
  refine ⟨⟨hn, cl, Ar, S, fun i hi => ?_⟩, fun i hi => ?_⟩
  · rw [← q i hi]; exact H i (by omega)
  · rw [← q i hi]; exact G i (by omega)
theorem Adv.copyI (A : Adv p e below D) (X : Stand p l e R s m args below meth c T locs cells slots) (hx : p.tables.exec = Jvm.exec) (hZ : Z.Warmed39 s.vm) {own : String} {index : Nat} (hown : s.vm.findClass own = some m.cls)
    (w1 : (Cond.methodLink own index Jvm.Stand.acN).before a0 Z = true) (w2 : (Cond.native Jvm.Stand.acN).before a0 Z = true) (w3 : (Cond.static Jvm.Stand.acN).before a0 Z = true) (w4 : (Cond.initialized "java/lang/System").before a0 Z = true) (eT : T.heap = h)
    {f' : Nat → Int32} {n' : Nat} (F : ArI Z h a ty n f) (G : ArI Z h b ty n' f') (ff : ∀ i, i < n → fits ty (.int (f i)) = true) (fg : ∀ i, i < n' → fits ty (.int (f' i)) = true) (hty : ty = .int ∨ ty = .byte) {sp dp nn : Int32} (s1 : 0 ≤ sp.toInt) (s2 : 0 ≤ dp.toInt) (s3 : 0 ≤ nn.toInt) (s4 : sp.toInt + nn.toInt ≤ n) (s5 : dp.toInt + nn.toInt ≤ n')
    {n0 : Nat} (N : Fr n0 locs) (ge : n0 ≤ b) {g : JFrame} (hg : g.method = m) (hsz : g.locals.size = c.maxLocals) {rest : List Value} (hs : g.stack = .int nn :: .int dp :: .ref b :: .int sp :: .ref a :: rest) (hd : decode c.code g.pc = .ok (.invokestatic index, 3))
    (W : Nat) (hW : 2 * g.monitorRoom + (rest.map fun v => v.category).sum ≤ W) (hf : 1 ≤ R.frames) (hlo : W + (nativeFrameWords "java/lang/System" "arraycopy" 5 + 11) ≤ R.locals)
    (kk : ∀ T' h' L f'', Stand p l e R s m args below meth c T' L cells slots → T'.heap = h' → Fr n0 L → Keep h h' [b] → ArI Z h' b ty n' f'' → (∀ i, i < n' → fits ty (.int (f'' i)) = true) → D (T'.setTop { g with pc := g.pc + 3, stack := rest })) : D (T.setTop g) := by
  obtain ⟨k1, Av⟩ := F.arv ff
  obtain ⟨k2, Bv⟩ := G.arv fg
  have z0 : (0 : Int32).toInt = 0 := rfl
  have hn1 := F.1
  have hn2 := G.1
  have e1 := to_nat (ofNat32 hn1)
  have e2 := to_nat (ofNat32 hn2)
  obtain ⟨T', h', L, X', e', N', K, Cv, st⟩ := cpA X hx hZ hown w1 w2 w3 w4 eT Av Bv (us := _) (Or.inl ⟨rfl, by rcases hty with rfl | rfl <;> rfl⟩) (sp := sp) (dp := dp) (nn := nn)
    (by rw [Int32.lt_iff_toInt_lt]; omega) (by rw [Int32.lt_iff_toInt_lt]; omega) (by rw [Int32.lt_iff_toInt_lt]; omega) (by rw [e1]; simp only [Int32.toNatClampNeg]; omega) (by rw [e2]; simp only [Int32.toNatClampNeg]; omega) rfl (by rw [List.length_map, List.length_range]; simp only [Int32.toNatClampNeg]; omega) N ge hg hsz hs hd hf hW hlo
  obtain ⟨I1, I2⟩ := Arv.toI Cv hn2 (by rcases hty with rfl | rfl <;> simp)
  exact A (fun q => st _ q) (kk T' h' L _ X' e' N' K I1 I2)
end Arrays
end Jvm.JW
namespace Jvm.JW
open Sem ClassFile Op Lib Jvm.Stand Jvm.Free Jvm.LawKit Jvm.RoadKit
/-! the wide end: String constants may have been interned on the way -/
def DnW (p : Program) (e : Env) (below : List Frame) (s : State) (Q : Option Value → Heap → List Loc → Prop) (k n : Nat) (S : State) : Prop :=
  ∃ s₂ o, Steps p.tables e below S s₂ ∧ s₂.status = .running ∧ Ended s₂ below o ∧ ∃ v L, o = .returned v ∧ Q v s₂.heap L ∧ ReturnedEndW s o s₂ L k n
theorem Adv.dnW {p : Program} {e : Env} {below : List Frame} {s : State} {Q : Option Value → Heap → List Loc → Prop} {k n : Nat} : Adv p e below (DnW p e below s Q k n) := by
  intro S S' h d
  obtain ⟨s2, o, h1, h2⟩ := d
  exact ⟨s2, o, h h1, h2⟩
abbrev JMetW (l : Launch) (Z : State) (y : MethodName) (bytes : ByteArray) (maxL : Nat) (ret : Option FieldType) (ws : List Cond) (rm : Room) (as' : Array Value) (h0 : Heap) (Q : Option Value → Heap → List Loc → Prop) : Prop :=
  MetFree l y (head1 (Cond.code y bytes maxL ret :: ws) rm) (fun a U => a = as' ∧ U = Z ∧ U.heap = h0) (fun _ _ _ _ _ => True) (fun _ U o U' => ∃ v L, o = .returned v ∧ Q v U'.heap L ∧ ReturnedEndW U o U' L rm.cells rm.slots)
section KitW
variable {p : Program} {l : Launch} {e : Env} {R : Room} {s : State} {m : MethodId} {args : Array Value} {below : List Frame} {meth : Method} {c : Code} {T : State} {locs : List Loc} {cells slots : Nat} {Z : State} {a0 : Array Value} {h : Heap} {D : State → Prop}
theorem retW {vm₁ : Vm} (X : Stand p l e R (s.setVm vm₁) m args below meth c T locs cells slots) {k1 : Nat} (hS : s.Since vm₁ k1) (hlk : meth.locks = false) {Q : Option Value → Heap → List Loc → Prop} {k n : Nat} {S : State} {v : Option Value} (hv : meth.sig.returnType = none → v = none)
    (hst : ∀ fs, (∀ (f : JFrame) (acts : List Action), f.method = m → f.locked = none → f.entered = [] → (doReturn e (T.setTop f) acts v).1 = T.setFrames fs) → Steps p.tables e below S (T.setFrames fs))
    {hh : Heap} (eT : T.heap = hh) (hk1 : k1 ≤ hh.size) (hq : Q v hh locs) (hk : cells ≤ k) (hn : slots ≤ n) : DnW p e below s Q k n S := by
  subst eT
  obtain ⟨fs, hr, hrun, hended, r1, r2, r3, r4⟩ := X.leaveW hS hk1 (v := v) hv hlk
  exact ⟨_, _, hst fs hr, hrun, hended, _, _, rfl, hq, r1, r2, r3, r4.mono hk hn⟩
theorem bodyW {y : MethodName} {bytes : ByteArray} {maxL : Nat} {rt : Option FieldType} {ws : List Cond} {rm : Room} {as' : Array Value} {h0 : Heap} {Q : Option Value → Heap → List Loc → Prop} (Ls : Array Slot) (hpl : plainFor y = true) (hef : ∀ m, entryFrame m as' maxL = mkF m 0 Ls [])
    (bd : ∀ (p : Program) (e : Env) (s : State) (m : MethodId) (below : List Frame) (meth : Method) (c : Code) (T0 : State) (D : State → Prop), Adv p e below D → (∀ S, DnW p e below s Q rm.cells rm.slots S → D S) → Stand p l e rm s m as' below meth c T0 [] 0 0 → p.tables.exec = Jvm.exec → s = Z → Z.Warmed39 s.vm → c.code = bytes → c.maxLocals = maxL → s.vm.findClass y.cls = some m.cls → meth.name = y.name → meth.sig.returnType = rt → meth.locks = false → T0.heap = h0 → s.heap = h0 → D (T0.setTop (mkF m 0 Ls []))) :
    JMetW l Z y bytes maxL rt ws rm as' h0 Q := by
  refine MetFree.of_bodySF hpl hisR ?_
  intro p e s m args below meth c s₁ Bd hml hP hK
  obtain ⟨rfl, hsZ, hh⟩ := hP
  have q := bd p e s m below meth c s₁ (DnW p e below s Q rm.cells rm.slots) Adv.dnW (fun _ d => d) (Stand.of_body Bd) Bd.exec hsZ (hsZ ▸ State.Warmed39.refl s) Bd.bytes hml (findClass_of_methodNamed Bd.named) (name_of_methodNamed Bd.named Bd.method).1 Bd.returns Bd.notSynchronized (by rw [← hh, Bd.state]; rfl) hh
  rw [← hef m] at q
  exact q
end KitW
end Jvm.JW
namespace Jvm.Pilot.@@N@@
open Jvm Jvm.ClassFile Sem Op Lib Jvm.Free Jvm.Stand Jvm.LawKit Jvm.RoadKit Bundle Jvm.JW Jvm.Pilot.@@N@@.Jvm.D
theorem d1_0 : decode prog_58_method_13_code 0 = .ok (.iload_n 0, 1) := by decide +kernel
theorem d1_1 : decode prog_58_method_13_code 1 = .ok (.bipush 48, 2) := by decide +kernel
theorem d1_3 : decode prog_58_method_13_code 3 = .ok (.if_icmp .lt 17, 3) := by decide +kernel
theorem d1_6 : decode prog_58_method_13_code 6 = .ok (.iload_n 0, 1) := by decide +kernel
theorem d1_7 : decode prog_58_method_13_code 7 = .ok (.bipush 57, 2) := by decide +kernel
theorem d1_9 : decode prog_58_method_13_code 9 = .ok (.if_icmp .gt 11, 3) := by decide +kernel
theorem d1_12 : decode prog_58_method_13_code 12 = .ok (.iload_n 0, 1) := by decide +kernel
theorem d1_13 : decode prog_58_method_13_code 13 = .ok (.bipush 48, 2) := by decide +kernel
theorem d1_15 : decode prog_58_method_13_code 15 = .ok (.isub, 1) := by decide +kernel
theorem d1_16 : decode prog_58_method_13_code 16 = .ok (.istore_n 1, 1) := by decide +kernel
theorem d1_17 : decode prog_58_method_13_code 17 = .ok (.goto 52, 3) := by decide +kernel
theorem d1_20 : decode prog_58_method_13_code 20 = .ok (.iload_n 0, 1) := by decide +kernel
theorem d1_21 : decode prog_58_method_13_code 21 = .ok (.bipush 97, 2) := by decide +kernel
theorem d1_23 : decode prog_58_method_13_code 23 = .ok (.if_icmp .lt 20, 3) := by decide +kernel
theorem d1_26 : decode prog_58_method_13_code 26 = .ok (.iload_n 0, 1) := by decide +kernel
theorem d1_27 : decode prog_58_method_13_code 27 = .ok (.bipush 102, 2) := by decide +kernel
theorem d1_29 : decode prog_58_method_13_code 29 = .ok (.if_icmp .gt 14, 3) := by decide +kernel
theorem d1_32 : decode prog_58_method_13_code 32 = .ok (.iload_n 0, 1) := by decide +kernel
theorem d1_33 : decode prog_58_method_13_code 33 = .ok (.bipush 97, 2) := by decide +kernel
theorem d1_35 : decode prog_58_method_13_code 35 = .ok (.isub, 1) := by decide +kernel
theorem d1_36 : decode prog_58_method_13_code 36 = .ok (.bipush 10, 2) := by decide +kernel
theorem d1_38 : decode prog_58_method_13_code 38 = .ok (.iadd, 1) := by decide +kernel
theorem d1_39 : decode prog_58_method_13_code 39 = .ok (.istore_n 1, 1) := by decide +kernel
theorem d1_40 : decode prog_58_method_13_code 40 = .ok (.goto 29, 3) := by decide +kernel
theorem d1_43 : decode prog_58_method_13_code 43 = .ok (.iload_n 0, 1) := by decide +kernel
theorem d1_44 : decode prog_58_method_13_code 44 = .ok (.bipush 65, 2) := by decide +kernel
theorem d1_46 : decode prog_58_method_13_code 46 = .ok (.if_icmp .lt 20, 3) := by decide +kernel
theorem d1_49 : decode prog_58_method_13_code 49 = .ok (.iload_n 0, 1) := by decide +kernel
theorem d1_50 : decode prog_58_method_13_code 50 = .ok (.bipush 70, 2) := by decide +kernel
theorem d1_52 : decode prog_58_method_13_code 52 = .ok (.if_icmp .gt 14, 3) := by decide +kernel
theorem d1_55 : decode prog_58_method_13_code 55 = .ok (.iload_n 0, 1) := by decide +kernel
theorem d1_56 : decode prog_58_method_13_code 56 = .ok (.bipush 65, 2) := by decide +kernel
theorem d1_58 : decode prog_58_method_13_code 58 = .ok (.isub, 1) := by decide +kernel
theorem d1_59 : decode prog_58_method_13_code 59 = .ok (.bipush 10, 2) := by decide +kernel
theorem d1_61 : decode prog_58_method_13_code 61 = .ok (.iadd, 1) := by decide +kernel
theorem d1_62 : decode prog_58_method_13_code 62 = .ok (.istore_n 1, 1) := by decide +kernel
theorem d1_63 : decode prog_58_method_13_code 63 = .ok (.goto 6, 3) := by decide +kernel
theorem d1_66 : decode prog_58_method_13_code 66 = .ok (.bipush 16, 2) := by decide +kernel
theorem d1_68 : decode prog_58_method_13_code 68 = .ok (.istore_n 1, 1) := by decide +kernel
theorem d1_69 : decode prog_58_method_13_code 69 = .ok (.iload_n 1, 1) := by decide +kernel
theorem d1_70 : decode prog_58_method_13_code 70 = .ok (.ireturn, 1) := by decide +kernel
theorem pn1 : plainFor (⟨"com/example/stringified_tags/stringifiedtags/SnbtNumbers", "digitValue", "(C)I"⟩ : MethodName) = true := by decide +kernel
theorem ef1 (p1 : Int32) (m : MethodId) : entryFrame m #[(.int p1)] 2 = mkF m 0 #[.val (.int p1), .unset] [] := by first | (simp [entryFrame, mkF, argsToLocals, Value.category]; done) | rfl
def f1 (p1 : Int32) : Int32 := let v69_1 := (if p1 < (48 : Int32) then (if p1 < (97 : Int32) then (if p1 < (65 : Int32) then (16 : Int32) else (if (70 : Int32) < p1 then (16 : Int32) else ((p1 - (65 : Int32)) + (10 : Int32)))) else (if (102 : Int32) < p1 then (if p1 < (65 : Int32) then (16 : Int32) else (if (70 : Int32) < p1 then (16 : Int32) else ((p1 - (65 : Int32)) + (10 : Int32)))) else ((p1 - (97 : Int32)) + (10 : Int32)))) else (if (57 : Int32) < p1 then (if p1 < (97 : Int32) then (if p1 < (65 : Int32) then (16 : Int32) else (if (70 : Int32) < p1 then (16 : Int32) else ((p1 - (65 : Int32)) + (10 : Int32)))) else (if (102 : Int32) < p1 then (if p1 < (65 : Int32) then (16 : Int32) else (if (70 : Int32) < p1 then (16 : Int32) else ((p1 - (65 : Int32)) + (10 : Int32)))) else ((p1 - (97 : Int32)) + (10 : Int32)))) else (p1 - (48 : Int32)))); v69_1
set_option maxRecDepth 65536 in
set_option maxHeartbeats 40000000 in
theorem rm1 (l : Launch) (Z : State) (a0 : Array Value) (hw : ∀ d ∈ tables_1, d.before a0 Z = true) (ws : List Jvm.Cond) (p1 : Int32) (h0 : Heap) (n0 : Nat) :
    JMet l Z (⟨"com/example/stringified_tags/stringifiedtags/SnbtNumbers", "digitValue", "(C)I"⟩ : MethodName) prog_58_method_13_code 2 (some .int) ws ({ frames := 0, cells := 0, slots := 0, locals := 0 } : Room) #[(.int p1)] h0 (QP (.int (f1 p1)) h0 n0) := by
  refine Jvm.JW.body #[.val (.int p1), .unset] pn1 (ef1 p1) ?_
  intro p e s m below meth c T0 D A F X0 hx hZ hby hml hown hnm hrt hlk e0
  refine A (XS.iloadN X0.here hx rfl (hb hby d1_0) rfl) ?_
  show D (T0.setTop (mkF m 1 #[.val (.int p1), .unset] [(.int p1)]))
  refine A (XS.bipush X0.here hx rfl (hb hby d1_1)) ?_
  show D (T0.setTop (mkF m 3 #[.val (.int p1), .unset] [(.int (48 : Int32)), (.int p1)]))
  suffices Km69_1 : ∀ (v69_1 : Int32), v69_1 = (if p1 < (48 : Int32) then (if p1 < (97 : Int32) then (if p1 < (65 : Int32) then (16 : Int32) else (if (70 : Int32) < p1 then (16 : Int32) else ((p1 - (65 : Int32)) + (10 : Int32)))) else (if (102 : Int32) < p1 then (if p1 < (65 : Int32) then (16 : Int32) else (if (70 : Int32) < p1 then (16 : Int32) else ((p1 - (65 : Int32)) + (10 : Int32)))) else ((p1 - (97 : Int32)) + (10 : Int32)))) else (if (57 : Int32) < p1 then (if p1 < (97 : Int32) then (if p1 < (65 : Int32) then (16 : Int32) else (if (70 : Int32) < p1 then (16 : Int32) else ((p1 - (65 : Int32)) + (10 : Int32)))) else (if (102 : Int32) < p1 then (if p1 < (65 : Int32) then (16 : Int32) else (if (70 : Int32) < p1 then (16 : Int32) else ((p1 - (65 : Int32)) + (10 : Int32)))) else ((p1 - (97 : Int32)) + (10 : Int32)))) else (p1 - (48 : Int32)))) → D (T0.setTop (mkF m 69 #[.val (.int p1), .val (.int v69_1)] [])) by
    by_cases c3_0 : p1 < (48 : Int32)
    · refine A (XS.icmpYes X0.here hx rfl (pc0 := 3) (pc' := 20) rfl (hb hby d1_3) rfl (tlt c3_0).1 (by decide) (by decide)) ?_
      show D (T0.setTop (mkF m 20 #[.val (.int p1), .unset] []))
      refine A (XS.iloadN X0.here hx rfl (hb hby d1_20) rfl) ?_
      show D (T0.setTop (mkF m 21 #[.val (.int p1), .unset] [(.int p1)]))
      refine A (XS.bipush X0.here hx rfl (hb hby d1_21)) ?_
      show D (T0.setTop (mkF m 23 #[.val (.int p1), .unset] [(.int (97 : Int32)), (.int p1)]))
      by_cases c23_1 : p1 < (97 : Int32)
      · refine A (XS.icmpYes X0.here hx rfl (pc0 := 23) (pc' := 43) rfl (hb hby d1_23) rfl (tlt c23_1).1 (by decide) (by decide)) ?_
        show D (T0.setTop (mkF m 43 #[.val (.int p1), .unset] []))
        refine A (XS.iloadN X0.here hx rfl (hb hby d1_43) rfl) ?_
        show D (T0.setTop (mkF m 44 #[.val (.int p1), .unset] [(.int p1)]))
        refine A (XS.bipush X0.here hx rfl (hb hby d1_44)) ?_
        show D (T0.setTop (mkF m 46 #[.val (.int p1), .unset] [(.int (65 : Int32)), (.int p1)]))
        by_cases c46_2 : p1 < (65 : Int32)
        · refine A (XS.icmpYes X0.here hx rfl (pc0 := 46) (pc' := 66) rfl (hb hby d1_46) rfl (tlt c46_2).1 (by decide) (by decide)) ?_
          show D (T0.setTop (mkF m 66 #[.val (.int p1), .unset] []))
          refine A (XS.bipush X0.here hx rfl (hb hby d1_66)) ?_
          show D (T0.setTop (mkF m 68 #[.val (.int p1), .unset] [(.int (16 : Int32))]))
          refine A (XS.istoreN X0.here hx rfl (hb hby d1_68) rfl (l' := #[.val (.int p1), .val (.int (16 : Int32))]) rfl) ?_
          show D (T0.setTop (mkF m 69 #[.val (.int p1), .val (.int (16 : Int32))] []))
          exact Km69_1 _ ((((if_pos c3_0)).trans (if_pos c23_1)).trans (if_pos c46_2)).symm
        · refine A (XS.icmpNo X0.here hx rfl (hb hby d1_46) rfl (flt c46_2).1) ?_
          show D (T0.setTop (mkF m 49 #[.val (.int p1), .unset] []))
          refine A (XS.iloadN X0.here hx rfl (hb hby d1_49) rfl) ?_
          show D (T0.setTop (mkF m 50 #[.val (.int p1), .unset] [(.int p1)]))
          refine A (XS.bipush X0.here hx rfl (hb hby d1_50)) ?_
          show D (T0.setTop (mkF m 52 #[.val (.int p1), .unset] [(.int (70 : Int32)), (.int p1)]))
          by_cases c52_3 : (70 : Int32) < p1
          · refine A (XS.icmpYes X0.here hx rfl (pc0 := 52) (pc' := 66) rfl (hb hby d1_52) rfl (tlt c52_3).2.2.1 (by decide) (by decide)) ?_
            show D (T0.setTop (mkF m 66 #[.val (.int p1), .unset] []))
            refine A (XS.bipush X0.here hx rfl (hb hby d1_66)) ?_
            show D (T0.setTop (mkF m 68 #[.val (.int p1), .unset] [(.int (16 : Int32))]))
            refine A (XS.istoreN X0.here hx rfl (hb hby d1_68) rfl (l' := #[.val (.int p1), .val (.int (16 : Int32))]) rfl) ?_
            show D (T0.setTop (mkF m 69 #[.val (.int p1), .val (.int (16 : Int32))] []))
            exact Km69_1 _ (((((if_pos c3_0)).trans (if_pos c23_1)).trans (if_neg c46_2)).trans (if_pos c52_3)).symm
          · refine A (XS.icmpNo X0.here hx rfl (hb hby d1_52) rfl (flt c52_3).2.2.1) ?_
            show D (T0.setTop (mkF m 55 #[.val (.int p1), .unset] []))
            refine A (XS.iloadN X0.here hx rfl (hb hby d1_55) rfl) ?_
            show D (T0.setTop (mkF m 56 #[.val (.int p1), .unset] [(.int p1)]))
            refine A (XS.bipush X0.here hx rfl (hb hby d1_56)) ?_
            show D (T0.setTop (mkF m 58 #[.val (.int p1), .unset] [(.int (65 : Int32)), (.int p1)]))
            refine A (XS.isub X0.here hx rfl (hb hby d1_58) rfl) ?_
            show D (T0.setTop (mkF m 59 #[.val (.int p1), .unset] [(.int (p1 - (65 : Int32)))]))
            refine A (XS.bipush X0.here hx rfl (hb hby d1_59)) ?_
            show D (T0.setTop (mkF m 61 #[.val (.int p1), .unset] [(.int (10 : Int32)), (.int (p1 - (65 : Int32)))]))
            refine A (XS.iadd X0.here hx rfl (hb hby d1_61) rfl) ?_
            show D (T0.setTop (mkF m 62 #[.val (.int p1), .unset] [(.int ((p1 - (65 : Int32)) + (10 : Int32)))]))
            refine A (XS.istoreN X0.here hx rfl (hb hby d1_62) rfl (l' := #[.val (.int p1), .val (.int ((p1 - (65 : Int32)) + (10 : Int32)))]) rfl) ?_
            show D (T0.setTop (mkF m 63 #[.val (.int p1), .val (.int ((p1 - (65 : Int32)) + (10 : Int32)))] []))
            refine A (XS.goto X0.here hx rfl (pc0 := 63) (pc' := 69) rfl (hb hby d1_63) (by decide) (by decide)) ?_
            show D (T0.setTop (mkF m 69 #[.val (.int p1), .val (.int ((p1 - (65 : Int32)) + (10 : Int32)))] []))
            exact Km69_1 _ (((((if_pos c3_0)).trans (if_pos c23_1)).trans (if_neg c46_2)).trans (if_neg c52_3)).symm
      · refine A (XS.icmpNo X0.here hx rfl (hb hby d1_23) rfl (flt c23_1).1) ?_
        show D (T0.setTop (mkF m 26 #[.val (.int p1), .unset] []))
        refine A (XS.iloadN X0.here hx rfl (hb hby d1_26) rfl) ?_
        show D (T0.setTop (mkF m 27 #[.val (.int p1), .unset] [(.int p1)]))
        refine A (XS.bipush X0.here hx rfl (hb hby d1_27)) ?_
        show D (T0.setTop (mkF m 29 #[.val (.int p1), .unset] [(.int (102 : Int32)), (.int p1)]))
        by_cases c29_2 : (102 : Int32) < p1
        · refine A (XS.icmpYes X0.here hx rfl (pc0 := 29) (pc' := 43) rfl (hb hby d1_29) rfl (tlt c29_2).2.2.1 (by decide) (by decide)) ?_
          show D (T0.setTop (mkF m 43 #[.val (.int p1), .unset] []))
          refine A (XS.iloadN X0.here hx rfl (hb hby d1_43) rfl) ?_
          show D (T0.setTop (mkF m 44 #[.val (.int p1), .unset] [(.int p1)]))
          refine A (XS.bipush X0.here hx rfl (hb hby d1_44)) ?_
          show D (T0.setTop (mkF m 46 #[.val (.int p1), .unset] [(.int (65 : Int32)), (.int p1)]))
          by_cases c46_3 : p1 < (65 : Int32)
          · refine A (XS.icmpYes X0.here hx rfl (pc0 := 46) (pc' := 66) rfl (hb hby d1_46) rfl (tlt c46_3).1 (by decide) (by decide)) ?_
            show D (T0.setTop (mkF m 66 #[.val (.int p1), .unset] []))
            refine A (XS.bipush X0.here hx rfl (hb hby d1_66)) ?_
            show D (T0.setTop (mkF m 68 #[.val (.int p1), .unset] [(.int (16 : Int32))]))
            refine A (XS.istoreN X0.here hx rfl (hb hby d1_68) rfl (l' := #[.val (.int p1), .val (.int (16 : Int32))]) rfl) ?_
            show D (T0.setTop (mkF m 69 #[.val (.int p1), .val (.int (16 : Int32))] []))
            exact Km69_1 _ (((((if_pos c3_0)).trans (if_neg c23_1)).trans (if_pos c29_2)).trans (if_pos c46_3)).symm
          · refine A (XS.icmpNo X0.here hx rfl (hb hby d1_46) rfl (flt c46_3).1) ?_
            show D (T0.setTop (mkF m 49 #[.val (.int p1), .unset] []))
            refine A (XS.iloadN X0.here hx rfl (hb hby d1_49) rfl) ?_
            show D (T0.setTop (mkF m 50 #[.val (.int p1), .unset] [(.int p1)]))
            refine A (XS.bipush X0.here hx rfl (hb hby d1_50)) ?_
            show D (T0.setTop (mkF m 52 #[.val (.int p1), .unset] [(.int (70 : Int32)), (.int p1)]))
            by_cases c52_4 : (70 : Int32) < p1
            · refine A (XS.icmpYes X0.here hx rfl (pc0 := 52) (pc' := 66) rfl (hb hby d1_52) rfl (tlt c52_4).2.2.1 (by decide) (by decide)) ?_
              show D (T0.setTop (mkF m 66 #[.val (.int p1), .unset] []))
              refine A (XS.bipush X0.here hx rfl (hb hby d1_66)) ?_
              show D (T0.setTop (mkF m 68 #[.val (.int p1), .unset] [(.int (16 : Int32))]))
              refine A (XS.istoreN X0.here hx rfl (hb hby d1_68) rfl (l' := #[.val (.int p1), .val (.int (16 : Int32))]) rfl) ?_
              show D (T0.setTop (mkF m 69 #[.val (.int p1), .val (.int (16 : Int32))] []))
              exact Km69_1 _ ((((((if_pos c3_0)).trans (if_neg c23_1)).trans (if_pos c29_2)).trans (if_neg c46_3)).trans (if_pos c52_4)).symm
            · refine A (XS.icmpNo X0.here hx rfl (hb hby d1_52) rfl (flt c52_4).2.2.1) ?_
              show D (T0.setTop (mkF m 55 #[.val (.int p1), .unset] []))
              refine A (XS.iloadN X0.here hx rfl (hb hby d1_55) rfl) ?_
              show D (T0.setTop (mkF m 56 #[.val (.int p1), .unset] [(.int p1)]))
              refine A (XS.bipush X0.here hx rfl (hb hby d1_56)) ?_
              show D (T0.setTop (mkF m 58 #[.val (.int p1), .unset] [(.int (65 : Int32)), (.int p1)]))
              refine A (XS.isub X0.here hx rfl (hb hby d1_58) rfl) ?_
              show D (T0.setTop (mkF m 59 #[.val (.int p1), .unset] [(.int (p1 - (65 : Int32)))]))
              refine A (XS.bipush X0.here hx rfl (hb hby d1_59)) ?_
              show D (T0.setTop (mkF m 61 #[.val (.int p1), .unset] [(.int (10 : Int32)), (.int (p1 - (65 : Int32)))]))
              refine A (XS.iadd X0.here hx rfl (hb hby d1_61) rfl) ?_
              show D (T0.setTop (mkF m 62 #[.val (.int p1), .unset] [(.int ((p1 - (65 : Int32)) + (10 : Int32)))]))
              refine A (XS.istoreN X0.here hx rfl (hb hby d1_62) rfl (l' := #[.val (.int p1), .val (.int ((p1 - (65 : Int32)) + (10 : Int32)))]) rfl) ?_
              show D (T0.setTop (mkF m 63 #[.val (.int p1), .val (.int ((p1 - (65 : Int32)) + (10 : Int32)))] []))
              refine A (XS.goto X0.here hx rfl (pc0 := 63) (pc' := 69) rfl (hb hby d1_63) (by decide) (by decide)) ?_
              show D (T0.setTop (mkF m 69 #[.val (.int p1), .val (.int ((p1 - (65 : Int32)) + (10 : Int32)))] []))
              exact Km69_1 _ ((((((if_pos c3_0)).trans (if_neg c23_1)).trans (if_pos c29_2)).trans (if_neg c46_3)).trans (if_neg c52_4)).symm
        · refine A (XS.icmpNo X0.here hx rfl (hb hby d1_29) rfl (flt c29_2).2.2.1) ?_
          show D (T0.setTop (mkF m 32 #[.val (.int p1), .unset] []))
          refine A (XS.iloadN X0.here hx rfl (hb hby d1_32) rfl) ?_
          show D (T0.setTop (mkF m 33 #[.val (.int p1), .unset] [(.int p1)]))
          refine A (XS.bipush X0.here hx rfl (hb hby d1_33)) ?_
          show D (T0.setTop (mkF m 35 #[.val (.int p1), .unset] [(.int (97 : Int32)), (.int p1)]))
          refine A (XS.isub X0.here hx rfl (hb hby d1_35) rfl) ?_
          show D (T0.setTop (mkF m 36 #[.val (.int p1), .unset] [(.int (p1 - (97 : Int32)))]))
          refine A (XS.bipush X0.here hx rfl (hb hby d1_36)) ?_
          show D (T0.setTop (mkF m 38 #[.val (.int p1), .unset] [(.int (10 : Int32)), (.int (p1 - (97 : Int32)))]))
          refine A (XS.iadd X0.here hx rfl (hb hby d1_38) rfl) ?_
          show D (T0.setTop (mkF m 39 #[.val (.int p1), .unset] [(.int ((p1 - (97 : Int32)) + (10 : Int32)))]))
          refine A (XS.istoreN X0.here hx rfl (hb hby d1_39) rfl (l' := #[.val (.int p1), .val (.int ((p1 - (97 : Int32)) + (10 : Int32)))]) rfl) ?_
          show D (T0.setTop (mkF m 40 #[.val (.int p1), .val (.int ((p1 - (97 : Int32)) + (10 : Int32)))] []))
          refine A (XS.goto X0.here hx rfl (pc0 := 40) (pc' := 69) rfl (hb hby d1_40) (by decide) (by decide)) ?_
          show D (T0.setTop (mkF m 69 #[.val (.int p1), .val (.int ((p1 - (97 : Int32)) + (10 : Int32)))] []))
          exact Km69_1 _ ((((if_pos c3_0)).trans (if_neg c23_1)).trans (if_neg c29_2)).symm
    · refine A (XS.icmpNo X0.here hx rfl (hb hby d1_3) rfl (flt c3_0).1) ?_
      show D (T0.setTop (mkF m 6 #[.val (.int p1), .unset] []))
      refine A (XS.iloadN X0.here hx rfl (hb hby d1_6) rfl) ?_
      show D (T0.setTop (mkF m 7 #[.val (.int p1), .unset] [(.int p1)]))
      refine A (XS.bipush X0.here hx rfl (hb hby d1_7)) ?_
      show D (T0.setTop (mkF m 9 #[.val (.int p1), .unset] [(.int (57 : Int32)), (.int p1)]))
      by_cases c9_1 : (57 : Int32) < p1
      · refine A (XS.icmpYes X0.here hx rfl (pc0 := 9) (pc' := 20) rfl (hb hby d1_9) rfl (tlt c9_1).2.2.1 (by decide) (by decide)) ?_
        show D (T0.setTop (mkF m 20 #[.val (.int p1), .unset] []))
        refine A (XS.iloadN X0.here hx rfl (hb hby d1_20) rfl) ?_
        show D (T0.setTop (mkF m 21 #[.val (.int p1), .unset] [(.int p1)]))
        refine A (XS.bipush X0.here hx rfl (hb hby d1_21)) ?_
        show D (T0.setTop (mkF m 23 #[.val (.int p1), .unset] [(.int (97 : Int32)), (.int p1)]))
        by_cases c23_2 : p1 < (97 : Int32)
        · refine A (XS.icmpYes X0.here hx rfl (pc0 := 23) (pc' := 43) rfl (hb hby d1_23) rfl (tlt c23_2).1 (by decide) (by decide)) ?_
          show D (T0.setTop (mkF m 43 #[.val (.int p1), .unset] []))
          refine A (XS.iloadN X0.here hx rfl (hb hby d1_43) rfl) ?_
          show D (T0.setTop (mkF m 44 #[.val (.int p1), .unset] [(.int p1)]))
          refine A (XS.bipush X0.here hx rfl (hb hby d1_44)) ?_
          show D (T0.setTop (mkF m 46 #[.val (.int p1), .unset] [(.int (65 : Int32)), (.int p1)]))
          by_cases c46_3 : p1 < (65 : Int32)
          · refine A (XS.icmpYes X0.here hx rfl (pc0 := 46) (pc' := 66) rfl (hb hby d1_46) rfl (tlt c46_3).1 (by decide) (by decide)) ?_
            show D (T0.setTop (mkF m 66 #[.val (.int p1), .unset] []))
            refine A (XS.bipush X0.here hx rfl (hb hby d1_66)) ?_
            show D (T0.setTop (mkF m 68 #[.val (.int p1), .unset] [(.int (16 : Int32))]))
            refine A (XS.istoreN X0.here hx rfl (hb hby d1_68) rfl (l' := #[.val (.int p1), .val (.int (16 : Int32))]) rfl) ?_
            show D (T0.setTop (mkF m 69 #[.val (.int p1), .val (.int (16 : Int32))] []))
            exact Km69_1 _ (((((if_neg c3_0)).trans (if_pos c9_1)).trans (if_pos c23_2)).trans (if_pos c46_3)).symm
          · refine A (XS.icmpNo X0.here hx rfl (hb hby d1_46) rfl (flt c46_3).1) ?_
            show D (T0.setTop (mkF m 49 #[.val (.int p1), .unset] []))
            refine A (XS.iloadN X0.here hx rfl (hb hby d1_49) rfl) ?_
            show D (T0.setTop (mkF m 50 #[.val (.int p1), .unset] [(.int p1)]))
            refine A (XS.bipush X0.here hx rfl (hb hby d1_50)) ?_
            show D (T0.setTop (mkF m 52 #[.val (.int p1), .unset] [(.int (70 : Int32)), (.int p1)]))
            by_cases c52_4 : (70 : Int32) < p1
            · refine A (XS.icmpYes X0.here hx rfl (pc0 := 52) (pc' := 66) rfl (hb hby d1_52) rfl (tlt c52_4).2.2.1 (by decide) (by decide)) ?_
              show D (T0.setTop (mkF m 66 #[.val (.int p1), .unset] []))
              refine A (XS.bipush X0.here hx rfl (hb hby d1_66)) ?_
              show D (T0.setTop (mkF m 68 #[.val (.int p1), .unset] [(.int (16 : Int32))]))
              refine A (XS.istoreN X0.here hx rfl (hb hby d1_68) rfl (l' := #[.val (.int p1), .val (.int (16 : Int32))]) rfl) ?_
              show D (T0.setTop (mkF m 69 #[.val (.int p1), .val (.int (16 : Int32))] []))
              exact Km69_1 _ ((((((if_neg c3_0)).trans (if_pos c9_1)).trans (if_pos c23_2)).trans (if_neg c46_3)).trans (if_pos c52_4)).symm
            · refine A (XS.icmpNo X0.here hx rfl (hb hby d1_52) rfl (flt c52_4).2.2.1) ?_
              show D (T0.setTop (mkF m 55 #[.val (.int p1), .unset] []))
              refine A (XS.iloadN X0.here hx rfl (hb hby d1_55) rfl) ?_
              show D (T0.setTop (mkF m 56 #[.val (.int p1), .unset] [(.int p1)]))
              refine A (XS.bipush X0.here hx rfl (hb hby d1_56)) ?_
              show D (T0.setTop (mkF m 58 #[.val (.int p1), .unset] [(.int (65 : Int32)), (.int p1)]))
              refine A (XS.isub X0.here hx rfl (hb hby d1_58) rfl) ?_
              show D (T0.setTop (mkF m 59 #[.val (.int p1), .unset] [(.int (p1 - (65 : Int32)))]))
              refine A (XS.bipush X0.here hx rfl (hb hby d1_59)) ?_
              show D (T0.setTop (mkF m 61 #[.val (.int p1), .unset] [(.int (10 : Int32)), (.int (p1 - (65 : Int32)))]))
              refine A (XS.iadd X0.here hx rfl (hb hby d1_61) rfl) ?_
              show D (T0.setTop (mkF m 62 #[.val (.int p1), .unset] [(.int ((p1 - (65 : Int32)) + (10 : Int32)))]))
              refine A (XS.istoreN X0.here hx rfl (hb hby d1_62) rfl (l' := #[.val (.int p1), .val (.int ((p1 - (65 : Int32)) + (10 : Int32)))]) rfl) ?_
              show D (T0.setTop (mkF m 63 #[.val (.int p1), .val (.int ((p1 - (65 : Int32)) + (10 : Int32)))] []))
              refine A (XS.goto X0.here hx rfl (pc0 := 63) (pc' := 69) rfl (hb hby d1_63) (by decide) (by decide)) ?_
              show D (T0.setTop (mkF m 69 #[.val (.int p1), .val (.int ((p1 - (65 : Int32)) + (10 : Int32)))] []))
              exact Km69_1 _ ((((((if_neg c3_0)).trans (if_pos c9_1)).trans (if_pos c23_2)).trans (if_neg c46_3)).trans (if_neg c52_4)).symm
        · refine A (XS.icmpNo X0.here hx rfl (hb hby d1_23) rfl (flt c23_2).1) ?_
          show D (T0.setTop (mkF m 26 #[.val (.int p1), .unset] []))
          refine A (XS.iloadN X0.here hx rfl (hb hby d1_26) rfl) ?_
          show D (T0.setTop (mkF m 27 #[.val (.int p1), .unset] [(.int p1)]))
          refine A (XS.bipush X0.here hx rfl (hb hby d1_27)) ?_
          show D (T0.setTop (mkF m 29 #[.val (.int p1), .unset] [(.int (102 : Int32)), (.int p1)]))
          by_cases c29_3 : (102 : Int32) < p1
          · refine A (XS.icmpYes X0.here hx rfl (pc0 := 29) (pc' := 43) rfl (hb hby d1_29) rfl (tlt c29_3).2.2.1 (by decide) (by decide)) ?_
            show D (T0.setTop (mkF m 43 #[.val (.int p1), .unset] []))
            refine A (XS.iloadN X0.here hx rfl (hb hby d1_43) rfl) ?_
            show D (T0.setTop (mkF m 44 #[.val (.int p1), .unset] [(.int p1)]))
            refine A (XS.bipush X0.here hx rfl (hb hby d1_44)) ?_
            show D (T0.setTop (mkF m 46 #[.val (.int p1), .unset] [(.int (65 : Int32)), (.int p1)]))
            by_cases c46_4 : p1 < (65 : Int32)
            · refine A (XS.icmpYes X0.here hx rfl (pc0 := 46) (pc' := 66) rfl (hb hby d1_46) rfl (tlt c46_4).1 (by decide) (by decide)) ?_
              show D (T0.setTop (mkF m 66 #[.val (.int p1), .unset] []))
              refine A (XS.bipush X0.here hx rfl (hb hby d1_66)) ?_
              show D (T0.setTop (mkF m 68 #[.val (.int p1), .unset] [(.int (16 : Int32))]))
              refine A (XS.istoreN X0.here hx rfl (hb hby d1_68) rfl (l' := #[.val (.int p1), .val (.int (16 : Int32))]) rfl) ?_
              show D (T0.setTop (mkF m 69 #[.val (.int p1), .val (.int (16 : Int32))] []))
              exact Km69_1 _ ((((((if_neg c3_0)).trans (if_pos c9_1)).trans (if_neg c23_2)).trans (if_pos c29_3)).trans (if_pos c46_4)).symm
            · refine A (XS.icmpNo X0.here hx rfl (hb hby d1_46) rfl (flt c46_4).1) ?_
              show D (T0.setTop (mkF m 49 #[.val (.int p1), .unset] []))
              refine A (XS.iloadN X0.here hx rfl (hb hby d1_49) rfl) ?_
              show D (T0.setTop (mkF m 50 #[.val (.int p1), .unset] [(.int p1)]))
              refine A (XS.bipush X0.here hx rfl (hb hby d1_50)) ?_
              show D (T0.setTop (mkF m 52 #[.val (.int p1), .unset] [(.int (70 : Int32)), (.int p1)]))
              by_cases c52_5 : (70 : Int32) < p1
              · refine A (XS.icmpYes X0.here hx rfl (pc0 := 52) (pc' := 66) rfl (hb hby d1_52) rfl (tlt c52_5).2.2.1 (by decide) (by decide)) ?_
                show D (T0.setTop (mkF m 66 #[.val (.int p1), .unset] []))
                refine A (XS.bipush X0.here hx rfl (hb hby d1_66)) ?_
                show D (T0.setTop (mkF m 68 #[.val (.int p1), .unset] [(.int (16 : Int32))]))
                refine A (XS.istoreN X0.here hx rfl (hb hby d1_68) rfl (l' := #[.val (.int p1), .val (.int (16 : Int32))]) rfl) ?_
                show D (T0.setTop (mkF m 69 #[.val (.int p1), .val (.int (16 : Int32))] []))
                exact Km69_1 _ (((((((if_neg c3_0)).trans (if_pos c9_1)).trans (if_neg c23_2)).trans (if_pos c29_3)).trans (if_neg c46_4)).trans (if_pos c52_5)).symm
              · refine A (XS.icmpNo X0.here hx rfl (hb hby d1_52) rfl (flt c52_5).2.2.1) ?_
                show D (T0.setTop (mkF m 55 #[.val (.int p1), .unset] []))
                refine A (XS.iloadN X0.here hx rfl (hb hby d1_55) rfl) ?_
                show D (T0.setTop (mkF m 56 #[.val (.int p1), .unset] [(.int p1)]))
                refine A (XS.bipush X0.here hx rfl (hb hby d1_56)) ?_
                show D (T0.setTop (mkF m 58 #[.val (.int p1), .unset] [(.int (65 : Int32)), (.int p1)]))
                refine A (XS.isub X0.here hx rfl (hb hby d1_58) rfl) ?_
                show D (T0.setTop (mkF m 59 #[.val (.int p1), .unset] [(.int (p1 - (65 : Int32)))]))
                refine A (XS.bipush X0.here hx rfl (hb hby d1_59)) ?_
                show D (T0.setTop (mkF m 61 #[.val (.int p1), .unset] [(.int (10 : Int32)), (.int (p1 - (65 : Int32)))]))
                refine A (XS.iadd X0.here hx rfl (hb hby d1_61) rfl) ?_
                show D (T0.setTop (mkF m 62 #[.val (.int p1), .unset] [(.int ((p1 - (65 : Int32)) + (10 : Int32)))]))
                refine A (XS.istoreN X0.here hx rfl (hb hby d1_62) rfl (l' := #[.val (.int p1), .val (.int ((p1 - (65 : Int32)) + (10 : Int32)))]) rfl) ?_
                show D (T0.setTop (mkF m 63 #[.val (.int p1), .val (.int ((p1 - (65 : Int32)) + (10 : Int32)))] []))
                refine A (XS.goto X0.here hx rfl (pc0 := 63) (pc' := 69) rfl (hb hby d1_63) (by decide) (by decide)) ?_
                show D (T0.setTop (mkF m 69 #[.val (.int p1), .val (.int ((p1 - (65 : Int32)) + (10 : Int32)))] []))
                exact Km69_1 _ (((((((if_neg c3_0)).trans (if_pos c9_1)).trans (if_neg c23_2)).trans (if_pos c29_3)).trans (if_neg c46_4)).trans (if_neg c52_5)).symm
          · refine A (XS.icmpNo X0.here hx rfl (hb hby d1_29) rfl (flt c29_3).2.2.1) ?_
            show D (T0.setTop (mkF m 32 #[.val (.int p1), .unset] []))
            refine A (XS.iloadN X0.here hx rfl (hb hby d1_32) rfl) ?_
            show D (T0.setTop (mkF m 33 #[.val (.int p1), .unset] [(.int p1)]))
            refine A (XS.bipush X0.here hx rfl (hb hby d1_33)) ?_
            show D (T0.setTop (mkF m 35 #[.val (.int p1), .unset] [(.int (97 : Int32)), (.int p1)]))
            refine A (XS.isub X0.here hx rfl (hb hby d1_35) rfl) ?_
            show D (T0.setTop (mkF m 36 #[.val (.int p1), .unset] [(.int (p1 - (97 : Int32)))]))
            refine A (XS.bipush X0.here hx rfl (hb hby d1_36)) ?_
            show D (T0.setTop (mkF m 38 #[.val (.int p1), .unset] [(.int (10 : Int32)), (.int (p1 - (97 : Int32)))]))
            refine A (XS.iadd X0.here hx rfl (hb hby d1_38) rfl) ?_
            show D (T0.setTop (mkF m 39 #[.val (.int p1), .unset] [(.int ((p1 - (97 : Int32)) + (10 : Int32)))]))
            refine A (XS.istoreN X0.here hx rfl (hb hby d1_39) rfl (l' := #[.val (.int p1), .val (.int ((p1 - (97 : Int32)) + (10 : Int32)))]) rfl) ?_
            show D (T0.setTop (mkF m 40 #[.val (.int p1), .val (.int ((p1 - (97 : Int32)) + (10 : Int32)))] []))
            refine A (XS.goto X0.here hx rfl (pc0 := 40) (pc' := 69) rfl (hb hby d1_40) (by decide) (by decide)) ?_
            show D (T0.setTop (mkF m 69 #[.val (.int p1), .val (.int ((p1 - (97 : Int32)) + (10 : Int32)))] []))
            exact Km69_1 _ (((((if_neg c3_0)).trans (if_pos c9_1)).trans (if_neg c23_2)).trans (if_neg c29_3)).symm
      · refine A (XS.icmpNo X0.here hx rfl (hb hby d1_9) rfl (flt c9_1).2.2.1) ?_
        show D (T0.setTop (mkF m 12 #[.val (.int p1), .unset] []))
        refine A (XS.iloadN X0.here hx rfl (hb hby d1_12) rfl) ?_
        show D (T0.setTop (mkF m 13 #[.val (.int p1), .unset] [(.int p1)]))
        refine A (XS.bipush X0.here hx rfl (hb hby d1_13)) ?_
        show D (T0.setTop (mkF m 15 #[.val (.int p1), .unset] [(.int (48 : Int32)), (.int p1)]))
        refine A (XS.isub X0.here hx rfl (hb hby d1_15) rfl) ?_
        show D (T0.setTop (mkF m 16 #[.val (.int p1), .unset] [(.int (p1 - (48 : Int32)))]))
        refine A (XS.istoreN X0.here hx rfl (hb hby d1_16) rfl (l' := #[.val (.int p1), .val (.int (p1 - (48 : Int32)))]) rfl) ?_
        show D (T0.setTop (mkF m 17 #[.val (.int p1), .val (.int (p1 - (48 : Int32)))] []))
        refine A (XS.goto X0.here hx rfl (pc0 := 17) (pc' := 69) rfl (hb hby d1_17) (by decide) (by decide)) ?_
        show D (T0.setTop (mkF m 69 #[.val (.int p1), .val (.int (p1 - (48 : Int32)))] []))
        exact Km69_1 _ (((if_neg c3_0)).trans (if_neg c9_1)).symm
  intro v69_1 hv69_1
  show D (T0.setTop (mkF m 69 #[.val (.int p1), .val (.int v69_1)] []))
  refine A (XS.iloadN X0.here hx rfl (hb hby d1_69) rfl) ?_
  show D (T0.setTop (mkF m 70 #[.val (.int p1), .val (.int v69_1)] [(.int v69_1)]))
  refine F _ (Jvm.JW.ret X0 hlk (v := some (.int v69_1)) (fun h => by rw [hrt] at h; cases h) (fun fs hr => retOut X0 hx hrt rfl (Or.inl ⟨rfl, Or.inl rfl, _, rfl⟩) (hb hby d1_70) hr) rfl ?_ (by decide) (by decide))
  exact ⟨congrArg (fun z => some (Value.int z)) (by subst hv69_1; rfl), (Fr.nil n0), e0⟩
theorem own_cs {args : Array Value} {s : State} {cs : Int32} {t : Term} (r2 : (Cond.not (Cond.eq t (Term.int (0 : Int32)))).value args s none s [] = some true) (ecs : t.eval args s none [] s = some (.int cs)) : ¬ cs = (0 : Int32) := by
  intro q
  subst q
  have e0 : (Term.int (0 : Int32)).eval args s none [] s = some (.int 0) := Term.int_eval 0
  simp [Cond.value, ecs, e0] at r2
def own_ch (x : Int32) : Int32 := ((x &&& (255 : Int32)).toUInt32.toUInt16.toUInt32.toInt32)
theorem own_nc (x : Int32) : narrow .char (.int (x.toUInt32.toUInt16.toUInt32.toInt32)) = .int (x.toUInt32.toUInt16.toUInt32.toInt32) := by
  have q : x.toUInt32 % 65536 % 65536 = x.toUInt32 % 65536 := UInt32.toNat_inj.mp (by simp [UInt32.toNat_mod])
  simp [narrow, q]
def own_lo : List Value := [.int 48, .int 49, .int 50, .int 51, .int 52, .int 53, .int 54, .int 55, .int 56, .int 57, .int 97, .int 98, .int 99, .int 100, .int 101, .int 102]
def own_hi : List Value := [.int 48, .int 49, .int 50, .int 51, .int 52, .int 53, .int 54, .int 55, .int 56, .int 57, .int 65, .int 66, .int 67, .int 68, .int 69, .int 70]
def own_flo (i : Nat) : Int32 := intOf (own_lo.getD i (.int 0))
def own_fhi (i : Nat) : Int32 := intOf (own_hi.getD i (.int 0))
theorem own_tlo : (∀ c ∈ "0123456789abcdef".toList, c.toNat < 256) ∧ "0123456789abcdef".toList.map (fun c => Value.int (Jvm.Lit.byteI c.toNat.toUInt16)) = own_lo := by decide +kernel
theorem own_thi : (∀ c ∈ "0123456789ABCDEF".toList, c.toNat < 256) ∧ "0123456789ABCDEF".toList.map (fun c => Value.int (Jvm.Lit.byteI c.toNat.toUInt16)) = own_hi := by decide +kernel
theorem own_flo1 : ∀ k, k < 10 → (own_ch (own_flo k)).toInt = 48 + (k : Int) := by decide +kernel
theorem own_flo2 : ∀ k, k < 16 → 10 ≤ k → (own_ch (own_flo k)).toInt = 87 + (k : Int) := by decide +kernel
theorem own_fhi2 : ∀ k, k < 16 → 10 ≤ k → (own_ch (own_fhi k)).toInt = 55 + (k : Int) := by decide +kernel
theorem own_blo : ∀ k, k < 16 → (f1 (own_ch (own_flo k))).toInt = (k : Int) := by decide +kernel
theorem own_bhi : ∀ k, k < 16 → (f1 (own_ch (own_fhi k))).toInt = (k : Int) := by decide +kernel
theorem own_f1 (c : Int32) : (∃ k : Nat, k < 10 ∧ (f1 c).toInt = k ∧ c.toInt = 48 + k) ∨ (∃ k : Nat, 10 ≤ k ∧ k < 16 ∧ (f1 c).toInt = k ∧ (c.toInt = 87 + k ∨ c.toInt = 55 + k)) ∨ (f1 c).toInt = 16 := by
  unfold f1
  simp only [Int32.lt_iff_toInt_lt, show (48 : Int32).toInt = 48 from rfl, show (57 : Int32).toInt = 57 from rfl, show (97 : Int32).toInt = 97 from rfl, show (102 : Int32).toInt = 102 from rfl, show (65 : Int32).toInt = 65 from rfl, show (70 : Int32).toInt = 70 from rfl]
  have a1 := c_isub c 48
  have r1 := rng32 (c - 48)
  have a2 := c_isub c 97
  have r2 := rng32 (c - 97)
  have a3 := c_iadd (c - 97) 10
  have r3 := rng32 (c - 97 + 10)
  have a4 := c_isub c 65
  have r4 := rng32 (c - 65)
  have a5 := c_iadd (c - 65) 10
  have r5 := rng32 (c - 65 + 10)
  have l48 : (48 : Int32).toInt = 48 := rfl
  have l97 : (97 : Int32).toInt = 97 := rfl
  have l65 : (65 : Int32).toInt = 65 := rfl
  have l10 : (10 : Int32).toInt = 10 := rfl
  have l16 : (16 : Int32).toInt = 16 := rfl
  repeat' split
  all_goals first
    | exact Or.inr (Or.inr rfl)
    | (exfalso; omega)
    | exact Or.inl ⟨(c.toInt - 48).toNat, by omega, by omega, by omega⟩
    | exact Or.inr (Or.inl ⟨(c.toInt - 87).toNat, by omega, by omega, by omega, by omega⟩)
    | exact Or.inr (Or.inl ⟨(c.toInt - 55).toNat, by omega, by omega, by omega, by omega⟩)
theorem own_rg (c : Int32) : 0 ≤ (f1 c).toInt ∧ (f1 c).toInt ≤ 16 := by rcases own_f1 c with ⟨k, a, b, _⟩ | ⟨k, a, b, d, _⟩ | a <;> omega
theorem own_sp {c d : Int32} {k : Nat} (hd : d = f1 c) (hk : d.toInt = k) (h16 : k < 16) : c = own_ch (own_flo k) ∨ c = own_ch (own_fhi k) := by
  subst hd
  rcases own_f1 c with ⟨j, a, b, e⟩ | ⟨j, a, b, f, e⟩ | a
  · have : j = k := by omega
    subst this
    exact Or.inl (Int32.toInt_inj.mp (by rw [own_flo1 j a, e]))
  · have : j = k := by omega
    subst this
    rcases e with e | e
    · exact Or.inl (Int32.toInt_inj.mp (by rw [own_flo2 j b a, e]))
    · exact Or.inr (Int32.toInt_inj.mp (by rw [own_fhi2 j b a, e]))
  · omega
theorem own_v {v y : Int32} (h : v = ((y &&& (2147483647 : Int32)) % (16 : Int32))) : ∃ k : Nat, v.toInt = k ∧ k < 16 := by
  have h1 := c_mask y 2147483647 31 (by decide) (by decide)
  have h2 := (c_irem (y &&& 2147483647) 16 16 (by decide)).1 (by omega)
  rw [← h] at h2
  exact ⟨v.toInt.toNat, by omega, by omega⟩
theorem own_k {d : Int32} (h0 : ¬ d < (0 : Int32)) (h1 : d < (16 : Int32)) : ∃ k : Nat, d.toInt = k ∧ k < 16 := by
  rw [Int32.lt_iff_toInt_lt] at h0 h1
  have e0 : (0 : Int32).toInt = 0 := rfl
  have e1 : (16 : Int32).toInt = 16 := rfl
  exact ⟨d.toInt.toNat, by omega, by omega⟩
theorem own_in {c d v : Int32} (hd : d = f1 c) (h : v = (if d < (0 : Int32) then (0 : Int32) else (if (16 : Int32) < d then (0 : Int32) else (1 : Int32)))) : v = 1 := by
  have r := own_rg c
  rw [← hd] at r
  have e0 : (0 : Int32).toInt = 0 := rfl
  have e1 : (16 : Int32).toInt = 16 := rfl
  rw [h, if_neg (by rw [Int32.lt_iff_toInt_lt]; omega), if_neg (by rw [Int32.lt_iff_toInt_lt]; omega)]
theorem own_n0 {c d : Int32} (hd : d = f1 c) : ¬ d < (0 : Int32) := by
  have r := own_rg c
  rw [← hd] at r
  rw [Int32.lt_iff_toInt_lt, show (0 : Int32).toInt = 0 from rfl]; omega
theorem own_n16 {c d : Int32} (hd : d = f1 c) (h1 : ¬ d = (16 : Int32)) : d < (16 : Int32) := by
  have r := own_rg c
  rw [← hd] at r
  have : d.toInt ≠ 16 := fun q => h1 (Int32.toInt_inj.mp (q.trans (show (16 : Int32).toInt = 16 from rfl).symm))
  rw [Int32.lt_iff_toInt_lt, show (16 : Int32).toInt = 16 from rfl]; omega
theorem own_neg {x : Int32} {k : Nat} (h : x.toInt = k) : ¬ x < (0 : Int32) := by rw [Int32.lt_iff_toInt_lt, show (0 : Int32).toInt = 0 from rfl]; omega
theorem own_l16 {x : Int32} {k : Nat} (h : x.toInt = k) (hk : k < 16) : x < (16 : Int32) := by rw [Int32.lt_iff_toInt_lt, show (16 : Int32).toInt = 16 from rfl]; omega
theorem d6_0 : decode jdk_41_method_11_code 0 = .ok (.iload_n 0, 1) := by decide +kernel
theorem d6_1 : decode jdk_41_method_11_code 1 = .ok (.ifCond .lt 8, 3) := by decide +kernel
theorem d6_4 : decode jdk_41_method_11_code 4 = .ok (.iload_n 0, 1) := by decide +kernel
theorem d6_5 : decode jdk_41_method_11_code 5 = .ok (.iload_n 1, 1) := by decide +kernel
theorem d6_6 : decode jdk_41_method_11_code 6 = .ok (.if_icmp .lt 10, 3) := by decide +kernel
theorem d6_16 : decode jdk_41_method_11_code 16 = .ok (.iload_n 0, 1) := by decide +kernel
theorem d6_17 : decode jdk_41_method_11_code 17 = .ok (.ireturn, 1) := by decide +kernel
theorem pn6 : plainFor (⟨"jdk/internal/util/Preconditions", "checkIndex", "(IILjava/util/function/BiFunction;)I"⟩ : MethodName) = true := by decide +kernel
theorem ef6n (p1 : Int32) (p2 : Int32) (m : MethodId) : entryFrame m #[(.int p1), (.int p2), .null] 3 = mkF m 0 #[.val (.int p1), .val (.int p2), .val .null] [] := by first | (simp [entryFrame, mkF, argsToLocals, Value.category]; done) | rfl
set_option maxRecDepth 65536 in
set_option maxHeartbeats 40000000 in
theorem rm6n (l : Launch) (Z : State) (a0 : Array Value) (hw : ∀ d ∈ tables_1, d.before a0 Z = true) (ws : List Jvm.Cond) (p1 : Int32) (p2 : Int32) (h0 : Heap) (n0 : Nat) (hneg : ¬ p1 < (0 : Int32)) (hlt : p1 < p2) :
    JMet l Z (⟨"jdk/internal/util/Preconditions", "checkIndex", "(IILjava/util/function/BiFunction;)I"⟩ : MethodName) jdk_41_method_11_code 3 (some .int) ws ({ frames := 0, cells := 0, slots := 0, locals := 0 } : Room) #[(.int p1), (.int p2), .null] h0 (QP (.int p1) h0 n0) := by
  refine Jvm.JW.body #[.val (.int p1), .val (.int p2), .val .null] pn6 (ef6n p1 p2) ?_
  intro p e s m below meth c T0 D A F X0 hx hZ hby hml hown hnm hrt hlk e0
  refine A (XS.iloadN X0.here hx rfl (hb hby d6_0) rfl) ?_
  show D (T0.setTop (mkF m 1 #[.val (.int p1), .val (.int p2), .val .null] [(.int p1)]))
  refine A (XS.ifNo X0.here hx rfl (hb hby d6_1) rfl ((if0 _ _).trans (flt hneg).1)) ?_
  show D (T0.setTop (mkF m 4 #[.val (.int p1), .val (.int p2), .val .null] []))
  refine A (XS.iloadN X0.here hx rfl (hb hby d6_4) rfl) ?_
  show D (T0.setTop (mkF m 5 #[.val (.int p1), .val (.int p2), .val .null] [(.int p1)]))
  refine A (XS.iloadN X0.here hx rfl (hb hby d6_5) rfl) ?_
  show D (T0.setTop (mkF m 6 #[.val (.int p1), .val (.int p2), .val .null] [(.int p2), (.int p1)]))
  refine A (XS.icmpYes X0.here hx rfl (pc0 := 6) (pc' := 16) rfl (hb hby d6_6) rfl (tlt hlt).1 (by decide) (by decide)) ?_
  show D (T0.setTop (mkF m 16 #[.val (.int p1), .val (.int p2), .val .null] []))
  refine A (XS.iloadN X0.here hx rfl (hb hby d6_16) rfl) ?_
  show D (T0.setTop (mkF m 17 #[.val (.int p1), .val (.int p2), .val .null] [(.int p1)]))
  refine F _ (Jvm.JW.ret X0 hlk (v := some (.int p1)) (fun h => by rw [hrt] at h; cases h) (fun fs hr => retOut X0 hx hrt rfl (Or.inl ⟨rfl, Or.inl rfl, _, rfl⟩) (hb hby d6_17) hr) rfl ?_ (by decide) (by decide))
  exact ⟨rfl, (Fr.nil n0), e0⟩
theorem ef6 (p1 : Int32) (p2 : Int32) (p3 : Addr) (m : MethodId) : entryFrame m #[(.int p1), (.int p2), (.ref p3)] 3 = mkF m 0 #[.val (.int p1), .val (.int p2), .val (.ref p3)] [] := by first | (simp [entryFrame, mkF, argsToLocals, Value.category]; done) | rfl
set_option maxRecDepth 65536 in
set_option maxHeartbeats 40000000 in
theorem rm6r (l : Launch) (Z : State) (a0 : Array Value) (hw : ∀ d ∈ tables_1, d.before a0 Z = true) (ws : List Jvm.Cond) (p1 : Int32) (p2 : Int32) (p3 : Addr) (h0 : Heap) (n0 : Nat) (hneg : ¬ p1 < (0 : Int32)) (hlt : p1 < p2) :
    JMet l Z (⟨"jdk/internal/util/Preconditions", "checkIndex", "(IILjava/util/function/BiFunction;)I"⟩ : MethodName) jdk_41_method_11_code 3 (some .int) ws ({ frames := 0, cells := 0, slots := 0, locals := 0 } : Room) #[(.int p1), (.int p2), (.ref p3)] h0 (QP (.int p1) h0 n0) := by
  refine Jvm.JW.body #[.val (.int p1), .val (.int p2), .val (.ref p3)] pn6 (ef6 p1 p2 p3) ?_
  intro p e s m below meth c T0 D A F X0 hx hZ hby hml hown hnm hrt hlk e0
  refine A (XS.iloadN X0.here hx rfl (hb hby d6_0) rfl) ?_
  show D (T0.setTop (mkF m 1 #[.val (.int p1), .val (.int p2), .val (.ref p3)] [(.int p1)]))
  refine A (XS.ifNo X0.here hx rfl (hb hby d6_1) rfl ((if0 _ _).trans (flt hneg).1)) ?_
  show D (T0.setTop (mkF m 4 #[.val (.int p1), .val (.int p2), .val (.ref p3)] []))
  refine A (XS.iloadN X0.here hx rfl (hb hby d6_4) rfl) ?_
  show D (T0.setTop (mkF m 5 #[.val (.int p1), .val (.int p2), .val (.ref p3)] [(.int p1)]))
  refine A (XS.iloadN X0.here hx rfl (hb hby d6_5) rfl) ?_
  show D (T0.setTop (mkF m 6 #[.val (.int p1), .val (.int p2), .val (.ref p3)] [(.int p2), (.int p1)]))
  refine A (XS.icmpYes X0.here hx rfl (pc0 := 6) (pc' := 16) rfl (hb hby d6_6) rfl (tlt hlt).1 (by decide) (by decide)) ?_
  show D (T0.setTop (mkF m 16 #[.val (.int p1), .val (.int p2), .val (.ref p3)] []))
  refine A (XS.iloadN X0.here hx rfl (hb hby d6_16) rfl) ?_
  show D (T0.setTop (mkF m 17 #[.val (.int p1), .val (.int p2), .val (.ref p3)] [(.int p1)]))
  refine F _ (Jvm.JW.ret X0 hlk (v := some (.int p1)) (fun h => by rw [hrt] at h; cases h) (fun fs hr => retOut X0 hx hrt rfl (Or.inl ⟨rfl, Or.inl rfl, _, rfl⟩) (hb hby d6_17) hr) rfl ?_ (by decide) (by decide))
  exact ⟨rfl, (Fr.nil n0), e0⟩
theorem d5_0 : decode jdk_42_method_155_code 0 = .ok (.iload_n 0, 1) := by decide +kernel
theorem d5_1 : decode jdk_42_method_155_code 1 = .ok (.iload_n 1, 1) := by decide +kernel
theorem d5_2 : decode jdk_42_method_155_code 2 = .ok (.getstatic 1053, 3) := by decide +kernel
theorem d5_5 : decode jdk_42_method_155_code 5 = .ok (.invokestatic 1059, 3) := by decide +kernel
theorem d5_8 : decode jdk_42_method_155_code 8 = .ok (.pop, 1) := by decide +kernel
theorem d5_9 : decode jdk_42_method_155_code 9 = .ok (.return_, 1) := by decide +kernel
theorem pn5 : plainFor (⟨"java/lang/String", "checkIndex", "(II)V"⟩ : MethodName) = true := by decide +kernel
theorem pd5_0 : parseMethodDescriptor "(IILjava/util/function/BiFunction;)I" = some ⟨[.int, .int, (.object "java/util/function/BiFunction")], some .int⟩ := by decide +kernel
theorem ef5 (p1 : Int32) (p2 : Int32) (m : MethodId) : entryFrame m #[(.int p1), (.int p2)] 2 = mkF m 0 #[.val (.int p1), .val (.int p2)] [] := by first | (simp [entryFrame, mkF, argsToLocals, Value.category]; done) | rfl
set_option maxRecDepth 65536 in
set_option maxHeartbeats 40000000 in
theorem rm5n (l : Launch) (Z : State) (a0 : Array Value) (hw : ∀ d ∈ tables_1, d.before a0 Z = true) (ws : List Jvm.Cond) (p1 : Int32) (p2 : Int32) (h0 : Heap) (n0 : Nat) (hneg : ¬ p1 < (0 : Int32)) (hlt : p1 < p2) (S_sf : Sta Z h0 "jdk/internal/util/Preconditions" "SIOOBE_FORMATTER" "Ljava/util/function/BiFunction;" .null) :
    JMet l Z (⟨"java/lang/String", "checkIndex", "(II)V"⟩ : MethodName) jdk_42_method_155_code 2 none ws ({ frames := 1, cells := 0, slots := 0, locals := 14 } : Room) #[(.int p1), (.int p2)] h0 (fun v h L => v = none ∧ Fr n0 L ∧ h = h0) := by
  refine Jvm.JW.body #[.val (.int p1), .val (.int p2)] pn5 (ef5 p1 p2) ?_
  intro p e s m below meth c T0 D A F X0 hx hZ hby hml hown hnm hrt hlk e0
  refine A (XS.iloadN X0.here hx rfl (hb hby d5_0) rfl) ?_
  show D (T0.setTop (mkF m 1 #[.val (.int p1), .val (.int p2)] [(.int p1)]))
  refine A (XS.iloadN X0.here hx rfl (hb hby d5_1) rfl) ?_
  show D (T0.setTop (mkF m 2 #[.val (.int p1), .val (.int p2)] [(.int p2), (.int p1)]))
  obtain ⟨T1, X1, e1, st1⟩ := getS X0 hx hZ hown (host := "") (hw _ (List.mem_of_getElem? (i := 35) rfl)) Via.refl e0 S_sf (g := (mkF m 2 #[.val (.int p1), .val (.int p2)] [(.int p2), (.int p1)])) rfl (hb hby d5_2)
  refine A (st1 _) ?_
  show D (T1.setTop (mkF m 5 #[.val (.int p1), .val (.int p2)] [.null, (.int p2), (.int p1)]))
  refine Adv.callS A X1 hx hZ hown (hw _ (List.mem_of_getElem? (i := 37) rfl)) (hw _ (List.mem_of_getElem? (i := 38) rfl)) (hw _ (List.mem_of_getElem? (i := 36) rfl)) (hw _ (List.mem_of_getElem? (i := 39) rfl)) e1 (rm6n l Z a0 hw [] p1 p2 h0 n0 hneg hlt) 0 (g := (mkF m 5 #[.val (.int p1), .val (.int p2)] [.null, (.int p2), (.int p1)])) rfl (by rw [hml]; rfl) [(.int p1), (.int p2), .null] [] rfl (lenOf pd5_0 rfl) rfl (by show 2 * 0 + _ ≤ _; exact Nat.le_of_eq rfl) (hb hby d5_5) (by decide) (by decide) (by decide) (by decide) (by decide) ?_
  rintro T2 L2 _ X2 ⟨rfl, N2_q, e2⟩
  have N2 := Fr.app (Fr.nil n0) N2_q
  show D (T2.setTop (mkF m 8 #[.val (.int p1), .val (.int p2)] [(.int p1)]))
  refine A (XS.pop X2.here hx rfl (hb hby d5_8) rfl rfl) ?_
  show D (T2.setTop (mkF m 9 #[.val (.int p1), .val (.int p2)] []))
  exact F _ (Jvm.JW.ret X2 hlk (v := none) (fun _ => rfl) (fun fs hr => X2.returnOut hx hrt (hb hby d5_9) hr) rfl ⟨rfl, N2, e2⟩ (by decide) (by decide))
set_option maxRecDepth 65536 in
set_option maxHeartbeats 40000000 in
theorem rm5r (l : Launch) (Z : State) (a0 : Array Value) (hw : ∀ d ∈ tables_1, d.before a0 Z = true) (ws : List Jvm.Cond) (p1 : Int32) (p2 : Int32) (h0 : Heap) (n0 : Nat) (hneg : ¬ p1 < (0 : Int32)) (hlt : p1 < p2) (sf : Addr) (S_sf : Sta Z h0 "jdk/internal/util/Preconditions" "SIOOBE_FORMATTER" "Ljava/util/function/BiFunction;" (.ref sf)) :
    JMet l Z (⟨"java/lang/String", "checkIndex", "(II)V"⟩ : MethodName) jdk_42_method_155_code 2 none ws ({ frames := 1, cells := 0, slots := 0, locals := 14 } : Room) #[(.int p1), (.int p2)] h0 (fun v h L => v = none ∧ Fr n0 L ∧ h = h0) := by
  refine Jvm.JW.body #[.val (.int p1), .val (.int p2)] pn5 (ef5 p1 p2) ?_
  intro p e s m below meth c T0 D A F X0 hx hZ hby hml hown hnm hrt hlk e0
  refine A (XS.iloadN X0.here hx rfl (hb hby d5_0) rfl) ?_
  show D (T0.setTop (mkF m 1 #[.val (.int p1), .val (.int p2)] [(.int p1)]))
  refine A (XS.iloadN X0.here hx rfl (hb hby d5_1) rfl) ?_
  show D (T0.setTop (mkF m 2 #[.val (.int p1), .val (.int p2)] [(.int p2), (.int p1)]))
  obtain ⟨T1, X1, e1, st1⟩ := getS X0 hx hZ hown (host := "") (hw _ (List.mem_of_getElem? (i := 35) rfl)) Via.refl e0 S_sf (g := (mkF m 2 #[.val (.int p1), .val (.int p2)] [(.int p2), (.int p1)])) rfl (hb hby d5_2)
  refine A (st1 _) ?_
  show D (T1.setTop (mkF m 5 #[.val (.int p1), .val (.int p2)] [(.ref sf), (.int p2), (.int p1)]))
  refine Adv.callS A X1 hx hZ hown (hw _ (List.mem_of_getElem? (i := 37) rfl)) (hw _ (List.mem_of_getElem? (i := 38) rfl)) (hw _ (List.mem_of_getElem? (i := 36) rfl)) (hw _ (List.mem_of_getElem? (i := 39) rfl)) e1 (rm6r l Z a0 hw [] p1 p2 sf h0 n0 hneg hlt) 0 (g := (mkF m 5 #[.val (.int p1), .val (.int p2)] [(.ref sf), (.int p2), (.int p1)])) rfl (by rw [hml]; rfl) [(.int p1), (.int p2), (.ref sf)] [] rfl (lenOf pd5_0 rfl) rfl (by show 2 * 0 + _ ≤ _; exact Nat.le_of_eq rfl) (hb hby d5_5) (by decide) (by decide) (by decide) (by decide) (by decide) ?_
  rintro T2 L2 _ X2 ⟨rfl, N2_q, e2⟩
  have N2 := Fr.app (Fr.nil n0) N2_q
  show D (T2.setTop (mkF m 8 #[.val (.int p1), .val (.int p2)] [(.int p1)]))
  refine A (XS.pop X2.here hx rfl (hb hby d5_8) rfl rfl) ?_
  show D (T2.setTop (mkF m 9 #[.val (.int p1), .val (.int p2)] []))
  exact F _ (Jvm.JW.ret X2 hlk (v := none) (fun _ => rfl) (fun fs hr => X2.returnOut hx hrt (hb hby d5_9) hr) rfl ⟨rfl, N2, e2⟩ (by decide) (by decide))
theorem rm5 (l : Launch) (Z : State) (a0 : Array Value) (hw : ∀ d ∈ tables_1, d.before a0 Z = true) (ws : List Jvm.Cond) (p1 : Int32) (p2 : Int32) (h0 : Heap) (n0 : Nat) (hneg : ¬ p1 < (0 : Int32)) (hlt : p1 < p2) (sf : Value) (hsf : sf.isRef = true) (S_sf : Sta Z h0 "jdk/internal/util/Preconditions" "SIOOBE_FORMATTER" "Ljava/util/function/BiFunction;" sf) : JMet l Z (⟨"java/lang/String", "checkIndex", "(II)V"⟩ : MethodName) jdk_42_method_155_code 2 none ws ({ frames := 1, cells := 0, slots := 0, locals := 14 } : Room) #[(.int p1), (.int p2)] h0 (fun v h L => v = none ∧ Fr n0 L ∧ h = h0) := by
  rcases ref_cases hsf with rfl | ⟨q, rfl⟩
  · exact rm5n l Z a0 hw ws p1 p2 h0 n0 hneg hlt S_sf
  · exact rm5r l Z a0 hw ws p1 p2 h0 n0 hneg hlt q S_sf
theorem d4_0 : decode jdk_43_method_2_code 0 = .ok (.iload_n 1, 1) := by decide +kernel
theorem d4_1 : decode jdk_43_method_2_code 1 = .ok (.aload_n 0, 1) := by decide +kernel
theorem d4_2 : decode jdk_43_method_2_code 2 = .ok (.arraylength, 1) := by decide +kernel
theorem d4_3 : decode jdk_43_method_2_code 3 = .ok (.invokestatic 9, 3) := by decide +kernel
theorem d4_6 : decode jdk_43_method_2_code 6 = .ok (.aload_n 0, 1) := by decide +kernel
theorem d4_7 : decode jdk_43_method_2_code 7 = .ok (.iload_n 1, 1) := by decide +kernel
theorem d4_8 : decode jdk_43_method_2_code 8 = .ok (.baload, 1) := by decide +kernel
theorem d4_9 : decode jdk_43_method_2_code 9 = .ok (.sipush 255, 3) := by decide +kernel
theorem d4_12 : decode jdk_43_method_2_code 12 = .ok (.iand, 1) := by decide +kernel
theorem d4_13 : decode jdk_43_method_2_code 13 = .ok (.i2c, 1) := by decide +kernel
theorem d4_14 : decode jdk_43_method_2_code 14 = .ok (.ireturn, 1) := by decide +kernel
theorem pn4 : plainFor (⟨"java/lang/StringLatin1", "charAt", "([BI)C"⟩ : MethodName) = true := by decide +kernel
theorem pd4_0 : parseMethodDescriptor "(II)V" = some ⟨[.int, .int], none⟩ := by decide +kernel
theorem ef4 (p1 : Addr) (p2 : Int32) (m : MethodId) : entryFrame m #[(.ref p1), (.int p2)] 2 = mkF m 0 #[.val (.ref p1), .val (.int p2)] [] := by first | (simp [entryFrame, mkF, argsToLocals, Value.category]; done) | rfl
set_option maxRecDepth 65536 in
set_option maxHeartbeats 40000000 in
theorem rm4 (l : Launch) (Z : State) (a0 : Array Value) (hw : ∀ d ∈ tables_1, d.before a0 Z = true) (ws : List Jvm.Cond) (p1 : Addr) (p2 : Int32) (h0 : Heap) (n0 : Nat) (f : Nat → Int32) (kk : Nat) (hk : p2.toInt = kk) (hk16 : kk < 16) (sf : Value) (hsf : sf.isRef = true) (S_sf : Sta Z h0 "jdk/internal/util/Preconditions" "SIOOBE_FORMATTER" "Ljava/util/function/BiFunction;" sf) (V_p1 : ArI Z h0 p1 .byte 16 f) :
    JMet l Z (⟨"java/lang/StringLatin1", "charAt", "([BI)C"⟩ : MethodName) jdk_43_method_2_code 2 (some .char) ws ({ frames := 2, cells := 0, slots := 0, locals := 27 } : Room) #[(.ref p1), (.int p2)] h0 (QP (.int (own_ch (f kk))) h0 n0) := by
  refine Jvm.JW.body #[.val (.ref p1), .val (.int p2)] pn4 (ef4 p1 p2) ?_
  intro p e s m below meth c T0 D A F X0 hx hZ hby hml hown hnm hrt hlk e0
  refine A (XS.iloadN X0.here hx rfl (hb hby d4_0) rfl) ?_
  show D (T0.setTop (mkF m 1 #[.val (.ref p1), .val (.int p2)] [(.int p2)]))
  refine A (XS.aloadN X0.here hx rfl (hb hby d4_1) rfl rfl) ?_
  show D (T0.setTop (mkF m 2 #[.val (.ref p1), .val (.int p2)] [(.ref p1), (.int p2)]))
  refine Adv.lenI A X0 hx hZ e0 V_p1 (g := (mkF m 2 #[.val (.ref p1), .val (.int p2)] [(.ref p1), (.int p2)])) rfl rfl (hb hby d4_2) ?_
  show D (T0.setTop (mkF m 3 #[.val (.ref p1), .val (.int p2)] [(.int (16 : Int32)), (.int p2)]))
  refine Adv.callS A X0 hx hZ hown (hw _ (List.mem_of_getElem? (i := 32) rfl)) (hw _ (List.mem_of_getElem? (i := 33) rfl)) (hw _ (List.mem_of_getElem? (i := 2) rfl)) (hw _ (List.mem_of_getElem? (i := 34) rfl)) e0 (rm5 l Z a0 hw [] p2 (16 : Int32) h0 n0 (own_neg hk) (own_l16 hk hk16) sf hsf S_sf) 0 (g := (mkF m 3 #[.val (.ref p1), .val (.int p2)] [(.int (16 : Int32)), (.int p2)])) rfl (by rw [hml]; rfl) [(.int p2), (.int (16 : Int32))] [] rfl (lenOf pd4_0 rfl) rfl (by show 2 * 0 + _ ≤ _; exact Nat.le_of_eq rfl) (hb hby d4_3) (by decide) (by decide) (by decide) (by decide) (by decide) ?_
  rintro T1 L1 _ X1 ⟨rfl, N1_q, e1⟩
  have N1 := Fr.app (Fr.nil n0) N1_q
  show D (T1.setTop (mkF m 6 #[.val (.ref p1), .val (.int p2)] []))
  refine A (XS.aloadN X1.here hx rfl (hb hby d4_6) rfl rfl) ?_
  show D (T1.setTop (mkF m 7 #[.val (.ref p1), .val (.int p2)] [(.ref p1)]))
  refine A (XS.iloadN X1.here hx rfl (hb hby d4_7) rfl) ?_
  show D (T1.setTop (mkF m 8 #[.val (.ref p1), .val (.int p2)] [(.int p2), (.ref p1)]))
  refine Adv.ldB A X1 hx hZ e1 V_p1 (k := kk) hk hk16 (g := (mkF m 8 #[.val (.ref p1), .val (.int p2)] [(.int p2), (.ref p1)])) rfl rfl (hb hby d4_8) ?_
  show D (T1.setTop (mkF m 9 #[.val (.ref p1), .val (.int p2)] [(.int (f kk))]))
  refine A (XS.sipush X1.here hx rfl (hb hby d4_9)) ?_
  show D (T1.setTop (mkF m 12 #[.val (.ref p1), .val (.int p2)] [(.int (255 : Int32)), (.int (f kk))]))
  refine A (XS.iand X1.here hx rfl (hb hby d4_12) rfl) ?_
  show D (T1.setTop (mkF m 13 #[.val (.ref p1), .val (.int p2)] [(.int ((f kk) &&& (255 : Int32)))]))
  refine A (XS.i2c X1.here hx rfl (hb hby d4_13) rfl) ?_
  show D (T1.setTop (mkF m 14 #[.val (.ref p1), .val (.int p2)] [(.int (((f kk) &&& (255 : Int32)).toUInt32.toUInt16.toUInt32.toInt32))]))
  refine F _ (Jvm.JW.ret X1 hlk (v := some (.int (((f kk) &&& (255 : Int32)).toUInt32.toUInt16.toUInt32.toInt32))) (fun h => by rw [hrt] at h; cases h) (fun fs hr => retOut X1 hx hrt (own_nc _) (Or.inl ⟨rfl, Or.inr (Or.inr (Or.inr (Or.inl rfl))), _, rfl⟩) (hb hby d4_14) hr) rfl ?_ (by decide) (by decide))
  exact ⟨rfl, N1, e1⟩
theorem d3_0 : decode jdk_42_method_154_code 0 = .ok (.getstatic 38, 3) := by decide +kernel
theorem d3_3 : decode jdk_42_method_154_code 3 = .ok (.ifCond .eq 14, 3) := by decide +kernel
theorem d3_6 : decode jdk_42_method_154_code 6 = .ok (.aload_n 0, 1) := by decide +kernel
theorem d3_7 : decode jdk_42_method_154_code 7 = .ok (.getfield 15, 3) := by decide +kernel
theorem d3_10 : decode jdk_42_method_154_code 10 = .ok (.ifCond .ne 7, 3) := by decide +kernel
theorem d3_13 : decode jdk_42_method_154_code 13 = .ok (.iconst 1, 1) := by decide +kernel
theorem d3_14 : decode jdk_42_method_154_code 14 = .ok (.goto 4, 3) := by decide +kernel
theorem d3_18 : decode jdk_42_method_154_code 18 = .ok (.ireturn, 1) := by decide +kernel
theorem pn3 : plainFor (⟨"java/lang/String", "isLatin1", "()Z"⟩ : MethodName) = true := by decide +kernel
theorem ef3 (self : Addr) (m : MethodId) : entryFrame m #[(.ref self)] 1 = mkF m 0 #[.val (.ref self)] [] := by first | (simp [entryFrame, mkF, argsToLocals, Value.category]; done) | rfl
set_option maxRecDepth 65536 in
set_option maxHeartbeats 40000000 in
theorem rm3 (l : Launch) (Z : State) (a0 : Array Value) (hw : ∀ d ∈ tables_1, d.before a0 Z = true) (ws : List Jvm.Cond) (self : Addr) (h0 : Heap) (n0 : Nat) (cs : Int32) (hcs : ¬ cs = (0 : Int32)) (S_cs : Sta Z h0 "java/lang/String" "COMPACT_STRINGS" "Z" (.int cs)) (E_self : Exa Z h0 self "java/lang/String") (F_coder : Fld Z h0 self "java/lang/String" "coder" "B" (.int (0 : Int32))) :
    JMet l Z (⟨"java/lang/String", "isLatin1", "()Z"⟩ : MethodName) jdk_42_method_154_code 1 (some .boolean) ws ({ frames := 0, cells := 0, slots := 0, locals := 0 } : Room) #[(.ref self)] h0 (QP (.int (1 : Int32)) h0 n0) := by
  refine Jvm.JW.body #[.val (.ref self)] pn3 (ef3 self) ?_
  intro p e s m below meth c T0 D A F X0 hx hZ hby hml hown hnm hrt hlk e0
  obtain ⟨T1, X1, e1, st1⟩ := getS X0 hx hZ hown (host := "") (hw _ (List.mem_of_getElem? (i := 25) rfl)) Via.refl e0 S_cs (g := (mkF m 0 #[.val (.ref self)] [])) rfl (hb hby d3_0)
  refine A (st1 _) ?_
  show D (T1.setTop (mkF m 3 #[.val (.ref self)] [(.int cs)]))
  refine A (XS.ifNo X1.here hx rfl (hb hby d3_3) rfl ((if0 _ _).trans (feq hcs).1)) ?_
  show D (T1.setTop (mkF m 6 #[.val (.ref self)] []))
  refine A (XS.aloadN X1.here hx rfl (hb hby d3_6) rfl rfl) ?_
  show D (T1.setTop (mkF m 7 #[.val (.ref self)] [(.ref self)]))
  obtain ⟨T2, X2, e2, st2⟩ := getF X1 hx hZ hown (host := "") (Or.inl (hw _ (List.mem_of_getElem? (i := 26) rfl))) Via.refl e1 F_coder (g := (mkF m 7 #[.val (.ref self)] [(.ref self)])) rfl rfl (hb hby d3_7)
  refine A (st2 _) ?_
  show D (T2.setTop (mkF m 10 #[.val (.ref self)] [(.int (0 : Int32))]))
  refine A (XS.ifNo X2.here hx rfl (hb hby d3_10) rfl ((if0 _ _).trans (teq (by decide : (0 : Int32) = (0 : Int32))).2)) ?_
  show D (T2.setTop (mkF m 13 #[.val (.ref self)] []))
  refine A (XS.iconst X2.here hx rfl (hb hby d3_13)) ?_
  show D (T2.setTop (mkF m 14 #[.val (.ref self)] [(.int (1 : Int32))]))
  refine A (XS.goto X2.here hx rfl (pc0 := 14) (pc' := 18) rfl (hb hby d3_14) (by decide) (by decide)) ?_
  show D (T2.setTop (mkF m 18 #[.val (.ref self)] [(.int (1 : Int32))]))
  refine F _ (Jvm.JW.ret X2 hlk (v := some (.int (1 : Int32))) (fun h => by rw [hrt] at h; cases h) (fun fs hr => retOut X2 hx hrt rfl (Or.inl ⟨rfl, Or.inr (Or.inl rfl), _, rfl⟩) (hb hby d3_18) hr) rfl ?_ (by decide) (by decide))
  exact ⟨rfl, (Fr.nil n0), e2⟩
theorem d2_0 : decode jdk_42_method_56_code 0 = .ok (.aload_n 0, 1) := by decide +kernel
theorem d2_1 : decode jdk_42_method_56_code 1 = .ok (.invokevirtual 492, 3) := by decide +kernel
theorem d2_4 : decode jdk_42_method_56_code 4 = .ok (.ifCond .eq 12, 3) := by decide +kernel
theorem d2_7 : decode jdk_42_method_56_code 7 = .ok (.aload_n 0, 1) := by decide +kernel
theorem d2_8 : decode jdk_42_method_56_code 8 = .ok (.getfield 9, 3) := by decide +kernel
theorem d2_11 : decode jdk_42_method_56_code 11 = .ok (.iload_n 1, 1) := by decide +kernel
theorem d2_12 : decode jdk_42_method_56_code 12 = .ok (.invokestatic 495, 3) := by decide +kernel
theorem d2_15 : decode jdk_42_method_56_code 15 = .ok (.ireturn, 1) := by decide +kernel
theorem pn2 : plainFor (⟨"java/lang/String", "charAt", "(I)C"⟩ : MethodName) = true := by decide +kernel
theorem pd2_0 : parseMethodDescriptor "()Z" = some ⟨[], some .boolean⟩ := by decide +kernel
theorem pd2_1 : parseMethodDescriptor "([BI)C" = some ⟨[(.array .byte), .int], some .char⟩ := by decide +kernel
theorem ef2 (self : Addr) (p1 : Int32) (m : MethodId) : entryFrame m #[(.ref self), (.int p1)] 2 = mkF m 0 #[.val (.ref self), .val (.int p1)] [] := by first | (simp [entryFrame, mkF, argsToLocals, Value.category]; done) | rfl
set_option maxRecDepth 65536 in
set_option maxHeartbeats 40000000 in
theorem rm2 (l : Launch) (Z : State) (a0 : Array Value) (hw : ∀ d ∈ tables_1, d.before a0 Z = true) (ws : List Jvm.Cond) (self : Addr) (p1 : Int32) (h0 : Heap) (n0 : Nat) (f : Nat → Int32) (kk : Nat) (hk : p1.toInt = kk) (hk16 : kk < 16) (sf : Value) (hsf : sf.isRef = true) (S_sf : Sta Z h0 "jdk/internal/util/Preconditions" "SIOOBE_FORMATTER" "Ljava/util/function/BiFunction;" sf) (cs : Int32) (hcs : ¬ cs = (0 : Int32)) (S_cs : Sta Z h0 "java/lang/String" "COMPACT_STRINGS" "Z" (.int cs)) (E_self : Exa Z h0 self "java/lang/String") (F_coder : Fld Z h0 self "java/lang/String" "coder" "B" (.int (0 : Int32))) (bb : Addr) (F_value : Fld Z h0 self "java/lang/String" "value" "[B" (.ref bb)) (V_bb : ArI Z h0 bb .byte 16 f) :
    JMet l Z (⟨"java/lang/String", "charAt", "(I)C"⟩ : MethodName) jdk_42_method_56_code 2 (some .char) ws ({ frames := 3, cells := 0, slots := 0, locals := 40 } : Room) #[(.ref self), (.int p1)] h0 (QP (.int (own_ch (f kk))) h0 n0) := by
  refine Jvm.JW.body #[.val (.ref self), .val (.int p1)] pn2 (ef2 self p1) ?_
  intro p e s m below meth c T0 D A F X0 hx hZ hby hml hown hnm hrt hlk e0
  refine A (XS.aloadN X0.here hx rfl (hb hby d2_0) rfl rfl) ?_
  show D (T0.setTop (mkF m 1 #[.val (.ref self), .val (.int p1)] [(.ref self)]))
  refine Adv.callV A X0 hx hZ hown (hw _ (List.mem_of_getElem? (i := 20) rfl)) (hw _ (List.mem_of_getElem? (i := 21) rfl)) (notFace_of_selects (args := #[]) (mvT hZ (hw _ (List.mem_of_getElem? (i := 23) rfl)))) (hw _ (List.mem_of_getElem? (i := 23) rfl)) (hw _ (List.mem_of_getElem? (i := 22) rfl)) (hw _ (List.mem_of_getElem? (i := 2) rfl)) (hw _ (List.mem_of_getElem? (i := 24) rfl)) e0 E_self (rm3 l Z a0 hw [] self h0 n0 cs hcs S_cs E_self F_coder) 0 (g := (mkF m 1 #[.val (.ref self), .val (.int p1)] [(.ref self)])) rfl (by rw [hml]; rfl) [] [] rfl (lenOf pd2_0 rfl) rfl (by show 2 * 0 + _ ≤ _; exact Nat.le_of_eq rfl) (hb hby d2_1) (by decide) (by decide) (by decide) (by decide) (by decide) ?_
  rintro T1 L1 _ X1 ⟨rfl, N1_q, e1⟩
  have N1 := Fr.app (Fr.nil n0) N1_q
  show D (T1.setTop (mkF m 4 #[.val (.ref self), .val (.int p1)] [(.int (1 : Int32))]))
  refine A (XS.ifNo X1.here hx rfl (hb hby d2_4) rfl ((if0 _ _).trans (feq (by decide : ¬ ((1 : Int32) = (0 : Int32)))).1)) ?_
  show D (T1.setTop (mkF m 7 #[.val (.ref self), .val (.int p1)] []))
  refine A (XS.aloadN X1.here hx rfl (hb hby d2_7) rfl rfl) ?_
  show D (T1.setTop (mkF m 8 #[.val (.ref self), .val (.int p1)] [(.ref self)]))
  obtain ⟨T2, X2, e2, st2⟩ := getF X1 hx hZ hown (host := "") (Or.inl (hw _ (List.mem_of_getElem? (i := 27) rfl))) Via.refl e1 F_value (g := (mkF m 8 #[.val (.ref self), .val (.int p1)] [(.ref self)])) rfl rfl (hb hby d2_8)
  refine A (st2 _) ?_
  show D (T2.setTop (mkF m 11 #[.val (.ref self), .val (.int p1)] [(.ref bb)]))
  refine A (XS.iloadN X2.here hx rfl (hb hby d2_11) rfl) ?_
  show D (T2.setTop (mkF m 12 #[.val (.ref self), .val (.int p1)] [(.int p1), (.ref bb)]))
  refine Adv.callS A X2 hx hZ hown (hw _ (List.mem_of_getElem? (i := 28) rfl)) (hw _ (List.mem_of_getElem? (i := 29) rfl)) (hw _ (List.mem_of_getElem? (i := 30) rfl)) (hw _ (List.mem_of_getElem? (i := 31) rfl)) e2 (rm4 l Z a0 hw [] bb p1 h0 n0 f kk hk hk16 sf hsf S_sf V_bb) 0 (g := (mkF m 12 #[.val (.ref self), .val (.int p1)] [(.int p1), (.ref bb)])) rfl (by rw [hml]; rfl) [(.ref bb), (.int p1)] [] rfl (lenOf pd2_1 rfl) rfl (by show 2 * 0 + _ ≤ _; exact Nat.le_of_eq rfl) (hb hby d2_12) (by decide) (by decide) (by decide) (by decide) (by decide) ?_
  rintro T3 L3 _ X3 ⟨rfl, N3_q, e3⟩
  have N3 := Fr.app N1 N3_q
  show D (T3.setTop (mkF m 15 #[.val (.ref self), .val (.int p1)] [(.int (own_ch (f kk)))]))
  refine F _ (Jvm.JW.ret X3 hlk (v := some (.int (own_ch (f kk)))) (fun h => by rw [hrt] at h; cases h) (fun fs hr => retOut X3 hx hrt (own_nc _) (Or.inl ⟨rfl, Or.inr (Or.inr (Or.inr (Or.inl rfl))), _, rfl⟩) (hb hby d2_15) hr) rfl ?_ (by decide) (by decide))
  exact ⟨rfl, N3, e3⟩
theorem pn0 : plainFor x = true := by decide +kernel
theorem pd0_0 : parseMethodDescriptor "(C)I" = some ⟨[.char], some .int⟩ := by decide +kernel
theorem pd0_1 : parseMethodDescriptor "(I)C" = some ⟨[.int], some .char⟩ := by decide +kernel
theorem ef0 (p1 : Int32) (p2 : Int32) (m : MethodId) : entryFrame m #[(.int p1), (.int p2)] maxLocals = mkF m 0 #[.val (.int p1), .val (.int p2), .unset, .unset, .unset, .unset, .unset, .unset, .unset, .unset] [] := by first | (simp [entryFrame, mkF, argsToLocals, Value.category, maxLocals]; done) | rfl
set_option maxRecDepth 65536 in
set_option maxHeartbeats 40000000 in
theorem rm0 (l : Launch) (Z : State) (a0 : Array Value) (hw : ∀ d ∈ tables_1, d.before a0 Z = true) (ws : List Jvm.Cond) (p1 : Int32) (p2 : Int32) (h0 : Heap) (n0 : Nat) (Z0 : n0 ≤ h0.size) (k8 : Jvm.Lit.constHeld Z "com/example/stringified_tags/stringifiedtags/SnbtNumbersDigitValuePinLaw" 8) (k10 : Jvm.Lit.constHeld Z "com/example/stringified_tags/stringifiedtags/SnbtNumbersDigitValuePinLaw" 10) (hcw : Jvm.Lit.compactW.before a0 Z = true) (cs : Int32) (hcs : ¬ cs = (0 : Int32)) (S_cs : Sta Z h0 "java/lang/String" "COMPACT_STRINGS" "Z" (.int cs)) (sf : Value) (hsf : sf.isRef = true) (S_sf : Sta Z h0 "jdk/internal/util/Preconditions" "SIOOBE_FORMATTER" "Ljava/util/function/BiFunction;" sf) :
    JMetW l Z x code maxLocals ret ws room_1 #[(.int p1), (.int p2)] h0 (QL n0) := by
  refine Jvm.JW.bodyW #[.val (.int p1), .val (.int p2), .unset, .unset, .unset, .unset, .unset, .unset, .unset, .unset] pn0 (ef0 p1 p2) ?_
  intro p e s m below meth c T0 D A F X0 hx hsZ hZ hby hml hown hnm hrt hlk e0 hsh
  refine A (XS.iloadN X0.here hx rfl (hb hby at_0) rfl) ?_
  show D (T0.setTop (mkF m 1 #[.val (.int p1), .val (.int p2), .unset, .unset, .unset, .unset, .unset, .unset, .unset, .unset] [(.int p1)]))
  refine A (X0.ldcInt hx hown (mvT hZ (hw _ (List.mem_of_getElem? (i := 0) rfl))) (g := (mkF m 1 #[.val (.int p1), .val (.int p2), .unset, .unset, .unset, .unset, .unset, .unset, .unset, .unset] [(.int p1)])) rfl (hb hby at_1) _) ?_
  show D (T0.setTop (mkF m 3 #[.val (.int p1), .val (.int p2), .unset, .unset, .unset, .unset, .unset, .unset, .unset, .unset] [(.int (65535 : Int32)), (.int p1)]))
  refine A (XS.iand X0.here hx rfl (hb hby at_3) rfl) ?_
  show D (T0.setTop (mkF m 4 #[.val (.int p1), .val (.int p2), .unset, .unset, .unset, .unset, .unset, .unset, .unset, .unset] [(.int (p1 &&& (65535 : Int32)))]))
  refine A (XS.i2c X0.here hx rfl (hb hby at_4) rfl) ?_
  show D (T0.setTop (mkF m 5 #[.val (.int p1), .val (.int p2), .unset, .unset, .unset, .unset, .unset, .unset, .unset, .unset] [(.int ((p1 &&& (65535 : Int32)).toUInt32.toUInt16.toUInt32.toInt32))]))
  refine A (XS.istoreN X0.here hx rfl (hb hby at_5) rfl (l' := #[.val (.int p1), .val (.int p2), .val (.int ((p1 &&& (65535 : Int32)).toUInt32.toUInt16.toUInt32.toInt32)), .unset, .unset, .unset, .unset, .unset, .unset, .unset]) rfl) ?_
  show D (T0.setTop (mkF m 6 #[.val (.int p1), .val (.int p2), .val (.int ((p1 &&& (65535 : Int32)).toUInt32.toUInt16.toUInt32.toInt32)), .unset, .unset, .unset, .unset, .unset, .unset, .unset] []))
  suffices Kx2_6 : ∀ x2_6 : Int32, x2_6 = ((p1 &&& (65535 : Int32)).toUInt32.toUInt16.toUInt32.toInt32) → D (T0.setTop (mkF m 6 #[.val (.int p1), .val (.int p2), .val (.int x2_6), .unset, .unset, .unset, .unset, .unset, .unset, .unset] [])) from Kx2_6 _ rfl
  intro x2_6 hx2_6
  have wS : ∀ d ∈ Bundle.stringAtoms, d.before a0 Z = true := by
    intro d hd
    simp only [Bundle.stringAtoms, List.mem_cons, List.not_mem_nil, or_false] at hd
    rcases hd with rfl | rfl | rfl | rfl | rfl | rfl | rfl
    · exact (hw _ (List.mem_of_getElem? (i := 2) rfl))
    · exact (hw _ (List.mem_of_getElem? (i := 3) rfl))
    · exact (hw _ (List.mem_of_getElem? (i := 4) rfl))
    · exact (hw _ (List.mem_of_getElem? (i := 5) rfl))
    · exact (hw _ (List.mem_of_getElem? (i := 6) rfl))
    · exact (hw _ (List.mem_of_getElem? (i := 7) rfl))
    · exact (hw _ (List.mem_of_getElem? (i := 8) rfl))
  have hkeep : ∀ (b : Addr) (cl : Cell), Z.heap[b]? = some cl → s.heap[b]? = some cl := fun b cl q => hsZ ▸ q
  have I0 : IB Z s.vm [] := by rw [hsZ]; exact IB.start
  have X00 : Stand p l e room_1 (s.setVm s.vm) m #[(.int p1), (.int p2)] below meth c T0 [] 0 0 := X0
  obtain ⟨sa1, T1, h1, k1, sb1, kb1, X1, e1, E1, hS, hk1, hZ, hown, EX1, FC1, FV1, AV1, -, -, I1, st1⟩ := ldcSV (s := s) X00 hx hZ hown (hw _ (List.mem_of_getElem? (i := 1) rfl)) wS e0 ((State.WarmedH.refl s).since 0) (Nat.zero_le _) (Fr.nil _) hkeep I0 (by simp) k8 hcw own_tlo (z := Int32.ofNat 16) (by decide) (by decide) (g := (mkF m 6 #[.val (.int p1), .val (.int p2), .val (.int x2_6), .unset, .unset, .unset, .unset, .unset, .unset, .unset] [])) rfl (hb hby at_6) (n := 64) (by decide) (by decide) (by decide) (by decide)
  have V_sb1 : ArI Z h1 sb1 .byte 16 own_flo := (Arv.toI (n := 16) AV1 (by decide) (by simp)).1
  have S_cs1 := Sta.ext E1 S_cs
  have S_sf1 := Sta.ext E1 S_sf
  have Z_1 : n0 ≤ h1.size := Nat.le_trans Z0 E1.1
  refine A (st1 _) ?_
  show D (T1.setTop (mkF m 8 #[.val (.int p1), .val (.int p2), .val (.int x2_6), .unset, .unset, .unset, .unset, .unset, .unset, .unset] [(.ref sa1)]))
  refine A (XS.astoreN X1.here hx rfl (hb hby at_8) rfl rfl (l' := #[.val (.int p1), .val (.int p2), .val (.int x2_6), .val (.ref sa1), .unset, .unset, .unset, .unset, .unset, .unset]) rfl) ?_
  show D (T1.setTop (mkF m 9 #[.val (.int p1), .val (.int p2), .val (.int x2_6), .val (.ref sa1), .unset, .unset, .unset, .unset, .unset, .unset] []))
  obtain ⟨sa2, T2, h2, k1, sb2, kb2, X2, e2, E2, hS, hk1, hZ, hown, EX2, FC2, FV2, AV2, -, -, I1, st2⟩ := ldcSV (s := s) X1 hx hZ hown (hw _ (List.mem_of_getElem? (i := 9) rfl)) wS e1 hS hk1 (Fr.nil _) hkeep I1 (by decide) k10 hcw own_thi (z := Int32.ofNat 16) (by decide) (by decide) (g := (mkF m 9 #[.val (.int p1), .val (.int p2), .val (.int x2_6), .val (.ref sa1), .unset, .unset, .unset, .unset, .unset, .unset] [])) rfl (hb hby at_9) (n := 64) (by decide) (by decide) (by decide) (by decide)
  have V_sb2 : ArI Z h2 sb2 .byte 16 own_fhi := (Arv.toI (n := 16) AV2 (by decide) (by simp)).1
  have S_cs2 := Sta.ext E2 S_cs1
  have S_sf2 := Sta.ext E2 S_sf1
  have E_sa1_2 := EX1.ext E2
  have FC_sa1_2 := FC1.ext E2
  have FV_sa1_2 := FV1.ext E2
  have V_sb1_2 := V_sb1.ext E2
  have Z_2 : n0 ≤ h2.size := Nat.le_trans Z_1 E2.1
  refine A (st2 _) ?_
  show D (T2.setTop (mkF m 11 #[.val (.int p1), .val (.int p2), .val (.int x2_6), .val (.ref sa1), .unset, .unset, .unset, .unset, .unset, .unset] [(.ref sa2)]))
  refine A (XS.astore X2.here hx rfl (hb hby at_11) rfl rfl (l' := #[.val (.int p1), .val (.int p2), .val (.int x2_6), .val (.ref sa1), .val (.ref sa2), .unset, .unset, .unset, .unset, .unset]) rfl) ?_
  show D (T2.setTop (mkF m 13 #[.val (.int p1), .val (.int p2), .val (.int x2_6), .val (.ref sa1), .val (.ref sa2), .unset, .unset, .unset, .unset, .unset] []))
  refine A (XS.iloadN X2.here hx rfl (hb hby at_13) rfl) ?_
  show D (T2.setTop (mkF m 14 #[.val (.int p1), .val (.int p2), .val (.int x2_6), .val (.ref sa1), .val (.ref sa2), .unset, .unset, .unset, .unset, .unset] [(.int x2_6)]))
  refine Adv.callS A X2 hx hZ hown (hw _ (List.mem_of_getElem? (i := 10) rfl)) (hw _ (List.mem_of_getElem? (i := 11) rfl)) (hw _ (List.mem_of_getElem? (i := 12) rfl)) (hw _ (List.mem_of_getElem? (i := 13) rfl)) e2 (rm1 l Z a0 hw [] x2_6 h2 n0) 0 (g := (mkF m 14 #[.val (.int p1), .val (.int p2), .val (.int x2_6), .val (.ref sa1), .val (.ref sa2), .unset, .unset, .unset, .unset, .unset] [(.int x2_6)])) rfl (by rw [hml]; rfl) [(.int x2_6)] [] rfl (lenOf pd0_0 rfl) rfl (by show 2 * 0 + _ ≤ _; exact Nat.le_of_eq rfl) (hb hby at_14) (by decide) (by decide) (by decide) (by decide) (by decide) ?_
  rintro T3 L3 _ X3 ⟨rfl, N3_q, e3⟩
  have N3 := Fr.app (Fr.nil n0) N3_q
  show D (T3.setTop (mkF m 17 #[.val (.int p1), .val (.int p2), .val (.int x2_6), .val (.ref sa1), .val (.ref sa2), .unset, .unset, .unset, .unset, .unset] [(.int (f1 x2_6))]))
  refine A (XS.istore X3.here hx rfl (hb hby at_17) rfl (l' := #[.val (.int p1), .val (.int p2), .val (.int x2_6), .val (.ref sa1), .val (.ref sa2), .val (.int (f1 x2_6)), .unset, .unset, .unset, .unset]) rfl) ?_
  show D (T3.setTop (mkF m 19 #[.val (.int p1), .val (.int p2), .val (.int x2_6), .val (.ref sa1), .val (.ref sa2), .val (.int (f1 x2_6)), .unset, .unset, .unset, .unset] []))
  suffices Kx5_19 : ∀ x5_19 : Int32, x5_19 = (f1 x2_6) → D (T3.setTop (mkF m 19 #[.val (.int p1), .val (.int p2), .val (.int x2_6), .val (.ref sa1), .val (.ref sa2), .val (.int x5_19), .unset, .unset, .unset, .unset] [])) from Kx5_19 _ rfl
  intro x5_19 hx5_19
  refine A (XS.iload X3.here hx rfl (hb hby at_19) rfl) ?_
  show D (T3.setTop (mkF m 21 #[.val (.int p1), .val (.int p2), .val (.int x2_6), .val (.ref sa1), .val (.ref sa2), .val (.int x5_19), .unset, .unset, .unset, .unset] [(.int x5_19)]))
  suffices Km36_4 : ∀ (v36s0 : Int32), v36s0 = (if x5_19 < (0 : Int32) then (0 : Int32) else (if (16 : Int32) < x5_19 then (0 : Int32) else (1 : Int32))) → D (T3.setTop (mkF m 36 #[.val (.int p1), .val (.int p2), .val (.int x2_6), .val (.ref sa1), .val (.ref sa2), .val (.int x5_19), .unset, .unset, .unset, .unset] [(.int v36s0)])) by
    by_cases c21_0 : x5_19 < (0 : Int32)
    · refine A (XS.ifYes X3.here hx rfl (pc0 := 21) (pc' := 35) rfl (hb hby at_21) rfl ((if0 _ _).trans (tlt c21_0).1) (by decide) (by decide)) ?_
      show D (T3.setTop (mkF m 35 #[.val (.int p1), .val (.int p2), .val (.int x2_6), .val (.ref sa1), .val (.ref sa2), .val (.int x5_19), .unset, .unset, .unset, .unset] []))
      refine A (XS.iconst X3.here hx rfl (hb hby at_35)) ?_
      show D (T3.setTop (mkF m 36 #[.val (.int p1), .val (.int p2), .val (.int x2_6), .val (.ref sa1), .val (.ref sa2), .val (.int x5_19), .unset, .unset, .unset, .unset] [(.int (0 : Int32))]))
      exact Km36_4 _ ((if_pos c21_0)).symm
    · refine A (XS.ifNo X3.here hx rfl (hb hby at_21) rfl ((if0 _ _).trans (flt c21_0).1)) ?_
      show D (T3.setTop (mkF m 24 #[.val (.int p1), .val (.int p2), .val (.int x2_6), .val (.ref sa1), .val (.ref sa2), .val (.int x5_19), .unset, .unset, .unset, .unset] []))
      refine A (XS.iload X3.here hx rfl (hb hby at_24) rfl) ?_
      show D (T3.setTop (mkF m 26 #[.val (.int p1), .val (.int p2), .val (.int x2_6), .val (.ref sa1), .val (.ref sa2), .val (.int x5_19), .unset, .unset, .unset, .unset] [(.int x5_19)]))
      refine A (XS.bipush X3.here hx rfl (hb hby at_26)) ?_
      show D (T3.setTop (mkF m 28 #[.val (.int p1), .val (.int p2), .val (.int x2_6), .val (.ref sa1), .val (.ref sa2), .val (.int x5_19), .unset, .unset, .unset, .unset] [(.int (16 : Int32)), (.int x5_19)]))
      by_cases c28_1 : (16 : Int32) < x5_19
      · refine A (XS.icmpYes X3.here hx rfl (pc0 := 28) (pc' := 35) rfl (hb hby at_28) rfl (tlt c28_1).2.2.1 (by decide) (by decide)) ?_
        show D (T3.setTop (mkF m 35 #[.val (.int p1), .val (.int p2), .val (.int x2_6), .val (.ref sa1), .val (.ref sa2), .val (.int x5_19), .unset, .unset, .unset, .unset] []))
        refine A (XS.iconst X3.here hx rfl (hb hby at_35)) ?_
        show D (T3.setTop (mkF m 36 #[.val (.int p1), .val (.int p2), .val (.int x2_6), .val (.ref sa1), .val (.ref sa2), .val (.int x5_19), .unset, .unset, .unset, .unset] [(.int (0 : Int32))]))
        exact Km36_4 _ (((if_neg c21_0)).trans (if_pos c28_1)).symm
      · refine A (XS.icmpNo X3.here hx rfl (hb hby at_28) rfl (flt c28_1).2.2.1) ?_
        show D (T3.setTop (mkF m 31 #[.val (.int p1), .val (.int p2), .val (.int x2_6), .val (.ref sa1), .val (.ref sa2), .val (.int x5_19), .unset, .unset, .unset, .unset] []))
        refine A (XS.iconst X3.here hx rfl (hb hby at_31)) ?_
        show D (T3.setTop (mkF m 32 #[.val (.int p1), .val (.int p2), .val (.int x2_6), .val (.ref sa1), .val (.ref sa2), .val (.int x5_19), .unset, .unset, .unset, .unset] [(.int (1 : Int32))]))
        refine A (XS.goto X3.here hx rfl (pc0 := 32) (pc' := 36) rfl (hb hby at_32) (by decide) (by decide)) ?_
        show D (T3.setTop (mkF m 36 #[.val (.int p1), .val (.int p2), .val (.int x2_6), .val (.ref sa1), .val (.ref sa2), .val (.int x5_19), .unset, .unset, .unset, .unset] [(.int (1 : Int32))]))
        exact Km36_4 _ (((if_neg c21_0)).trans (if_neg c28_1)).symm
  intro v36s0 hv36s0
  show D (T3.setTop (mkF m 36 #[.val (.int p1), .val (.int p2), .val (.int x2_6), .val (.ref sa1), .val (.ref sa2), .val (.int x5_19), .unset, .unset, .unset, .unset] [(.int v36s0)]))
  refine A (XS.istore X3.here hx rfl (hb hby at_36) rfl (l' := #[.val (.int p1), .val (.int p2), .val (.int x2_6), .val (.ref sa1), .val (.ref sa2), .val (.int x5_19), .val (.int v36s0), .unset, .unset, .unset]) rfl) ?_
  show D (T3.setTop (mkF m 38 #[.val (.int p1), .val (.int p2), .val (.int x2_6), .val (.ref sa1), .val (.ref sa2), .val (.int x5_19), .val (.int v36s0), .unset, .unset, .unset] []))
  refine A (XS.iload X3.here hx rfl (hb hby at_38) rfl) ?_
  show D (T3.setTop (mkF m 40 #[.val (.int p1), .val (.int p2), .val (.int x2_6), .val (.ref sa1), .val (.ref sa2), .val (.int x5_19), .val (.int v36s0), .unset, .unset, .unset] [(.int x5_19)]))
  refine A (XS.bipush X3.here hx rfl (hb hby at_40)) ?_
  show D (T3.setTop (mkF m 42 #[.val (.int p1), .val (.int p2), .val (.int x2_6), .val (.ref sa1), .val (.ref sa2), .val (.int x5_19), .val (.int v36s0), .unset, .unset, .unset] [(.int (16 : Int32)), (.int x5_19)]))
  by_cases c42_5 : x5_19 = (16 : Int32)
  · refine A (XS.icmpYes X3.here hx rfl (pc0 := 42) (pc' := 78) rfl (hb hby at_42) rfl (teq c42_5).1 (by decide) (by decide)) ?_
    show D (T3.setTop (mkF m 78 #[.val (.int p1), .val (.int p2), .val (.int x2_6), .val (.ref sa1), .val (.ref sa2), .val (.int x5_19), .val (.int v36s0), .unset, .unset, .unset] []))
    refine A (XS.iconst X3.here hx rfl (hb hby at_78)) ?_
    show D (T3.setTop (mkF m 79 #[.val (.int p1), .val (.int p2), .val (.int x2_6), .val (.ref sa1), .val (.ref sa2), .val (.int x5_19), .val (.int v36s0), .unset, .unset, .unset] [(.int (1 : Int32))]))
    refine A (XS.goto X3.here hx rfl (pc0 := 79) (pc' := 83) rfl (hb hby at_79) (by decide) (by decide)) ?_
    show D (T3.setTop (mkF m 83 #[.val (.int p1), .val (.int p2), .val (.int x2_6), .val (.ref sa1), .val (.ref sa2), .val (.int x5_19), .val (.int v36s0), .unset, .unset, .unset] [(.int (1 : Int32))]))
    refine A (XS.istore X3.here hx rfl (hb hby at_83) rfl (l' := #[.val (.int p1), .val (.int p2), .val (.int x2_6), .val (.ref sa1), .val (.ref sa2), .val (.int x5_19), .val (.int v36s0), .val (.int (1 : Int32)), .unset, .unset]) rfl) ?_
    show D (T3.setTop (mkF m 85 #[.val (.int p1), .val (.int p2), .val (.int x2_6), .val (.ref sa1), .val (.ref sa2), .val (.int x5_19), .val (.int v36s0), .val (.int (1 : Int32)), .unset, .unset] []))
    refine A (XS.iloadN X3.here hx rfl (hb hby at_85) rfl) ?_
    show D (T3.setTop (mkF m 86 #[.val (.int p1), .val (.int p2), .val (.int x2_6), .val (.ref sa1), .val (.ref sa2), .val (.int x5_19), .val (.int v36s0), .val (.int (1 : Int32)), .unset, .unset] [(.int p2)]))
    refine A (X3.ldcInt hx hown (mvT hZ (hw _ (List.mem_of_getElem? (i := 14) rfl))) (g := (mkF m 86 #[.val (.int p1), .val (.int p2), .val (.int x2_6), .val (.ref sa1), .val (.ref sa2), .val (.int x5_19), .val (.int v36s0), .val (.int (1 : Int32)), .unset, .unset] [(.int p2)])) rfl (hb hby at_86) _) ?_
    show D (T3.setTop (mkF m 88 #[.val (.int p1), .val (.int p2), .val (.int x2_6), .val (.ref sa1), .val (.ref sa2), .val (.int x5_19), .val (.int v36s0), .val (.int (1 : Int32)), .unset, .unset] [(.int (2147483647 : Int32)), (.int p2)]))
    refine A (XS.iand X3.here hx rfl (hb hby at_88) rfl) ?_
    show D (T3.setTop (mkF m 89 #[.val (.int p1), .val (.int p2), .val (.int x2_6), .val (.ref sa1), .val (.ref sa2), .val (.int x5_19), .val (.int v36s0), .val (.int (1 : Int32)), .unset, .unset] [(.int (p2 &&& (2147483647 : Int32)))]))
    refine A (XS.bipush X3.here hx rfl (hb hby at_89)) ?_
    show D (T3.setTop (mkF m 91 #[.val (.int p1), .val (.int p2), .val (.int x2_6), .val (.ref sa1), .val (.ref sa2), .val (.int x5_19), .val (.int v36s0), .val (.int (1 : Int32)), .unset, .unset] [(.int (16 : Int32)), (.int (p2 &&& (2147483647 : Int32)))]))
    refine A (iremM X3 hx rfl (hb hby at_91) rfl (by decide)) ?_
    show D (T3.setTop (mkF m 92 #[.val (.int p1), .val (.int p2), .val (.int x2_6), .val (.ref sa1), .val (.ref sa2), .val (.int x5_19), .val (.int v36s0), .val (.int (1 : Int32)), .unset, .unset] [(.int ((p2 &&& (2147483647 : Int32)) % (16 : Int32)))]))
    refine A (XS.istore X3.here hx rfl (hb hby at_92) rfl (l' := #[.val (.int p1), .val (.int p2), .val (.int x2_6), .val (.ref sa1), .val (.ref sa2), .val (.int x5_19), .val (.int v36s0), .val (.int (1 : Int32)), .val (.int ((p2 &&& (2147483647 : Int32)) % (16 : Int32))), .unset]) rfl) ?_
    show D (T3.setTop (mkF m 94 #[.val (.int p1), .val (.int p2), .val (.int x2_6), .val (.ref sa1), .val (.ref sa2), .val (.int x5_19), .val (.int v36s0), .val (.int (1 : Int32)), .val (.int ((p2 &&& (2147483647 : Int32)) % (16 : Int32))), .unset] []))
    suffices Kx8_94 : ∀ x8_94 : Int32, x8_94 = ((p2 &&& (2147483647 : Int32)) % (16 : Int32)) → D (T3.setTop (mkF m 94 #[.val (.int p1), .val (.int p2), .val (.int x2_6), .val (.ref sa1), .val (.ref sa2), .val (.int x5_19), .val (.int v36s0), .val (.int (1 : Int32)), .val (.int x8_94), .unset] [])) from Kx8_94 _ rfl
    intro x8_94 hx8_94
    obtain ⟨kv, hkv, hkv16⟩ := own_v hx8_94
    refine A (XS.aloadN X3.here hx rfl (hb hby at_94) rfl rfl) ?_
    show D (T3.setTop (mkF m 95 #[.val (.int p1), .val (.int p2), .val (.int x2_6), .val (.ref sa1), .val (.ref sa2), .val (.int x5_19), .val (.int v36s0), .val (.int (1 : Int32)), .val (.int x8_94), .unset] [(.ref sa1)]))
    refine A (XS.iload X3.here hx rfl (hb hby at_95) rfl) ?_
    show D (T3.setTop (mkF m 97 #[.val (.int p1), .val (.int p2), .val (.int x2_6), .val (.ref sa1), .val (.ref sa2), .val (.int x5_19), .val (.int v36s0), .val (.int (1 : Int32)), .val (.int x8_94), .unset] [(.int x8_94), (.ref sa1)]))
    refine Adv.callV A X3 hx hZ hown (hw _ (List.mem_of_getElem? (i := 15) rfl)) (hw _ (List.mem_of_getElem? (i := 16) rfl)) (notFace_of_selects (args := #[]) (mvT hZ (hw _ (List.mem_of_getElem? (i := 18) rfl)))) (hw _ (List.mem_of_getElem? (i := 18) rfl)) (hw _ (List.mem_of_getElem? (i := 17) rfl)) (hw _ (List.mem_of_getElem? (i := 2) rfl)) (hw _ (List.mem_of_getElem? (i := 19) rfl)) e3 E_sa1_2 (rm2 l Z a0 hw [] sa1 x8_94 h2 n0 own_flo kv hkv hkv16 sf hsf S_sf2 cs hcs S_cs2 E_sa1_2 FC_sa1_2 sb1 FV_sa1_2 V_sb1_2) 0 (g := (mkF m 97 #[.val (.int p1), .val (.int p2), .val (.int x2_6), .val (.ref sa1), .val (.ref sa2), .val (.int x5_19), .val (.int v36s0), .val (.int (1 : Int32)), .val (.int x8_94), .unset] [(.int x8_94), (.ref sa1)])) rfl (by rw [hml]; rfl) [(.int x8_94)] [] rfl (lenOf pd0_1 rfl) rfl (by show 2 * 0 + _ ≤ _; exact Nat.le_of_eq rfl) (hb hby at_97) (by decide) (by decide) (by decide) (by decide) (by decide) ?_
    rintro T6 L6 _ X6 ⟨rfl, N6_q, e6⟩
    have N6 := Fr.app N3 N6_q
    show D (T6.setTop (mkF m 100 #[.val (.int p1), .val (.int p2), .val (.int x2_6), .val (.ref sa1), .val (.ref sa2), .val (.int x5_19), .val (.int v36s0), .val (.int (1 : Int32)), .val (.int x8_94), .unset] [(.int (own_ch (own_flo kv)))]))
    refine Adv.callS A X6 hx hZ hown (hw _ (List.mem_of_getElem? (i := 10) rfl)) (hw _ (List.mem_of_getElem? (i := 11) rfl)) (hw _ (List.mem_of_getElem? (i := 12) rfl)) (hw _ (List.mem_of_getElem? (i := 13) rfl)) e6 (rm1 l Z a0 hw [] (own_ch (own_flo kv)) h2 n0) 0 (g := (mkF m 100 #[.val (.int p1), .val (.int p2), .val (.int x2_6), .val (.ref sa1), .val (.ref sa2), .val (.int x5_19), .val (.int v36s0), .val (.int (1 : Int32)), .val (.int x8_94), .unset] [(.int (own_ch (own_flo kv)))])) rfl (by rw [hml]; rfl) [(.int (own_ch (own_flo kv)))] [] rfl (lenOf pd0_0 rfl) rfl (by show 2 * 0 + _ ≤ _; exact Nat.le_of_eq rfl) (hb hby at_100) (by decide) (by decide) (by decide) (by decide) (by decide) ?_
    rintro T7 L7 _ X7 ⟨rfl, N7_q, e7⟩
    have N7 := Fr.app N6 N7_q
    show D (T7.setTop (mkF m 103 #[.val (.int p1), .val (.int p2), .val (.int x2_6), .val (.ref sa1), .val (.ref sa2), .val (.int x5_19), .val (.int v36s0), .val (.int (1 : Int32)), .val (.int x8_94), .unset] [(.int (f1 (own_ch (own_flo kv))))]))
    refine A (XS.iload X7.here hx rfl (hb hby at_103) rfl) ?_
    show D (T7.setTop (mkF m 105 #[.val (.int p1), .val (.int p2), .val (.int x2_6), .val (.ref sa1), .val (.ref sa2), .val (.int x5_19), .val (.int v36s0), .val (.int (1 : Int32)), .val (.int x8_94), .unset] [(.int x8_94), (.int (f1 (own_ch (own_flo kv))))]))
    by_cases c105_8 : (f1 (own_ch (own_flo kv))) = x8_94
    · refine A (XS.icmpNo X7.here hx rfl (hb hby at_105) rfl (teq c105_8).2) ?_
      show D (T7.setTop (mkF m 108 #[.val (.int p1), .val (.int p2), .val (.int x2_6), .val (.ref sa1), .val (.ref sa2), .val (.int x5_19), .val (.int v36s0), .val (.int (1 : Int32)), .val (.int x8_94), .unset] []))
      refine A (XS.aload X7.here hx rfl (hb hby at_108) rfl rfl) ?_
      show D (T7.setTop (mkF m 110 #[.val (.int p1), .val (.int p2), .val (.int x2_6), .val (.ref sa1), .val (.ref sa2), .val (.int x5_19), .val (.int v36s0), .val (.int (1 : Int32)), .val (.int x8_94), .unset] [(.ref sa2)]))
      refine A (XS.iload X7.here hx rfl (hb hby at_110) rfl) ?_
      show D (T7.setTop (mkF m 112 #[.val (.int p1), .val (.int p2), .val (.int x2_6), .val (.ref sa1), .val (.ref sa2), .val (.int x5_19), .val (.int v36s0), .val (.int (1 : Int32)), .val (.int x8_94), .unset] [(.int x8_94), (.ref sa2)]))
      refine Adv.callV A X7 hx hZ hown (hw _ (List.mem_of_getElem? (i := 15) rfl)) (hw _ (List.mem_of_getElem? (i := 16) rfl)) (notFace_of_selects (args := #[]) (mvT hZ (hw _ (List.mem_of_getElem? (i := 18) rfl)))) (hw _ (List.mem_of_getElem? (i := 18) rfl)) (hw _ (List.mem_of_getElem? (i := 17) rfl)) (hw _ (List.mem_of_getElem? (i := 2) rfl)) (hw _ (List.mem_of_getElem? (i := 19) rfl)) e7 EX2 (rm2 l Z a0 hw [] sa2 x8_94 h2 n0 own_fhi kv hkv hkv16 sf hsf S_sf2 cs hcs S_cs2 EX2 FC2 sb2 FV2 V_sb2) 0 (g := (mkF m 112 #[.val (.int p1), .val (.int p2), .val (.int x2_6), .val (.ref sa1), .val (.ref sa2), .val (.int x5_19), .val (.int v36s0), .val (.int (1 : Int32)), .val (.int x8_94), .unset] [(.int x8_94), (.ref sa2)])) rfl (by rw [hml]; rfl) [(.int x8_94)] [] rfl (lenOf pd0_1 rfl) rfl (by show 2 * 0 + _ ≤ _; exact Nat.le_of_eq rfl) (hb hby at_112) (by decide) (by decide) (by decide) (by decide) (by decide) ?_
      rintro T9 L9 _ X9 ⟨rfl, N9_q, e9⟩
      have N9 := Fr.app N7 N9_q
      show D (T9.setTop (mkF m 115 #[.val (.int p1), .val (.int p2), .val (.int x2_6), .val (.ref sa1), .val (.ref sa2), .val (.int x5_19), .val (.int v36s0), .val (.int (1 : Int32)), .val (.int x8_94), .unset] [(.int (own_ch (own_fhi kv)))]))
      refine Adv.callS A X9 hx hZ hown (hw _ (List.mem_of_getElem? (i := 10) rfl)) (hw _ (List.mem_of_getElem? (i := 11) rfl)) (hw _ (List.mem_of_getElem? (i := 12) rfl)) (hw _ (List.mem_of_getElem? (i := 13) rfl)) e9 (rm1 l Z a0 hw [] (own_ch (own_fhi kv)) h2 n0) 0 (g := (mkF m 115 #[.val (.int p1), .val (.int p2), .val (.int x2_6), .val (.ref sa1), .val (.ref sa2), .val (.int x5_19), .val (.int v36s0), .val (.int (1 : Int32)), .val (.int x8_94), .unset] [(.int (own_ch (own_fhi kv)))])) rfl (by rw [hml]; rfl) [(.int (own_ch (own_fhi kv)))] [] rfl (lenOf pd0_0 rfl) rfl (by show 2 * 0 + _ ≤ _; exact Nat.le_of_eq rfl) (hb hby at_115) (by decide) (by decide) (by decide) (by decide) (by decide) ?_
      rintro T10 L10 _ X10 ⟨rfl, N10_q, e10⟩
      have N10 := Fr.app N9 N10_q
      show D (T10.setTop (mkF m 118 #[.val (.int p1), .val (.int p2), .val (.int x2_6), .val (.ref sa1), .val (.ref sa2), .val (.int x5_19), .val (.int v36s0), .val (.int (1 : Int32)), .val (.int x8_94), .unset] [(.int (f1 (own_ch (own_fhi kv))))]))
      refine A (XS.iload X10.here hx rfl (hb hby at_118) rfl) ?_
      show D (T10.setTop (mkF m 120 #[.val (.int p1), .val (.int p2), .val (.int x2_6), .val (.ref sa1), .val (.ref sa2), .val (.int x5_19), .val (.int v36s0), .val (.int (1 : Int32)), .val (.int x8_94), .unset] [(.int x8_94), (.int (f1 (own_ch (own_fhi kv))))]))
      suffices Km128_11 : ∀ (v128s0 : Int32), v128s0 = (if (f1 (own_ch (own_fhi kv))) = x8_94 then (1 : Int32) else (0 : Int32)) → D (T10.setTop (mkF m 128 #[.val (.int p1), .val (.int p2), .val (.int x2_6), .val (.ref sa1), .val (.ref sa2), .val (.int x5_19), .val (.int v36s0), .val (.int (1 : Int32)), .val (.int x8_94), .unset] [(.int v128s0)])) by
        by_cases c120_2 : (f1 (own_ch (own_fhi kv))) = x8_94
        · refine A (XS.icmpNo X10.here hx rfl (hb hby at_120) rfl (teq c120_2).2) ?_
          show D (T10.setTop (mkF m 123 #[.val (.int p1), .val (.int p2), .val (.int x2_6), .val (.ref sa1), .val (.ref sa2), .val (.int x5_19), .val (.int v36s0), .val (.int (1 : Int32)), .val (.int x8_94), .unset] []))
          refine A (XS.iconst X10.here hx rfl (hb hby at_123)) ?_
          show D (T10.setTop (mkF m 124 #[.val (.int p1), .val (.int p2), .val (.int x2_6), .val (.ref sa1), .val (.ref sa2), .val (.int x5_19), .val (.int v36s0), .val (.int (1 : Int32)), .val (.int x8_94), .unset] [(.int (1 : Int32))]))
          refine A (XS.goto X10.here hx rfl (pc0 := 124) (pc' := 128) rfl (hb hby at_124) (by decide) (by decide)) ?_
          show D (T10.setTop (mkF m 128 #[.val (.int p1), .val (.int p2), .val (.int x2_6), .val (.ref sa1), .val (.ref sa2), .val (.int x5_19), .val (.int v36s0), .val (.int (1 : Int32)), .val (.int x8_94), .unset] [(.int (1 : Int32))]))
          exact Km128_11 _ ((if_pos c120_2)).symm
        · refine A (XS.icmpYes X10.here hx rfl (pc0 := 120) (pc' := 127) rfl (hb hby at_120) rfl (feq c120_2).2 (by decide) (by decide)) ?_
          show D (T10.setTop (mkF m 127 #[.val (.int p1), .val (.int p2), .val (.int x2_6), .val (.ref sa1), .val (.ref sa2), .val (.int x5_19), .val (.int v36s0), .val (.int (1 : Int32)), .val (.int x8_94), .unset] []))
          refine A (XS.iconst X10.here hx rfl (hb hby at_127)) ?_
          show D (T10.setTop (mkF m 128 #[.val (.int p1), .val (.int p2), .val (.int x2_6), .val (.ref sa1), .val (.ref sa2), .val (.int x5_19), .val (.int v36s0), .val (.int (1 : Int32)), .val (.int x8_94), .unset] [(.int (0 : Int32))]))
          exact Km128_11 _ ((if_neg c120_2)).symm
      intro v128s0 hv128s0
      show D (T10.setTop (mkF m 128 #[.val (.int p1), .val (.int p2), .val (.int x2_6), .val (.ref sa1), .val (.ref sa2), .val (.int x5_19), .val (.int v36s0), .val (.int (1 : Int32)), .val (.int x8_94), .unset] [(.int v128s0)]))
      refine A (XS.istore X10.here hx rfl (hb hby at_128) rfl (l' := #[.val (.int p1), .val (.int p2), .val (.int x2_6), .val (.ref sa1), .val (.ref sa2), .val (.int x5_19), .val (.int v36s0), .val (.int (1 : Int32)), .val (.int x8_94), .val (.int v128s0)]) rfl) ?_
      show D (T10.setTop (mkF m 130 #[.val (.int p1), .val (.int p2), .val (.int x2_6), .val (.ref sa1), .val (.ref sa2), .val (.int x5_19), .val (.int v36s0), .val (.int (1 : Int32)), .val (.int x8_94), .val (.int v128s0)] []))
      refine A (XS.iload X10.here hx rfl (hb hby at_130) rfl) ?_
      show D (T10.setTop (mkF m 132 #[.val (.int p1), .val (.int p2), .val (.int x2_6), .val (.ref sa1), .val (.ref sa2), .val (.int x5_19), .val (.int v36s0), .val (.int (1 : Int32)), .val (.int x8_94), .val (.int v128s0)] [(.int v36s0)]))
      suffices Km150_12 : ∀ (v150s0 : Int32), v150s0 = (if v36s0 = (0 : Int32) then (0 : Int32) else (if v128s0 = (0 : Int32) then (0 : Int32) else (1 : Int32))) → D (T10.setTop (mkF m 150 #[.val (.int p1), .val (.int p2), .val (.int x2_6), .val (.ref sa1), .val (.ref sa2), .val (.int x5_19), .val (.int v36s0), .val (.int (1 : Int32)), .val (.int x8_94), .val (.int v128s0)] [(.int v150s0)])) by
        by_cases c132_2 : v36s0 = (0 : Int32)
        · refine A (XS.ifYes X10.here hx rfl (pc0 := 132) (pc' := 149) rfl (hb hby at_132) rfl ((if0 _ _).trans (teq c132_2).1) (by decide) (by decide)) ?_
          show D (T10.setTop (mkF m 149 #[.val (.int p1), .val (.int p2), .val (.int x2_6), .val (.ref sa1), .val (.ref sa2), .val (.int x5_19), .val (.int v36s0), .val (.int (1 : Int32)), .val (.int x8_94), .val (.int v128s0)] []))
          refine A (XS.iconst X10.here hx rfl (hb hby at_149)) ?_
          show D (T10.setTop (mkF m 150 #[.val (.int p1), .val (.int p2), .val (.int x2_6), .val (.ref sa1), .val (.ref sa2), .val (.int x5_19), .val (.int v36s0), .val (.int (1 : Int32)), .val (.int x8_94), .val (.int v128s0)] [(.int (0 : Int32))]))
          exact Km150_12 _ ((if_pos c132_2)).symm
        · refine A (XS.ifNo X10.here hx rfl (hb hby at_132) rfl ((if0 _ _).trans (feq c132_2).1)) ?_
          show D (T10.setTop (mkF m 135 #[.val (.int p1), .val (.int p2), .val (.int x2_6), .val (.ref sa1), .val (.ref sa2), .val (.int x5_19), .val (.int v36s0), .val (.int (1 : Int32)), .val (.int x8_94), .val (.int v128s0)] []))
          refine A (XS.iload X10.here hx rfl (hb hby at_135) rfl) ?_
          show D (T10.setTop (mkF m 137 #[.val (.int p1), .val (.int p2), .val (.int x2_6), .val (.ref sa1), .val (.ref sa2), .val (.int x5_19), .val (.int v36s0), .val (.int (1 : Int32)), .val (.int x8_94), .val (.int v128s0)] [(.int (1 : Int32))]))
          refine A (XS.ifNo X10.here hx rfl (hb hby at_137) rfl ((if0 _ _).trans (feq (by decide : ¬ ((1 : Int32) = (0 : Int32)))).1)) ?_
          show D (T10.setTop (mkF m 140 #[.val (.int p1), .val (.int p2), .val (.int x2_6), .val (.ref sa1), .val (.ref sa2), .val (.int x5_19), .val (.int v36s0), .val (.int (1 : Int32)), .val (.int x8_94), .val (.int v128s0)] []))
          refine A (XS.iload X10.here hx rfl (hb hby at_140) rfl) ?_
          show D (T10.setTop (mkF m 142 #[.val (.int p1), .val (.int p2), .val (.int x2_6), .val (.ref sa1), .val (.ref sa2), .val (.int x5_19), .val (.int v36s0), .val (.int (1 : Int32)), .val (.int x8_94), .val (.int v128s0)] [(.int v128s0)]))
          by_cases c142_3 : v128s0 = (0 : Int32)
          · refine A (XS.ifYes X10.here hx rfl (pc0 := 142) (pc' := 149) rfl (hb hby at_142) rfl ((if0 _ _).trans (teq c142_3).1) (by decide) (by decide)) ?_
            show D (T10.setTop (mkF m 149 #[.val (.int p1), .val (.int p2), .val (.int x2_6), .val (.ref sa1), .val (.ref sa2), .val (.int x5_19), .val (.int v36s0), .val (.int (1 : Int32)), .val (.int x8_94), .val (.int v128s0)] []))
            refine A (XS.iconst X10.here hx rfl (hb hby at_149)) ?_
            show D (T10.setTop (mkF m 150 #[.val (.int p1), .val (.int p2), .val (.int x2_6), .val (.ref sa1), .val (.ref sa2), .val (.int x5_19), .val (.int v36s0), .val (.int (1 : Int32)), .val (.int x8_94), .val (.int v128s0)] [(.int (0 : Int32))]))
            exact Km150_12 _ (((if_neg c132_2)).trans (if_pos c142_3)).symm
          · refine A (XS.ifNo X10.here hx rfl (hb hby at_142) rfl ((if0 _ _).trans (feq c142_3).1)) ?_
            show D (T10.setTop (mkF m 145 #[.val (.int p1), .val (.int p2), .val (.int x2_6), .val (.ref sa1), .val (.ref sa2), .val (.int x5_19), .val (.int v36s0), .val (.int (1 : Int32)), .val (.int x8_94), .val (.int v128s0)] []))
            refine A (XS.iconst X10.here hx rfl (hb hby at_145)) ?_
            show D (T10.setTop (mkF m 146 #[.val (.int p1), .val (.int p2), .val (.int x2_6), .val (.ref sa1), .val (.ref sa2), .val (.int x5_19), .val (.int v36s0), .val (.int (1 : Int32)), .val (.int x8_94), .val (.int v128s0)] [(.int (1 : Int32))]))
            refine A (XS.goto X10.here hx rfl (pc0 := 146) (pc' := 150) rfl (hb hby at_146) (by decide) (by decide)) ?_
            show D (T10.setTop (mkF m 150 #[.val (.int p1), .val (.int p2), .val (.int x2_6), .val (.ref sa1), .val (.ref sa2), .val (.int x5_19), .val (.int v36s0), .val (.int (1 : Int32)), .val (.int x8_94), .val (.int v128s0)] [(.int (1 : Int32))]))
            exact Km150_12 _ (((if_neg c132_2)).trans (if_neg c142_3)).symm
      intro v150s0 hv150s0
      show D (T10.setTop (mkF m 150 #[.val (.int p1), .val (.int p2), .val (.int x2_6), .val (.ref sa1), .val (.ref sa2), .val (.int x5_19), .val (.int v36s0), .val (.int (1 : Int32)), .val (.int x8_94), .val (.int v128s0)] [(.int v150s0)]))
      obtain rfl : v150s0 = (1 : Int32) := by
        have qi := own_in hx5_19 hv36s0
        have q9 : v128s0 = 1 := by rw [hv128s0, if_pos (Int32.toInt_inj.mp ((own_bhi kv hkv16).trans hkv.symm))]
        rw [hv150s0, qi, q9]
        decide
      show D (T10.setTop (mkF m 150 #[.val (.int p1), .val (.int p2), .val (.int x2_6), .val (.ref sa1), .val (.ref sa2), .val (.int x5_19), .val (.int v36s0), .val (.int (1 : Int32)), .val (.int x8_94), .val (.int v128s0)] [(.int (1 : Int32))]))
      exact F _ (Jvm.JW.retW X10 hS hlk (v := some (.int (1 : Int32))) (fun h => by rw [hrt] at h; cases h) (fun fs hr => retOut X10 hx hrt rfl (Or.inl ⟨rfl, Or.inr (Or.inl rfl), _, rfl⟩) (hb hby at_150) hr) e10 hk1 ⟨rfl, N10⟩ (by decide) (by decide))
    · refine A (XS.icmpYes X7.here hx rfl (pc0 := 105) (pc' := 127) rfl (hb hby at_105) rfl (feq c105_8).2 (by decide) (by decide)) ?_
      show D (T7.setTop (mkF m 127 #[.val (.int p1), .val (.int p2), .val (.int x2_6), .val (.ref sa1), .val (.ref sa2), .val (.int x5_19), .val (.int v36s0), .val (.int (1 : Int32)), .val (.int x8_94), .unset] []))
      refine A (XS.iconst X7.here hx rfl (hb hby at_127)) ?_
      show D (T7.setTop (mkF m 128 #[.val (.int p1), .val (.int p2), .val (.int x2_6), .val (.ref sa1), .val (.ref sa2), .val (.int x5_19), .val (.int v36s0), .val (.int (1 : Int32)), .val (.int x8_94), .unset] [(.int (0 : Int32))]))
      refine A (XS.istore X7.here hx rfl (hb hby at_128) rfl (l' := #[.val (.int p1), .val (.int p2), .val (.int x2_6), .val (.ref sa1), .val (.ref sa2), .val (.int x5_19), .val (.int v36s0), .val (.int (1 : Int32)), .val (.int x8_94), .val (.int (0 : Int32))]) rfl) ?_
      show D (T7.setTop (mkF m 130 #[.val (.int p1), .val (.int p2), .val (.int x2_6), .val (.ref sa1), .val (.ref sa2), .val (.int x5_19), .val (.int v36s0), .val (.int (1 : Int32)), .val (.int x8_94), .val (.int (0 : Int32))] []))
      refine A (XS.iload X7.here hx rfl (hb hby at_130) rfl) ?_
      show D (T7.setTop (mkF m 132 #[.val (.int p1), .val (.int p2), .val (.int x2_6), .val (.ref sa1), .val (.ref sa2), .val (.int x5_19), .val (.int v36s0), .val (.int (1 : Int32)), .val (.int x8_94), .val (.int (0 : Int32))] [(.int v36s0)]))
      suffices Km150_13 : D (T7.setTop (mkF m 150 #[.val (.int p1), .val (.int p2), .val (.int x2_6), .val (.ref sa1), .val (.ref sa2), .val (.int x5_19), .val (.int v36s0), .val (.int (1 : Int32)), .val (.int x8_94), .val (.int (0 : Int32))] [(.int (0 : Int32))])) by
        by_cases c132_2 : v36s0 = (0 : Int32)
        · refine A (XS.ifYes X7.here hx rfl (pc0 := 132) (pc' := 149) rfl (hb hby at_132) rfl ((if0 _ _).trans (teq c132_2).1) (by decide) (by decide)) ?_
          show D (T7.setTop (mkF m 149 #[.val (.int p1), .val (.int p2), .val (.int x2_6), .val (.ref sa1), .val (.ref sa2), .val (.int x5_19), .val (.int v36s0), .val (.int (1 : Int32)), .val (.int x8_94), .val (.int (0 : Int32))] []))
          refine A (XS.iconst X7.here hx rfl (hb hby at_149)) ?_
          show D (T7.setTop (mkF m 150 #[.val (.int p1), .val (.int p2), .val (.int x2_6), .val (.ref sa1), .val (.ref sa2), .val (.int x5_19), .val (.int v36s0), .val (.int (1 : Int32)), .val (.int x8_94), .val (.int (0 : Int32))] [(.int (0 : Int32))]))
          exact Km150_13
        · refine A (XS.ifNo X7.here hx rfl (hb hby at_132) rfl ((if0 _ _).trans (feq c132_2).1)) ?_
          show D (T7.setTop (mkF m 135 #[.val (.int p1), .val (.int p2), .val (.int x2_6), .val (.ref sa1), .val (.ref sa2), .val (.int x5_19), .val (.int v36s0), .val (.int (1 : Int32)), .val (.int x8_94), .val (.int (0 : Int32))] []))
          refine A (XS.iload X7.here hx rfl (hb hby at_135) rfl) ?_
          show D (T7.setTop (mkF m 137 #[.val (.int p1), .val (.int p2), .val (.int x2_6), .val (.ref sa1), .val (.ref sa2), .val (.int x5_19), .val (.int v36s0), .val (.int (1 : Int32)), .val (.int x8_94), .val (.int (0 : Int32))] [(.int (1 : Int32))]))
          refine A (XS.ifNo X7.here hx rfl (hb hby at_137) rfl ((if0 _ _).trans (feq (by decide : ¬ ((1 : Int32) = (0 : Int32)))).1)) ?_
          show D (T7.setTop (mkF m 140 #[.val (.int p1), .val (.int p2), .val (.int x2_6), .val (.ref sa1), .val (.ref sa2), .val (.int x5_19), .val (.int v36s0), .val (.int (1 : Int32)), .val (.int x8_94), .val (.int (0 : Int32))] []))
          refine A (XS.iload X7.here hx rfl (hb hby at_140) rfl) ?_
          show D (T7.setTop (mkF m 142 #[.val (.int p1), .val (.int p2), .val (.int x2_6), .val (.ref sa1), .val (.ref sa2), .val (.int x5_19), .val (.int v36s0), .val (.int (1 : Int32)), .val (.int x8_94), .val (.int (0 : Int32))] [(.int (0 : Int32))]))
          refine A (XS.ifYes X7.here hx rfl (pc0 := 142) (pc' := 149) rfl (hb hby at_142) rfl ((if0 _ _).trans (teq (by decide : (0 : Int32) = (0 : Int32))).1) (by decide) (by decide)) ?_
          show D (T7.setTop (mkF m 149 #[.val (.int p1), .val (.int p2), .val (.int x2_6), .val (.ref sa1), .val (.ref sa2), .val (.int x5_19), .val (.int v36s0), .val (.int (1 : Int32)), .val (.int x8_94), .val (.int (0 : Int32))] []))
          refine A (XS.iconst X7.here hx rfl (hb hby at_149)) ?_
          show D (T7.setTop (mkF m 150 #[.val (.int p1), .val (.int p2), .val (.int x2_6), .val (.ref sa1), .val (.ref sa2), .val (.int x5_19), .val (.int v36s0), .val (.int (1 : Int32)), .val (.int x8_94), .val (.int (0 : Int32))] [(.int (0 : Int32))]))
          exact Km150_13
      show D (T7.setTop (mkF m 150 #[.val (.int p1), .val (.int p2), .val (.int x2_6), .val (.ref sa1), .val (.ref sa2), .val (.int x5_19), .val (.int v36s0), .val (.int (1 : Int32)), .val (.int x8_94), .val (.int (0 : Int32))] [(.int (0 : Int32))]))
      exfalso
      exact absurd (Int32.toInt_inj.mp ((own_blo kv hkv16).trans hkv.symm)) c105_8
  · refine A (XS.icmpNo X3.here hx rfl (hb hby at_42) rfl (feq c42_5).1) ?_
    show D (T3.setTop (mkF m 45 #[.val (.int p1), .val (.int p2), .val (.int x2_6), .val (.ref sa1), .val (.ref sa2), .val (.int x5_19), .val (.int v36s0), .unset, .unset, .unset] []))
    refine A (XS.iload X3.here hx rfl (hb hby at_45) rfl) ?_
    show D (T3.setTop (mkF m 47 #[.val (.int p1), .val (.int p2), .val (.int x2_6), .val (.ref sa1), .val (.ref sa2), .val (.int x5_19), .val (.int v36s0), .unset, .unset, .unset] [(.int x5_19)]))
    by_cases c47_14 : x5_19 < (0 : Int32)
    · refine A (XS.ifYes X3.here hx rfl (pc0 := 47) (pc' := 82) rfl (hb hby at_47) rfl ((if0 _ _).trans (tlt c47_14).1) (by decide) (by decide)) ?_
      show D (T3.setTop (mkF m 82 #[.val (.int p1), .val (.int p2), .val (.int x2_6), .val (.ref sa1), .val (.ref sa2), .val (.int x5_19), .val (.int v36s0), .unset, .unset, .unset] []))
      refine A (XS.iconst X3.here hx rfl (hb hby at_82)) ?_
      show D (T3.setTop (mkF m 83 #[.val (.int p1), .val (.int p2), .val (.int x2_6), .val (.ref sa1), .val (.ref sa2), .val (.int x5_19), .val (.int v36s0), .unset, .unset, .unset] [(.int (0 : Int32))]))
      refine A (XS.istore X3.here hx rfl (hb hby at_83) rfl (l' := #[.val (.int p1), .val (.int p2), .val (.int x2_6), .val (.ref sa1), .val (.ref sa2), .val (.int x5_19), .val (.int v36s0), .val (.int (0 : Int32)), .unset, .unset]) rfl) ?_
      show D (T3.setTop (mkF m 85 #[.val (.int p1), .val (.int p2), .val (.int x2_6), .val (.ref sa1), .val (.ref sa2), .val (.int x5_19), .val (.int v36s0), .val (.int (0 : Int32)), .unset, .unset] []))
      refine A (XS.iloadN X3.here hx rfl (hb hby at_85) rfl) ?_
      show D (T3.setTop (mkF m 86 #[.val (.int p1), .val (.int p2), .val (.int x2_6), .val (.ref sa1), .val (.ref sa2), .val (.int x5_19), .val (.int v36s0), .val (.int (0 : Int32)), .unset, .unset] [(.int p2)]))
      refine A (X3.ldcInt hx hown (mvT hZ (hw _ (List.mem_of_getElem? (i := 14) rfl))) (g := (mkF m 86 #[.val (.int p1), .val (.int p2), .val (.int x2_6), .val (.ref sa1), .val (.ref sa2), .val (.int x5_19), .val (.int v36s0), .val (.int (0 : Int32)), .unset, .unset] [(.int p2)])) rfl (hb hby at_86) _) ?_
      show D (T3.setTop (mkF m 88 #[.val (.int p1), .val (.int p2), .val (.int x2_6), .val (.ref sa1), .val (.ref sa2), .val (.int x5_19), .val (.int v36s0), .val (.int (0 : Int32)), .unset, .unset] [(.int (2147483647 : Int32)), (.int p2)]))
      refine A (XS.iand X3.here hx rfl (hb hby at_88) rfl) ?_
      show D (T3.setTop (mkF m 89 #[.val (.int p1), .val (.int p2), .val (.int x2_6), .val (.ref sa1), .val (.ref sa2), .val (.int x5_19), .val (.int v36s0), .val (.int (0 : Int32)), .unset, .unset] [(.int (p2 &&& (2147483647 : Int32)))]))
      refine A (XS.bipush X3.here hx rfl (hb hby at_89)) ?_
      show D (T3.setTop (mkF m 91 #[.val (.int p1), .val (.int p2), .val (.int x2_6), .val (.ref sa1), .val (.ref sa2), .val (.int x5_19), .val (.int v36s0), .val (.int (0 : Int32)), .unset, .unset] [(.int (16 : Int32)), (.int (p2 &&& (2147483647 : Int32)))]))
      refine A (iremM X3 hx rfl (hb hby at_91) rfl (by decide)) ?_
      show D (T3.setTop (mkF m 92 #[.val (.int p1), .val (.int p2), .val (.int x2_6), .val (.ref sa1), .val (.ref sa2), .val (.int x5_19), .val (.int v36s0), .val (.int (0 : Int32)), .unset, .unset] [(.int ((p2 &&& (2147483647 : Int32)) % (16 : Int32)))]))
      refine A (XS.istore X3.here hx rfl (hb hby at_92) rfl (l' := #[.val (.int p1), .val (.int p2), .val (.int x2_6), .val (.ref sa1), .val (.ref sa2), .val (.int x5_19), .val (.int v36s0), .val (.int (0 : Int32)), .val (.int ((p2 &&& (2147483647 : Int32)) % (16 : Int32))), .unset]) rfl) ?_
      show D (T3.setTop (mkF m 94 #[.val (.int p1), .val (.int p2), .val (.int x2_6), .val (.ref sa1), .val (.ref sa2), .val (.int x5_19), .val (.int v36s0), .val (.int (0 : Int32)), .val (.int ((p2 &&& (2147483647 : Int32)) % (16 : Int32))), .unset] []))
      suffices Kx8_94a : ∀ x8_94a : Int32, x8_94a = ((p2 &&& (2147483647 : Int32)) % (16 : Int32)) → D (T3.setTop (mkF m 94 #[.val (.int p1), .val (.int p2), .val (.int x2_6), .val (.ref sa1), .val (.ref sa2), .val (.int x5_19), .val (.int v36s0), .val (.int (0 : Int32)), .val (.int x8_94a), .unset] [])) from Kx8_94a _ rfl
      intro x8_94a hx8_94a
      obtain ⟨kv, hkv, hkv16⟩ := own_v hx8_94a
      refine A (XS.aloadN X3.here hx rfl (hb hby at_94) rfl rfl) ?_
      show D (T3.setTop (mkF m 95 #[.val (.int p1), .val (.int p2), .val (.int x2_6), .val (.ref sa1), .val (.ref sa2), .val (.int x5_19), .val (.int v36s0), .val (.int (0 : Int32)), .val (.int x8_94a), .unset] [(.ref sa1)]))
      refine A (XS.iload X3.here hx rfl (hb hby at_95) rfl) ?_
      show D (T3.setTop (mkF m 97 #[.val (.int p1), .val (.int p2), .val (.int x2_6), .val (.ref sa1), .val (.ref sa2), .val (.int x5_19), .val (.int v36s0), .val (.int (0 : Int32)), .val (.int x8_94a), .unset] [(.int x8_94a), (.ref sa1)]))
      refine Adv.callV A X3 hx hZ hown (hw _ (List.mem_of_getElem? (i := 15) rfl)) (hw _ (List.mem_of_getElem? (i := 16) rfl)) (notFace_of_selects (args := #[]) (mvT hZ (hw _ (List.mem_of_getElem? (i := 18) rfl)))) (hw _ (List.mem_of_getElem? (i := 18) rfl)) (hw _ (List.mem_of_getElem? (i := 17) rfl)) (hw _ (List.mem_of_getElem? (i := 2) rfl)) (hw _ (List.mem_of_getElem? (i := 19) rfl)) e3 E_sa1_2 (rm2 l Z a0 hw [] sa1 x8_94a h2 n0 own_flo kv hkv hkv16 sf hsf S_sf2 cs hcs S_cs2 E_sa1_2 FC_sa1_2 sb1 FV_sa1_2 V_sb1_2) 0 (g := (mkF m 97 #[.val (.int p1), .val (.int p2), .val (.int x2_6), .val (.ref sa1), .val (.ref sa2), .val (.int x5_19), .val (.int v36s0), .val (.int (0 : Int32)), .val (.int x8_94a), .unset] [(.int x8_94a), (.ref sa1)])) rfl (by rw [hml]; rfl) [(.int x8_94a)] [] rfl (lenOf pd0_1 rfl) rfl (by show 2 * 0 + _ ≤ _; exact Nat.le_of_eq rfl) (hb hby at_97) (by decide) (by decide) (by decide) (by decide) (by decide) ?_
      rintro T15 L15 _ X15 ⟨rfl, N15_q, e15⟩
      have N15 := Fr.app N3 N15_q
      show D (T15.setTop (mkF m 100 #[.val (.int p1), .val (.int p2), .val (.int x2_6), .val (.ref sa1), .val (.ref sa2), .val (.int x5_19), .val (.int v36s0), .val (.int (0 : Int32)), .val (.int x8_94a), .unset] [(.int (own_ch (own_flo kv)))]))
      refine Adv.callS A X15 hx hZ hown (hw _ (List.mem_of_getElem? (i := 10) rfl)) (hw _ (List.mem_of_getElem? (i := 11) rfl)) (hw _ (List.mem_of_getElem? (i := 12) rfl)) (hw _ (List.mem_of_getElem? (i := 13) rfl)) e15 (rm1 l Z a0 hw [] (own_ch (own_flo kv)) h2 n0) 0 (g := (mkF m 100 #[.val (.int p1), .val (.int p2), .val (.int x2_6), .val (.ref sa1), .val (.ref sa2), .val (.int x5_19), .val (.int v36s0), .val (.int (0 : Int32)), .val (.int x8_94a), .unset] [(.int (own_ch (own_flo kv)))])) rfl (by rw [hml]; rfl) [(.int (own_ch (own_flo kv)))] [] rfl (lenOf pd0_0 rfl) rfl (by show 2 * 0 + _ ≤ _; exact Nat.le_of_eq rfl) (hb hby at_100) (by decide) (by decide) (by decide) (by decide) (by decide) ?_
      rintro T16 L16 _ X16 ⟨rfl, N16_q, e16⟩
      have N16 := Fr.app N15 N16_q
      show D (T16.setTop (mkF m 103 #[.val (.int p1), .val (.int p2), .val (.int x2_6), .val (.ref sa1), .val (.ref sa2), .val (.int x5_19), .val (.int v36s0), .val (.int (0 : Int32)), .val (.int x8_94a), .unset] [(.int (f1 (own_ch (own_flo kv))))]))
      refine A (XS.iload X16.here hx rfl (hb hby at_103) rfl) ?_
      show D (T16.setTop (mkF m 105 #[.val (.int p1), .val (.int p2), .val (.int x2_6), .val (.ref sa1), .val (.ref sa2), .val (.int x5_19), .val (.int v36s0), .val (.int (0 : Int32)), .val (.int x8_94a), .unset] [(.int x8_94a), (.int (f1 (own_ch (own_flo kv))))]))
      by_cases c105_17 : (f1 (own_ch (own_flo kv))) = x8_94a
      · refine A (XS.icmpNo X16.here hx rfl (hb hby at_105) rfl (teq c105_17).2) ?_
        show D (T16.setTop (mkF m 108 #[.val (.int p1), .val (.int p2), .val (.int x2_6), .val (.ref sa1), .val (.ref sa2), .val (.int x5_19), .val (.int v36s0), .val (.int (0 : Int32)), .val (.int x8_94a), .unset] []))
        refine A (XS.aload X16.here hx rfl (hb hby at_108) rfl rfl) ?_
        show D (T16.setTop (mkF m 110 #[.val (.int p1), .val (.int p2), .val (.int x2_6), .val (.ref sa1), .val (.ref sa2), .val (.int x5_19), .val (.int v36s0), .val (.int (0 : Int32)), .val (.int x8_94a), .unset] [(.ref sa2)]))
        refine A (XS.iload X16.here hx rfl (hb hby at_110) rfl) ?_
        show D (T16.setTop (mkF m 112 #[.val (.int p1), .val (.int p2), .val (.int x2_6), .val (.ref sa1), .val (.ref sa2), .val (.int x5_19), .val (.int v36s0), .val (.int (0 : Int32)), .val (.int x8_94a), .unset] [(.int x8_94a), (.ref sa2)]))
        refine Adv.callV A X16 hx hZ hown (hw _ (List.mem_of_getElem? (i := 15) rfl)) (hw _ (List.mem_of_getElem? (i := 16) rfl)) (notFace_of_selects (args := #[]) (mvT hZ (hw _ (List.mem_of_getElem? (i := 18) rfl)))) (hw _ (List.mem_of_getElem? (i := 18) rfl)) (hw _ (List.mem_of_getElem? (i := 17) rfl)) (hw _ (List.mem_of_getElem? (i := 2) rfl)) (hw _ (List.mem_of_getElem? (i := 19) rfl)) e16 EX2 (rm2 l Z a0 hw [] sa2 x8_94a h2 n0 own_fhi kv hkv hkv16 sf hsf S_sf2 cs hcs S_cs2 EX2 FC2 sb2 FV2 V_sb2) 0 (g := (mkF m 112 #[.val (.int p1), .val (.int p2), .val (.int x2_6), .val (.ref sa1), .val (.ref sa2), .val (.int x5_19), .val (.int v36s0), .val (.int (0 : Int32)), .val (.int x8_94a), .unset] [(.int x8_94a), (.ref sa2)])) rfl (by rw [hml]; rfl) [(.int x8_94a)] [] rfl (lenOf pd0_1 rfl) rfl (by show 2 * 0 + _ ≤ _; exact Nat.le_of_eq rfl) (hb hby at_112) (by decide) (by decide) (by decide) (by decide) (by decide) ?_
        rintro T18 L18 _ X18 ⟨rfl, N18_q, e18⟩
        have N18 := Fr.app N16 N18_q
        show D (T18.setTop (mkF m 115 #[.val (.int p1), .val (.int p2), .val (.int x2_6), .val (.ref sa1), .val (.ref sa2), .val (.int x5_19), .val (.int v36s0), .val (.int (0 : Int32)), .val (.int x8_94a), .unset] [(.int (own_ch (own_fhi kv)))]))
        refine Adv.callS A X18 hx hZ hown (hw _ (List.mem_of_getElem? (i := 10) rfl)) (hw _ (List.mem_of_getElem? (i := 11) rfl)) (hw _ (List.mem_of_getElem? (i := 12) rfl)) (hw _ (List.mem_of_getElem? (i := 13) rfl)) e18 (rm1 l Z a0 hw [] (own_ch (own_fhi kv)) h2 n0) 0 (g := (mkF m 115 #[.val (.int p1), .val (.int p2), .val (.int x2_6), .val (.ref sa1), .val (.ref sa2), .val (.int x5_19), .val (.int v36s0), .val (.int (0 : Int32)), .val (.int x8_94a), .unset] [(.int (own_ch (own_fhi kv)))])) rfl (by rw [hml]; rfl) [(.int (own_ch (own_fhi kv)))] [] rfl (lenOf pd0_0 rfl) rfl (by show 2 * 0 + _ ≤ _; exact Nat.le_of_eq rfl) (hb hby at_115) (by decide) (by decide) (by decide) (by decide) (by decide) ?_
        rintro T19 L19 _ X19 ⟨rfl, N19_q, e19⟩
        have N19 := Fr.app N18 N19_q
        show D (T19.setTop (mkF m 118 #[.val (.int p1), .val (.int p2), .val (.int x2_6), .val (.ref sa1), .val (.ref sa2), .val (.int x5_19), .val (.int v36s0), .val (.int (0 : Int32)), .val (.int x8_94a), .unset] [(.int (f1 (own_ch (own_fhi kv))))]))
        refine A (XS.iload X19.here hx rfl (hb hby at_118) rfl) ?_
        show D (T19.setTop (mkF m 120 #[.val (.int p1), .val (.int p2), .val (.int x2_6), .val (.ref sa1), .val (.ref sa2), .val (.int x5_19), .val (.int v36s0), .val (.int (0 : Int32)), .val (.int x8_94a), .unset] [(.int x8_94a), (.int (f1 (own_ch (own_fhi kv))))]))
        suffices Km128_20 : ∀ (v128s0a : Int32), v128s0a = (if (f1 (own_ch (own_fhi kv))) = x8_94a then (1 : Int32) else (0 : Int32)) → D (T19.setTop (mkF m 128 #[.val (.int p1), .val (.int p2), .val (.int x2_6), .val (.ref sa1), .val (.ref sa2), .val (.int x5_19), .val (.int v36s0), .val (.int (0 : Int32)), .val (.int x8_94a), .unset] [(.int v128s0a)])) by
          by_cases c120_3 : (f1 (own_ch (own_fhi kv))) = x8_94a
          · refine A (XS.icmpNo X19.here hx rfl (hb hby at_120) rfl (teq c120_3).2) ?_
            show D (T19.setTop (mkF m 123 #[.val (.int p1), .val (.int p2), .val (.int x2_6), .val (.ref sa1), .val (.ref sa2), .val (.int x5_19), .val (.int v36s0), .val (.int (0 : Int32)), .val (.int x8_94a), .unset] []))
            refine A (XS.iconst X19.here hx rfl (hb hby at_123)) ?_
            show D (T19.setTop (mkF m 124 #[.val (.int p1), .val (.int p2), .val (.int x2_6), .val (.ref sa1), .val (.ref sa2), .val (.int x5_19), .val (.int v36s0), .val (.int (0 : Int32)), .val (.int x8_94a), .unset] [(.int (1 : Int32))]))
            refine A (XS.goto X19.here hx rfl (pc0 := 124) (pc' := 128) rfl (hb hby at_124) (by decide) (by decide)) ?_
            show D (T19.setTop (mkF m 128 #[.val (.int p1), .val (.int p2), .val (.int x2_6), .val (.ref sa1), .val (.ref sa2), .val (.int x5_19), .val (.int v36s0), .val (.int (0 : Int32)), .val (.int x8_94a), .unset] [(.int (1 : Int32))]))
            exact Km128_20 _ ((if_pos c120_3)).symm
          · refine A (XS.icmpYes X19.here hx rfl (pc0 := 120) (pc' := 127) rfl (hb hby at_120) rfl (feq c120_3).2 (by decide) (by decide)) ?_
            show D (T19.setTop (mkF m 127 #[.val (.int p1), .val (.int p2), .val (.int x2_6), .val (.ref sa1), .val (.ref sa2), .val (.int x5_19), .val (.int v36s0), .val (.int (0 : Int32)), .val (.int x8_94a), .unset] []))
            refine A (XS.iconst X19.here hx rfl (hb hby at_127)) ?_
            show D (T19.setTop (mkF m 128 #[.val (.int p1), .val (.int p2), .val (.int x2_6), .val (.ref sa1), .val (.ref sa2), .val (.int x5_19), .val (.int v36s0), .val (.int (0 : Int32)), .val (.int x8_94a), .unset] [(.int (0 : Int32))]))
            exact Km128_20 _ ((if_neg c120_3)).symm
        intro v128s0a hv128s0a
        show D (T19.setTop (mkF m 128 #[.val (.int p1), .val (.int p2), .val (.int x2_6), .val (.ref sa1), .val (.ref sa2), .val (.int x5_19), .val (.int v36s0), .val (.int (0 : Int32)), .val (.int x8_94a), .unset] [(.int v128s0a)]))
        refine A (XS.istore X19.here hx rfl (hb hby at_128) rfl (l' := #[.val (.int p1), .val (.int p2), .val (.int x2_6), .val (.ref sa1), .val (.ref sa2), .val (.int x5_19), .val (.int v36s0), .val (.int (0 : Int32)), .val (.int x8_94a), .val (.int v128s0a)]) rfl) ?_
        show D (T19.setTop (mkF m 130 #[.val (.int p1), .val (.int p2), .val (.int x2_6), .val (.ref sa1), .val (.ref sa2), .val (.int x5_19), .val (.int v36s0), .val (.int (0 : Int32)), .val (.int x8_94a), .val (.int v128s0a)] []))
        refine A (XS.iload X19.here hx rfl (hb hby at_130) rfl) ?_
        show D (T19.setTop (mkF m 132 #[.val (.int p1), .val (.int p2), .val (.int x2_6), .val (.ref sa1), .val (.ref sa2), .val (.int x5_19), .val (.int v36s0), .val (.int (0 : Int32)), .val (.int x8_94a), .val (.int v128s0a)] [(.int v36s0)]))
        suffices Km150_21 : D (T19.setTop (mkF m 150 #[.val (.int p1), .val (.int p2), .val (.int x2_6), .val (.ref sa1), .val (.ref sa2), .val (.int x5_19), .val (.int v36s0), .val (.int (0 : Int32)), .val (.int x8_94a), .val (.int v128s0a)] [(.int (0 : Int32))])) by
          by_cases c132_3 : v36s0 = (0 : Int32)
          · refine A (XS.ifYes X19.here hx rfl (pc0 := 132) (pc' := 149) rfl (hb hby at_132) rfl ((if0 _ _).trans (teq c132_3).1) (by decide) (by decide)) ?_
            show D (T19.setTop (mkF m 149 #[.val (.int p1), .val (.int p2), .val (.int x2_6), .val (.ref sa1), .val (.ref sa2), .val (.int x5_19), .val (.int v36s0), .val (.int (0 : Int32)), .val (.int x8_94a), .val (.int v128s0a)] []))
            refine A (XS.iconst X19.here hx rfl (hb hby at_149)) ?_
            show D (T19.setTop (mkF m 150 #[.val (.int p1), .val (.int p2), .val (.int x2_6), .val (.ref sa1), .val (.ref sa2), .val (.int x5_19), .val (.int v36s0), .val (.int (0 : Int32)), .val (.int x8_94a), .val (.int v128s0a)] [(.int (0 : Int32))]))
            exact Km150_21
          · refine A (XS.ifNo X19.here hx rfl (hb hby at_132) rfl ((if0 _ _).trans (feq c132_3).1)) ?_
            show D (T19.setTop (mkF m 135 #[.val (.int p1), .val (.int p2), .val (.int x2_6), .val (.ref sa1), .val (.ref sa2), .val (.int x5_19), .val (.int v36s0), .val (.int (0 : Int32)), .val (.int x8_94a), .val (.int v128s0a)] []))
            refine A (XS.iload X19.here hx rfl (hb hby at_135) rfl) ?_
            show D (T19.setTop (mkF m 137 #[.val (.int p1), .val (.int p2), .val (.int x2_6), .val (.ref sa1), .val (.ref sa2), .val (.int x5_19), .val (.int v36s0), .val (.int (0 : Int32)), .val (.int x8_94a), .val (.int v128s0a)] [(.int (0 : Int32))]))
            refine A (XS.ifYes X19.here hx rfl (pc0 := 137) (pc' := 149) rfl (hb hby at_137) rfl ((if0 _ _).trans (teq (by decide : (0 : Int32) = (0 : Int32))).1) (by decide) (by decide)) ?_
            show D (T19.setTop (mkF m 149 #[.val (.int p1), .val (.int p2), .val (.int x2_6), .val (.ref sa1), .val (.ref sa2), .val (.int x5_19), .val (.int v36s0), .val (.int (0 : Int32)), .val (.int x8_94a), .val (.int v128s0a)] []))
            refine A (XS.iconst X19.here hx rfl (hb hby at_149)) ?_
            show D (T19.setTop (mkF m 150 #[.val (.int p1), .val (.int p2), .val (.int x2_6), .val (.ref sa1), .val (.ref sa2), .val (.int x5_19), .val (.int v36s0), .val (.int (0 : Int32)), .val (.int x8_94a), .val (.int v128s0a)] [(.int (0 : Int32))]))
            exact Km150_21
        show D (T19.setTop (mkF m 150 #[.val (.int p1), .val (.int p2), .val (.int x2_6), .val (.ref sa1), .val (.ref sa2), .val (.int x5_19), .val (.int v36s0), .val (.int (0 : Int32)), .val (.int x8_94a), .val (.int v128s0a)] [(.int (0 : Int32))]))
        exfalso
        exact absurd c47_14 (own_n0 hx5_19)
      · refine A (XS.icmpYes X16.here hx rfl (pc0 := 105) (pc' := 127) rfl (hb hby at_105) rfl (feq c105_17).2 (by decide) (by decide)) ?_
        show D (T16.setTop (mkF m 127 #[.val (.int p1), .val (.int p2), .val (.int x2_6), .val (.ref sa1), .val (.ref sa2), .val (.int x5_19), .val (.int v36s0), .val (.int (0 : Int32)), .val (.int x8_94a), .unset] []))
        refine A (XS.iconst X16.here hx rfl (hb hby at_127)) ?_
        show D (T16.setTop (mkF m 128 #[.val (.int p1), .val (.int p2), .val (.int x2_6), .val (.ref sa1), .val (.ref sa2), .val (.int x5_19), .val (.int v36s0), .val (.int (0 : Int32)), .val (.int x8_94a), .unset] [(.int (0 : Int32))]))
        refine A (XS.istore X16.here hx rfl (hb hby at_128) rfl (l' := #[.val (.int p1), .val (.int p2), .val (.int x2_6), .val (.ref sa1), .val (.ref sa2), .val (.int x5_19), .val (.int v36s0), .val (.int (0 : Int32)), .val (.int x8_94a), .val (.int (0 : Int32))]) rfl) ?_
        show D (T16.setTop (mkF m 130 #[.val (.int p1), .val (.int p2), .val (.int x2_6), .val (.ref sa1), .val (.ref sa2), .val (.int x5_19), .val (.int v36s0), .val (.int (0 : Int32)), .val (.int x8_94a), .val (.int (0 : Int32))] []))
        refine A (XS.iload X16.here hx rfl (hb hby at_130) rfl) ?_
        show D (T16.setTop (mkF m 132 #[.val (.int p1), .val (.int p2), .val (.int x2_6), .val (.ref sa1), .val (.ref sa2), .val (.int x5_19), .val (.int v36s0), .val (.int (0 : Int32)), .val (.int x8_94a), .val (.int (0 : Int32))] [(.int v36s0)]))
        suffices Km150_22 : D (T16.setTop (mkF m 150 #[.val (.int p1), .val (.int p2), .val (.int x2_6), .val (.ref sa1), .val (.ref sa2), .val (.int x5_19), .val (.int v36s0), .val (.int (0 : Int32)), .val (.int x8_94a), .val (.int (0 : Int32))] [(.int (0 : Int32))])) by
          by_cases c132_3 : v36s0 = (0 : Int32)
          · refine A (XS.ifYes X16.here hx rfl (pc0 := 132) (pc' := 149) rfl (hb hby at_132) rfl ((if0 _ _).trans (teq c132_3).1) (by decide) (by decide)) ?_
            show D (T16.setTop (mkF m 149 #[.val (.int p1), .val (.int p2), .val (.int x2_6), .val (.ref sa1), .val (.ref sa2), .val (.int x5_19), .val (.int v36s0), .val (.int (0 : Int32)), .val (.int x8_94a), .val (.int (0 : Int32))] []))
            refine A (XS.iconst X16.here hx rfl (hb hby at_149)) ?_
            show D (T16.setTop (mkF m 150 #[.val (.int p1), .val (.int p2), .val (.int x2_6), .val (.ref sa1), .val (.ref sa2), .val (.int x5_19), .val (.int v36s0), .val (.int (0 : Int32)), .val (.int x8_94a), .val (.int (0 : Int32))] [(.int (0 : Int32))]))
            exact Km150_22
          · refine A (XS.ifNo X16.here hx rfl (hb hby at_132) rfl ((if0 _ _).trans (feq c132_3).1)) ?_
            show D (T16.setTop (mkF m 135 #[.val (.int p1), .val (.int p2), .val (.int x2_6), .val (.ref sa1), .val (.ref sa2), .val (.int x5_19), .val (.int v36s0), .val (.int (0 : Int32)), .val (.int x8_94a), .val (.int (0 : Int32))] []))
            refine A (XS.iload X16.here hx rfl (hb hby at_135) rfl) ?_
            show D (T16.setTop (mkF m 137 #[.val (.int p1), .val (.int p2), .val (.int x2_6), .val (.ref sa1), .val (.ref sa2), .val (.int x5_19), .val (.int v36s0), .val (.int (0 : Int32)), .val (.int x8_94a), .val (.int (0 : Int32))] [(.int (0 : Int32))]))
            refine A (XS.ifYes X16.here hx rfl (pc0 := 137) (pc' := 149) rfl (hb hby at_137) rfl ((if0 _ _).trans (teq (by decide : (0 : Int32) = (0 : Int32))).1) (by decide) (by decide)) ?_
            show D (T16.setTop (mkF m 149 #[.val (.int p1), .val (.int p2), .val (.int x2_6), .val (.ref sa1), .val (.ref sa2), .val (.int x5_19), .val (.int v36s0), .val (.int (0 : Int32)), .val (.int x8_94a), .val (.int (0 : Int32))] []))
            refine A (XS.iconst X16.here hx rfl (hb hby at_149)) ?_
            show D (T16.setTop (mkF m 150 #[.val (.int p1), .val (.int p2), .val (.int x2_6), .val (.ref sa1), .val (.ref sa2), .val (.int x5_19), .val (.int v36s0), .val (.int (0 : Int32)), .val (.int x8_94a), .val (.int (0 : Int32))] [(.int (0 : Int32))]))
            exact Km150_22
        show D (T16.setTop (mkF m 150 #[.val (.int p1), .val (.int p2), .val (.int x2_6), .val (.ref sa1), .val (.ref sa2), .val (.int x5_19), .val (.int v36s0), .val (.int (0 : Int32)), .val (.int x8_94a), .val (.int (0 : Int32))] [(.int (0 : Int32))]))
        exfalso
        exact absurd c47_14 (own_n0 hx5_19)
    · refine A (XS.ifNo X3.here hx rfl (hb hby at_47) rfl ((if0 _ _).trans (flt c47_14).1)) ?_
      show D (T3.setTop (mkF m 50 #[.val (.int p1), .val (.int p2), .val (.int x2_6), .val (.ref sa1), .val (.ref sa2), .val (.int x5_19), .val (.int v36s0), .unset, .unset, .unset] []))
      refine A (XS.iload X3.here hx rfl (hb hby at_50) rfl) ?_
      show D (T3.setTop (mkF m 52 #[.val (.int p1), .val (.int p2), .val (.int x2_6), .val (.ref sa1), .val (.ref sa2), .val (.int x5_19), .val (.int v36s0), .unset, .unset, .unset] [(.int x5_19)]))
      refine A (XS.bipush X3.here hx rfl (hb hby at_52)) ?_
      show D (T3.setTop (mkF m 54 #[.val (.int p1), .val (.int p2), .val (.int x2_6), .val (.ref sa1), .val (.ref sa2), .val (.int x5_19), .val (.int v36s0), .unset, .unset, .unset] [(.int (16 : Int32)), (.int x5_19)]))
      by_cases c54_23 : x5_19 < (16 : Int32)
      · refine A (XS.icmpNo X3.here hx rfl (hb hby at_54) rfl (tlt c54_23).2.1) ?_
        show D (T3.setTop (mkF m 57 #[.val (.int p1), .val (.int p2), .val (.int x2_6), .val (.ref sa1), .val (.ref sa2), .val (.int x5_19), .val (.int v36s0), .unset, .unset, .unset] []))
        refine A (XS.iloadN X3.here hx rfl (hb hby at_57) rfl) ?_
        show D (T3.setTop (mkF m 58 #[.val (.int p1), .val (.int p2), .val (.int x2_6), .val (.ref sa1), .val (.ref sa2), .val (.int x5_19), .val (.int v36s0), .unset, .unset, .unset] [(.int x2_6)]))
        refine A (XS.aloadN X3.here hx rfl (hb hby at_58) rfl rfl) ?_
        show D (T3.setTop (mkF m 59 #[.val (.int p1), .val (.int p2), .val (.int x2_6), .val (.ref sa1), .val (.ref sa2), .val (.int x5_19), .val (.int v36s0), .unset, .unset, .unset] [(.ref sa1), (.int x2_6)]))
        refine A (XS.iload X3.here hx rfl (hb hby at_59) rfl) ?_
        show D (T3.setTop (mkF m 61 #[.val (.int p1), .val (.int p2), .val (.int x2_6), .val (.ref sa1), .val (.ref sa2), .val (.int x5_19), .val (.int v36s0), .unset, .unset, .unset] [(.int x5_19), (.ref sa1), (.int x2_6)]))
        obtain ⟨kd, hkd, hkd16⟩ := own_k c47_14 c54_23
        refine Adv.callV A X3 hx hZ hown (hw _ (List.mem_of_getElem? (i := 15) rfl)) (hw _ (List.mem_of_getElem? (i := 16) rfl)) (notFace_of_selects (args := #[]) (mvT hZ (hw _ (List.mem_of_getElem? (i := 18) rfl)))) (hw _ (List.mem_of_getElem? (i := 18) rfl)) (hw _ (List.mem_of_getElem? (i := 17) rfl)) (hw _ (List.mem_of_getElem? (i := 2) rfl)) (hw _ (List.mem_of_getElem? (i := 19) rfl)) e3 E_sa1_2 (rm2 l Z a0 hw [] sa1 x5_19 h2 n0 own_flo kd hkd hkd16 sf hsf S_sf2 cs hcs S_cs2 E_sa1_2 FC_sa1_2 sb1 FV_sa1_2 V_sb1_2) 1 (g := (mkF m 61 #[.val (.int p1), .val (.int p2), .val (.int x2_6), .val (.ref sa1), .val (.ref sa2), .val (.int x5_19), .val (.int v36s0), .unset, .unset, .unset] [(.int x5_19), (.ref sa1), (.int x2_6)])) rfl (by rw [hml]; rfl) [(.int x5_19)] [(.int x2_6)] rfl (lenOf pd0_1 rfl) rfl (by show 2 * 0 + _ ≤ _; exact Nat.le_of_eq rfl) (hb hby at_61) (by decide) (by decide) (by decide) (by decide) (by decide) ?_
        rintro T24 L24 _ X24 ⟨rfl, N24_q, e24⟩
        have N24 := Fr.app N3 N24_q
        show D (T24.setTop (mkF m 64 #[.val (.int p1), .val (.int p2), .val (.int x2_6), .val (.ref sa1), .val (.ref sa2), .val (.int x5_19), .val (.int v36s0), .unset, .unset, .unset] [(.int (own_ch (own_flo kd))), (.int x2_6)]))
        by_cases c64_25 : x2_6 = (own_ch (own_flo kd))
        · refine A (XS.icmpYes X24.here hx rfl (pc0 := 64) (pc' := 78) rfl (hb hby at_64) rfl (teq c64_25).1 (by decide) (by decide)) ?_
          show D (T24.setTop (mkF m 78 #[.val (.int p1), .val (.int p2), .val (.int x2_6), .val (.ref sa1), .val (.ref sa2), .val (.int x5_19), .val (.int v36s0), .unset, .unset, .unset] []))
          refine A (XS.iconst X24.here hx rfl (hb hby at_78)) ?_
          show D (T24.setTop (mkF m 79 #[.val (.int p1), .val (.int p2), .val (.int x2_6), .val (.ref sa1), .val (.ref sa2), .val (.int x5_19), .val (.int v36s0), .unset, .unset, .unset] [(.int (1 : Int32))]))
          refine A (XS.goto X24.here hx rfl (pc0 := 79) (pc' := 83) rfl (hb hby at_79) (by decide) (by decide)) ?_
          show D (T24.setTop (mkF m 83 #[.val (.int p1), .val (.int p2), .val (.int x2_6), .val (.ref sa1), .val (.ref sa2), .val (.int x5_19), .val (.int v36s0), .unset, .unset, .unset] [(.int (1 : Int32))]))
          refine A (XS.istore X24.here hx rfl (hb hby at_83) rfl (l' := #[.val (.int p1), .val (.int p2), .val (.int x2_6), .val (.ref sa1), .val (.ref sa2), .val (.int x5_19), .val (.int v36s0), .val (.int (1 : Int32)), .unset, .unset]) rfl) ?_
          show D (T24.setTop (mkF m 85 #[.val (.int p1), .val (.int p2), .val (.int x2_6), .val (.ref sa1), .val (.ref sa2), .val (.int x5_19), .val (.int v36s0), .val (.int (1 : Int32)), .unset, .unset] []))
          refine A (XS.iloadN X24.here hx rfl (hb hby at_85) rfl) ?_
          show D (T24.setTop (mkF m 86 #[.val (.int p1), .val (.int p2), .val (.int x2_6), .val (.ref sa1), .val (.ref sa2), .val (.int x5_19), .val (.int v36s0), .val (.int (1 : Int32)), .unset, .unset] [(.int p2)]))
          refine A (X24.ldcInt hx hown (mvT hZ (hw _ (List.mem_of_getElem? (i := 14) rfl))) (g := (mkF m 86 #[.val (.int p1), .val (.int p2), .val (.int x2_6), .val (.ref sa1), .val (.ref sa2), .val (.int x5_19), .val (.int v36s0), .val (.int (1 : Int32)), .unset, .unset] [(.int p2)])) rfl (hb hby at_86) _) ?_
          show D (T24.setTop (mkF m 88 #[.val (.int p1), .val (.int p2), .val (.int x2_6), .val (.ref sa1), .val (.ref sa2), .val (.int x5_19), .val (.int v36s0), .val (.int (1 : Int32)), .unset, .unset] [(.int (2147483647 : Int32)), (.int p2)]))
          refine A (XS.iand X24.here hx rfl (hb hby at_88) rfl) ?_
          show D (T24.setTop (mkF m 89 #[.val (.int p1), .val (.int p2), .val (.int x2_6), .val (.ref sa1), .val (.ref sa2), .val (.int x5_19), .val (.int v36s0), .val (.int (1 : Int32)), .unset, .unset] [(.int (p2 &&& (2147483647 : Int32)))]))
          refine A (XS.bipush X24.here hx rfl (hb hby at_89)) ?_
          show D (T24.setTop (mkF m 91 #[.val (.int p1), .val (.int p2), .val (.int x2_6), .val (.ref sa1), .val (.ref sa2), .val (.int x5_19), .val (.int v36s0), .val (.int (1 : Int32)), .unset, .unset] [(.int (16 : Int32)), (.int (p2 &&& (2147483647 : Int32)))]))
          refine A (iremM X24 hx rfl (hb hby at_91) rfl (by decide)) ?_
          show D (T24.setTop (mkF m 92 #[.val (.int p1), .val (.int p2), .val (.int x2_6), .val (.ref sa1), .val (.ref sa2), .val (.int x5_19), .val (.int v36s0), .val (.int (1 : Int32)), .unset, .unset] [(.int ((p2 &&& (2147483647 : Int32)) % (16 : Int32)))]))
          refine A (XS.istore X24.here hx rfl (hb hby at_92) rfl (l' := #[.val (.int p1), .val (.int p2), .val (.int x2_6), .val (.ref sa1), .val (.ref sa2), .val (.int x5_19), .val (.int v36s0), .val (.int (1 : Int32)), .val (.int ((p2 &&& (2147483647 : Int32)) % (16 : Int32))), .unset]) rfl) ?_
          show D (T24.setTop (mkF m 94 #[.val (.int p1), .val (.int p2), .val (.int x2_6), .val (.ref sa1), .val (.ref sa2), .val (.int x5_19), .val (.int v36s0), .val (.int (1 : Int32)), .val (.int ((p2 &&& (2147483647 : Int32)) % (16 : Int32))), .unset] []))
          suffices Kx8_94aa : ∀ x8_94aa : Int32, x8_94aa = ((p2 &&& (2147483647 : Int32)) % (16 : Int32)) → D (T24.setTop (mkF m 94 #[.val (.int p1), .val (.int p2), .val (.int x2_6), .val (.ref sa1), .val (.ref sa2), .val (.int x5_19), .val (.int v36s0), .val (.int (1 : Int32)), .val (.int x8_94aa), .unset] [])) from Kx8_94aa _ rfl
          intro x8_94aa hx8_94aa
          obtain ⟨kv, hkv, hkv16⟩ := own_v hx8_94aa
          refine A (XS.aloadN X24.here hx rfl (hb hby at_94) rfl rfl) ?_
          show D (T24.setTop (mkF m 95 #[.val (.int p1), .val (.int p2), .val (.int x2_6), .val (.ref sa1), .val (.ref sa2), .val (.int x5_19), .val (.int v36s0), .val (.int (1 : Int32)), .val (.int x8_94aa), .unset] [(.ref sa1)]))
          refine A (XS.iload X24.here hx rfl (hb hby at_95) rfl) ?_
          show D (T24.setTop (mkF m 97 #[.val (.int p1), .val (.int p2), .val (.int x2_6), .val (.ref sa1), .val (.ref sa2), .val (.int x5_19), .val (.int v36s0), .val (.int (1 : Int32)), .val (.int x8_94aa), .unset] [(.int x8_94aa), (.ref sa1)]))
          refine Adv.callV A X24 hx hZ hown (hw _ (List.mem_of_getElem? (i := 15) rfl)) (hw _ (List.mem_of_getElem? (i := 16) rfl)) (notFace_of_selects (args := #[]) (mvT hZ (hw _ (List.mem_of_getElem? (i := 18) rfl)))) (hw _ (List.mem_of_getElem? (i := 18) rfl)) (hw _ (List.mem_of_getElem? (i := 17) rfl)) (hw _ (List.mem_of_getElem? (i := 2) rfl)) (hw _ (List.mem_of_getElem? (i := 19) rfl)) e24 E_sa1_2 (rm2 l Z a0 hw [] sa1 x8_94aa h2 n0 own_flo kv hkv hkv16 sf hsf S_sf2 cs hcs S_cs2 E_sa1_2 FC_sa1_2 sb1 FV_sa1_2 V_sb1_2) 0 (g := (mkF m 97 #[.val (.int p1), .val (.int p2), .val (.int x2_6), .val (.ref sa1), .val (.ref sa2), .val (.int x5_19), .val (.int v36s0), .val (.int (1 : Int32)), .val (.int x8_94aa), .unset] [(.int x8_94aa), (.ref sa1)])) rfl (by rw [hml]; rfl) [(.int x8_94aa)] [] rfl (lenOf pd0_1 rfl) rfl (by show 2 * 0 + _ ≤ _; exact Nat.le_of_eq rfl) (hb hby at_97) (by decide) (by decide) (by decide) (by decide) (by decide) ?_
          rintro T26 L26 _ X26 ⟨rfl, N26_q, e26⟩
          have N26 := Fr.app N24 N26_q
          show D (T26.setTop (mkF m 100 #[.val (.int p1), .val (.int p2), .val (.int x2_6), .val (.ref sa1), .val (.ref sa2), .val (.int x5_19), .val (.int v36s0), .val (.int (1 : Int32)), .val (.int x8_94aa), .unset] [(.int (own_ch (own_flo kv)))]))
          refine Adv.callS A X26 hx hZ hown (hw _ (List.mem_of_getElem? (i := 10) rfl)) (hw _ (List.mem_of_getElem? (i := 11) rfl)) (hw _ (List.mem_of_getElem? (i := 12) rfl)) (hw _ (List.mem_of_getElem? (i := 13) rfl)) e26 (rm1 l Z a0 hw [] (own_ch (own_flo kv)) h2 n0) 0 (g := (mkF m 100 #[.val (.int p1), .val (.int p2), .val (.int x2_6), .val (.ref sa1), .val (.ref sa2), .val (.int x5_19), .val (.int v36s0), .val (.int (1 : Int32)), .val (.int x8_94aa), .unset] [(.int (own_ch (own_flo kv)))])) rfl (by rw [hml]; rfl) [(.int (own_ch (own_flo kv)))] [] rfl (lenOf pd0_0 rfl) rfl (by show 2 * 0 + _ ≤ _; exact Nat.le_of_eq rfl) (hb hby at_100) (by decide) (by decide) (by decide) (by decide) (by decide) ?_
          rintro T27 L27 _ X27 ⟨rfl, N27_q, e27⟩
          have N27 := Fr.app N26 N27_q
          show D (T27.setTop (mkF m 103 #[.val (.int p1), .val (.int p2), .val (.int x2_6), .val (.ref sa1), .val (.ref sa2), .val (.int x5_19), .val (.int v36s0), .val (.int (1 : Int32)), .val (.int x8_94aa), .unset] [(.int (f1 (own_ch (own_flo kv))))]))
          refine A (XS.iload X27.here hx rfl (hb hby at_103) rfl) ?_
          show D (T27.setTop (mkF m 105 #[.val (.int p1), .val (.int p2), .val (.int x2_6), .val (.ref sa1), .val (.ref sa2), .val (.int x5_19), .val (.int v36s0), .val (.int (1 : Int32)), .val (.int x8_94aa), .unset] [(.int x8_94aa), (.int (f1 (own_ch (own_flo kv))))]))
          by_cases c105_28 : (f1 (own_ch (own_flo kv))) = x8_94aa
          · refine A (XS.icmpNo X27.here hx rfl (hb hby at_105) rfl (teq c105_28).2) ?_
            show D (T27.setTop (mkF m 108 #[.val (.int p1), .val (.int p2), .val (.int x2_6), .val (.ref sa1), .val (.ref sa2), .val (.int x5_19), .val (.int v36s0), .val (.int (1 : Int32)), .val (.int x8_94aa), .unset] []))
            refine A (XS.aload X27.here hx rfl (hb hby at_108) rfl rfl) ?_
            show D (T27.setTop (mkF m 110 #[.val (.int p1), .val (.int p2), .val (.int x2_6), .val (.ref sa1), .val (.ref sa2), .val (.int x5_19), .val (.int v36s0), .val (.int (1 : Int32)), .val (.int x8_94aa), .unset] [(.ref sa2)]))
            refine A (XS.iload X27.here hx rfl (hb hby at_110) rfl) ?_
            show D (T27.setTop (mkF m 112 #[.val (.int p1), .val (.int p2), .val (.int x2_6), .val (.ref sa1), .val (.ref sa2), .val (.int x5_19), .val (.int v36s0), .val (.int (1 : Int32)), .val (.int x8_94aa), .unset] [(.int x8_94aa), (.ref sa2)]))
            refine Adv.callV A X27 hx hZ hown (hw _ (List.mem_of_getElem? (i := 15) rfl)) (hw _ (List.mem_of_getElem? (i := 16) rfl)) (notFace_of_selects (args := #[]) (mvT hZ (hw _ (List.mem_of_getElem? (i := 18) rfl)))) (hw _ (List.mem_of_getElem? (i := 18) rfl)) (hw _ (List.mem_of_getElem? (i := 17) rfl)) (hw _ (List.mem_of_getElem? (i := 2) rfl)) (hw _ (List.mem_of_getElem? (i := 19) rfl)) e27 EX2 (rm2 l Z a0 hw [] sa2 x8_94aa h2 n0 own_fhi kv hkv hkv16 sf hsf S_sf2 cs hcs S_cs2 EX2 FC2 sb2 FV2 V_sb2) 0 (g := (mkF m 112 #[.val (.int p1), .val (.int p2), .val (.int x2_6), .val (.ref sa1), .val (.ref sa2), .val (.int x5_19), .val (.int v36s0), .val (.int (1 : Int32)), .val (.int x8_94aa), .unset] [(.int x8_94aa), (.ref sa2)])) rfl (by rw [hml]; rfl) [(.int x8_94aa)] [] rfl (lenOf pd0_1 rfl) rfl (by show 2 * 0 + _ ≤ _; exact Nat.le_of_eq rfl) (hb hby at_112) (by decide) (by decide) (by decide) (by decide) (by decide) ?_
            rintro T29 L29 _ X29 ⟨rfl, N29_q, e29⟩
            have N29 := Fr.app N27 N29_q
            show D (T29.setTop (mkF m 115 #[.val (.int p1), .val (.int p2), .val (.int x2_6), .val (.ref sa1), .val (.ref sa2), .val (.int x5_19), .val (.int v36s0), .val (.int (1 : Int32)), .val (.int x8_94aa), .unset] [(.int (own_ch (own_fhi kv)))]))
            refine Adv.callS A X29 hx hZ hown (hw _ (List.mem_of_getElem? (i := 10) rfl)) (hw _ (List.mem_of_getElem? (i := 11) rfl)) (hw _ (List.mem_of_getElem? (i := 12) rfl)) (hw _ (List.mem_of_getElem? (i := 13) rfl)) e29 (rm1 l Z a0 hw [] (own_ch (own_fhi kv)) h2 n0) 0 (g := (mkF m 115 #[.val (.int p1), .val (.int p2), .val (.int x2_6), .val (.ref sa1), .val (.ref sa2), .val (.int x5_19), .val (.int v36s0), .val (.int (1 : Int32)), .val (.int x8_94aa), .unset] [(.int (own_ch (own_fhi kv)))])) rfl (by rw [hml]; rfl) [(.int (own_ch (own_fhi kv)))] [] rfl (lenOf pd0_0 rfl) rfl (by show 2 * 0 + _ ≤ _; exact Nat.le_of_eq rfl) (hb hby at_115) (by decide) (by decide) (by decide) (by decide) (by decide) ?_
            rintro T30 L30 _ X30 ⟨rfl, N30_q, e30⟩
            have N30 := Fr.app N29 N30_q
            show D (T30.setTop (mkF m 118 #[.val (.int p1), .val (.int p2), .val (.int x2_6), .val (.ref sa1), .val (.ref sa2), .val (.int x5_19), .val (.int v36s0), .val (.int (1 : Int32)), .val (.int x8_94aa), .unset] [(.int (f1 (own_ch (own_fhi kv))))]))
            refine A (XS.iload X30.here hx rfl (hb hby at_118) rfl) ?_
            show D (T30.setTop (mkF m 120 #[.val (.int p1), .val (.int p2), .val (.int x2_6), .val (.ref sa1), .val (.ref sa2), .val (.int x5_19), .val (.int v36s0), .val (.int (1 : Int32)), .val (.int x8_94aa), .unset] [(.int x8_94aa), (.int (f1 (own_ch (own_fhi kv))))]))
            suffices Km128_31 : ∀ (v128s0aa : Int32), v128s0aa = (if (f1 (own_ch (own_fhi kv))) = x8_94aa then (1 : Int32) else (0 : Int32)) → D (T30.setTop (mkF m 128 #[.val (.int p1), .val (.int p2), .val (.int x2_6), .val (.ref sa1), .val (.ref sa2), .val (.int x5_19), .val (.int v36s0), .val (.int (1 : Int32)), .val (.int x8_94aa), .unset] [(.int v128s0aa)])) by
              by_cases c120_5 : (f1 (own_ch (own_fhi kv))) = x8_94aa
              · refine A (XS.icmpNo X30.here hx rfl (hb hby at_120) rfl (teq c120_5).2) ?_
                show D (T30.setTop (mkF m 123 #[.val (.int p1), .val (.int p2), .val (.int x2_6), .val (.ref sa1), .val (.ref sa2), .val (.int x5_19), .val (.int v36s0), .val (.int (1 : Int32)), .val (.int x8_94aa), .unset] []))
                refine A (XS.iconst X30.here hx rfl (hb hby at_123)) ?_
                show D (T30.setTop (mkF m 124 #[.val (.int p1), .val (.int p2), .val (.int x2_6), .val (.ref sa1), .val (.ref sa2), .val (.int x5_19), .val (.int v36s0), .val (.int (1 : Int32)), .val (.int x8_94aa), .unset] [(.int (1 : Int32))]))
                refine A (XS.goto X30.here hx rfl (pc0 := 124) (pc' := 128) rfl (hb hby at_124) (by decide) (by decide)) ?_
                show D (T30.setTop (mkF m 128 #[.val (.int p1), .val (.int p2), .val (.int x2_6), .val (.ref sa1), .val (.ref sa2), .val (.int x5_19), .val (.int v36s0), .val (.int (1 : Int32)), .val (.int x8_94aa), .unset] [(.int (1 : Int32))]))
                exact Km128_31 _ ((if_pos c120_5)).symm
              · refine A (XS.icmpYes X30.here hx rfl (pc0 := 120) (pc' := 127) rfl (hb hby at_120) rfl (feq c120_5).2 (by decide) (by decide)) ?_
                show D (T30.setTop (mkF m 127 #[.val (.int p1), .val (.int p2), .val (.int x2_6), .val (.ref sa1), .val (.ref sa2), .val (.int x5_19), .val (.int v36s0), .val (.int (1 : Int32)), .val (.int x8_94aa), .unset] []))
                refine A (XS.iconst X30.here hx rfl (hb hby at_127)) ?_
                show D (T30.setTop (mkF m 128 #[.val (.int p1), .val (.int p2), .val (.int x2_6), .val (.ref sa1), .val (.ref sa2), .val (.int x5_19), .val (.int v36s0), .val (.int (1 : Int32)), .val (.int x8_94aa), .unset] [(.int (0 : Int32))]))
                exact Km128_31 _ ((if_neg c120_5)).symm
            intro v128s0aa hv128s0aa
            show D (T30.setTop (mkF m 128 #[.val (.int p1), .val (.int p2), .val (.int x2_6), .val (.ref sa1), .val (.ref sa2), .val (.int x5_19), .val (.int v36s0), .val (.int (1 : Int32)), .val (.int x8_94aa), .unset] [(.int v128s0aa)]))
            refine A (XS.istore X30.here hx rfl (hb hby at_128) rfl (l' := #[.val (.int p1), .val (.int p2), .val (.int x2_6), .val (.ref sa1), .val (.ref sa2), .val (.int x5_19), .val (.int v36s0), .val (.int (1 : Int32)), .val (.int x8_94aa), .val (.int v128s0aa)]) rfl) ?_
            show D (T30.setTop (mkF m 130 #[.val (.int p1), .val (.int p2), .val (.int x2_6), .val (.ref sa1), .val (.ref sa2), .val (.int x5_19), .val (.int v36s0), .val (.int (1 : Int32)), .val (.int x8_94aa), .val (.int v128s0aa)] []))
            refine A (XS.iload X30.here hx rfl (hb hby at_130) rfl) ?_
            show D (T30.setTop (mkF m 132 #[.val (.int p1), .val (.int p2), .val (.int x2_6), .val (.ref sa1), .val (.ref sa2), .val (.int x5_19), .val (.int v36s0), .val (.int (1 : Int32)), .val (.int x8_94aa), .val (.int v128s0aa)] [(.int v36s0)]))
            suffices Km150_32 : ∀ (v150s0a : Int32), v150s0a = (if v36s0 = (0 : Int32) then (0 : Int32) else (if v128s0aa = (0 : Int32) then (0 : Int32) else (1 : Int32))) → D (T30.setTop (mkF m 150 #[.val (.int p1), .val (.int p2), .val (.int x2_6), .val (.ref sa1), .val (.ref sa2), .val (.int x5_19), .val (.int v36s0), .val (.int (1 : Int32)), .val (.int x8_94aa), .val (.int v128s0aa)] [(.int v150s0a)])) by
              by_cases c132_5 : v36s0 = (0 : Int32)
              · refine A (XS.ifYes X30.here hx rfl (pc0 := 132) (pc' := 149) rfl (hb hby at_132) rfl ((if0 _ _).trans (teq c132_5).1) (by decide) (by decide)) ?_
                show D (T30.setTop (mkF m 149 #[.val (.int p1), .val (.int p2), .val (.int x2_6), .val (.ref sa1), .val (.ref sa2), .val (.int x5_19), .val (.int v36s0), .val (.int (1 : Int32)), .val (.int x8_94aa), .val (.int v128s0aa)] []))
                refine A (XS.iconst X30.here hx rfl (hb hby at_149)) ?_
                show D (T30.setTop (mkF m 150 #[.val (.int p1), .val (.int p2), .val (.int x2_6), .val (.ref sa1), .val (.ref sa2), .val (.int x5_19), .val (.int v36s0), .val (.int (1 : Int32)), .val (.int x8_94aa), .val (.int v128s0aa)] [(.int (0 : Int32))]))
                exact Km150_32 _ ((if_pos c132_5)).symm
              · refine A (XS.ifNo X30.here hx rfl (hb hby at_132) rfl ((if0 _ _).trans (feq c132_5).1)) ?_
                show D (T30.setTop (mkF m 135 #[.val (.int p1), .val (.int p2), .val (.int x2_6), .val (.ref sa1), .val (.ref sa2), .val (.int x5_19), .val (.int v36s0), .val (.int (1 : Int32)), .val (.int x8_94aa), .val (.int v128s0aa)] []))
                refine A (XS.iload X30.here hx rfl (hb hby at_135) rfl) ?_
                show D (T30.setTop (mkF m 137 #[.val (.int p1), .val (.int p2), .val (.int x2_6), .val (.ref sa1), .val (.ref sa2), .val (.int x5_19), .val (.int v36s0), .val (.int (1 : Int32)), .val (.int x8_94aa), .val (.int v128s0aa)] [(.int (1 : Int32))]))
                refine A (XS.ifNo X30.here hx rfl (hb hby at_137) rfl ((if0 _ _).trans (feq (by decide : ¬ ((1 : Int32) = (0 : Int32)))).1)) ?_
                show D (T30.setTop (mkF m 140 #[.val (.int p1), .val (.int p2), .val (.int x2_6), .val (.ref sa1), .val (.ref sa2), .val (.int x5_19), .val (.int v36s0), .val (.int (1 : Int32)), .val (.int x8_94aa), .val (.int v128s0aa)] []))
                refine A (XS.iload X30.here hx rfl (hb hby at_140) rfl) ?_
                show D (T30.setTop (mkF m 142 #[.val (.int p1), .val (.int p2), .val (.int x2_6), .val (.ref sa1), .val (.ref sa2), .val (.int x5_19), .val (.int v36s0), .val (.int (1 : Int32)), .val (.int x8_94aa), .val (.int v128s0aa)] [(.int v128s0aa)]))
                by_cases c142_6 : v128s0aa = (0 : Int32)
                · refine A (XS.ifYes X30.here hx rfl (pc0 := 142) (pc' := 149) rfl (hb hby at_142) rfl ((if0 _ _).trans (teq c142_6).1) (by decide) (by decide)) ?_
                  show D (T30.setTop (mkF m 149 #[.val (.int p1), .val (.int p2), .val (.int x2_6), .val (.ref sa1), .val (.ref sa2), .val (.int x5_19), .val (.int v36s0), .val (.int (1 : Int32)), .val (.int x8_94aa), .val (.int v128s0aa)] []))
                  refine A (XS.iconst X30.here hx rfl (hb hby at_149)) ?_
                  show D (T30.setTop (mkF m 150 #[.val (.int p1), .val (.int p2), .val (.int x2_6), .val (.ref sa1), .val (.ref sa2), .val (.int x5_19), .val (.int v36s0), .val (.int (1 : Int32)), .val (.int x8_94aa), .val (.int v128s0aa)] [(.int (0 : Int32))]))
                  exact Km150_32 _ (((if_neg c132_5)).trans (if_pos c142_6)).symm
                · refine A (XS.ifNo X30.here hx rfl (hb hby at_142) rfl ((if0 _ _).trans (feq c142_6).1)) ?_
                  show D (T30.setTop (mkF m 145 #[.val (.int p1), .val (.int p2), .val (.int x2_6), .val (.ref sa1), .val (.ref sa2), .val (.int x5_19), .val (.int v36s0), .val (.int (1 : Int32)), .val (.int x8_94aa), .val (.int v128s0aa)] []))
                  refine A (XS.iconst X30.here hx rfl (hb hby at_145)) ?_
                  show D (T30.setTop (mkF m 146 #[.val (.int p1), .val (.int p2), .val (.int x2_6), .val (.ref sa1), .val (.ref sa2), .val (.int x5_19), .val (.int v36s0), .val (.int (1 : Int32)), .val (.int x8_94aa), .val (.int v128s0aa)] [(.int (1 : Int32))]))
                  refine A (XS.goto X30.here hx rfl (pc0 := 146) (pc' := 150) rfl (hb hby at_146) (by decide) (by decide)) ?_
                  show D (T30.setTop (mkF m 150 #[.val (.int p1), .val (.int p2), .val (.int x2_6), .val (.ref sa1), .val (.ref sa2), .val (.int x5_19), .val (.int v36s0), .val (.int (1 : Int32)), .val (.int x8_94aa), .val (.int v128s0aa)] [(.int (1 : Int32))]))
                  exact Km150_32 _ (((if_neg c132_5)).trans (if_neg c142_6)).symm
            intro v150s0a hv150s0a
            show D (T30.setTop (mkF m 150 #[.val (.int p1), .val (.int p2), .val (.int x2_6), .val (.ref sa1), .val (.ref sa2), .val (.int x5_19), .val (.int v36s0), .val (.int (1 : Int32)), .val (.int x8_94aa), .val (.int v128s0aa)] [(.int v150s0a)]))
            obtain rfl : v150s0a = (1 : Int32) := by
              have qi := own_in hx5_19 hv36s0
              have q9 : v128s0aa = 1 := by rw [hv128s0aa, if_pos (Int32.toInt_inj.mp ((own_bhi kv hkv16).trans hkv.symm))]
              rw [hv150s0a, qi, q9]
              decide
            show D (T30.setTop (mkF m 150 #[.val (.int p1), .val (.int p2), .val (.int x2_6), .val (.ref sa1), .val (.ref sa2), .val (.int x5_19), .val (.int v36s0), .val (.int (1 : Int32)), .val (.int x8_94aa), .val (.int v128s0aa)] [(.int (1 : Int32))]))
            exact F _ (Jvm.JW.retW X30 hS hlk (v := some (.int (1 : Int32))) (fun h => by rw [hrt] at h; cases h) (fun fs hr => retOut X30 hx hrt rfl (Or.inl ⟨rfl, Or.inr (Or.inl rfl), _, rfl⟩) (hb hby at_150) hr) e30 hk1 ⟨rfl, N30⟩ (by decide) (by decide))
          · refine A (XS.icmpYes X27.here hx rfl (pc0 := 105) (pc' := 127) rfl (hb hby at_105) rfl (feq c105_28).2 (by decide) (by decide)) ?_
            show D (T27.setTop (mkF m 127 #[.val (.int p1), .val (.int p2), .val (.int x2_6), .val (.ref sa1), .val (.ref sa2), .val (.int x5_19), .val (.int v36s0), .val (.int (1 : Int32)), .val (.int x8_94aa), .unset] []))
            refine A (XS.iconst X27.here hx rfl (hb hby at_127)) ?_
            show D (T27.setTop (mkF m 128 #[.val (.int p1), .val (.int p2), .val (.int x2_6), .val (.ref sa1), .val (.ref sa2), .val (.int x5_19), .val (.int v36s0), .val (.int (1 : Int32)), .val (.int x8_94aa), .unset] [(.int (0 : Int32))]))
            refine A (XS.istore X27.here hx rfl (hb hby at_128) rfl (l' := #[.val (.int p1), .val (.int p2), .val (.int x2_6), .val (.ref sa1), .val (.ref sa2), .val (.int x5_19), .val (.int v36s0), .val (.int (1 : Int32)), .val (.int x8_94aa), .val (.int (0 : Int32))]) rfl) ?_
            show D (T27.setTop (mkF m 130 #[.val (.int p1), .val (.int p2), .val (.int x2_6), .val (.ref sa1), .val (.ref sa2), .val (.int x5_19), .val (.int v36s0), .val (.int (1 : Int32)), .val (.int x8_94aa), .val (.int (0 : Int32))] []))
            refine A (XS.iload X27.here hx rfl (hb hby at_130) rfl) ?_
            show D (T27.setTop (mkF m 132 #[.val (.int p1), .val (.int p2), .val (.int x2_6), .val (.ref sa1), .val (.ref sa2), .val (.int x5_19), .val (.int v36s0), .val (.int (1 : Int32)), .val (.int x8_94aa), .val (.int (0 : Int32))] [(.int v36s0)]))
            suffices Km150_33 : D (T27.setTop (mkF m 150 #[.val (.int p1), .val (.int p2), .val (.int x2_6), .val (.ref sa1), .val (.ref sa2), .val (.int x5_19), .val (.int v36s0), .val (.int (1 : Int32)), .val (.int x8_94aa), .val (.int (0 : Int32))] [(.int (0 : Int32))])) by
              by_cases c132_5 : v36s0 = (0 : Int32)
              · refine A (XS.ifYes X27.here hx rfl (pc0 := 132) (pc' := 149) rfl (hb hby at_132) rfl ((if0 _ _).trans (teq c132_5).1) (by decide) (by decide)) ?_
                show D (T27.setTop (mkF m 149 #[.val (.int p1), .val (.int p2), .val (.int x2_6), .val (.ref sa1), .val (.ref sa2), .val (.int x5_19), .val (.int v36s0), .val (.int (1 : Int32)), .val (.int x8_94aa), .val (.int (0 : Int32))] []))
                refine A (XS.iconst X27.here hx rfl (hb hby at_149)) ?_
                show D (T27.setTop (mkF m 150 #[.val (.int p1), .val (.int p2), .val (.int x2_6), .val (.ref sa1), .val (.ref sa2), .val (.int x5_19), .val (.int v36s0), .val (.int (1 : Int32)), .val (.int x8_94aa), .val (.int (0 : Int32))] [(.int (0 : Int32))]))
                exact Km150_33
              · refine A (XS.ifNo X27.here hx rfl (hb hby at_132) rfl ((if0 _ _).trans (feq c132_5).1)) ?_
                show D (T27.setTop (mkF m 135 #[.val (.int p1), .val (.int p2), .val (.int x2_6), .val (.ref sa1), .val (.ref sa2), .val (.int x5_19), .val (.int v36s0), .val (.int (1 : Int32)), .val (.int x8_94aa), .val (.int (0 : Int32))] []))
                refine A (XS.iload X27.here hx rfl (hb hby at_135) rfl) ?_
                show D (T27.setTop (mkF m 137 #[.val (.int p1), .val (.int p2), .val (.int x2_6), .val (.ref sa1), .val (.ref sa2), .val (.int x5_19), .val (.int v36s0), .val (.int (1 : Int32)), .val (.int x8_94aa), .val (.int (0 : Int32))] [(.int (1 : Int32))]))
                refine A (XS.ifNo X27.here hx rfl (hb hby at_137) rfl ((if0 _ _).trans (feq (by decide : ¬ ((1 : Int32) = (0 : Int32)))).1)) ?_
                show D (T27.setTop (mkF m 140 #[.val (.int p1), .val (.int p2), .val (.int x2_6), .val (.ref sa1), .val (.ref sa2), .val (.int x5_19), .val (.int v36s0), .val (.int (1 : Int32)), .val (.int x8_94aa), .val (.int (0 : Int32))] []))
                refine A (XS.iload X27.here hx rfl (hb hby at_140) rfl) ?_
                show D (T27.setTop (mkF m 142 #[.val (.int p1), .val (.int p2), .val (.int x2_6), .val (.ref sa1), .val (.ref sa2), .val (.int x5_19), .val (.int v36s0), .val (.int (1 : Int32)), .val (.int x8_94aa), .val (.int (0 : Int32))] [(.int (0 : Int32))]))
                refine A (XS.ifYes X27.here hx rfl (pc0 := 142) (pc' := 149) rfl (hb hby at_142) rfl ((if0 _ _).trans (teq (by decide : (0 : Int32) = (0 : Int32))).1) (by decide) (by decide)) ?_
                show D (T27.setTop (mkF m 149 #[.val (.int p1), .val (.int p2), .val (.int x2_6), .val (.ref sa1), .val (.ref sa2), .val (.int x5_19), .val (.int v36s0), .val (.int (1 : Int32)), .val (.int x8_94aa), .val (.int (0 : Int32))] []))
                refine A (XS.iconst X27.here hx rfl (hb hby at_149)) ?_
                show D (T27.setTop (mkF m 150 #[.val (.int p1), .val (.int p2), .val (.int x2_6), .val (.ref sa1), .val (.ref sa2), .val (.int x5_19), .val (.int v36s0), .val (.int (1 : Int32)), .val (.int x8_94aa), .val (.int (0 : Int32))] [(.int (0 : Int32))]))
                exact Km150_33
            show D (T27.setTop (mkF m 150 #[.val (.int p1), .val (.int p2), .val (.int x2_6), .val (.ref sa1), .val (.ref sa2), .val (.int x5_19), .val (.int v36s0), .val (.int (1 : Int32)), .val (.int x8_94aa), .val (.int (0 : Int32))] [(.int (0 : Int32))]))
            exfalso
            exact absurd (Int32.toInt_inj.mp ((own_blo kv hkv16).trans hkv.symm)) c105_28
        · refine A (XS.icmpNo X24.here hx rfl (hb hby at_64) rfl (feq c64_25).1) ?_
          show D (T24.setTop (mkF m 67 #[.val (.int p1), .val (.int p2), .val (.int x2_6), .val (.ref sa1), .val (.ref sa2), .val (.int x5_19), .val (.int v36s0), .unset, .unset, .unset] []))
          refine A (XS.iloadN X24.here hx rfl (hb hby at_67) rfl) ?_
          show D (T24.setTop (mkF m 68 #[.val (.int p1), .val (.int p2), .val (.int x2_6), .val (.ref sa1), .val (.ref sa2), .val (.int x5_19), .val (.int v36s0), .unset, .unset, .unset] [(.int x2_6)]))
          refine A (XS.aload X24.here hx rfl (hb hby at_68) rfl rfl) ?_
          show D (T24.setTop (mkF m 70 #[.val (.int p1), .val (.int p2), .val (.int x2_6), .val (.ref sa1), .val (.ref sa2), .val (.int x5_19), .val (.int v36s0), .unset, .unset, .unset] [(.ref sa2), (.int x2_6)]))
          refine A (XS.iload X24.here hx rfl (hb hby at_70) rfl) ?_
          show D (T24.setTop (mkF m 72 #[.val (.int p1), .val (.int p2), .val (.int x2_6), .val (.ref sa1), .val (.ref sa2), .val (.int x5_19), .val (.int v36s0), .unset, .unset, .unset] [(.int x5_19), (.ref sa2), (.int x2_6)]))
          refine Adv.callV A X24 hx hZ hown (hw _ (List.mem_of_getElem? (i := 15) rfl)) (hw _ (List.mem_of_getElem? (i := 16) rfl)) (notFace_of_selects (args := #[]) (mvT hZ (hw _ (List.mem_of_getElem? (i := 18) rfl)))) (hw _ (List.mem_of_getElem? (i := 18) rfl)) (hw _ (List.mem_of_getElem? (i := 17) rfl)) (hw _ (List.mem_of_getElem? (i := 2) rfl)) (hw _ (List.mem_of_getElem? (i := 19) rfl)) e24 EX2 (rm2 l Z a0 hw [] sa2 x5_19 h2 n0 own_fhi kd hkd hkd16 sf hsf S_sf2 cs hcs S_cs2 EX2 FC2 sb2 FV2 V_sb2) 1 (g := (mkF m 72 #[.val (.int p1), .val (.int p2), .val (.int x2_6), .val (.ref sa1), .val (.ref sa2), .val (.int x5_19), .val (.int v36s0), .unset, .unset, .unset] [(.int x5_19), (.ref sa2), (.int x2_6)])) rfl (by rw [hml]; rfl) [(.int x5_19)] [(.int x2_6)] rfl (lenOf pd0_1 rfl) rfl (by show 2 * 0 + _ ≤ _; exact Nat.le_of_eq rfl) (hb hby at_72) (by decide) (by decide) (by decide) (by decide) (by decide) ?_
          rintro T34 L34 _ X34 ⟨rfl, N34_q, e34⟩
          have N34 := Fr.app N24 N34_q
          show D (T34.setTop (mkF m 75 #[.val (.int p1), .val (.int p2), .val (.int x2_6), .val (.ref sa1), .val (.ref sa2), .val (.int x5_19), .val (.int v36s0), .unset, .unset, .unset] [(.int (own_ch (own_fhi kd))), (.int x2_6)]))
          suffices Km83_35 : ∀ (v83s0 : Int32), v83s0 = (if x2_6 = (own_ch (own_fhi kd)) then (1 : Int32) else (0 : Int32)) → D (T34.setTop (mkF m 83 #[.val (.int p1), .val (.int p2), .val (.int x2_6), .val (.ref sa1), .val (.ref sa2), .val (.int x5_19), .val (.int v36s0), .unset, .unset, .unset] [(.int v83s0)])) by
            by_cases c75_4 : x2_6 = (own_ch (own_fhi kd))
            · refine A (XS.icmpNo X34.here hx rfl (hb hby at_75) rfl (teq c75_4).2) ?_
              show D (T34.setTop (mkF m 78 #[.val (.int p1), .val (.int p2), .val (.int x2_6), .val (.ref sa1), .val (.ref sa2), .val (.int x5_19), .val (.int v36s0), .unset, .unset, .unset] []))
              refine A (XS.iconst X34.here hx rfl (hb hby at_78)) ?_
              show D (T34.setTop (mkF m 79 #[.val (.int p1), .val (.int p2), .val (.int x2_6), .val (.ref sa1), .val (.ref sa2), .val (.int x5_19), .val (.int v36s0), .unset, .unset, .unset] [(.int (1 : Int32))]))
              refine A (XS.goto X34.here hx rfl (pc0 := 79) (pc' := 83) rfl (hb hby at_79) (by decide) (by decide)) ?_
              show D (T34.setTop (mkF m 83 #[.val (.int p1), .val (.int p2), .val (.int x2_6), .val (.ref sa1), .val (.ref sa2), .val (.int x5_19), .val (.int v36s0), .unset, .unset, .unset] [(.int (1 : Int32))]))
              exact Km83_35 _ ((if_pos c75_4)).symm
            · refine A (XS.icmpYes X34.here hx rfl (pc0 := 75) (pc' := 82) rfl (hb hby at_75) rfl (feq c75_4).2 (by decide) (by decide)) ?_
              show D (T34.setTop (mkF m 82 #[.val (.int p1), .val (.int p2), .val (.int x2_6), .val (.ref sa1), .val (.ref sa2), .val (.int x5_19), .val (.int v36s0), .unset, .unset, .unset] []))
              refine A (XS.iconst X34.here hx rfl (hb hby at_82)) ?_
              show D (T34.setTop (mkF m 83 #[.val (.int p1), .val (.int p2), .val (.int x2_6), .val (.ref sa1), .val (.ref sa2), .val (.int x5_19), .val (.int v36s0), .unset, .unset, .unset] [(.int (0 : Int32))]))
              exact Km83_35 _ ((if_neg c75_4)).symm
          intro v83s0 hv83s0
          show D (T34.setTop (mkF m 83 #[.val (.int p1), .val (.int p2), .val (.int x2_6), .val (.ref sa1), .val (.ref sa2), .val (.int x5_19), .val (.int v36s0), .unset, .unset, .unset] [(.int v83s0)]))
          refine A (XS.istore X34.here hx rfl (hb hby at_83) rfl (l' := #[.val (.int p1), .val (.int p2), .val (.int x2_6), .val (.ref sa1), .val (.ref sa2), .val (.int x5_19), .val (.int v36s0), .val (.int v83s0), .unset, .unset]) rfl) ?_
          show D (T34.setTop (mkF m 85 #[.val (.int p1), .val (.int p2), .val (.int x2_6), .val (.ref sa1), .val (.ref sa2), .val (.int x5_19), .val (.int v36s0), .val (.int v83s0), .unset, .unset] []))
          refine A (XS.iloadN X34.here hx rfl (hb hby at_85) rfl) ?_
          show D (T34.setTop (mkF m 86 #[.val (.int p1), .val (.int p2), .val (.int x2_6), .val (.ref sa1), .val (.ref sa2), .val (.int x5_19), .val (.int v36s0), .val (.int v83s0), .unset, .unset] [(.int p2)]))
          refine A (X34.ldcInt hx hown (mvT hZ (hw _ (List.mem_of_getElem? (i := 14) rfl))) (g := (mkF m 86 #[.val (.int p1), .val (.int p2), .val (.int x2_6), .val (.ref sa1), .val (.ref sa2), .val (.int x5_19), .val (.int v36s0), .val (.int v83s0), .unset, .unset] [(.int p2)])) rfl (hb hby at_86) _) ?_
          show D (T34.setTop (mkF m 88 #[.val (.int p1), .val (.int p2), .val (.int x2_6), .val (.ref sa1), .val (.ref sa2), .val (.int x5_19), .val (.int v36s0), .val (.int v83s0), .unset, .unset] [(.int (2147483647 : Int32)), (.int p2)]))
          refine A (XS.iand X34.here hx rfl (hb hby at_88) rfl) ?_
          show D (T34.setTop (mkF m 89 #[.val (.int p1), .val (.int p2), .val (.int x2_6), .val (.ref sa1), .val (.ref sa2), .val (.int x5_19), .val (.int v36s0), .val (.int v83s0), .unset, .unset] [(.int (p2 &&& (2147483647 : Int32)))]))
          refine A (XS.bipush X34.here hx rfl (hb hby at_89)) ?_
          show D (T34.setTop (mkF m 91 #[.val (.int p1), .val (.int p2), .val (.int x2_6), .val (.ref sa1), .val (.ref sa2), .val (.int x5_19), .val (.int v36s0), .val (.int v83s0), .unset, .unset] [(.int (16 : Int32)), (.int (p2 &&& (2147483647 : Int32)))]))
          refine A (iremM X34 hx rfl (hb hby at_91) rfl (by decide)) ?_
          show D (T34.setTop (mkF m 92 #[.val (.int p1), .val (.int p2), .val (.int x2_6), .val (.ref sa1), .val (.ref sa2), .val (.int x5_19), .val (.int v36s0), .val (.int v83s0), .unset, .unset] [(.int ((p2 &&& (2147483647 : Int32)) % (16 : Int32)))]))
          refine A (XS.istore X34.here hx rfl (hb hby at_92) rfl (l' := #[.val (.int p1), .val (.int p2), .val (.int x2_6), .val (.ref sa1), .val (.ref sa2), .val (.int x5_19), .val (.int v36s0), .val (.int v83s0), .val (.int ((p2 &&& (2147483647 : Int32)) % (16 : Int32))), .unset]) rfl) ?_
          show D (T34.setTop (mkF m 94 #[.val (.int p1), .val (.int p2), .val (.int x2_6), .val (.ref sa1), .val (.ref sa2), .val (.int x5_19), .val (.int v36s0), .val (.int v83s0), .val (.int ((p2 &&& (2147483647 : Int32)) % (16 : Int32))), .unset] []))
          suffices Kx8_94aaa : ∀ x8_94aaa : Int32, x8_94aaa = ((p2 &&& (2147483647 : Int32)) % (16 : Int32)) → D (T34.setTop (mkF m 94 #[.val (.int p1), .val (.int p2), .val (.int x2_6), .val (.ref sa1), .val (.ref sa2), .val (.int x5_19), .val (.int v36s0), .val (.int v83s0), .val (.int x8_94aaa), .unset] [])) from Kx8_94aaa _ rfl
          intro x8_94aaa hx8_94aaa
          obtain ⟨kv, hkv, hkv16⟩ := own_v hx8_94aaa
          refine A (XS.aloadN X34.here hx rfl (hb hby at_94) rfl rfl) ?_
          show D (T34.setTop (mkF m 95 #[.val (.int p1), .val (.int p2), .val (.int x2_6), .val (.ref sa1), .val (.ref sa2), .val (.int x5_19), .val (.int v36s0), .val (.int v83s0), .val (.int x8_94aaa), .unset] [(.ref sa1)]))
          refine A (XS.iload X34.here hx rfl (hb hby at_95) rfl) ?_
          show D (T34.setTop (mkF m 97 #[.val (.int p1), .val (.int p2), .val (.int x2_6), .val (.ref sa1), .val (.ref sa2), .val (.int x5_19), .val (.int v36s0), .val (.int v83s0), .val (.int x8_94aaa), .unset] [(.int x8_94aaa), (.ref sa1)]))
          refine Adv.callV A X34 hx hZ hown (hw _ (List.mem_of_getElem? (i := 15) rfl)) (hw _ (List.mem_of_getElem? (i := 16) rfl)) (notFace_of_selects (args := #[]) (mvT hZ (hw _ (List.mem_of_getElem? (i := 18) rfl)))) (hw _ (List.mem_of_getElem? (i := 18) rfl)) (hw _ (List.mem_of_getElem? (i := 17) rfl)) (hw _ (List.mem_of_getElem? (i := 2) rfl)) (hw _ (List.mem_of_getElem? (i := 19) rfl)) e34 E_sa1_2 (rm2 l Z a0 hw [] sa1 x8_94aaa h2 n0 own_flo kv hkv hkv16 sf hsf S_sf2 cs hcs S_cs2 E_sa1_2 FC_sa1_2 sb1 FV_sa1_2 V_sb1_2) 0 (g := (mkF m 97 #[.val (.int p1), .val (.int p2), .val (.int x2_6), .val (.ref sa1), .val (.ref sa2), .val (.int x5_19), .val (.int v36s0), .val (.int v83s0), .val (.int x8_94aaa), .unset] [(.int x8_94aaa), (.ref sa1)])) rfl (by rw [hml]; rfl) [(.int x8_94aaa)] [] rfl (lenOf pd0_1 rfl) rfl (by show 2 * 0 + _ ≤ _; exact Nat.le_of_eq rfl) (hb hby at_97) (by decide) (by decide) (by decide) (by decide) (by decide) ?_
          rintro T36 L36 _ X36 ⟨rfl, N36_q, e36⟩
          have N36 := Fr.app N34 N36_q
          show D (T36.setTop (mkF m 100 #[.val (.int p1), .val (.int p2), .val (.int x2_6), .val (.ref sa1), .val (.ref sa2), .val (.int x5_19), .val (.int v36s0), .val (.int v83s0), .val (.int x8_94aaa), .unset] [(.int (own_ch (own_flo kv)))]))
          refine Adv.callS A X36 hx hZ hown (hw _ (List.mem_of_getElem? (i := 10) rfl)) (hw _ (List.mem_of_getElem? (i := 11) rfl)) (hw _ (List.mem_of_getElem? (i := 12) rfl)) (hw _ (List.mem_of_getElem? (i := 13) rfl)) e36 (rm1 l Z a0 hw [] (own_ch (own_flo kv)) h2 n0) 0 (g := (mkF m 100 #[.val (.int p1), .val (.int p2), .val (.int x2_6), .val (.ref sa1), .val (.ref sa2), .val (.int x5_19), .val (.int v36s0), .val (.int v83s0), .val (.int x8_94aaa), .unset] [(.int (own_ch (own_flo kv)))])) rfl (by rw [hml]; rfl) [(.int (own_ch (own_flo kv)))] [] rfl (lenOf pd0_0 rfl) rfl (by show 2 * 0 + _ ≤ _; exact Nat.le_of_eq rfl) (hb hby at_100) (by decide) (by decide) (by decide) (by decide) (by decide) ?_
          rintro T37 L37 _ X37 ⟨rfl, N37_q, e37⟩
          have N37 := Fr.app N36 N37_q
          show D (T37.setTop (mkF m 103 #[.val (.int p1), .val (.int p2), .val (.int x2_6), .val (.ref sa1), .val (.ref sa2), .val (.int x5_19), .val (.int v36s0), .val (.int v83s0), .val (.int x8_94aaa), .unset] [(.int (f1 (own_ch (own_flo kv))))]))
          refine A (XS.iload X37.here hx rfl (hb hby at_103) rfl) ?_
          show D (T37.setTop (mkF m 105 #[.val (.int p1), .val (.int p2), .val (.int x2_6), .val (.ref sa1), .val (.ref sa2), .val (.int x5_19), .val (.int v36s0), .val (.int v83s0), .val (.int x8_94aaa), .unset] [(.int x8_94aaa), (.int (f1 (own_ch (own_flo kv))))]))
          by_cases c105_38 : (f1 (own_ch (own_flo kv))) = x8_94aaa
          · refine A (XS.icmpNo X37.here hx rfl (hb hby at_105) rfl (teq c105_38).2) ?_
            show D (T37.setTop (mkF m 108 #[.val (.int p1), .val (.int p2), .val (.int x2_6), .val (.ref sa1), .val (.ref sa2), .val (.int x5_19), .val (.int v36s0), .val (.int v83s0), .val (.int x8_94aaa), .unset] []))
            refine A (XS.aload X37.here hx rfl (hb hby at_108) rfl rfl) ?_
            show D (T37.setTop (mkF m 110 #[.val (.int p1), .val (.int p2), .val (.int x2_6), .val (.ref sa1), .val (.ref sa2), .val (.int x5_19), .val (.int v36s0), .val (.int v83s0), .val (.int x8_94aaa), .unset] [(.ref sa2)]))
            refine A (XS.iload X37.here hx rfl (hb hby at_110) rfl) ?_
            show D (T37.setTop (mkF m 112 #[.val (.int p1), .val (.int p2), .val (.int x2_6), .val (.ref sa1), .val (.ref sa2), .val (.int x5_19), .val (.int v36s0), .val (.int v83s0), .val (.int x8_94aaa), .unset] [(.int x8_94aaa), (.ref sa2)]))
            refine Adv.callV A X37 hx hZ hown (hw _ (List.mem_of_getElem? (i := 15) rfl)) (hw _ (List.mem_of_getElem? (i := 16) rfl)) (notFace_of_selects (args := #[]) (mvT hZ (hw _ (List.mem_of_getElem? (i := 18) rfl)))) (hw _ (List.mem_of_getElem? (i := 18) rfl)) (hw _ (List.mem_of_getElem? (i := 17) rfl)) (hw _ (List.mem_of_getElem? (i := 2) rfl)) (hw _ (List.mem_of_getElem? (i := 19) rfl)) e37 EX2 (rm2 l Z a0 hw [] sa2 x8_94aaa h2 n0 own_fhi kv hkv hkv16 sf hsf S_sf2 cs hcs S_cs2 EX2 FC2 sb2 FV2 V_sb2) 0 (g := (mkF m 112 #[.val (.int p1), .val (.int p2), .val (.int x2_6), .val (.ref sa1), .val (.ref sa2), .val (.int x5_19), .val (.int v36s0), .val (.int v83s0), .val (.int x8_94aaa), .unset] [(.int x8_94aaa), (.ref sa2)])) rfl (by rw [hml]; rfl) [(.int x8_94aaa)] [] rfl (lenOf pd0_1 rfl) rfl (by show 2 * 0 + _ ≤ _; exact Nat.le_of_eq rfl) (hb hby at_112) (by decide) (by decide) (by decide) (by decide) (by decide) ?_
            rintro T39 L39 _ X39 ⟨rfl, N39_q, e39⟩
            have N39 := Fr.app N37 N39_q
            show D (T39.setTop (mkF m 115 #[.val (.int p1), .val (.int p2), .val (.int x2_6), .val (.ref sa1), .val (.ref sa2), .val (.int x5_19), .val (.int v36s0), .val (.int v83s0), .val (.int x8_94aaa), .unset] [(.int (own_ch (own_fhi kv)))]))
            refine Adv.callS A X39 hx hZ hown (hw _ (List.mem_of_getElem? (i := 10) rfl)) (hw _ (List.mem_of_getElem? (i := 11) rfl)) (hw _ (List.mem_of_getElem? (i := 12) rfl)) (hw _ (List.mem_of_getElem? (i := 13) rfl)) e39 (rm1 l Z a0 hw [] (own_ch (own_fhi kv)) h2 n0) 0 (g := (mkF m 115 #[.val (.int p1), .val (.int p2), .val (.int x2_6), .val (.ref sa1), .val (.ref sa2), .val (.int x5_19), .val (.int v36s0), .val (.int v83s0), .val (.int x8_94aaa), .unset] [(.int (own_ch (own_fhi kv)))])) rfl (by rw [hml]; rfl) [(.int (own_ch (own_fhi kv)))] [] rfl (lenOf pd0_0 rfl) rfl (by show 2 * 0 + _ ≤ _; exact Nat.le_of_eq rfl) (hb hby at_115) (by decide) (by decide) (by decide) (by decide) (by decide) ?_
            rintro T40 L40 _ X40 ⟨rfl, N40_q, e40⟩
            have N40 := Fr.app N39 N40_q
            show D (T40.setTop (mkF m 118 #[.val (.int p1), .val (.int p2), .val (.int x2_6), .val (.ref sa1), .val (.ref sa2), .val (.int x5_19), .val (.int v36s0), .val (.int v83s0), .val (.int x8_94aaa), .unset] [(.int (f1 (own_ch (own_fhi kv))))]))
            refine A (XS.iload X40.here hx rfl (hb hby at_118) rfl) ?_
            show D (T40.setTop (mkF m 120 #[.val (.int p1), .val (.int p2), .val (.int x2_6), .val (.ref sa1), .val (.ref sa2), .val (.int x5_19), .val (.int v36s0), .val (.int v83s0), .val (.int x8_94aaa), .unset] [(.int x8_94aaa), (.int (f1 (own_ch (own_fhi kv))))]))
            suffices Km128_41 : ∀ (v128s0aaa : Int32), v128s0aaa = (if (f1 (own_ch (own_fhi kv))) = x8_94aaa then (1 : Int32) else (0 : Int32)) → D (T40.setTop (mkF m 128 #[.val (.int p1), .val (.int p2), .val (.int x2_6), .val (.ref sa1), .val (.ref sa2), .val (.int x5_19), .val (.int v36s0), .val (.int v83s0), .val (.int x8_94aaa), .unset] [(.int v128s0aaa)])) by
              by_cases c120_5 : (f1 (own_ch (own_fhi kv))) = x8_94aaa
              · refine A (XS.icmpNo X40.here hx rfl (hb hby at_120) rfl (teq c120_5).2) ?_
                show D (T40.setTop (mkF m 123 #[.val (.int p1), .val (.int p2), .val (.int x2_6), .val (.ref sa1), .val (.ref sa2), .val (.int x5_19), .val (.int v36s0), .val (.int v83s0), .val (.int x8_94aaa), .unset] []))
                refine A (XS.iconst X40.here hx rfl (hb hby at_123)) ?_
                show D (T40.setTop (mkF m 124 #[.val (.int p1), .val (.int p2), .val (.int x2_6), .val (.ref sa1), .val (.ref sa2), .val (.int x5_19), .val (.int v36s0), .val (.int v83s0), .val (.int x8_94aaa), .unset] [(.int (1 : Int32))]))
                refine A (XS.goto X40.here hx rfl (pc0 := 124) (pc' := 128) rfl (hb hby at_124) (by decide) (by decide)) ?_
                show D (T40.setTop (mkF m 128 #[.val (.int p1), .val (.int p2), .val (.int x2_6), .val (.ref sa1), .val (.ref sa2), .val (.int x5_19), .val (.int v36s0), .val (.int v83s0), .val (.int x8_94aaa), .unset] [(.int (1 : Int32))]))
                exact Km128_41 _ ((if_pos c120_5)).symm
              · refine A (XS.icmpYes X40.here hx rfl (pc0 := 120) (pc' := 127) rfl (hb hby at_120) rfl (feq c120_5).2 (by decide) (by decide)) ?_
                show D (T40.setTop (mkF m 127 #[.val (.int p1), .val (.int p2), .val (.int x2_6), .val (.ref sa1), .val (.ref sa2), .val (.int x5_19), .val (.int v36s0), .val (.int v83s0), .val (.int x8_94aaa), .unset] []))
                refine A (XS.iconst X40.here hx rfl (hb hby at_127)) ?_
                show D (T40.setTop (mkF m 128 #[.val (.int p1), .val (.int p2), .val (.int x2_6), .val (.ref sa1), .val (.ref sa2), .val (.int x5_19), .val (.int v36s0), .val (.int v83s0), .val (.int x8_94aaa), .unset] [(.int (0 : Int32))]))
                exact Km128_41 _ ((if_neg c120_5)).symm
            intro v128s0aaa hv128s0aaa
            show D (T40.setTop (mkF m 128 #[.val (.int p1), .val (.int p2), .val (.int x2_6), .val (.ref sa1), .val (.ref sa2), .val (.int x5_19), .val (.int v36s0), .val (.int v83s0), .val (.int x8_94aaa), .unset] [(.int v128s0aaa)]))
            refine A (XS.istore X40.here hx rfl (hb hby at_128) rfl (l' := #[.val (.int p1), .val (.int p2), .val (.int x2_6), .val (.ref sa1), .val (.ref sa2), .val (.int x5_19), .val (.int v36s0), .val (.int v83s0), .val (.int x8_94aaa), .val (.int v128s0aaa)]) rfl) ?_
            show D (T40.setTop (mkF m 130 #[.val (.int p1), .val (.int p2), .val (.int x2_6), .val (.ref sa1), .val (.ref sa2), .val (.int x5_19), .val (.int v36s0), .val (.int v83s0), .val (.int x8_94aaa), .val (.int v128s0aaa)] []))
            refine A (XS.iload X40.here hx rfl (hb hby at_130) rfl) ?_
            show D (T40.setTop (mkF m 132 #[.val (.int p1), .val (.int p2), .val (.int x2_6), .val (.ref sa1), .val (.ref sa2), .val (.int x5_19), .val (.int v36s0), .val (.int v83s0), .val (.int x8_94aaa), .val (.int v128s0aaa)] [(.int v36s0)]))
            suffices Km150_42 : ∀ (v150s0aa : Int32), v150s0aa = (if v36s0 = (0 : Int32) then (0 : Int32) else (if v83s0 = (0 : Int32) then (0 : Int32) else (if v128s0aaa = (0 : Int32) then (0 : Int32) else (1 : Int32)))) → D (T40.setTop (mkF m 150 #[.val (.int p1), .val (.int p2), .val (.int x2_6), .val (.ref sa1), .val (.ref sa2), .val (.int x5_19), .val (.int v36s0), .val (.int v83s0), .val (.int x8_94aaa), .val (.int v128s0aaa)] [(.int v150s0aa)])) by
              by_cases c132_5 : v36s0 = (0 : Int32)
              · refine A (XS.ifYes X40.here hx rfl (pc0 := 132) (pc' := 149) rfl (hb hby at_132) rfl ((if0 _ _).trans (teq c132_5).1) (by decide) (by decide)) ?_
                show D (T40.setTop (mkF m 149 #[.val (.int p1), .val (.int p2), .val (.int x2_6), .val (.ref sa1), .val (.ref sa2), .val (.int x5_19), .val (.int v36s0), .val (.int v83s0), .val (.int x8_94aaa), .val (.int v128s0aaa)] []))
                refine A (XS.iconst X40.here hx rfl (hb hby at_149)) ?_
                show D (T40.setTop (mkF m 150 #[.val (.int p1), .val (.int p2), .val (.int x2_6), .val (.ref sa1), .val (.ref sa2), .val (.int x5_19), .val (.int v36s0), .val (.int v83s0), .val (.int x8_94aaa), .val (.int v128s0aaa)] [(.int (0 : Int32))]))
                exact Km150_42 _ ((if_pos c132_5)).symm
              · refine A (XS.ifNo X40.here hx rfl (hb hby at_132) rfl ((if0 _ _).trans (feq c132_5).1)) ?_
                show D (T40.setTop (mkF m 135 #[.val (.int p1), .val (.int p2), .val (.int x2_6), .val (.ref sa1), .val (.ref sa2), .val (.int x5_19), .val (.int v36s0), .val (.int v83s0), .val (.int x8_94aaa), .val (.int v128s0aaa)] []))
                refine A (XS.iload X40.here hx rfl (hb hby at_135) rfl) ?_
                show D (T40.setTop (mkF m 137 #[.val (.int p1), .val (.int p2), .val (.int x2_6), .val (.ref sa1), .val (.ref sa2), .val (.int x5_19), .val (.int v36s0), .val (.int v83s0), .val (.int x8_94aaa), .val (.int v128s0aaa)] [(.int v83s0)]))
                by_cases c137_6 : v83s0 = (0 : Int32)
                · refine A (XS.ifYes X40.here hx rfl (pc0 := 137) (pc' := 149) rfl (hb hby at_137) rfl ((if0 _ _).trans (teq c137_6).1) (by decide) (by decide)) ?_
                  show D (T40.setTop (mkF m 149 #[.val (.int p1), .val (.int p2), .val (.int x2_6), .val (.ref sa1), .val (.ref sa2), .val (.int x5_19), .val (.int v36s0), .val (.int v83s0), .val (.int x8_94aaa), .val (.int v128s0aaa)] []))
                  refine A (XS.iconst X40.here hx rfl (hb hby at_149)) ?_
                  show D (T40.setTop (mkF m 150 #[.val (.int p1), .val (.int p2), .val (.int x2_6), .val (.ref sa1), .val (.ref sa2), .val (.int x5_19), .val (.int v36s0), .val (.int v83s0), .val (.int x8_94aaa), .val (.int v128s0aaa)] [(.int (0 : Int32))]))
                  exact Km150_42 _ (((if_neg c132_5)).trans (if_pos c137_6)).symm
                · refine A (XS.ifNo X40.here hx rfl (hb hby at_137) rfl ((if0 _ _).trans (feq c137_6).1)) ?_
                  show D (T40.setTop (mkF m 140 #[.val (.int p1), .val (.int p2), .val (.int x2_6), .val (.ref sa1), .val (.ref sa2), .val (.int x5_19), .val (.int v36s0), .val (.int v83s0), .val (.int x8_94aaa), .val (.int v128s0aaa)] []))
                  refine A (XS.iload X40.here hx rfl (hb hby at_140) rfl) ?_
                  show D (T40.setTop (mkF m 142 #[.val (.int p1), .val (.int p2), .val (.int x2_6), .val (.ref sa1), .val (.ref sa2), .val (.int x5_19), .val (.int v36s0), .val (.int v83s0), .val (.int x8_94aaa), .val (.int v128s0aaa)] [(.int v128s0aaa)]))
                  by_cases c142_7 : v128s0aaa = (0 : Int32)
                  · refine A (XS.ifYes X40.here hx rfl (pc0 := 142) (pc' := 149) rfl (hb hby at_142) rfl ((if0 _ _).trans (teq c142_7).1) (by decide) (by decide)) ?_
                    show D (T40.setTop (mkF m 149 #[.val (.int p1), .val (.int p2), .val (.int x2_6), .val (.ref sa1), .val (.ref sa2), .val (.int x5_19), .val (.int v36s0), .val (.int v83s0), .val (.int x8_94aaa), .val (.int v128s0aaa)] []))
                    refine A (XS.iconst X40.here hx rfl (hb hby at_149)) ?_
                    show D (T40.setTop (mkF m 150 #[.val (.int p1), .val (.int p2), .val (.int x2_6), .val (.ref sa1), .val (.ref sa2), .val (.int x5_19), .val (.int v36s0), .val (.int v83s0), .val (.int x8_94aaa), .val (.int v128s0aaa)] [(.int (0 : Int32))]))
                    exact Km150_42 _ ((((if_neg c132_5)).trans (if_neg c137_6)).trans (if_pos c142_7)).symm
                  · refine A (XS.ifNo X40.here hx rfl (hb hby at_142) rfl ((if0 _ _).trans (feq c142_7).1)) ?_
                    show D (T40.setTop (mkF m 145 #[.val (.int p1), .val (.int p2), .val (.int x2_6), .val (.ref sa1), .val (.ref sa2), .val (.int x5_19), .val (.int v36s0), .val (.int v83s0), .val (.int x8_94aaa), .val (.int v128s0aaa)] []))
                    refine A (XS.iconst X40.here hx rfl (hb hby at_145)) ?_
                    show D (T40.setTop (mkF m 146 #[.val (.int p1), .val (.int p2), .val (.int x2_6), .val (.ref sa1), .val (.ref sa2), .val (.int x5_19), .val (.int v36s0), .val (.int v83s0), .val (.int x8_94aaa), .val (.int v128s0aaa)] [(.int (1 : Int32))]))
                    refine A (XS.goto X40.here hx rfl (pc0 := 146) (pc' := 150) rfl (hb hby at_146) (by decide) (by decide)) ?_
                    show D (T40.setTop (mkF m 150 #[.val (.int p1), .val (.int p2), .val (.int x2_6), .val (.ref sa1), .val (.ref sa2), .val (.int x5_19), .val (.int v36s0), .val (.int v83s0), .val (.int x8_94aaa), .val (.int v128s0aaa)] [(.int (1 : Int32))]))
                    exact Km150_42 _ ((((if_neg c132_5)).trans (if_neg c137_6)).trans (if_neg c142_7)).symm
            intro v150s0aa hv150s0aa
            show D (T40.setTop (mkF m 150 #[.val (.int p1), .val (.int p2), .val (.int x2_6), .val (.ref sa1), .val (.ref sa2), .val (.int x5_19), .val (.int v36s0), .val (.int v83s0), .val (.int x8_94aaa), .val (.int v128s0aaa)] [(.int v150s0aa)]))
            obtain rfl : v150s0aa = (1 : Int32) := by
              have qi := own_in hx5_19 hv36s0
              have q7 : v83s0 = 1 := by rw [hv83s0, if_pos ((own_sp hx5_19 hkd hkd16).resolve_left c64_25)]
              have q9 : v128s0aaa = 1 := by rw [hv128s0aaa, if_pos (Int32.toInt_inj.mp ((own_bhi kv hkv16).trans hkv.symm))]
              rw [hv150s0aa, qi, q7, q9]
              decide
            show D (T40.setTop (mkF m 150 #[.val (.int p1), .val (.int p2), .val (.int x2_6), .val (.ref sa1), .val (.ref sa2), .val (.int x5_19), .val (.int v36s0), .val (.int v83s0), .val (.int x8_94aaa), .val (.int v128s0aaa)] [(.int (1 : Int32))]))
            exact F _ (Jvm.JW.retW X40 hS hlk (v := some (.int (1 : Int32))) (fun h => by rw [hrt] at h; cases h) (fun fs hr => retOut X40 hx hrt rfl (Or.inl ⟨rfl, Or.inr (Or.inl rfl), _, rfl⟩) (hb hby at_150) hr) e40 hk1 ⟨rfl, N40⟩ (by decide) (by decide))
          · refine A (XS.icmpYes X37.here hx rfl (pc0 := 105) (pc' := 127) rfl (hb hby at_105) rfl (feq c105_38).2 (by decide) (by decide)) ?_
            show D (T37.setTop (mkF m 127 #[.val (.int p1), .val (.int p2), .val (.int x2_6), .val (.ref sa1), .val (.ref sa2), .val (.int x5_19), .val (.int v36s0), .val (.int v83s0), .val (.int x8_94aaa), .unset] []))
            refine A (XS.iconst X37.here hx rfl (hb hby at_127)) ?_
            show D (T37.setTop (mkF m 128 #[.val (.int p1), .val (.int p2), .val (.int x2_6), .val (.ref sa1), .val (.ref sa2), .val (.int x5_19), .val (.int v36s0), .val (.int v83s0), .val (.int x8_94aaa), .unset] [(.int (0 : Int32))]))
            refine A (XS.istore X37.here hx rfl (hb hby at_128) rfl (l' := #[.val (.int p1), .val (.int p2), .val (.int x2_6), .val (.ref sa1), .val (.ref sa2), .val (.int x5_19), .val (.int v36s0), .val (.int v83s0), .val (.int x8_94aaa), .val (.int (0 : Int32))]) rfl) ?_
            show D (T37.setTop (mkF m 130 #[.val (.int p1), .val (.int p2), .val (.int x2_6), .val (.ref sa1), .val (.ref sa2), .val (.int x5_19), .val (.int v36s0), .val (.int v83s0), .val (.int x8_94aaa), .val (.int (0 : Int32))] []))
            refine A (XS.iload X37.here hx rfl (hb hby at_130) rfl) ?_
            show D (T37.setTop (mkF m 132 #[.val (.int p1), .val (.int p2), .val (.int x2_6), .val (.ref sa1), .val (.ref sa2), .val (.int x5_19), .val (.int v36s0), .val (.int v83s0), .val (.int x8_94aaa), .val (.int (0 : Int32))] [(.int v36s0)]))
            suffices Km150_43 : D (T37.setTop (mkF m 150 #[.val (.int p1), .val (.int p2), .val (.int x2_6), .val (.ref sa1), .val (.ref sa2), .val (.int x5_19), .val (.int v36s0), .val (.int v83s0), .val (.int x8_94aaa), .val (.int (0 : Int32))] [(.int (0 : Int32))])) by
              by_cases c132_5 : v36s0 = (0 : Int32)
              · refine A (XS.ifYes X37.here hx rfl (pc0 := 132) (pc' := 149) rfl (hb hby at_132) rfl ((if0 _ _).trans (teq c132_5).1) (by decide) (by decide)) ?_
                show D (T37.setTop (mkF m 149 #[.val (.int p1), .val (.int p2), .val (.int x2_6), .val (.ref sa1), .val (.ref sa2), .val (.int x5_19), .val (.int v36s0), .val (.int v83s0), .val (.int x8_94aaa), .val (.int (0 : Int32))] []))
                refine A (XS.iconst X37.here hx rfl (hb hby at_149)) ?_
                show D (T37.setTop (mkF m 150 #[.val (.int p1), .val (.int p2), .val (.int x2_6), .val (.ref sa1), .val (.ref sa2), .val (.int x5_19), .val (.int v36s0), .val (.int v83s0), .val (.int x8_94aaa), .val (.int (0 : Int32))] [(.int (0 : Int32))]))
                exact Km150_43
              · refine A (XS.ifNo X37.here hx rfl (hb hby at_132) rfl ((if0 _ _).trans (feq c132_5).1)) ?_
                show D (T37.setTop (mkF m 135 #[.val (.int p1), .val (.int p2), .val (.int x2_6), .val (.ref sa1), .val (.ref sa2), .val (.int x5_19), .val (.int v36s0), .val (.int v83s0), .val (.int x8_94aaa), .val (.int (0 : Int32))] []))
                refine A (XS.iload X37.here hx rfl (hb hby at_135) rfl) ?_
                show D (T37.setTop (mkF m 137 #[.val (.int p1), .val (.int p2), .val (.int x2_6), .val (.ref sa1), .val (.ref sa2), .val (.int x5_19), .val (.int v36s0), .val (.int v83s0), .val (.int x8_94aaa), .val (.int (0 : Int32))] [(.int v83s0)]))
                by_cases c137_6 : v83s0 = (0 : Int32)
                · refine A (XS.ifYes X37.here hx rfl (pc0 := 137) (pc' := 149) rfl (hb hby at_137) rfl ((if0 _ _).trans (teq c137_6).1) (by decide) (by decide)) ?_
                  show D (T37.setTop (mkF m 149 #[.val (.int p1), .val (.int p2), .val (.int x2_6), .val (.ref sa1), .val (.ref sa2), .val (.int x5_19), .val (.int v36s0), .val (.int v83s0), .val (.int x8_94aaa), .val (.int (0 : Int32))] []))
                  refine A (XS.iconst X37.here hx rfl (hb hby at_149)) ?_
                  show D (T37.setTop (mkF m 150 #[.val (.int p1), .val (.int p2), .val (.int x2_6), .val (.ref sa1), .val (.ref sa2), .val (.int x5_19), .val (.int v36s0), .val (.int v83s0), .val (.int x8_94aaa), .val (.int (0 : Int32))] [(.int (0 : Int32))]))
                  exact Km150_43
                · refine A (XS.ifNo X37.here hx rfl (hb hby at_137) rfl ((if0 _ _).trans (feq c137_6).1)) ?_
                  show D (T37.setTop (mkF m 140 #[.val (.int p1), .val (.int p2), .val (.int x2_6), .val (.ref sa1), .val (.ref sa2), .val (.int x5_19), .val (.int v36s0), .val (.int v83s0), .val (.int x8_94aaa), .val (.int (0 : Int32))] []))
                  refine A (XS.iload X37.here hx rfl (hb hby at_140) rfl) ?_
                  show D (T37.setTop (mkF m 142 #[.val (.int p1), .val (.int p2), .val (.int x2_6), .val (.ref sa1), .val (.ref sa2), .val (.int x5_19), .val (.int v36s0), .val (.int v83s0), .val (.int x8_94aaa), .val (.int (0 : Int32))] [(.int (0 : Int32))]))
                  refine A (XS.ifYes X37.here hx rfl (pc0 := 142) (pc' := 149) rfl (hb hby at_142) rfl ((if0 _ _).trans (teq (by decide : (0 : Int32) = (0 : Int32))).1) (by decide) (by decide)) ?_
                  show D (T37.setTop (mkF m 149 #[.val (.int p1), .val (.int p2), .val (.int x2_6), .val (.ref sa1), .val (.ref sa2), .val (.int x5_19), .val (.int v36s0), .val (.int v83s0), .val (.int x8_94aaa), .val (.int (0 : Int32))] []))
                  refine A (XS.iconst X37.here hx rfl (hb hby at_149)) ?_
                  show D (T37.setTop (mkF m 150 #[.val (.int p1), .val (.int p2), .val (.int x2_6), .val (.ref sa1), .val (.ref sa2), .val (.int x5_19), .val (.int v36s0), .val (.int v83s0), .val (.int x8_94aaa), .val (.int (0 : Int32))] [(.int (0 : Int32))]))
                  exact Km150_43
            show D (T37.setTop (mkF m 150 #[.val (.int p1), .val (.int p2), .val (.int x2_6), .val (.ref sa1), .val (.ref sa2), .val (.int x5_19), .val (.int v36s0), .val (.int v83s0), .val (.int x8_94aaa), .val (.int (0 : Int32))] [(.int (0 : Int32))]))
            exfalso
            exact absurd (Int32.toInt_inj.mp ((own_blo kv hkv16).trans hkv.symm)) c105_38
      · refine A (XS.icmpYes X3.here hx rfl (pc0 := 54) (pc' := 82) rfl (hb hby at_54) rfl (flt c54_23).2.1 (by decide) (by decide)) ?_
        show D (T3.setTop (mkF m 82 #[.val (.int p1), .val (.int p2), .val (.int x2_6), .val (.ref sa1), .val (.ref sa2), .val (.int x5_19), .val (.int v36s0), .unset, .unset, .unset] []))
        refine A (XS.iconst X3.here hx rfl (hb hby at_82)) ?_
        show D (T3.setTop (mkF m 83 #[.val (.int p1), .val (.int p2), .val (.int x2_6), .val (.ref sa1), .val (.ref sa2), .val (.int x5_19), .val (.int v36s0), .unset, .unset, .unset] [(.int (0 : Int32))]))
        refine A (XS.istore X3.here hx rfl (hb hby at_83) rfl (l' := #[.val (.int p1), .val (.int p2), .val (.int x2_6), .val (.ref sa1), .val (.ref sa2), .val (.int x5_19), .val (.int v36s0), .val (.int (0 : Int32)), .unset, .unset]) rfl) ?_
        show D (T3.setTop (mkF m 85 #[.val (.int p1), .val (.int p2), .val (.int x2_6), .val (.ref sa1), .val (.ref sa2), .val (.int x5_19), .val (.int v36s0), .val (.int (0 : Int32)), .unset, .unset] []))
        refine A (XS.iloadN X3.here hx rfl (hb hby at_85) rfl) ?_
        show D (T3.setTop (mkF m 86 #[.val (.int p1), .val (.int p2), .val (.int x2_6), .val (.ref sa1), .val (.ref sa2), .val (.int x5_19), .val (.int v36s0), .val (.int (0 : Int32)), .unset, .unset] [(.int p2)]))
        refine A (X3.ldcInt hx hown (mvT hZ (hw _ (List.mem_of_getElem? (i := 14) rfl))) (g := (mkF m 86 #[.val (.int p1), .val (.int p2), .val (.int x2_6), .val (.ref sa1), .val (.ref sa2), .val (.int x5_19), .val (.int v36s0), .val (.int (0 : Int32)), .unset, .unset] [(.int p2)])) rfl (hb hby at_86) _) ?_
        show D (T3.setTop (mkF m 88 #[.val (.int p1), .val (.int p2), .val (.int x2_6), .val (.ref sa1), .val (.ref sa2), .val (.int x5_19), .val (.int v36s0), .val (.int (0 : Int32)), .unset, .unset] [(.int (2147483647 : Int32)), (.int p2)]))
        refine A (XS.iand X3.here hx rfl (hb hby at_88) rfl) ?_
        show D (T3.setTop (mkF m 89 #[.val (.int p1), .val (.int p2), .val (.int x2_6), .val (.ref sa1), .val (.ref sa2), .val (.int x5_19), .val (.int v36s0), .val (.int (0 : Int32)), .unset, .unset] [(.int (p2 &&& (2147483647 : Int32)))]))
        refine A (XS.bipush X3.here hx rfl (hb hby at_89)) ?_
        show D (T3.setTop (mkF m 91 #[.val (.int p1), .val (.int p2), .val (.int x2_6), .val (.ref sa1), .val (.ref sa2), .val (.int x5_19), .val (.int v36s0), .val (.int (0 : Int32)), .unset, .unset] [(.int (16 : Int32)), (.int (p2 &&& (2147483647 : Int32)))]))
        refine A (iremM X3 hx rfl (hb hby at_91) rfl (by decide)) ?_
        show D (T3.setTop (mkF m 92 #[.val (.int p1), .val (.int p2), .val (.int x2_6), .val (.ref sa1), .val (.ref sa2), .val (.int x5_19), .val (.int v36s0), .val (.int (0 : Int32)), .unset, .unset] [(.int ((p2 &&& (2147483647 : Int32)) % (16 : Int32)))]))
        refine A (XS.istore X3.here hx rfl (hb hby at_92) rfl (l' := #[.val (.int p1), .val (.int p2), .val (.int x2_6), .val (.ref sa1), .val (.ref sa2), .val (.int x5_19), .val (.int v36s0), .val (.int (0 : Int32)), .val (.int ((p2 &&& (2147483647 : Int32)) % (16 : Int32))), .unset]) rfl) ?_
        show D (T3.setTop (mkF m 94 #[.val (.int p1), .val (.int p2), .val (.int x2_6), .val (.ref sa1), .val (.ref sa2), .val (.int x5_19), .val (.int v36s0), .val (.int (0 : Int32)), .val (.int ((p2 &&& (2147483647 : Int32)) % (16 : Int32))), .unset] []))
        suffices Kx8_94aaaa : ∀ x8_94aaaa : Int32, x8_94aaaa = ((p2 &&& (2147483647 : Int32)) % (16 : Int32)) → D (T3.setTop (mkF m 94 #[.val (.int p1), .val (.int p2), .val (.int x2_6), .val (.ref sa1), .val (.ref sa2), .val (.int x5_19), .val (.int v36s0), .val (.int (0 : Int32)), .val (.int x8_94aaaa), .unset] [])) from Kx8_94aaaa _ rfl
        intro x8_94aaaa hx8_94aaaa
        obtain ⟨kv, hkv, hkv16⟩ := own_v hx8_94aaaa
        refine A (XS.aloadN X3.here hx rfl (hb hby at_94) rfl rfl) ?_
        show D (T3.setTop (mkF m 95 #[.val (.int p1), .val (.int p2), .val (.int x2_6), .val (.ref sa1), .val (.ref sa2), .val (.int x5_19), .val (.int v36s0), .val (.int (0 : Int32)), .val (.int x8_94aaaa), .unset] [(.ref sa1)]))
        refine A (XS.iload X3.here hx rfl (hb hby at_95) rfl) ?_
        show D (T3.setTop (mkF m 97 #[.val (.int p1), .val (.int p2), .val (.int x2_6), .val (.ref sa1), .val (.ref sa2), .val (.int x5_19), .val (.int v36s0), .val (.int (0 : Int32)), .val (.int x8_94aaaa), .unset] [(.int x8_94aaaa), (.ref sa1)]))
        refine Adv.callV A X3 hx hZ hown (hw _ (List.mem_of_getElem? (i := 15) rfl)) (hw _ (List.mem_of_getElem? (i := 16) rfl)) (notFace_of_selects (args := #[]) (mvT hZ (hw _ (List.mem_of_getElem? (i := 18) rfl)))) (hw _ (List.mem_of_getElem? (i := 18) rfl)) (hw _ (List.mem_of_getElem? (i := 17) rfl)) (hw _ (List.mem_of_getElem? (i := 2) rfl)) (hw _ (List.mem_of_getElem? (i := 19) rfl)) e3 E_sa1_2 (rm2 l Z a0 hw [] sa1 x8_94aaaa h2 n0 own_flo kv hkv hkv16 sf hsf S_sf2 cs hcs S_cs2 E_sa1_2 FC_sa1_2 sb1 FV_sa1_2 V_sb1_2) 0 (g := (mkF m 97 #[.val (.int p1), .val (.int p2), .val (.int x2_6), .val (.ref sa1), .val (.ref sa2), .val (.int x5_19), .val (.int v36s0), .val (.int (0 : Int32)), .val (.int x8_94aaaa), .unset] [(.int x8_94aaaa), (.ref sa1)])) rfl (by rw [hml]; rfl) [(.int x8_94aaaa)] [] rfl (lenOf pd0_1 rfl) rfl (by show 2 * 0 + _ ≤ _; exact Nat.le_of_eq rfl) (hb hby at_97) (by decide) (by decide) (by decide) (by decide) (by decide) ?_
        rintro T44 L44 _ X44 ⟨rfl, N44_q, e44⟩
        have N44 := Fr.app N3 N44_q
        show D (T44.setTop (mkF m 100 #[.val (.int p1), .val (.int p2), .val (.int x2_6), .val (.ref sa1), .val (.ref sa2), .val (.int x5_19), .val (.int v36s0), .val (.int (0 : Int32)), .val (.int x8_94aaaa), .unset] [(.int (own_ch (own_flo kv)))]))
        refine Adv.callS A X44 hx hZ hown (hw _ (List.mem_of_getElem? (i := 10) rfl)) (hw _ (List.mem_of_getElem? (i := 11) rfl)) (hw _ (List.mem_of_getElem? (i := 12) rfl)) (hw _ (List.mem_of_getElem? (i := 13) rfl)) e44 (rm1 l Z a0 hw [] (own_ch (own_flo kv)) h2 n0) 0 (g := (mkF m 100 #[.val (.int p1), .val (.int p2), .val (.int x2_6), .val (.ref sa1), .val (.ref sa2), .val (.int x5_19), .val (.int v36s0), .val (.int (0 : Int32)), .val (.int x8_94aaaa), .unset] [(.int (own_ch (own_flo kv)))])) rfl (by rw [hml]; rfl) [(.int (own_ch (own_flo kv)))] [] rfl (lenOf pd0_0 rfl) rfl (by show 2 * 0 + _ ≤ _; exact Nat.le_of_eq rfl) (hb hby at_100) (by decide) (by decide) (by decide) (by decide) (by decide) ?_
        rintro T45 L45 _ X45 ⟨rfl, N45_q, e45⟩
        have N45 := Fr.app N44 N45_q
        show D (T45.setTop (mkF m 103 #[.val (.int p1), .val (.int p2), .val (.int x2_6), .val (.ref sa1), .val (.ref sa2), .val (.int x5_19), .val (.int v36s0), .val (.int (0 : Int32)), .val (.int x8_94aaaa), .unset] [(.int (f1 (own_ch (own_flo kv))))]))
        refine A (XS.iload X45.here hx rfl (hb hby at_103) rfl) ?_
        show D (T45.setTop (mkF m 105 #[.val (.int p1), .val (.int p2), .val (.int x2_6), .val (.ref sa1), .val (.ref sa2), .val (.int x5_19), .val (.int v36s0), .val (.int (0 : Int32)), .val (.int x8_94aaaa), .unset] [(.int x8_94aaaa), (.int (f1 (own_ch (own_flo kv))))]))
        by_cases c105_46 : (f1 (own_ch (own_flo kv))) = x8_94aaaa
        · refine A (XS.icmpNo X45.here hx rfl (hb hby at_105) rfl (teq c105_46).2) ?_
          show D (T45.setTop (mkF m 108 #[.val (.int p1), .val (.int p2), .val (.int x2_6), .val (.ref sa1), .val (.ref sa2), .val (.int x5_19), .val (.int v36s0), .val (.int (0 : Int32)), .val (.int x8_94aaaa), .unset] []))
          refine A (XS.aload X45.here hx rfl (hb hby at_108) rfl rfl) ?_
          show D (T45.setTop (mkF m 110 #[.val (.int p1), .val (.int p2), .val (.int x2_6), .val (.ref sa1), .val (.ref sa2), .val (.int x5_19), .val (.int v36s0), .val (.int (0 : Int32)), .val (.int x8_94aaaa), .unset] [(.ref sa2)]))
          refine A (XS.iload X45.here hx rfl (hb hby at_110) rfl) ?_
          show D (T45.setTop (mkF m 112 #[.val (.int p1), .val (.int p2), .val (.int x2_6), .val (.ref sa1), .val (.ref sa2), .val (.int x5_19), .val (.int v36s0), .val (.int (0 : Int32)), .val (.int x8_94aaaa), .unset] [(.int x8_94aaaa), (.ref sa2)]))
          refine Adv.callV A X45 hx hZ hown (hw _ (List.mem_of_getElem? (i := 15) rfl)) (hw _ (List.mem_of_getElem? (i := 16) rfl)) (notFace_of_selects (args := #[]) (mvT hZ (hw _ (List.mem_of_getElem? (i := 18) rfl)))) (hw _ (List.mem_of_getElem? (i := 18) rfl)) (hw _ (List.mem_of_getElem? (i := 17) rfl)) (hw _ (List.mem_of_getElem? (i := 2) rfl)) (hw _ (List.mem_of_getElem? (i := 19) rfl)) e45 EX2 (rm2 l Z a0 hw [] sa2 x8_94aaaa h2 n0 own_fhi kv hkv hkv16 sf hsf S_sf2 cs hcs S_cs2 EX2 FC2 sb2 FV2 V_sb2) 0 (g := (mkF m 112 #[.val (.int p1), .val (.int p2), .val (.int x2_6), .val (.ref sa1), .val (.ref sa2), .val (.int x5_19), .val (.int v36s0), .val (.int (0 : Int32)), .val (.int x8_94aaaa), .unset] [(.int x8_94aaaa), (.ref sa2)])) rfl (by rw [hml]; rfl) [(.int x8_94aaaa)] [] rfl (lenOf pd0_1 rfl) rfl (by show 2 * 0 + _ ≤ _; exact Nat.le_of_eq rfl) (hb hby at_112) (by decide) (by decide) (by decide) (by decide) (by decide) ?_
          rintro T47 L47 _ X47 ⟨rfl, N47_q, e47⟩
          have N47 := Fr.app N45 N47_q
          show D (T47.setTop (mkF m 115 #[.val (.int p1), .val (.int p2), .val (.int x2_6), .val (.ref sa1), .val (.ref sa2), .val (.int x5_19), .val (.int v36s0), .val (.int (0 : Int32)), .val (.int x8_94aaaa), .unset] [(.int (own_ch (own_fhi kv)))]))
          refine Adv.callS A X47 hx hZ hown (hw _ (List.mem_of_getElem? (i := 10) rfl)) (hw _ (List.mem_of_getElem? (i := 11) rfl)) (hw _ (List.mem_of_getElem? (i := 12) rfl)) (hw _ (List.mem_of_getElem? (i := 13) rfl)) e47 (rm1 l Z a0 hw [] (own_ch (own_fhi kv)) h2 n0) 0 (g := (mkF m 115 #[.val (.int p1), .val (.int p2), .val (.int x2_6), .val (.ref sa1), .val (.ref sa2), .val (.int x5_19), .val (.int v36s0), .val (.int (0 : Int32)), .val (.int x8_94aaaa), .unset] [(.int (own_ch (own_fhi kv)))])) rfl (by rw [hml]; rfl) [(.int (own_ch (own_fhi kv)))] [] rfl (lenOf pd0_0 rfl) rfl (by show 2 * 0 + _ ≤ _; exact Nat.le_of_eq rfl) (hb hby at_115) (by decide) (by decide) (by decide) (by decide) (by decide) ?_
          rintro T48 L48 _ X48 ⟨rfl, N48_q, e48⟩
          have N48 := Fr.app N47 N48_q
          show D (T48.setTop (mkF m 118 #[.val (.int p1), .val (.int p2), .val (.int x2_6), .val (.ref sa1), .val (.ref sa2), .val (.int x5_19), .val (.int v36s0), .val (.int (0 : Int32)), .val (.int x8_94aaaa), .unset] [(.int (f1 (own_ch (own_fhi kv))))]))
          refine A (XS.iload X48.here hx rfl (hb hby at_118) rfl) ?_
          show D (T48.setTop (mkF m 120 #[.val (.int p1), .val (.int p2), .val (.int x2_6), .val (.ref sa1), .val (.ref sa2), .val (.int x5_19), .val (.int v36s0), .val (.int (0 : Int32)), .val (.int x8_94aaaa), .unset] [(.int x8_94aaaa), (.int (f1 (own_ch (own_fhi kv))))]))
          suffices Km128_49 : ∀ (v128s0aaaa : Int32), v128s0aaaa = (if (f1 (own_ch (own_fhi kv))) = x8_94aaaa then (1 : Int32) else (0 : Int32)) → D (T48.setTop (mkF m 128 #[.val (.int p1), .val (.int p2), .val (.int x2_6), .val (.ref sa1), .val (.ref sa2), .val (.int x5_19), .val (.int v36s0), .val (.int (0 : Int32)), .val (.int x8_94aaaa), .unset] [(.int v128s0aaaa)])) by
            by_cases c120_4 : (f1 (own_ch (own_fhi kv))) = x8_94aaaa
            · refine A (XS.icmpNo X48.here hx rfl (hb hby at_120) rfl (teq c120_4).2) ?_
              show D (T48.setTop (mkF m 123 #[.val (.int p1), .val (.int p2), .val (.int x2_6), .val (.ref sa1), .val (.ref sa2), .val (.int x5_19), .val (.int v36s0), .val (.int (0 : Int32)), .val (.int x8_94aaaa), .unset] []))
              refine A (XS.iconst X48.here hx rfl (hb hby at_123)) ?_
              show D (T48.setTop (mkF m 124 #[.val (.int p1), .val (.int p2), .val (.int x2_6), .val (.ref sa1), .val (.ref sa2), .val (.int x5_19), .val (.int v36s0), .val (.int (0 : Int32)), .val (.int x8_94aaaa), .unset] [(.int (1 : Int32))]))
              refine A (XS.goto X48.here hx rfl (pc0 := 124) (pc' := 128) rfl (hb hby at_124) (by decide) (by decide)) ?_
              show D (T48.setTop (mkF m 128 #[.val (.int p1), .val (.int p2), .val (.int x2_6), .val (.ref sa1), .val (.ref sa2), .val (.int x5_19), .val (.int v36s0), .val (.int (0 : Int32)), .val (.int x8_94aaaa), .unset] [(.int (1 : Int32))]))
              exact Km128_49 _ ((if_pos c120_4)).symm
            · refine A (XS.icmpYes X48.here hx rfl (pc0 := 120) (pc' := 127) rfl (hb hby at_120) rfl (feq c120_4).2 (by decide) (by decide)) ?_
              show D (T48.setTop (mkF m 127 #[.val (.int p1), .val (.int p2), .val (.int x2_6), .val (.ref sa1), .val (.ref sa2), .val (.int x5_19), .val (.int v36s0), .val (.int (0 : Int32)), .val (.int x8_94aaaa), .unset] []))
              refine A (XS.iconst X48.here hx rfl (hb hby at_127)) ?_
              show D (T48.setTop (mkF m 128 #[.val (.int p1), .val (.int p2), .val (.int x2_6), .val (.ref sa1), .val (.ref sa2), .val (.int x5_19), .val (.int v36s0), .val (.int (0 : Int32)), .val (.int x8_94aaaa), .unset] [(.int (0 : Int32))]))
              exact Km128_49 _ ((if_neg c120_4)).symm
          intro v128s0aaaa hv128s0aaaa
          show D (T48.setTop (mkF m 128 #[.val (.int p1), .val (.int p2), .val (.int x2_6), .val (.ref sa1), .val (.ref sa2), .val (.int x5_19), .val (.int v36s0), .val (.int (0 : Int32)), .val (.int x8_94aaaa), .unset] [(.int v128s0aaaa)]))
          refine A (XS.istore X48.here hx rfl (hb hby at_128) rfl (l' := #[.val (.int p1), .val (.int p2), .val (.int x2_6), .val (.ref sa1), .val (.ref sa2), .val (.int x5_19), .val (.int v36s0), .val (.int (0 : Int32)), .val (.int x8_94aaaa), .val (.int v128s0aaaa)]) rfl) ?_
          show D (T48.setTop (mkF m 130 #[.val (.int p1), .val (.int p2), .val (.int x2_6), .val (.ref sa1), .val (.ref sa2), .val (.int x5_19), .val (.int v36s0), .val (.int (0 : Int32)), .val (.int x8_94aaaa), .val (.int v128s0aaaa)] []))
          refine A (XS.iload X48.here hx rfl (hb hby at_130) rfl) ?_
          show D (T48.setTop (mkF m 132 #[.val (.int p1), .val (.int p2), .val (.int x2_6), .val (.ref sa1), .val (.ref sa2), .val (.int x5_19), .val (.int v36s0), .val (.int (0 : Int32)), .val (.int x8_94aaaa), .val (.int v128s0aaaa)] [(.int v36s0)]))
          suffices Km150_50 : D (T48.setTop (mkF m 150 #[.val (.int p1), .val (.int p2), .val (.int x2_6), .val (.ref sa1), .val (.ref sa2), .val (.int x5_19), .val (.int v36s0), .val (.int (0 : Int32)), .val (.int x8_94aaaa), .val (.int v128s0aaaa)] [(.int (0 : Int32))])) by
            by_cases c132_4 : v36s0 = (0 : Int32)
            · refine A (XS.ifYes X48.here hx rfl (pc0 := 132) (pc' := 149) rfl (hb hby at_132) rfl ((if0 _ _).trans (teq c132_4).1) (by decide) (by decide)) ?_
              show D (T48.setTop (mkF m 149 #[.val (.int p1), .val (.int p2), .val (.int x2_6), .val (.ref sa1), .val (.ref sa2), .val (.int x5_19), .val (.int v36s0), .val (.int (0 : Int32)), .val (.int x8_94aaaa), .val (.int v128s0aaaa)] []))
              refine A (XS.iconst X48.here hx rfl (hb hby at_149)) ?_
              show D (T48.setTop (mkF m 150 #[.val (.int p1), .val (.int p2), .val (.int x2_6), .val (.ref sa1), .val (.ref sa2), .val (.int x5_19), .val (.int v36s0), .val (.int (0 : Int32)), .val (.int x8_94aaaa), .val (.int v128s0aaaa)] [(.int (0 : Int32))]))
              exact Km150_50
            · refine A (XS.ifNo X48.here hx rfl (hb hby at_132) rfl ((if0 _ _).trans (feq c132_4).1)) ?_
              show D (T48.setTop (mkF m 135 #[.val (.int p1), .val (.int p2), .val (.int x2_6), .val (.ref sa1), .val (.ref sa2), .val (.int x5_19), .val (.int v36s0), .val (.int (0 : Int32)), .val (.int x8_94aaaa), .val (.int v128s0aaaa)] []))
              refine A (XS.iload X48.here hx rfl (hb hby at_135) rfl) ?_
              show D (T48.setTop (mkF m 137 #[.val (.int p1), .val (.int p2), .val (.int x2_6), .val (.ref sa1), .val (.ref sa2), .val (.int x5_19), .val (.int v36s0), .val (.int (0 : Int32)), .val (.int x8_94aaaa), .val (.int v128s0aaaa)] [(.int (0 : Int32))]))
              refine A (XS.ifYes X48.here hx rfl (pc0 := 137) (pc' := 149) rfl (hb hby at_137) rfl ((if0 _ _).trans (teq (by decide : (0 : Int32) = (0 : Int32))).1) (by decide) (by decide)) ?_
              show D (T48.setTop (mkF m 149 #[.val (.int p1), .val (.int p2), .val (.int x2_6), .val (.ref sa1), .val (.ref sa2), .val (.int x5_19), .val (.int v36s0), .val (.int (0 : Int32)), .val (.int x8_94aaaa), .val (.int v128s0aaaa)] []))
              refine A (XS.iconst X48.here hx rfl (hb hby at_149)) ?_
              show D (T48.setTop (mkF m 150 #[.val (.int p1), .val (.int p2), .val (.int x2_6), .val (.ref sa1), .val (.ref sa2), .val (.int x5_19), .val (.int v36s0), .val (.int (0 : Int32)), .val (.int x8_94aaaa), .val (.int v128s0aaaa)] [(.int (0 : Int32))]))
              exact Km150_50
          show D (T48.setTop (mkF m 150 #[.val (.int p1), .val (.int p2), .val (.int x2_6), .val (.ref sa1), .val (.ref sa2), .val (.int x5_19), .val (.int v36s0), .val (.int (0 : Int32)), .val (.int x8_94aaaa), .val (.int v128s0aaaa)] [(.int (0 : Int32))]))
          exfalso
          exact absurd (own_n16 hx5_19 c42_5) c54_23
        · refine A (XS.icmpYes X45.here hx rfl (pc0 := 105) (pc' := 127) rfl (hb hby at_105) rfl (feq c105_46).2 (by decide) (by decide)) ?_
          show D (T45.setTop (mkF m 127 #[.val (.int p1), .val (.int p2), .val (.int x2_6), .val (.ref sa1), .val (.ref sa2), .val (.int x5_19), .val (.int v36s0), .val (.int (0 : Int32)), .val (.int x8_94aaaa), .unset] []))
          refine A (XS.iconst X45.here hx rfl (hb hby at_127)) ?_
          show D (T45.setTop (mkF m 128 #[.val (.int p1), .val (.int p2), .val (.int x2_6), .val (.ref sa1), .val (.ref sa2), .val (.int x5_19), .val (.int v36s0), .val (.int (0 : Int32)), .val (.int x8_94aaaa), .unset] [(.int (0 : Int32))]))
          refine A (XS.istore X45.here hx rfl (hb hby at_128) rfl (l' := #[.val (.int p1), .val (.int p2), .val (.int x2_6), .val (.ref sa1), .val (.ref sa2), .val (.int x5_19), .val (.int v36s0), .val (.int (0 : Int32)), .val (.int x8_94aaaa), .val (.int (0 : Int32))]) rfl) ?_
          show D (T45.setTop (mkF m 130 #[.val (.int p1), .val (.int p2), .val (.int x2_6), .val (.ref sa1), .val (.ref sa2), .val (.int x5_19), .val (.int v36s0), .val (.int (0 : Int32)), .val (.int x8_94aaaa), .val (.int (0 : Int32))] []))
          refine A (XS.iload X45.here hx rfl (hb hby at_130) rfl) ?_
          show D (T45.setTop (mkF m 132 #[.val (.int p1), .val (.int p2), .val (.int x2_6), .val (.ref sa1), .val (.ref sa2), .val (.int x5_19), .val (.int v36s0), .val (.int (0 : Int32)), .val (.int x8_94aaaa), .val (.int (0 : Int32))] [(.int v36s0)]))
          suffices Km150_51 : D (T45.setTop (mkF m 150 #[.val (.int p1), .val (.int p2), .val (.int x2_6), .val (.ref sa1), .val (.ref sa2), .val (.int x5_19), .val (.int v36s0), .val (.int (0 : Int32)), .val (.int x8_94aaaa), .val (.int (0 : Int32))] [(.int (0 : Int32))])) by
            by_cases c132_4 : v36s0 = (0 : Int32)
            · refine A (XS.ifYes X45.here hx rfl (pc0 := 132) (pc' := 149) rfl (hb hby at_132) rfl ((if0 _ _).trans (teq c132_4).1) (by decide) (by decide)) ?_
              show D (T45.setTop (mkF m 149 #[.val (.int p1), .val (.int p2), .val (.int x2_6), .val (.ref sa1), .val (.ref sa2), .val (.int x5_19), .val (.int v36s0), .val (.int (0 : Int32)), .val (.int x8_94aaaa), .val (.int (0 : Int32))] []))
              refine A (XS.iconst X45.here hx rfl (hb hby at_149)) ?_
              show D (T45.setTop (mkF m 150 #[.val (.int p1), .val (.int p2), .val (.int x2_6), .val (.ref sa1), .val (.ref sa2), .val (.int x5_19), .val (.int v36s0), .val (.int (0 : Int32)), .val (.int x8_94aaaa), .val (.int (0 : Int32))] [(.int (0 : Int32))]))
              exact Km150_51
            · refine A (XS.ifNo X45.here hx rfl (hb hby at_132) rfl ((if0 _ _).trans (feq c132_4).1)) ?_
              show D (T45.setTop (mkF m 135 #[.val (.int p1), .val (.int p2), .val (.int x2_6), .val (.ref sa1), .val (.ref sa2), .val (.int x5_19), .val (.int v36s0), .val (.int (0 : Int32)), .val (.int x8_94aaaa), .val (.int (0 : Int32))] []))
              refine A (XS.iload X45.here hx rfl (hb hby at_135) rfl) ?_
              show D (T45.setTop (mkF m 137 #[.val (.int p1), .val (.int p2), .val (.int x2_6), .val (.ref sa1), .val (.ref sa2), .val (.int x5_19), .val (.int v36s0), .val (.int (0 : Int32)), .val (.int x8_94aaaa), .val (.int (0 : Int32))] [(.int (0 : Int32))]))
              refine A (XS.ifYes X45.here hx rfl (pc0 := 137) (pc' := 149) rfl (hb hby at_137) rfl ((if0 _ _).trans (teq (by decide : (0 : Int32) = (0 : Int32))).1) (by decide) (by decide)) ?_
              show D (T45.setTop (mkF m 149 #[.val (.int p1), .val (.int p2), .val (.int x2_6), .val (.ref sa1), .val (.ref sa2), .val (.int x5_19), .val (.int v36s0), .val (.int (0 : Int32)), .val (.int x8_94aaaa), .val (.int (0 : Int32))] []))
              refine A (XS.iconst X45.here hx rfl (hb hby at_149)) ?_
              show D (T45.setTop (mkF m 150 #[.val (.int p1), .val (.int p2), .val (.int x2_6), .val (.ref sa1), .val (.ref sa2), .val (.int x5_19), .val (.int v36s0), .val (.int (0 : Int32)), .val (.int x8_94aaaa), .val (.int (0 : Int32))] [(.int (0 : Int32))]))
              exact Km150_51
          show D (T45.setTop (mkF m 150 #[.val (.int p1), .val (.int p2), .val (.int x2_6), .val (.ref sa1), .val (.ref sa2), .val (.int x5_19), .val (.int v36s0), .val (.int (0 : Int32)), .val (.int x8_94aaaa), .val (.int (0 : Int32))] [(.int (0 : Int32))]))
          exfalso
          exact absurd (own_n16 hx5_19 c42_5) c54_23
set_option maxRecDepth 65536 in
set_option maxHeartbeats 40000000 in
theorem comes_1 {Post : Tables → Env → Array Value → State → Outcome → State → Prop} (hpost : ∀ tb e args s v u, (limb_1_1.after args s (.returned v) u = true ∧ limb_1_2.after args s (.returned v) u = true ∧ True) → ReturnedEndW s (.returned v) u (Jvm.fieldLocs frame_1_writes args s ++ Jvm.arrayLocs frame_1_arrays args s ++ Jvm.staticLocs frame_1_statics s) 8 2112 → Post tb e args s (.returned v) u) :
    ArmFor flags0 classFile x code maxLocals ret World_1 tables_1 room_1 Calls_1 rest_1 Pre_1 Post := by
  intro l hfl _ _ p e ha hc hk s m args below hf hA hF happ hP
  obtain ⟨hcalls, hrest, hpre⟩ := hP
  obtain ⟨-, -, -, hnamed, -, -, -, hat⟩ := (Spec.applies_iff hf).mp happ
  obtain ⟨hg, hn⟩ := and_e (Cond.before_iff.mp (show (Jvm.Cond.and given_1 narrow_1).before args s = true from hpre))
  obtain ⟨g0, g1⟩ := and_e hg
  obtain ⟨t1, g2⟩ := and_e g1
  obtain ⟨w0, w1, rfl⟩ : ∃ w0 w1 : Value, args = #[w0, w1] := by
    have hs : args.size = 2 := by simpa [Cond.value, given_1] using g0
    obtain ⟨L⟩ := args
    match L, hs with
    | [w0, w1], _ => exact ⟨w0, w1, rfl⟩
  have hw := fun d (hd : d ∈ tables_1) => atoms_spec (ws := Jvm.Cond.code x code maxLocals ret :: tables_1) hat d (List.mem_cons_of_mem _ hd)
  obtain ⟨r0, q1⟩ := and_e (Cond.before_iff.mp (show rest_1_c.before _ s = true from hrest))
  obtain ⟨r1, q2⟩ := and_e q1
  obtain ⟨r2, q3⟩ := and_e q2
  obtain ⟨r3, q4⟩ := and_e q3
  obtain ⟨r4, q5⟩ := and_e q4
  obtain ⟨r5, q6⟩ := and_e q5
  obtain ⟨r6, q7⟩ := and_e q6
  obtain ⟨r7, q8⟩ := and_e q7
  obtain ⟨r8, q9⟩ := and_e q8
  obtain ⟨cs, ecs⟩ := is_v r1
  obtain ⟨sf, esf, hsf⟩ := isR_v r8
  have hcs : ¬ cs = (0 : Int32) := own_cs r2 ecs
  obtain ⟨i0, q0⟩ := is_v t1
  obtain rfl : w0 = (.int i0) := Option.some.inj q0
  obtain ⟨i1, q1⟩ := is_v g2
  obtain rfl : w1 = (.int i1) := Option.some.inj q1
  obtain ⟨n, o, h1, h2, h3, _, L, rfl, ⟨rfl, N⟩, hq⟩ := rm0 l s _ hw tables_1 i0 i1 s.heap s.heap.size (Nat.le_refl _) (hcalls.1 ("com/example/stringified_tags/stringifiedtags/SnbtNumbersDigitValuePinLaw", 8) (by simp [consts_1])) (hcalls.1 ("com/example/stringified_tags/stringifiedtags/SnbtNumbersDigitValuePinLaw", 10) (by simp [consts_1])) (Cond.before_iff.mpr r2) cs hcs (Sta.start ecs (Or.inl (Cond.before_iff.mpr r0))) sf hsf (Sta.start esf (Or.inl (Cond.before_iff.mpr r7))) p e ha hc hk s m _ below hf ((Spec.applies_iff_loose hf).mp happ).1 ⟨rfl, rfl, rfl⟩ trivial
  refine ⟨n, _, h1, h2, h3, hpost _ _ _ _ _ _ ⟨Cond.after_iff.mpr rfl, Cond.after_iff.mpr (eq_i res_at (Term.int_eval (1)) rfl), trivial⟩ ⟨hq.1, hq.2.1, hq.2.2.1, (hq.2.2.2.sift fun y hy => Or.inr (N y hy)).mono (by decide) (by decide)⟩⟩
theorem main_1_1 : Claimed_1_1 := comes_1 fun _ _ _ _ _ _ h hF => ⟨h.1, hF⟩
theorem main_1_2 : Claimed_1_2 := comes_1 fun _ _ _ _ _ _ h hF => ⟨h.2.1, hF⟩
end Jvm.Pilot.@@N@@
namespace Jvm.Pilot.@@N@@
open Jvm Jvm.ClassFile Sem Op Lib Jvm.Free Jvm.Stand Jvm.Pilot.@@N@@.Jvm.D
/-! MADE BY PROGRAM (witnessworld.py) out of the Statement's table words and the real class files: 17 classes; the members and pool entries that the words name. The judged class is class 1, her method 1. -/
namespace start1
open Jvm.ClassFile
def u (s : String) : CpInfo := .utf8 (stringToUtf16 s)
/-- a pool by its gaps: so many unusable entries, then the entry; so many at the end -/
def gap : Nat → List CpInfo → List CpInfo
  | 0, r => r
  | n + 1, r => .unusable :: gap n r
def poolList (es : List (Nat × CpInfo)) (last : Nat) : List CpInfo := es.foldr (fun e r => gap e.1 (e.2 :: r)) (gap last [])
def pool (es : List (Nat × CpInfo)) (last : Nat) : Array CpInfo := ⟨poolList es last⟩
def fileOf (pool : Array CpInfo) (this : Nat) (attrs : Array Attribute := #[]) (ms : Array MethodInfo := #[]) (fl : Nat := 33) (sup : Nat := 0) (ifs : Array Nat := #[]) (fds : Array FieldInfo := #[]) : ClassFile where
  minorVersion := 0
  majorVersion := 65
  constantPool := pool
  accessFlags := fl
  thisClass := this
  superClass := sup
  interfaces := ifs
  fields := fds
  methods := ms
  attributes := attrs
def plain (name : String) (sup : Option ClassId) : Class where
  name := name
  kind := .ordinary
  loader := none
  accessFlags := 33
  super := sup
  interfaces := #[]
  cf := none
  fields := #[]
  methods := #[]
  instanceTypes := #[]
  staticTypes := #[]
  resolved := #[]
  callSites := []
  init := .initialized
  statics := none
  mirror := none

def pool0 : Array CpInfo := pool [(5, u "<init>"), (0, u "()V"), (1, .class_ 10), (1, u "java/lang/Object")] 113

def k0m0 : Method := { name := "<init>", desc := "()V", sig := { parameters := [], returnType := none }, accessFlags := 1, code := none }
/-- java/lang/Object -/
def k0 : Class := { plain "java/lang/Object" none with
  accessFlags := 33
  interfaces := #[]
  cf := some (fileOf pool0 8 #[] #[{ accessFlags := 1, nameIndex := 5, descriptorIndex := 6, attributes := #[] }] 33 0 #[] #[])
  fields := #[]
  methods := #[k0m0]
  instanceTypes := #[]
  staticTypes := #[]
  resolved := Array.replicate 124 none
  statics := none }

def pool1 : Array CpInfo := pool [(2, .class_ 4), (1, u "java/lang/Object"), (0, u "<init>"), (0, u "()V"), (0, .integer 65535), (0, .string 9), (0, u "0123456789abcdef"), (0, .string 11), (0, u "0123456789ABCDEF"), (0, .methodref 13 14), (0, .class_ 15), (0, .nameAndType 16 17), (0, u "com/example/stringified_tags/stringifiedtags/SnbtNumbers"), (0, u "digitValue"), (0, u "(C)I"), (0, .methodref 19 20), (0, .class_ 21), (0, .nameAndType 22 23), (0, u "java/lang/String"), (0, u "charAt"), (0, u "(I)C"), (0, .integer 2147483647), (0, .class_ 26), (0, u "com/example/stringified_tags/stringifiedtags/SnbtNumbersDigitValuePinLaw"), (2, u "law"), (0, u "(II)Z")] 3

def k1m0 : Method := { name := "<init>", desc := "()V", sig := { parameters := [], returnType := none }, accessFlags := 1, code := none }
def k1c1 : Code := { maxStack := 3, maxLocals := 10, code := code, exceptionTable := #[], attributes := #[] }
def k1m1 : Method := { name := "law", desc := "(II)Z", sig := { parameters := [.int, .int], returnType := some .boolean }, accessFlags := 9, code := some k1c1 }
/-- com/example/stringified_tags/stringifiedtags/SnbtNumbersDigitValuePinLaw -/
def k1 : Class := { plain "com/example/stringified_tags/stringifiedtags/SnbtNumbersDigitValuePinLaw" (some 0) with
  accessFlags := 49
  interfaces := #[]
  cf := some (fileOf pool1 25 #[] #[{ accessFlags := 1, nameIndex := 5, descriptorIndex := 6, attributes := #[] }, { accessFlags := 9, nameIndex := 29, descriptorIndex := 30, attributes := #[] }] 49 2 #[] #[])
  fields := #[]
  methods := #[k1m0, k1m1]
  instanceTypes := #[]
  staticTypes := #[]
  resolved := Array.replicate 34 none
  statics := none }

def pool2 : Array CpInfo := pool [(1, .class_ 2), (0, u "java/io/Serializable"), (0, .class_ 4), (0, u "java/lang/Object")] 2

/-- java/io/Serializable -/
def k2 : Class := { plain "java/io/Serializable" (some 0) with
  accessFlags := 1537
  interfaces := #[]
  cf := some (fileOf pool2 1 #[] #[] 1537 3 #[] #[])
  fields := #[]
  methods := #[]
  instanceTypes := #[]
  staticTypes := #[]
  resolved := Array.replicate 7 none
  statics := none }

def pool3 : Array CpInfo := pool [(1, .class_ 2), (0, u "java/lang/Comparable"), (0, .class_ 4), (0, u "java/lang/Object")] 7

/-- java/lang/Comparable -/
def k3 : Class := { plain "java/lang/Comparable" (some 0) with
  accessFlags := 1537
  interfaces := #[]
  cf := some (fileOf pool3 1 #[] #[] 1537 3 #[] #[])
  fields := #[]
  methods := #[]
  instanceTypes := #[]
  staticTypes := #[]
  resolved := Array.replicate 12 none
  statics := none }

def pool4 : Array CpInfo := pool [(2, .class_ 4), (1, u "java/lang/CharSequence"), (42, .class_ 48), (0, u "java/lang/CharSequence$1CodePointIterator"), (10, .class_ 60), (0, u "java/lang/CharSequence$1CharIterator"), (5, .class_ 67), (0, u "java/lang/Object")] 63

/-- java/lang/CharSequence -/
def k4 : Class := { plain "java/lang/CharSequence" (some 0) with
  accessFlags := 1537
  interfaces := #[]
  cf := some (fileOf pool4 2 #[.nestMembers #[47, 59]] #[] 1537 66 #[] #[])
  fields := #[]
  methods := #[]
  instanceTypes := #[]
  staticTypes := #[]
  resolved := Array.replicate 131 none
  statics := none }

def pool5 : Array CpInfo := pool [(1, .class_ 2), (0, u "java/lang/constant/Constable"), (0, .class_ 4), (0, u "java/lang/Object")] 6

/-- java/lang/constant/Constable -/
def k5 : Class := { plain "java/lang/constant/Constable" (some 0) with
  accessFlags := 1537
  interfaces := #[]
  cf := some (fileOf pool5 1 #[] #[] 1537 3 #[] #[])
  fields := #[]
  methods := #[]
  instanceTypes := #[]
  staticTypes := #[]
  resolved := Array.replicate 11 none
  statics := none }

def pool6 : Array CpInfo := pool [(1, .class_ 2), (0, u "java/lang/constant/ConstantDesc"), (0, .class_ 4), (0, u "java/lang/Object")] 32

/-- java/lang/constant/ConstantDesc -/
def k6 : Class := { plain "java/lang/constant/ConstantDesc" (some 0) with
  accessFlags := 1537
  interfaces := #[]
  cf := some (fileOf pool6 1 #[] #[] 1537 3 #[] #[])
  fields := #[]
  methods := #[]
  instanceTypes := #[]
  staticTypes := #[]
  resolved := Array.replicate 37 none
  statics := none }

def pool7 : Array CpInfo := pool [(2, .class_ 4), (1, u "java/lang/Object"), (0, u "<init>"), (0, u "()V"), (2, .fieldref 10 11), (0, .class_ 12), (0, .nameAndType 13 14), (0, u "java/lang/String"), (0, u "value"), (0, u "[B"), (0, .fieldref 10 16), (0, .nameAndType 17 18), (0, u "coder"), (0, u "B"), (2, u "hash"), (0, u "I"), (2, u "hashIsZero"), (0, u "Z"), (11, .fieldref 10 39), (0, .nameAndType 40 26), (0, u "COMPACT_STRINGS"), (66, .class_ 109), (1, u "java/lang/StringLatin1"), (32, u "()Z"), (220, u "([BI)C"), (27, u "(II)V"), (35, u "(I)C"), (64, .methodref 10 493), (0, .nameAndType 494 142), (0, u "isLatin1"), (0, .methodref 107 496), (0, .nameAndType 497 363), (0, u "charAt"), (3, u "checkIndex"), (73, .class_ 576), (0, u "java/lang/CharSequence"), (22, u "CASE_INSENSITIVE_ORDER"), (0, u "Ljava/util/Comparator;"), (452, .fieldref 1054 1055), (0, .class_ 1056), (0, .nameAndType 1057 1058), (0, u "jdk/internal/util/Preconditions"), (0, u "SIOOBE_FORMATTER"), (0, u "Ljava/util/function/BiFunction;"), (0, .methodref 1054 1060), (0, .nameAndType 501 1061), (0, u "(IILjava/util/function/BiFunction;)I"), (39, u "serialPersistentFields"), (0, u "[Ljava/io/ObjectStreamField;"), (0, .class_ 1104), (0, u "java/lang/String$CaseInsensitiveComparator"), (1, .class_ 1107), (0, u "java/io/Serializable"), (0, .class_ 1109), (0, u "java/lang/Comparable"), (0, .class_ 1111), (0, u "java/lang/constant/Constable"), (0, .class_ 1113), (0, u "java/lang/constant/ConstantDesc"), (2, u "serialVersionUID"), (0, u "J"), (3, u "REPL"), (0, u "C"), (2, u "LATIN1"), (1, u "UTF16")] 323

def k7m0 : Method := { name := "<init>", desc := "()V", sig := { parameters := [], returnType := none }, accessFlags := 1, code := none }
def k7c1 : Code := { maxStack := 2, maxLocals := 2, code := jdk_42_method_56_code, exceptionTable := #[], attributes := #[] }
def k7m1 : Method := { name := "charAt", desc := "(I)C", sig := { parameters := [.int], returnType := some .char }, accessFlags := 1, code := some k7c1 }
def k7c2 : Code := { maxStack := 1, maxLocals := 1, code := jdk_42_method_154_code, exceptionTable := #[], attributes := #[] }
def k7m2 : Method := { name := "isLatin1", desc := "()Z", sig := { parameters := [], returnType := some .boolean }, accessFlags := 0, code := some k7c2 }
def k7c3 : Code := { maxStack := 3, maxLocals := 2, code := jdk_42_method_155_code, exceptionTable := #[], attributes := #[] }
def k7m3 : Method := { name := "checkIndex", desc := "(II)V", sig := { parameters := [.int, .int], returnType := none }, accessFlags := 8, code := some k7c3 }
/-- java/lang/String -/
def k7 : Class := { plain "java/lang/String" (some 0) with
  accessFlags := 49
  interfaces := #[2, 3, 4, 5, 6]
  cf := some (fileOf pool7 10 #[.nestMembers #[1103]] #[{ accessFlags := 1, nameIndex := 5, descriptorIndex := 6, attributes := #[] }, { accessFlags := 1, nameIndex := 497, descriptorIndex := 427, attributes := #[] }, { accessFlags := 0, nameIndex := 494, descriptorIndex := 142, attributes := #[] }, { accessFlags := 8, nameIndex := 501, descriptorIndex := 391, attributes := #[] }] 49 2 #[1106, 1108, 575, 1110, 1112] #[{ accessFlags := 18, nameIndex := 13, descriptorIndex := 14, attributes := #[] }, { accessFlags := 18, nameIndex := 17, descriptorIndex := 18, attributes := #[] }, { accessFlags := 2, nameIndex := 21, descriptorIndex := 22, attributes := #[] }, { accessFlags := 2, nameIndex := 25, descriptorIndex := 26, attributes := #[] }, { accessFlags := 26, nameIndex := 1116, descriptorIndex := 1117, attributes := #[] }, { accessFlags := 24, nameIndex := 40, descriptorIndex := 26, attributes := #[] }, { accessFlags := 26, nameIndex := 1101, descriptorIndex := 1102, attributes := #[] }, { accessFlags := 26, nameIndex := 1121, descriptorIndex := 1122, attributes := #[] }, { accessFlags := 25, nameIndex := 599, descriptorIndex := 600, attributes := #[] }, { accessFlags := 24, nameIndex := 1125, descriptorIndex := 18, attributes := #[] }, { accessFlags := 24, nameIndex := 1127, descriptorIndex := 18, attributes := #[] }])
  fields := #[{ name := "value", type := (.array .byte), accessFlags := 18, slot := 0, constantValue := 0 }, { name := "coder", type := .byte, accessFlags := 18, slot := 1, constantValue := 0 }, { name := "hash", type := .int, accessFlags := 2, slot := 2, constantValue := 0 }, { name := "hashIsZero", type := .boolean, accessFlags := 2, slot := 3, constantValue := 0 }, { name := "serialVersionUID", type := .long, accessFlags := 26, slot := 0, constantValue := 0 }, { name := "COMPACT_STRINGS", type := .boolean, accessFlags := 24, slot := 1, constantValue := 0 }, { name := "serialPersistentFields", type := (.array (.object "java/io/ObjectStreamField")), accessFlags := 26, slot := 2, constantValue := 0 }, { name := "REPL", type := .char, accessFlags := 26, slot := 3, constantValue := 0 }, { name := "CASE_INSENSITIVE_ORDER", type := (.object "java/util/Comparator"), accessFlags := 25, slot := 4, constantValue := 0 }, { name := "LATIN1", type := .byte, accessFlags := 24, slot := 5, constantValue := 0 }, { name := "UTF16", type := .byte, accessFlags := 24, slot := 6, constantValue := 0 }]
  methods := #[k7m0, k7m1, k7m2, k7m3]
  instanceTypes := #[(.array .byte), .byte, .int, .boolean]
  staticTypes := #[.long, .boolean, (.array (.object "java/io/ObjectStreamField")), .char, (.object "java/util/Comparator"), .byte, .byte]
  resolved := Array.replicate 1451 none
  statics := some 0 }

def pool8 : Array CpInfo := pool [(2, .class_ 4), (1, u "java/lang/Object"), (3, .class_ 10), (1, u "com/example/stringified_tags/stringifiedtags/SnbtNumbers"), (0, u "text"), (0, u "Ljava/lang/String;"), (2, u "reading"), (0, u "Lcom/example/stringified_tags/stringifiedtags/SnbtReading;"), (2, u "digitValue"), (0, u "(C)I"), (5, .class_ 28), (1, u "com/example/stringified_tags/stringifiedtags/SnbtNumbers$IntegerText"), (3, .class_ 34), (1, u "com/example/stringified_tags/stringifiedtags/SnbtNumbers$IntegerKind"), (155, u "FLOAT_POWERS_OF_TEN"), (0, u "[F"), (2, u "POWERS_OF_TEN"), (0, u "[D"), (77, .class_ 275), (1, u "com/example/stringified_tags/stringifiedtags/SnbtNumbers$1"), (112, .class_ 390), (1, u "com/example/stringified_tags/stringifiedtags/SnbtNumbers$ArrayLayout")] 135

def k8c0 : Code := { maxStack := 2, maxLocals := 2, code := prog_58_method_13_code, exceptionTable := #[], attributes := #[] }
def k8m0 : Method := { name := "digitValue", desc := "(C)I", sig := { parameters := [.char], returnType := some .int }, accessFlags := 8, code := some k8c0 }
/-- com/example/stringified_tags/stringifiedtags/SnbtNumbers -/
def k8 : Class := { plain "com/example/stringified_tags/stringifiedtags/SnbtNumbers" (some 0) with
  accessFlags := 32
  interfaces := #[]
  cf := some (fileOf pool8 8 #[.nestMembers #[273, 26, 32, 388]] #[{ accessFlags := 8, nameIndex := 19, descriptorIndex := 20, attributes := #[] }] 32 2 #[] #[{ accessFlags := 26, nameIndex := 194, descriptorIndex := 195, attributes := #[] }, { accessFlags := 26, nameIndex := 190, descriptorIndex := 191, attributes := #[] }, { accessFlags := 18, nameIndex := 11, descriptorIndex := 12, attributes := #[] }, { accessFlags := 18, nameIndex := 15, descriptorIndex := 16, attributes := #[] }])
  fields := #[{ name := "POWERS_OF_TEN", type := (.array .double), accessFlags := 26, slot := 0, constantValue := 0 }, { name := "FLOAT_POWERS_OF_TEN", type := (.array .float), accessFlags := 26, slot := 1, constantValue := 0 }, { name := "text", type := (.object "java/lang/String"), accessFlags := 18, slot := 0, constantValue := 0 }, { name := "reading", type := (.object "com/example/stringified_tags/stringifiedtags/SnbtReading"), accessFlags := 18, slot := 1, constantValue := 0 }]
  methods := #[k8m0]
  instanceTypes := #[(.object "java/lang/String"), (.object "com/example/stringified_tags/stringifiedtags/SnbtReading")]
  staticTypes := #[(.array .double), (.array .float)]
  resolved := Array.replicate 526 none
  statics := none }

def pool9 : Array CpInfo := pool [(1, .class_ 2), (0, u "java/lang/String"), (1, .class_ 6), (1, u "java/lang/Object"), (0, u "<init>"), (0, u "()V"), (0, .methodref 1 10), (0, .nameAndType 11 12), (0, u "checkIndex"), (0, u "(II)V"), (1, .class_ 16), (1, u "java/lang/StringLatin1"), (36, u "([BI)C"), (67, u "$assertionsDisabled"), (0, u "Z"), (98, .class_ 223), (1, u "java/lang/StringLatin1$LinesSpliterator"), (28, u "charAt"), (137, .class_ 391), (0, u "java/lang/StringLatin1$CharsSpliterator")] 3

def k9m0 : Method := { name := "<init>", desc := "()V", sig := { parameters := [], returnType := none }, accessFlags := 0, code := none }
def k9c1 : Code := { maxStack := 2, maxLocals := 2, code := jdk_43_method_2_code, exceptionTable := #[], attributes := #[] }
def k9m1 : Method := { name := "charAt", desc := "([BI)C", sig := { parameters := [(.array .byte), .int], returnType := some .char }, accessFlags := 9, code := some k9c1 }
/-- java/lang/StringLatin1 -/
def k9 : Class := { plain "java/lang/StringLatin1" (some 0) with
  accessFlags := 48
  interfaces := #[]
  cf := some (fileOf pool9 14 #[.nestMembers #[390, 221]] #[{ accessFlags := 0, nameIndex := 7, descriptorIndex := 8, attributes := #[] }, { accessFlags := 9, nameIndex := 252, descriptorIndex := 53, attributes := #[] }] 48 4 #[] #[{ accessFlags := 4120, nameIndex := 121, descriptorIndex := 122, attributes := #[] }])
  fields := #[{ name := "$assertionsDisabled", type := .boolean, accessFlags := 4120, slot := 0, constantValue := 0 }]
  methods := #[k9m0, k9m1]
  instanceTypes := #[]
  staticTypes := #[.boolean]
  resolved := Array.replicate 395 none
  statics := none }

def pool10 : Array CpInfo := pool [(2, .class_ 4), (1, u "java/lang/Object"), (0, u "<init>"), (0, u "()V"), (17, .class_ 26), (1, u "jdk/internal/util/Preconditions"), (6, u "checkIndex"), (21, .class_ 56), (0, u "jdk/internal/util/Preconditions$4"), (57, .class_ 115), (0, u "jdk/internal/util/Preconditions$1"), (7, u "SIOOBE_FORMATTER"), (0, u "Ljava/util/function/BiFunction;"), (0, .class_ 126), (0, u "jdk/internal/util/Preconditions$2"), (3, u "AIOOBE_FORMATTER"), (0, .class_ 132), (0, u "jdk/internal/util/Preconditions$3"), (3, u "IOOBE_FORMATTER"), (41, u "(IILjava/util/function/BiFunction;)I")] 15

def k10m0 : Method := { name := "<init>", desc := "()V", sig := { parameters := [], returnType := none }, accessFlags := 1, code := none }
def k10c1 : Code := { maxStack := 3, maxLocals := 3, code := jdk_41_method_11_code, exceptionTable := #[], attributes := #[] }
def k10m1 : Method := { name := "checkIndex", desc := "(IILjava/util/function/BiFunction;)I", sig := { parameters := [.int, .int, (.object "java/util/function/BiFunction")], returnType := some .int }, accessFlags := 9, code := some k10c1 }
/-- jdk/internal/util/Preconditions -/
def k10 : Class := { plain "jdk/internal/util/Preconditions" (some 0) with
  accessFlags := 33
  interfaces := #[]
  cf := some (fileOf pool10 24 #[.nestMembers #[55, 131, 125, 114]] #[{ accessFlags := 1, nameIndex := 5, descriptorIndex := 6, attributes := #[] }, { accessFlags := 9, nameIndex := 33, descriptorIndex := 178, attributes := #[] }] 33 2 #[] #[{ accessFlags := 25, nameIndex := 123, descriptorIndex := 124, attributes := #[] }, { accessFlags := 25, nameIndex := 130, descriptorIndex := 124, attributes := #[] }, { accessFlags := 25, nameIndex := 136, descriptorIndex := 124, attributes := #[] }])
  fields := #[{ name := "SIOOBE_FORMATTER", type := (.object "java/util/function/BiFunction"), accessFlags := 25, slot := 0, constantValue := 0 }, { name := "AIOOBE_FORMATTER", type := (.object "java/util/function/BiFunction"), accessFlags := 25, slot := 1, constantValue := 0 }, { name := "IOOBE_FORMATTER", type := (.object "java/util/function/BiFunction"), accessFlags := 25, slot := 2, constantValue := 0 }]
  methods := #[k10m0, k10m1]
  instanceTypes := #[]
  staticTypes := #[(.object "java/util/function/BiFunction"), (.object "java/util/function/BiFunction"), (.object "java/util/function/BiFunction")]
  resolved := Array.replicate 194 none
  statics := some 1 }

def pool11 : Array CpInfo := pool [(9, u "<init>"), (6, .class_ 18), (1, u "java/lang/Object"), (0, u "()V"), (1, .class_ 23), (1, u "jdk/internal/util/ArraysSupport"), (0, u "LOG2_ARRAY_LONG_INDEX_SCALE"), (0, u "I"), (2, u "U"), (0, u "Ljdk/internal/misc/Unsafe;"), (8, u "BIG_ENDIAN"), (0, u "Z"), (8, u "LOG2_BYTE_BIT_SIZE"), (4, u "LOG2_ARRAY_INT_INDEX_SCALE"), (54, u "JLA"), (0, u "Ljdk/internal/access/JavaLangAccess;"), (11, u "LOG2_ARRAY_BOOLEAN_INDEX_SCALE"), (9, u "LOG2_ARRAY_BYTE_INDEX_SCALE"), (5, u "LOG2_ARRAY_CHAR_INDEX_SCALE"), (5, u "LOG2_ARRAY_SHORT_INDEX_SCALE"), (18, u "LOG2_ARRAY_FLOAT_INDEX_SCALE"), (24, u "LOG2_ARRAY_DOUBLE_INDEX_SCALE"), (89, u "T_BOOLEAN"), (2, u "T_CHAR"), (1, u "T_FLOAT"), (1, u "T_DOUBLE"), (1, u "T_BYTE"), (1, u "T_SHORT"), (1, u "T_INT"), (1, u "T_LONG"), (1, u "SOFT_MAX_ARRAY_LENGTH")] 83

def k11m0 : Method := { name := "<init>", desc := "()V", sig := { parameters := [], returnType := none }, accessFlags := 2, code := none }
/-- jdk/internal/util/ArraysSupport -/
def k11 : Class := { plain "jdk/internal/util/ArraysSupport" (some 0) with
  accessFlags := 33
  interfaces := #[]
  cf := some (fileOf pool11 21 #[] #[{ accessFlags := 2, nameIndex := 9, descriptorIndex := 19, attributes := #[] }] 33 16 #[] #[{ accessFlags := 24, nameIndex := 28, descriptorIndex := 29, attributes := #[] }, { accessFlags := 26, nameIndex := 38, descriptorIndex := 39, attributes := #[] }, { accessFlags := 25, nameIndex := 121, descriptorIndex := 25, attributes := #[] }, { accessFlags := 25, nameIndex := 131, descriptorIndex := 25, attributes := #[] }, { accessFlags := 25, nameIndex := 137, descriptorIndex := 25, attributes := #[] }, { accessFlags := 25, nameIndex := 143, descriptorIndex := 25, attributes := #[] }, { accessFlags := 25, nameIndex := 53, descriptorIndex := 25, attributes := #[] }, { accessFlags := 25, nameIndex := 24, descriptorIndex := 25, attributes := #[] }, { accessFlags := 25, nameIndex := 162, descriptorIndex := 25, attributes := #[] }, { accessFlags := 25, nameIndex := 187, descriptorIndex := 25, attributes := #[] }, { accessFlags := 26, nameIndex := 48, descriptorIndex := 25, attributes := #[] }, { accessFlags := 25, nameIndex := 277, descriptorIndex := 25, attributes := #[] }, { accessFlags := 25, nameIndex := 280, descriptorIndex := 25, attributes := #[] }, { accessFlags := 25, nameIndex := 282, descriptorIndex := 25, attributes := #[] }, { accessFlags := 25, nameIndex := 284, descriptorIndex := 25, attributes := #[] }, { accessFlags := 25, nameIndex := 286, descriptorIndex := 25, attributes := #[] }, { accessFlags := 25, nameIndex := 288, descriptorIndex := 25, attributes := #[] }, { accessFlags := 25, nameIndex := 290, descriptorIndex := 25, attributes := #[] }, { accessFlags := 25, nameIndex := 292, descriptorIndex := 25, attributes := #[] }, { accessFlags := 26, nameIndex := 108, descriptorIndex := 109, attributes := #[] }, { accessFlags := 25, nameIndex := 294, descriptorIndex := 25, attributes := #[] }])
  fields := #[{ name := "U", type := (.object "jdk/internal/misc/Unsafe"), accessFlags := 24, slot := 0, constantValue := 0 }, { name := "BIG_ENDIAN", type := .boolean, accessFlags := 26, slot := 1, constantValue := 0 }, { name := "LOG2_ARRAY_BOOLEAN_INDEX_SCALE", type := .int, accessFlags := 25, slot := 2, constantValue := 0 }, { name := "LOG2_ARRAY_BYTE_INDEX_SCALE", type := .int, accessFlags := 25, slot := 3, constantValue := 0 }, { name := "LOG2_ARRAY_CHAR_INDEX_SCALE", type := .int, accessFlags := 25, slot := 4, constantValue := 0 }, { name := "LOG2_ARRAY_SHORT_INDEX_SCALE", type := .int, accessFlags := 25, slot := 5, constantValue := 0 }, { name := "LOG2_ARRAY_INT_INDEX_SCALE", type := .int, accessFlags := 25, slot := 6, constantValue := 0 }, { name := "LOG2_ARRAY_LONG_INDEX_SCALE", type := .int, accessFlags := 25, slot := 7, constantValue := 0 }, { name := "LOG2_ARRAY_FLOAT_INDEX_SCALE", type := .int, accessFlags := 25, slot := 8, constantValue := 0 }, { name := "LOG2_ARRAY_DOUBLE_INDEX_SCALE", type := .int, accessFlags := 25, slot := 9, constantValue := 0 }, { name := "LOG2_BYTE_BIT_SIZE", type := .int, accessFlags := 26, slot := 10, constantValue := 0 }, { name := "T_BOOLEAN", type := .int, accessFlags := 25, slot := 11, constantValue := 0 }, { name := "T_CHAR", type := .int, accessFlags := 25, slot := 12, constantValue := 0 }, { name := "T_FLOAT", type := .int, accessFlags := 25, slot := 13, constantValue := 0 }, { name := "T_DOUBLE", type := .int, accessFlags := 25, slot := 14, constantValue := 0 }, { name := "T_BYTE", type := .int, accessFlags := 25, slot := 15, constantValue := 0 }, { name := "T_SHORT", type := .int, accessFlags := 25, slot := 16, constantValue := 0 }, { name := "T_INT", type := .int, accessFlags := 25, slot := 17, constantValue := 0 }, { name := "T_LONG", type := .int, accessFlags := 25, slot := 18, constantValue := 0 }, { name := "JLA", type := (.object "jdk/internal/access/JavaLangAccess"), accessFlags := 26, slot := 19, constantValue := 0 }, { name := "SOFT_MAX_ARRAY_LENGTH", type := .int, accessFlags := 25, slot := 20, constantValue := 0 }]
  methods := #[k11m0]
  instanceTypes := #[]
  staticTypes := #[(.object "jdk/internal/misc/Unsafe"), .boolean, .int, .int, .int, .int, .int, .int, .int, .int, .int, .int, .int, .int, .int, .int, .int, .int, .int, (.object "jdk/internal/access/JavaLangAccess"), .int]
  resolved := Array.replicate 378 none
  statics := none }

def pool12 : Array CpInfo := pool [(1, u "java/lang/Cloneable"), (0, .class_ 1), (0, u "java/lang/Object"), (0, .class_ 3)] 3

/-- java/lang/Cloneable -/
def k12 : Class := { plain "java/lang/Cloneable" (some 0) with
  accessFlags := 1537
  interfaces := #[]
  cf := some (fileOf pool12 2 #[] #[] 1537 4 #[] #[])
  fields := #[]
  methods := #[]
  instanceTypes := #[]
  staticTypes := #[]
  resolved := Array.replicate 8 none
  statics := none }

/-- the primitive byte -/
def k13 : Class := { plain "byte" none with kind := .primitive 'B', accessFlags := 0x411 }
/-- [B -/
def k14 : Class := { plain "[B" (some 0) with kind := .array 13 .byte, interfaces := #[12, 2], accessFlags := 1041 }

/-- the primitive int -/
def k15 : Class := { plain "int" none with kind := .primitive 'I', accessFlags := 0x411 }
/-- [I -/
def k16 : Class := { plain "[I" (some 0) with kind := .array 15 .int, interfaces := #[12, 2], accessFlags := 1041 }

def heap : Heap := #[{ cls := 7, slots := #[.long 0, .int 1, .null, .int 0, .null, .int 0, .int 0], vm := .statics 7 },
  { cls := 10, slots := #[.null, .null, .null], vm := .statics 10 }]
def classes : Array Class := #[k0, k1, k2, k3, k4, k5, k6, k7, k8, k9, k10, k11, k12, k13, k14, k15, k16]
def interned : List (Array UInt16 × Addr) := []
def slotsUsed : Nat := 10
def theMethod : MethodId := ⟨1, 1⟩
def args0 : Array Value := #[.int 3, .int 4]
def aboutOver (below : List Frame) : State where
  vm := { classes := classes, interned := interned.toArray }
  heap := heap
  slotsUsed := slotsUsed
  threads := #[{ frames := .invoking theMethod args0 :: below }]
def below0 : List Frame := [.native { method := ⟨0, 0⟩, args := #[] }]
def about1 : State := aboutOver below0
def p0 : Program := .bare "" "" ""
def e0 : Env := launch0.env 0 0 0
theorem w_frames : about1.frames = Frame.invoking theMethod args0 :: below0 := rfl
set_option maxRecDepth 65536 in
theorem w_args : argsFit about1.vm theMethod args0 = true := by decide +kernel
set_option maxRecDepth 65536 in
theorem w_heap : heapFits about1 = true := by decide +kernel
set_option maxRecDepth 65536 in
theorem w_runnable : about1.curStatus? = some .runnable := by decide +kernel
set_option maxRecDepth 65536 in
theorem w_alone : about1.alone = true := by decide +kernel
set_option maxRecDepth 65536 in
theorem w_named : about1.methodNamed? x = some theMethod := by decide +kernel
set_option maxRecDepth 65536 in
theorem w_hears : about1.hears theMethod below0 = true := by decide +kernel
set_option maxRecDepth 65536 in
theorem w_ripe : about1.ripe theMethod args0 below0 = true := by decide +kernel
theorem w_running : about1.status = .running := rfl
set_option maxRecDepth 65536 in
theorem w_room : about1.hasRoom e0.platform room_1 = true :=
  launch0.hasRoom_least _ room_1 (by decide +kernel) (by decide +kernel) (by decide +kernel) (by decide +kernel) (by decide +kernel) (by decide +kernel)
theorem allAtoms_all (ts : List Jvm.Cond) (a : Array Jvm.Value) (st : Jvm.State) : (allAtoms ts).before a st = ts.all (fun c => c.before a st) := by
  induction ts with
  | nil => rfl
  | cons c t ih =>
    show (Jvm.Cond.and c (allAtoms t)).before a st = _
    rw [Jvm.Cond.before_and, ih, List.all_cons]
def words1 : List Jvm.Cond := Jvm.Cond.code x code maxLocals ret :: tables_1
/-- a 'code' word, met by the world's own term for the bytes: nothing is compared byte by byte -/
theorem code_word {y : MethodName} {bytes : ByteArray} {mx : Nat} {rt : Option FieldType} {a : Array Value} {s : State} {m : MethodId} {meth : Method} {c : Code} (h1 : s.methodNamed? y = some m) (h2 : s.vm.method? m = some meth) (h3 : meth.code = some c) (h4 : c.code = bytes)
    (h5 : (c.maxLocals == mx && c.exceptionTable.isEmpty && decide (c.maxStack ≤ mostOperands) && decide (meth.sig.returnType = rt) && !meth.locks && decide (parseMethodDescriptor y.desc = some meth.sig)) = true) : (Jvm.Cond.code y bytes mx rt).before a s = true := by
  simp only [Bool.and_eq_true, beq_iff_eq, Bool.not_eq_true', decide_eq_true_eq] at h5
  obtain ⟨⟨⟨⟨⟨g1, g2⟩, g3⟩, g4⟩, g5⟩, g6⟩ := h5
  simp [Cond.before, Cond.holds, Cond.value, h1, h2, h3, h4, g1, g2, g3, g4, g5, g6]
def isCode : Jvm.Cond → Bool
  | .code _ _ _ _ => true
  | _ => false
theorem all_split {L : List Jvm.Cond} {P : Jvm.Cond → Bool} (h1 : L.all (fun c => isCode c || P c) = true) (h2 : ∀ c ∈ L.filter isCode, P c = true) : L.all P = true := by
  refine List.all_eq_true.mpr fun c hc => ?_
  have h := List.all_eq_true.mp h1 c hc
  rcases Bool.eq_false_or_eq_true (isCode c) with hi | hi
  · exact h2 c (List.mem_filter.mpr ⟨hc, hi⟩)
  · simpa [hi] using h
set_option maxRecDepth 65536 in
theorem w_c0 : (Jvm.Cond.code x code maxLocals ret).before args0 about1 = true := code_word (m := ⟨1, 1⟩) (meth := k1m1) (c := k1c1) (by decide +kernel) rfl rfl rfl (by decide +kernel)
set_option maxRecDepth 65536 in
theorem w_c1 : (Jvm.Cond.code ({ cls := "com/example/stringified_tags/stringifiedtags/SnbtNumbers", name := "digitValue", desc := "(C)I" } : Jvm.MethodName) prog_58_method_13_code (2 : Nat) (Option.some Jvm.ClassFile.FieldType.int)).before args0 about1 = true := code_word (m := ⟨8, 0⟩) (meth := k8m0) (c := k8c0) (by decide +kernel) rfl rfl rfl (by decide +kernel)
set_option maxRecDepth 65536 in
theorem w_c2 : (Jvm.Cond.code ({ cls := "java/lang/String", name := "charAt", desc := "(I)C" } : Jvm.MethodName) jdk_42_method_56_code (2 : Nat) (Option.some Jvm.ClassFile.FieldType.char)).before args0 about1 = true := code_word (m := ⟨7, 1⟩) (meth := k7m1) (c := k7c1) (by decide +kernel) rfl rfl rfl (by decide +kernel)
set_option maxRecDepth 65536 in
theorem w_c3 : (Jvm.Cond.code ({ cls := "java/lang/String", name := "isLatin1", desc := "()Z" } : Jvm.MethodName) jdk_42_method_154_code (1 : Nat) (Option.some Jvm.ClassFile.FieldType.boolean)).before args0 about1 = true := code_word (m := ⟨7, 2⟩) (meth := k7m2) (c := k7c2) (by decide +kernel) rfl rfl rfl (by decide +kernel)
set_option maxRecDepth 65536 in
theorem w_c4 : (Jvm.Cond.code ({ cls := "java/lang/StringLatin1", name := "charAt", desc := "([BI)C" } : Jvm.MethodName) jdk_43_method_2_code (2 : Nat) (Option.some Jvm.ClassFile.FieldType.char)).before args0 about1 = true := code_word (m := ⟨9, 1⟩) (meth := k9m1) (c := k9c1) (by decide +kernel) rfl rfl rfl (by decide +kernel)
set_option maxRecDepth 65536 in
theorem w_c5 : (Jvm.Cond.code ({ cls := "java/lang/String", name := "checkIndex", desc := "(II)V" } : Jvm.MethodName) jdk_42_method_155_code (2 : Nat) (Option.none : Option Jvm.ClassFile.FieldType)).before args0 about1 = true := code_word (m := ⟨7, 3⟩) (meth := k7m3) (c := k7c3) (by decide +kernel) rfl rfl rfl (by decide +kernel)
set_option maxRecDepth 65536 in
theorem w_c6 : (Jvm.Cond.code ({ cls := "jdk/internal/util/Preconditions", name := "checkIndex", desc := "(IILjava/util/function/BiFunction;)I" } : Jvm.MethodName) jdk_41_method_11_code (3 : Nat) (Option.some Jvm.ClassFile.FieldType.int)).before args0 about1 = true := code_word (m := ⟨10, 1⟩) (meth := k10m1) (c := k10c1) (by decide +kernel) rfl rfl rfl (by decide +kernel)
def codes1 : List Jvm.Cond := [Jvm.Cond.code x code maxLocals ret, Jvm.Cond.code ({ cls := "com/example/stringified_tags/stringifiedtags/SnbtNumbers", name := "digitValue", desc := "(C)I" } : Jvm.MethodName) prog_58_method_13_code (2 : Nat) (Option.some Jvm.ClassFile.FieldType.int), Jvm.Cond.code ({ cls := "java/lang/String", name := "charAt", desc := "(I)C" } : Jvm.MethodName) jdk_42_method_56_code (2 : Nat) (Option.some Jvm.ClassFile.FieldType.char), Jvm.Cond.code ({ cls := "java/lang/String", name := "isLatin1", desc := "()Z" } : Jvm.MethodName) jdk_42_method_154_code (1 : Nat) (Option.some Jvm.ClassFile.FieldType.boolean), Jvm.Cond.code ({ cls := "java/lang/StringLatin1", name := "charAt", desc := "([BI)C" } : Jvm.MethodName) jdk_43_method_2_code (2 : Nat) (Option.some Jvm.ClassFile.FieldType.char), Jvm.Cond.code ({ cls := "java/lang/String", name := "checkIndex", desc := "(II)V" } : Jvm.MethodName) jdk_42_method_155_code (2 : Nat) (Option.none : Option Jvm.ClassFile.FieldType), Jvm.Cond.code ({ cls := "jdk/internal/util/Preconditions", name := "checkIndex", desc := "(IILjava/util/function/BiFunction;)I" } : Jvm.MethodName) jdk_41_method_11_code (3 : Nat) (Option.some Jvm.ClassFile.FieldType.int)]
set_option maxRecDepth 65536 in
theorem codes_eq : words1.filter isCode = codes1 := rfl
theorem w_codes : ∀ c ∈ words1.filter isCode, c.before args0 about1 = true := by
  rw [codes_eq]
  intro c hc
  simp only [codes1, List.mem_cons, List.not_mem_nil, or_false] at hc
  rcases hc with rfl | rfl | rfl | rfl | rfl | rfl | rfl
  · exact w_c0
  · exact w_c1
  · exact w_c2
  · exact w_c3
  · exact w_c4
  · exact w_c5
  · exact w_c6
set_option maxRecDepth 65536 in
theorem w_t1 : (words1.take 24).all (fun c => isCode c || c.before args0 about1) = true := by decide +kernel
set_option maxRecDepth 65536 in
theorem w_t2 : (words1.drop 24).all (fun c => isCode c || c.before args0 about1) = true := by decide +kernel
theorem w_tables : (allAtoms (Jvm.Cond.code x code maxLocals ret :: tables_1)).before args0 about1 = true := by
  rw [allAtoms_all]
  show words1.all (fun c => c.before args0 about1) = true
  refine all_split ?_ w_codes
  rw [← List.take_append_drop 24 words1, List.all_append, w_t1, w_t2]
  rfl
set_option maxRecDepth 65536 in
theorem w_rest : rest_1_c.before args0 about1 = true := by decide +kernel
set_option maxRecDepth 65536 in
theorem w_case : (Jvm.Cond.and given_1 narrow_1).before args0 about1 = true := by decide +kernel
set_option maxRecDepth 65536 in
theorem w_consts : constsHeld consts_1 about1 := Jvm.Lit.constsHeldB_iff.mp (by decide +kernel)
theorem w_applies : (headSpec (Jvm.Cond.code x code maxLocals ret :: tables_1) room_1).applies x e0.platform about1 = true :=
  (Spec.applies_iff w_frames).mpr ⟨w_running, w_runnable, w_alone, w_named, w_hears, w_ripe, w_room, w_tables⟩
theorem atStart : AtStart classFile x code maxLocals ret World_1 tables_1 room_1 Calls_1 rest_1 Pre_1 launch0 p0 e0 about1 theMethod args0 below0 :=
  ⟨lists_1, trivial, launch0.admits_env _ _ _, launch0.least_env, fairChoices_fair.cas, fairChoices_fair.clock, w_frames, w_args, w_heap, w_applies, ⟨w_consts, trivial⟩, w_rest, w_case⟩
end start1
theorem witness_1 : WitnessClaimed_1 := ⟨start1.p0, start1.e0, start1.about1, start1.theMethod, start1.args0, start1.below0, start1.atStart⟩
end Jvm.Pilot.@@N@@
