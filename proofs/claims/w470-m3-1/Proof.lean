import JvmDerived
import JvmDerived.Pilot.@@N@@Statement
import JvmDerived.Pilot.@@N@@Code
set_option linter.unusedVariables false
set_option linter.unusedSimpArgs false
namespace Jvm.JW
open Sem ClassFile Op Lib Jvm.Stand Jvm.Free Jvm.LawKit Jvm.RoadKit
/-! The walk in continuation form: D holds of a machine state if the run from it ends as the contract says. -/
def Dn (p : Program) (e : Env) (below : List Frame) (s : State) (Q : Option Value → Heap → List Loc → Prop) (k n : Nat) (S : State) : Prop :=
  ∃ s₂ o, Steps p.tables e below S s₂ ∧ s₂.status = .running ∧ Ended s₂ below o ∧ ∃ v L, o = .returned v ∧ Q v s₂.heap L ∧ FrameEnd s o s₂ L k n
def Adv (p : Program) (e : Env) (below : List Frame) (D : State → Prop) : Prop :=
  ∀ {S S' : State}, (∀ {t : State}, Steps p.tables e below S' t → Steps p.tables e below S t) → D S' → D S
theorem Adv.dn {p : Program} {e : Env} {below : List Frame} {s : State} {Q : Option Value → Heap → List Loc → Prop} {k n : Nat} : Adv p e below (Dn p e below s Q k n) := by
  intro S S' h d
  obtain ⟨s2, o, h1, h2⟩ := d
  exact ⟨s2, o, h h1, h2⟩
theorem Adv.tr {p : Program} {e : Env} {below : List Frame} {D : State → Prop} (A : Adv p e below D) {S S' : State} (h : Steps p.tables e below S S') (d : D S') : D S := A (fun k => h.trans k) d
abbrev JMet (l : Launch) (Z : State) (y : MethodName) (bytes : ByteArray) (maxL : Nat) (ret : Option FieldType) (ws : List Cond) (rm : Room) (as' : Array Value) (h0 : Heap) (Q : Option Value → Heap → List Loc → Prop) : Prop :=
  MetFree l y (head1 (Cond.code y bytes maxL ret :: ws) rm) (fun a U => a = as' ∧ Z.Warmed39 U.vm ∧ U.heap = h0) (fun _ _ _ _ _ => True) (fun _ U o U' => ∃ v L, o = .returned v ∧ Q v U'.heap L ∧ FrameEnd U o U' L rm.cells rm.slots)
/-- a body that returns r and leaves the heap as it was -/
def QP (r : Value) (h0 : Heap) (n0 : Nat) (v : Option Value) (h : Heap) (L : List Loc) : Prop := v = some r ∧ Fr n0 L ∧ h = h0
/-- the law: it returns 1; nothing that stood at the start is written -/
def QL (n0 : Nat) (v : Option Value) (h : Heap) (L : List Loc) : Prop := v = some (.int 1) ∧ Fr n0 L
section Kit
variable {p : Program} {l : Launch} {e : Env} {R : Room} {s : State} {m : MethodId} {args : Array Value} {below : List Frame} {meth : Method} {c : Code} {T : State} {locs : List Loc} {cells slots : Nat} {Z : State} {a0 : Array Value} {h : Heap} {D : State → Prop}
theorem ret (X : Stand p l e R s m args below meth c T locs cells slots) (hlk : meth.locks = false) {Q : Option Value → Heap → List Loc → Prop} {k n : Nat} {S : State} {v : Option Value} (hv : meth.sig.returnType = none → v = none)
    (hst : ∀ fs, (∀ (f : JFrame) (acts : List Action), f.method = m → f.locked = none → f.entered = [] → (doReturn e (T.setTop f) acts v).1 = T.setFrames fs) → Steps p.tables e below S (T.setFrames fs))
    {hh : Heap} (eT : T.heap = hh) (hq : Q v hh locs) (hk : cells ≤ k) (hn : slots ≤ n) : Dn p e below s Q k n S := by
  subst eT
  obtain ⟨fs, hr, hrun, hended, hW, hsame⟩ := X.leave (v := v) hv hlk
  exact ⟨_, _, hst fs hr, hrun, hended, _, _, rfl, hq, ⟨_, rfl⟩, hW, hsame.mono hk hn⟩
theorem body {y : MethodName} {bytes : ByteArray} {maxL : Nat} {rt : Option FieldType} {ws : List Cond} {rm : Room} {as' : Array Value} {h0 : Heap} {Q : Option Value → Heap → List Loc → Prop} (Ls : Array Slot) (hpl : plainFor y = true) (hef : ∀ m, entryFrame m as' maxL = mkF m 0 Ls [])
    (bd : ∀ (p : Program) (e : Env) (s : State) (m : MethodId) (below : List Frame) (meth : Method) (c : Code) (T0 : State) (D : State → Prop), Adv p e below D → (∀ S, Dn p e below s Q rm.cells rm.slots S → D S) → Stand p l e rm s m as' below meth c T0 [] 0 0 → p.tables.exec = Jvm.exec → Z.Warmed39 s.vm → c.code = bytes → c.maxLocals = maxL → s.vm.findClass y.cls = some m.cls → meth.name = y.name → meth.sig.returnType = rt → meth.locks = false → T0.heap = h0 → D (T0.setTop (mkF m 0 Ls []))) :
    JMet l Z y bytes maxL rt ws rm as' h0 Q := by
  refine MetFree.of_bodySF hpl hisR ?_
  intro p e s m args below meth c s₁ Bd hml hP hK
  obtain ⟨rfl, hZ, hh⟩ := hP
  have q := bd p e s m below meth c s₁ (Dn p e below s Q rm.cells rm.slots) Adv.dn (fun _ d => d) (Stand.of_body Bd) Bd.exec hZ Bd.bytes hml (findClass_of_methodNamed Bd.named) (name_of_methodNamed Bd.named Bd.method).1 Bd.returns Bd.notSynchronized (by rw [← hh, Bd.state]; rfl)
  rw [← hef m] at q
  exact q
theorem Adv.callS (A : Adv p e below D) (X : Stand p l e R s m args below meth c T locs cells slots) (hx : p.tables.exec = Jvm.exec) (hZ : Z.Warmed39 s.vm) {own : String} {index : Nat} {y : MethodName} {bytes : ByteArray} {maxL : Nat} {rt : Option FieldType} {rm : Room} {as' : Array Value} {Q : Option Value → Heap → List Loc → Prop}
    (hown : s.vm.findClass own = some m.cls) (w1 : (Cond.methodLink own index y).before a0 Z = true) (w2 : (Cond.static y).before a0 Z = true) (w3 : (Cond.initialized y.cls).before a0 Z = true) (w4 : (Cond.code y bytes maxL rt).before a0 Z = true) (eT : T.heap = h)
    (hM : JMet l Z y bytes maxL rt [] rm as' h Q) (W : Nat) {g : JFrame} (hg : g.method = m) (hsz : g.locals.size = c.maxLocals) (argsL rest : List Value) (has : as' = argsL.toArray)
    (hlen : ∀ sig, parseMethodDescriptor y.desc = some sig → argsL.length = sig.parameters.length) (hstack : g.stack = argsL.reverse ++ rest) (hW : 2 * g.monitorRoom + (rest.map fun v => v.category).sum ≤ W)
    (hd : decode c.code g.pc = .ok (.invokestatic index, 3)) (hy : y.cls ≠ "java/lang/invoke/MethodHandle" ∧ y.cls ≠ "java/lang/invoke/VarHandle") (hf : rm.frames + 1 ≤ R.frames) (hl : W + (maxL + 11) + rm.locals ≤ R.locals) (hc : cells + rm.cells ≤ R.cells) (hs : slots + rm.slots ≤ R.slots)
    (k : ∀ (T' : State) (L' : List Loc) (v : Option Value), Stand p l e R s m args below meth c T' (locs ++ L') (cells + rm.cells) (slots + rm.slots) → Q v T'.heap L' → D (T'.setTop { g with pc := g.pc + 3, stack := v.toList ++ rest })) : D (T.setTop g) := by
  subst has
  obtain ⟨v, _, ⟨T', L, k', n'⟩, -, X', ⟨Lc, hQ, l', y', z'⟩, st⟩ := Jvm.LawKit.callS X hx (y := y) hown (mvT hZ w1) (mvT hZ w2) (mvT hZ w3) (mvT hZ w4) hy (backOf (W := W) hM hZ w4 w3 hf hl) (g := g) hg hsz (argsL := argsL) (rest := rest) hlen hstack hW hd (fun _ _ => ⟨rfl, eT, hc, hs⟩)
  dsimp only [Pt.U, Pt.locs, Pt.cells, Pt.slots] at X' l' y' z' st hQ
  subst l' y' z'
  exact A (fun q => st _ q) (k T' Lc v X' hQ)
theorem Adv.callI (A : Adv p e below D) (X : Stand p l e R s m args below meth c T locs cells slots) (hx : p.tables.exec = Jvm.exec) (hZ : Z.Warmed39 s.vm) {own : String} {index : Nat} {y : MethodName} {bytes : ByteArray} {maxL : Nat} {rm : Room} {as' : Array Value} {Q : Option Value → Heap → List Loc → Prop}
    (hown : s.vm.findClass own = some m.cls) (hi : y.name = "<init>") (w1 : (Cond.methodLink own index y).before a0 Z = true) (w2 : (Cond.instanceMethod y).before a0 Z = true) (w3 : (Cond.initialized y.cls).before a0 Z = true) (w4 : (Cond.code y bytes maxL none).before a0 Z = true) (eT : T.heap = h)
    (hM : JMet l Z y bytes maxL none [] rm as' h Q) (W : Nat) {g : JFrame} (hg : g.method = m) (hsz : g.locals.size = c.maxLocals) (a : Addr) (argsL rest : List Value) (has : as' = (.ref a :: argsL).toArray)
    (hlen : ∀ sig, parseMethodDescriptor y.desc = some sig → argsL.length = sig.parameters.length) (hstack : g.stack = argsL.reverse ++ .ref a :: rest) (hW : 2 * g.monitorRoom + (rest.map fun v => v.category).sum ≤ W)
    (hd : decode c.code g.pc = .ok (.invokespecial index, 3)) (hy : y.cls ≠ "java/lang/invoke/MethodHandle" ∧ y.cls ≠ "java/lang/invoke/VarHandle") (hf : rm.frames + 1 ≤ R.frames) (hl : W + (maxL + 11) + rm.locals ≤ R.locals) (hc : cells + rm.cells ≤ R.cells) (hs : slots + rm.slots ≤ R.slots)
    (k : ∀ (T' : State) (L' : List Loc) (v : Option Value), Stand p l e R s m args below meth c T' (locs ++ L') (cells + rm.cells) (slots + rm.slots) → Q v T'.heap L' → D (T'.setTop { g with pc := g.pc + 3, stack := v.toList ++ rest })) : D (T.setTop g) := by
  subst has
  obtain ⟨v, _, ⟨T', L, k', n'⟩, -, X', ⟨Lc, hQ, l', y', z'⟩, st⟩ := X.specialBack hx (y := y) hi hown (mvT hZ w1) (mvT hZ w2) (mvT hZ w4) hy (backOf (W := W) hM hZ w4 w3 hf hl) (g := g) hg hsz (Steps.refl _) (a := a) (argsL := argsL) (rest := rest) hlen hstack hW hd (fun _ _ => ⟨rfl, eT, hc, hs⟩)
  dsimp only [Pt.U, Pt.locs, Pt.cells, Pt.slots] at X' l' y' z' st hQ
  subst l' y' z'
  exact A.tr st (k T' Lc v X' hQ)
theorem Adv.callV (A : Adv p e below D) (X : Stand p l e R s m args below meth c T locs cells slots) (hx : p.tables.exec = Jvm.exec) (hZ : Z.Warmed39 s.vm) {own C : String} {index : Nat} {y z : MethodName} {bytes : ByteArray} {maxL : Nat} {rt : Option FieldType} {rm : Room} {as' : Array Value} {Q : Option Value → Heap → List Loc → Prop} {a : Addr}
    (hown : s.vm.findClass own = some m.cls) (w1 : (Cond.methodLink own index y).before a0 Z = true) (w2 : (Cond.declares y).before a0 Z = true) (nf : NotFace s y) (w5 : (Cond.selects C y z).before a0 Z = true) (w6 : (Cond.instanceMethod z).before a0 Z = true) (w3 : (Cond.initialized z.cls).before a0 Z = true) (w4 : (Cond.code z bytes maxL rt).before a0 Z = true) (eT : T.heap = h) (E : Exa Z h a C)
    (hM : JMet l Z z bytes maxL rt [] rm as' h Q) (W : Nat) {g : JFrame} (hg : g.method = m) (hsz : g.locals.size = c.maxLocals) (argsL rest : List Value) (has : as' = (.ref a :: argsL).toArray)
    (hlen : ∀ sig, parseMethodDescriptor y.desc = some sig → argsL.length = sig.parameters.length) (hstack : g.stack = argsL.reverse ++ .ref a :: rest) (hW : 2 * g.monitorRoom + (rest.map fun v => v.category).sum ≤ W)
    (hd : decode c.code g.pc = .ok (.invokevirtual index, 3)) (hy : y.cls ≠ "java/lang/invoke/MethodHandle" ∧ y.cls ≠ "java/lang/invoke/VarHandle") (hf : rm.frames + 1 ≤ R.frames) (hl : W + (maxL + 11) + rm.locals ≤ R.locals) (hc : cells + rm.cells ≤ R.cells) (hs : slots + rm.slots ≤ R.slots)
    (k : ∀ (T' : State) (L' : List Loc) (v : Option Value), Stand p l e R s m args below meth c T' (locs ++ L') (cells + rm.cells) (slots + rm.slots) → Q v T'.heap L' → D (T'.setTop { g with pc := g.pc + 3, stack := v.toList ++ rest })) : D (T.setTop g) := by
  subst has
  obtain ⟨cq, kq, qa, qb, qc⟩ := isOf hZ eT E
  obtain ⟨v, _, ⟨T', L, k', n'⟩, -, X', ⟨Lc, hQ, l', y', z'⟩, st⟩ := X.virtualBack hx (y := y) (z := z) hown (mvT hZ w1) (mvT hZ w2) nf (mvT hZ w5) (mvT hZ w6) hy (backOf (W := W) hM hZ w4 w3 hf hl) qa qc (g := g) hg hsz (Steps.refl _) (argsL := argsL) (rest := rest) hlen hstack hW hd (fun _ _ => ⟨rfl, eT, hc, hs⟩)
  dsimp only [Pt.U, Pt.locs, Pt.cells, Pt.slots] at X' l' y' z' st hQ
  subst l' y' z'
  exact A.tr st (k T' Lc v X' hQ)
theorem Adv.callU (A : Adv p e below D) (X : Stand p l e R s m args below meth c T locs cells slots) (hx : p.tables.exec = Jvm.exec) (hZ : Z.Warmed39 s.vm) {own C owner : String} {index : Nat} {y z : MethodName} {bytes : ByteArray} {maxL : Nat} {rt : Option FieldType} {rm : Room} {as' : Array Value} {Q : Option Value → Heap → List Loc → Prop} {a : Addr}
    (hown : s.vm.findClass own = some m.cls) (w1 : (Cond.methodLink own index y).before a0 Z = true) (w7 : (Cond.sameMethod y.cls owner y.name y.desc).before a0 Z = true) (w2 : (Cond.declares ⟨owner, y.name, y.desc⟩).before a0 Z = true) (w5 : (Cond.selects C y z).before a0 Z = true) (w6 : (Cond.instanceMethod z).before a0 Z = true) (w3 : (Cond.initialized z.cls).before a0 Z = true) (w4 : (Cond.code z bytes maxL rt).before a0 Z = true) (eT : T.heap = h) (E : Exa Z h a C)
    (hM : JMet l Z z bytes maxL rt [] rm as' h Q) (W : Nat) {g : JFrame} (hg : g.method = m) (hsz : g.locals.size = c.maxLocals) (argsL rest : List Value) (has : as' = (.ref a :: argsL).toArray)
    (hlen : ∀ sig, parseMethodDescriptor y.desc = some sig → argsL.length = sig.parameters.length) (hstack : g.stack = argsL.reverse ++ .ref a :: rest) (hW : 2 * g.monitorRoom + (rest.map fun v => v.category).sum ≤ W)
    (hd : decode c.code g.pc = .ok (.invokevirtual index, 3)) (hy : owner ≠ "java/lang/invoke/MethodHandle" ∧ owner ≠ "java/lang/invoke/VarHandle") (hf : rm.frames + 1 ≤ R.frames) (hl : W + (maxL + 11) + rm.locals ≤ R.locals) (hc : cells + rm.cells ≤ R.cells) (hs : slots + rm.slots ≤ R.slots)
    (k : ∀ (T' : State) (L' : List Loc) (v : Option Value), Stand p l e R s m args below meth c T' (locs ++ L') (cells + rm.cells) (slots + rm.slots) → Q v T'.heap L' → D (T'.setTop { g with pc := g.pc + 3, stack := v.toList ++ rest })) : D (T.setTop g) := by
  subst has
  obtain ⟨cq, kq, qa, qb, qc⟩ := isOf hZ eT E
  obtain ⟨v, _, ⟨T', L, k', n'⟩, -, X', ⟨Lc, hQ, l', y', z'⟩, st⟩ := X.virtualBackUp hx (x := y) (y := z) (owner := owner) hown (mvT hZ w1) (mvT hZ w7) (mvT hZ w2) hy (mvT hZ w5) (mvT hZ w6) (backOf (W := W) hM hZ w4 w3 hf hl) qa qc (g := g) hg hsz (Steps.refl _) (argsL := argsL) (rest := rest) hlen hstack hW hd (fun _ _ => ⟨rfl, eT, hc, hs⟩)
  dsimp only [Pt.U, Pt.locs, Pt.cells, Pt.slots] at X' l' y' z' st hQ
  subst l' y' z'
  exact A.tr st (k T' Lc v X' hQ)
theorem Adv.callP (A : Adv p e below D) (X : Stand p l e R s m args below meth c T locs cells slots) (hx : p.tables.exec = Jvm.exec) (hZ : Z.Warmed39 s.vm) {own C : String} {index kn : Nat} {y : MethodName} {bytes : ByteArray} {maxL : Nat} {rt : Option FieldType} {rm : Room} {as' : Array Value} {Q : Option Value → Heap → List Loc → Prop} {a : Addr}
    (hown : s.vm.findClass own = some m.cls) (w1 : (Cond.methodLink own index y).before a0 Z = true) (w2 : (Cond.instanceMethod y).before a0 Z = true) (wi : (Cond.instantiable y.cls kn).before a0 Z = true) (w5 : (Cond.privateMethod y).before a0 Z = true) (w3 : (Cond.initialized y.cls).before a0 Z = true) (w4 : (Cond.code y bytes maxL rt).before a0 Z = true) (eT : T.heap = h) (E : Exa Z h a C)
    (hM : JMet l Z y bytes maxL rt [] rm as' h Q) (W : Nat) {g : JFrame} (hg : g.method = m) (hsz : g.locals.size = c.maxLocals) (argsL rest : List Value) (has : as' = (.ref a :: argsL).toArray)
    (hlen : ∀ sig, parseMethodDescriptor y.desc = some sig → argsL.length = sig.parameters.length) (hstack : g.stack = argsL.reverse ++ .ref a :: rest) (hW : 2 * g.monitorRoom + (rest.map fun v => v.category).sum ≤ W)
    (hd : decode c.code g.pc = .ok (.invokevirtual index, 3)) (hy : y.cls ≠ "java/lang/invoke/MethodHandle" ∧ y.cls ≠ "java/lang/invoke/VarHandle") (hf : rm.frames + 1 ≤ R.frames) (hl : W + (maxL + 11) + rm.locals ≤ R.locals) (hc : cells + rm.cells ≤ R.cells) (hs : slots + rm.slots ≤ R.slots)
    (k : ∀ (T' : State) (L' : List Loc) (v : Option Value), Stand p l e R s m args below meth c T' (locs ++ L') (cells + rm.cells) (slots + rm.slots) → Q v T'.heap L' → D (T'.setTop { g with pc := g.pc + 3, stack := v.toList ++ rest })) : D (T.setTop g) := by
  subst has
  obtain ⟨ce, hce, hob⟩ := E.cell
  have hpriv : s.PrivateAt y := Cond.privateMethod_at (mvP hZ w5 (args := #[]))
  have hins : (Cond.instanceMethod y).before args s = true := mvT hZ w2
  have hwi : (Cond.instantiable y.cls kn).before args s = true := mvT hZ wi
  obtain ⟨ck, kk, c1, c2, -, c4, -⟩ := Cond.instantiable_spec hwi
  have hsel := selects_self_of_private c1 c2 (Bool.or_eq_false_iff.mp c4).1 hpriv hins hy
  obtain ⟨v, _, ⟨T', L, k', n'⟩, -, X', ⟨Lc, hQ, l', y', z'⟩, st⟩ := X.privateBack hx (y := y) hown (mvT hZ w1) hins hsel hpriv (mvT hZ w4) hy (backOf (W := W) hM hZ w4 w3 hf hl) (g := g) hg hsz (Steps.refl _) (a := a) (cell := ce) (by rw [eT]; exact hce) hob (argsL := argsL) (rest := rest) hlen hstack hW hd (fun _ _ => ⟨rfl, eT, hc, hs⟩)
  dsimp only [Pt.U, Pt.locs, Pt.cells, Pt.slots] at X' l' y' z' st hQ
  subst l' y' z'
  exact A.tr st (k T' Lc v X' hQ)
end Kit
/-! ### arrays by a function of the place -/
section Arrays
variable {p : Program} {l : Launch} {e : Env} {R : Room} {s : State} {m : MethodId} {args : Array Value} {below : List Frame} {meth : Method} {c : Code} {T : State} {locs : List Loc} {cells slots : Nat} {Z : State} {a0 : Array Value} {h h' : Heap} {D : State → Prop} {a b : Addr} {ty : FieldType} {n : Nat} {f : Nat → Int32} {fJ : Nat → Int64} {sl : Nat} {v : Value} {ws : List Addr}
def ArI (Z : State) (h : Heap) (a : Addr) (ty : FieldType) (n : Nat) (f : Nat → Int32) : Prop :=
  n < 2147483648 ∧ ∃ c : Cell, Arr Z h a c ty ∧ c.slots.size = n ∧ ∀ i, i < n → c.slots[i]? = some (.int (f i))
def ArJ (Z : State) (h : Heap) (a : Addr) (n : Nat) (f : Nat → Int64) : Prop :=
  n < 2147483648 ∧ ∃ c : Cell, Arr Z h a c .long ∧ c.slots.size = n ∧ ∀ i, i < n → c.slots[i]? = some (.long (f i))
theorem ArI.lt (F : ArI Z h a ty n f) : a < h.size := by obtain ⟨-, c, A, -⟩ := F; exact A.lt
theorem ArI.ext (F : ArI Z h a ty n f) (E : Ext h h') : ArI Z h' a ty n f := by obtain ⟨q, c, A, r⟩ := F; exact ⟨q, c, A.ext E, r⟩
theorem ArI.other (F : ArI Z h b ty n f) (W : Wr h h' a sl v) (q : b ≠ a) : ArI Z h' b ty n f := by obtain ⟨z, c, A, r⟩ := F; exact ⟨z, c, A.other W q, r⟩
theorem ArI.keep (F : ArI Z h a ty n f) (K : Keep h h' ws) (q : a ∉ ws) : ArI Z h' a ty n f := by obtain ⟨z, c, A, r⟩ := F; exact ⟨z, c, ⟨K.2.1 a c A.1 q, A.2⟩, r⟩
theorem ArI.eqf {g : Nat → Int32} (F : ArI Z h a ty n f) (q : ∀ i, i < n → f i = g i) : ArI Z h a ty n g := by
  obtain ⟨z, c, A, r, H⟩ := F; exact ⟨z, c, A, r, fun i hi => by rw [← q i hi]; exact H i hi⟩
theorem ArJ.lt (F : ArJ Z h a n fJ) : a < h.size := by obtain ⟨-, c, A, -⟩ := F; exact A.lt
theorem ArJ.ext (F : ArJ Z h a n fJ) (E : Ext h h') : ArJ Z h' a n fJ := by obtain ⟨q, c, A, r⟩ := F; exact ⟨q, c, A.ext E, r⟩
theorem ArJ.other (F : ArJ Z h b n fJ) (W : Wr h h' a sl v) (q : b ≠ a) : ArJ Z h' b n fJ := by obtain ⟨z, c, A, r⟩ := F; exact ⟨z, c, A.other W q, r⟩
theorem ArJ.keep (F : ArJ Z h a n fJ) (K : Keep h h' ws) (q : a ∉ ws) : ArJ Z h' a n fJ := by obtain ⟨z, c, A, r⟩ := F; exact ⟨z, c, ⟨K.2.1 a c A.1 q, A.2⟩, r⟩
theorem ArJ.eqf {g : Nat → Int64} (F : ArJ Z h a n fJ) (q : ∀ i, i < n → fJ i = g i) : ArJ Z h a n g := by
  obtain ⟨z, c, A, r, H⟩ := F; exact ⟨z, c, A, r, fun i hi => by rw [← q i hi]; exact H i hi⟩
theorem ne_ari {C : String} {k : Nat} (F : Exa Z h a C) (wi : (Cond.instantiable C k).before a0 Z = true) (G : ArI Z h b ty n f) : a ≠ b := by obtain ⟨-, c, A, -⟩ := G; exact ne_arr F wi A
theorem ne_arj {C : String} {k : Nat} (F : Exa Z h a C) (wi : (Cond.instantiable C k).before a0 Z = true) (G : ArJ Z h b n fJ) : a ≠ b := by obtain ⟨-, c, A, -⟩ := G; exact ne_arr F wi A
theorem ne_arr2 {c1 c2 : Cell} {t1 t2 : FieldType} (F : Arr Z h a c1 t1) (G : Arr Z h b c2 t2) (hn : t1 ≠ t2) : a ≠ b := fun q => by
  subst q
  cases F.1.symm.trans G.1
  obtain ⟨-, k1, j1, comp1, j2⟩ := F.2.1
  obtain ⟨-, k2, i1, comp2, i2⟩ := G.2.1
  cases j1.symm.trans i1
  rw [j2] at i2
  injection i2 with _ q2
  exact hn q2
theorem ne_aij {n' : Nat} (F : ArI Z h a ty n f) (G : ArJ Z h b n' fJ) (hn : ty ≠ .long) : a ≠ b := by obtain ⟨-, c, A, -⟩ := F; obtain ⟨-, c', A', -⟩ := G; exact ne_arr2 A A' hn
theorem to_nat {j : Int32} {k : Nat} (hk : j.toInt = k) : j.toNatClampNeg = k := by simp only [Int32.toNatClampNeg, hk, Int.toNat_natCast]
theorem inb {cl : Cell} {j : Int32} {k : Nat} (hk : j.toInt = k) (hkn : k < n) (hs : cl.slots.size = n) : ¬ (j < 0 ∨ cl.slots.size ≤ j.toNatClampNeg) := by
  rw [to_nat hk, hs, Int32.lt_iff_toInt_lt, hk, show (0 : Int32).toInt = 0 from rfl]; omega
theorem ixadd {x d : Int32} {k j : Nat} (hx : x.toInt = k) (hd : d.toInt = j) (h : k + j < 2147483648) : (x + d).toInt = ((k + j : Nat) : Int) := by
  have h2 := c_iadd x d
  have h3 := rng32 (x + d)
  omega
theorem ArI.mk {k : ClassId} {z : Int32} (A : Arr Z h a (newA k ty z) ty) (hn : z.toInt = n) (hd : defaultValue ty = .int 0) : ArI Z h a ty n (fun _ => 0) := by
  have hz := to_nat hn
  refine ⟨?_, _, A, by rw [sz_new, hz], fun i hi => ?_⟩
  · have := Int32.toInt_lt z; omega
  · simp [newA, hz, hi, hd]
theorem ArJ.mk {k : ClassId} {z : Int32} (A : Arr Z h a (newA k .long z) .long) (hn : z.toInt = n) : ArJ Z h a n (fun _ => 0) := by
  have hz := to_nat hn
  refine ⟨?_, _, A, by rw [sz_new, hz], fun i hi => ?_⟩
  · have := Int32.toInt_lt z; omega
  · simp [newA, hz, hi, defaultValue]
theorem set_at {cl : Cell} {i k : Nat} (hk : k < cl.slots.size) : (cl.setSlot k v).slots[i]? = if i = k then some v else cl.slots[i]? := by
  simp only [Cell.setSlot, Array.getElem?_setIfInBounds]
  by_cases q : i = k
  · subst q; simp [hk]
  · simp [q, Ne.symm q]
theorem ArI.set {x : Int32} {k : Nat} (F : ArI Z h a ty n f) (W : Wr h h' a k (.int x)) (hk : k < n) : ArI Z h' a ty n (fun i => if i = k then x else f i) := by
  obtain ⟨z, c, A, r, H⟩ := F
  refine ⟨z, _, A.same W, by rw [sz_set, r], fun i hi => ?_⟩
  rw [set_at (by omega)]
  by_cases q : i = k
  · simp [q]
  · simp [q, H i hi]
theorem ArJ.set {x : Int64} {k : Nat} (F : ArJ Z h a n fJ) (W : Wr h h' a k (.long x)) (hk : k < n) : ArJ Z h' a n (fun i => if i = k then x else fJ i) := by
  obtain ⟨z, c, A, r, H⟩ := F
  refine ⟨z, _, A.same W, by rw [sz_set, r], fun i hi => ?_⟩
  rw [set_at (by omega)]
  by_cases q : i = k
  · simp [q]
  · simp [q, H i hi]
theorem Adv.ldI (A : Adv p e below D) (X : Stand p l e R s m args below meth c T locs cells slots) (hx : p.tables.exec = Jvm.exec) (hZ : Z.Warmed39 s.vm) (eT : T.heap = h) (F : ArI Z h a .int n f) {j : Int32} {k : Nat} (hk : j.toInt = k) (hkn : k < n) {g : JFrame} (hg : g.method = m) {rest : List Value} (hs : g.stack = .int j :: .ref a :: rest) (hd : decode c.code g.pc = .ok (.iaload, 1))
    (kk : D (T.setTop { g with pc := g.pc + 1, stack := .int (f k) :: rest })) : D (T.setTop g) := by
  obtain ⟨-, cl, Ar, r, H⟩ := F
  exact A (X.iaload hx (j := j) (v := .int (f k)) (by rw [eT]; exact Ar.1) (State.isArrayOf_alike hZ.alike Ar.2.1) Ar.2.2 (inb hk hkn r) (by rw [to_nat hk]; exact H k hkn) (g := g) hg hs hd _) kk
theorem Adv.ldB (A : Adv p e below D) (X : Stand p l e R s m args below meth c T locs cells slots) (hx : p.tables.exec = Jvm.exec) (hZ : Z.Warmed39 s.vm) (eT : T.heap = h) (F : ArI Z h a .byte n f) {j : Int32} {k : Nat} (hk : j.toInt = k) (hkn : k < n) {g : JFrame} (hg : g.method = m) {rest : List Value} (hs : g.stack = .int j :: .ref a :: rest) (hd : decode c.code g.pc = .ok (.baload, 1))
    (kk : D (T.setTop { g with pc := g.pc + 1, stack := .int (f k) :: rest })) : D (T.setTop g) := by
  obtain ⟨-, cl, Ar, r, H⟩ := F
  exact A (X.baloadBytes hx (j := j) (v := .int (f k)) (by rw [eT]; exact Ar.1) (State.isArrayOf_alike hZ.alike Ar.2.1) Ar.2.2 (inb hk hkn r) (by rw [to_nat hk]; exact H k hkn) (g := g) hg hs hd _) kk
theorem Adv.ldJ (A : Adv p e below D) (X : Stand p l e R s m args below meth c T locs cells slots) (hx : p.tables.exec = Jvm.exec) (hZ : Z.Warmed39 s.vm) (eT : T.heap = h) (F : ArJ Z h a n fJ) {j : Int32} {k : Nat} (hk : j.toInt = k) (hkn : k < n) {g : JFrame} (hg : g.method = m) {rest : List Value} (hs : g.stack = .int j :: .ref a :: rest) (hd : decode c.code g.pc = .ok (.laload, 1))
    (kk : D (T.setTop { g with pc := g.pc + 1, stack := .long (fJ k) :: rest })) : D (T.setTop g) := by
  obtain ⟨-, cl, Ar, r, H⟩ := F
  exact A (X.laload hx (j := j) (v := .long (fJ k)) (by rw [eT]; exact Ar.1) (State.isArrayOf_alike hZ.alike Ar.2.1) Ar.2.2 (inb hk hkn r) (by rw [to_nat hk]; exact H k hkn) (g := g) hg hs hd _) kk
theorem len32 {cl : Cell} (z : n < 2147483648) (r : cl.slots.size = n) : cl.slots.size.toInt32 = Int32.ofNat n   := by rw [r]
theorem Adv.lenI (A : Adv p e below D) (X : Stand p l e R s m args below meth c T locs cells slots) (hx : p.tables.exec = Jvm.exec) (hZ : Z.Warmed39 s.vm) (eT : T.heap = h) (F : ArI Z h a ty n f) {g : JFrame} (hg : g.method = m) {rest : List Value} (hs : g.stack = .ref a :: rest) (hd : decode c.code g.pc = .ok (.arraylength, 1))
    (kk : D (T.setTop { g with pc := g.pc + 1, stack := .int (Int32.ofNat n) :: rest })) : D (T.setTop g) := by
  obtain ⟨z, cl, Ar, r, H⟩ := F
  rw [← len32 z r] at kk
  exact A (X.arraylength hx (by rw [eT]; exact Ar.1) (State.isArrayOf_alike hZ.alike Ar.2.1) (g := g) hg hs hd _) kk
theorem Adv.lenJ (A : Adv p e below D) (X : Stand p l e R s m args below meth c T locs cells slots) (hx : p.tables.exec = Jvm.exec) (hZ : Z.Warmed39 s.vm) (eT : T.heap = h) (F : ArJ Z h a n fJ) {g : JFrame} (hg : g.method = m) {rest : List Value} (hs : g.stack = .ref a :: rest) (hd : decode c.code g.pc = .ok (.arraylength, 1))
    (kk : D (T.setTop { g with pc := g.pc + 1, stack := .int (Int32.ofNat n) :: rest })) : D (T.setTop g) := by
  obtain ⟨z, cl, Ar, r, H⟩ := F
  rw [← len32 z r] at kk
  exact A (X.arraylength hx (by rw [eT]; exact Ar.1) (State.isArrayOf_alike hZ.alike Ar.2.1) (g := g) hg hs hd _) kk
theorem Adv.stI (A : Adv p e below D) (X : Stand p l e R s m args below meth c T locs cells slots) (hx : p.tables.exec = Jvm.exec) (hZ : Z.Warmed39 s.vm) (eT : T.heap = h) (F : ArI Z h a .int n f) {j x : Int32} {k : Nat} (hk : j.toInt = k) (hkn : k < n) {g : JFrame} (hg : g.method = m) {rest : List Value} (hs : g.stack = .int x :: .int j :: .ref a :: rest) (hd : decode c.code g.pc = .ok (.iastore, 1))
    (kk : ∀ T' h', Stand p l e R s m args below meth c T' (locs ++ [⟨a, k⟩]) cells slots → T'.heap = h' → Wr h h' a k (.int x) → ArI Z h' a .int n (fun i => if i = k then x else f i) → D (T'.setTop { g with pc := g.pc + 1, stack := rest })) : D (T.setTop g) := by
  obtain ⟨cl, Ar, r, H⟩ := F.2
  obtain ⟨T', h', X', e', W, st⟩ := Jvm.RoadKit.stI X hx hZ eT Ar (j := j) (x := x) (inb hk hkn r) hg hs hd
  rw [to_nat hk] at X' W
  exact A (fun q => st _ q) (kk T' h' X' e' W (F.set W hkn))
theorem Adv.stB (A : Adv p e below D) (X : Stand p l e R s m args below meth c T locs cells slots) (hx : p.tables.exec = Jvm.exec) (hZ : Z.Warmed39 s.vm) (eT : T.heap = h) (F : ArI Z h a .byte n f) {j x : Int32} {k : Nat} (hk : j.toInt = k) (hkn : k < n) {g : JFrame} (hg : g.method = m) {rest : List Value} (hs : g.stack = .int x :: .int j :: .ref a :: rest) (hd : decode c.code g.pc = .ok (.bastore, 1))
    (kk : ∀ T' h', Stand p l e R s m args below meth c T' (locs ++ [⟨a, k⟩]) cells slots → T'.heap = h' → Wr h h' a k (.int x.toInt8.toInt32) → ArI Z h' a .byte n (fun i => if i = k then x.toInt8.toInt32 else f i) → D (T'.setTop { g with pc := g.pc + 1, stack := rest })) : D (T.setTop g) := by
  obtain ⟨cl, Ar, r, H⟩ := F.2
  obtain ⟨T', h', X', e', W, st⟩ := Jvm.RoadKit.stB X hx hZ eT Ar (j := j) (x := x) (inb hk hkn r) hg hs hd
  rw [to_nat hk] at X' W
  exact A (fun q => st _ q) (kk T' h' X' e' W (F.set W hkn))
theorem Adv.stJ (A : Adv p e below D) (X : Stand p l e R s m args below meth c T locs cells slots) (hx : p.tables.exec = Jvm.exec) (hZ : Z.Warmed39 s.vm) (eT : T.heap = h) (F : ArJ Z h a n fJ) {j : Int32} {x : Int64} {k : Nat} (hk : j.toInt = k) (hkn : k < n) {g : JFrame} (hg : g.method = m) {rest : List Value} (hs : g.stack = .long x :: .int j :: .ref a :: rest) (hd : decode c.code g.pc = .ok (.lastore, 1))
    (kk : ∀ T' h', Stand p l e R s m args below meth c T' (locs ++ [⟨a, k⟩]) cells slots → T'.heap = h' → Wr h h' a k (.long x) → ArJ Z h' a n (fun i => if i = k then x else fJ i) → D (T'.setTop { g with pc := g.pc + 1, stack := rest })) : D (T.setTop g) := by
  obtain ⟨cl, Ar, r, H⟩ := F.2
  obtain ⟨T', h', X', e', W, st⟩ := Jvm.RoadKit.stJ X hx hZ eT Ar (j := j) (x := x) (inb hk hkn r) hg hs hd
  rw [to_nat hk] at X' W
  exact A (fun q => st _ q) (kk T' h' X' e' W (F.set W hkn))
theorem Adv.newI (A : Adv p e below D) (X : Stand p l e R s m args below meth c T locs cells slots) (hx : p.tables.exec = Jvm.exec) (hZ : Z.Warmed39 s.vm) {aty : ArrayType} (w : (Cond.arrayClass (newarray.typeOf aty)).before a0 Z = true) (eT : T.heap = h) {z : Int32} (hz : z.toInt = n) (cap : Nat) (hcap : n ≤ cap) (hb : cap * 8 ≤ 536870912) (hdv : defaultValue (newarray.typeOf aty) = .int 0) {ad : String} (had : "[" ++ (newarray.typeOf aty).toString = ad) (hc : cells + 1 ≤ R.cells) (hl : slots + cap ≤ R.slots) {g : JFrame} (hg : g.method = m) {rest : List Value} (hs : g.stack = .int z :: rest) (hd : decode c.code g.pc = .ok (.newarray aty, 2))
    (kk : ∀ T' h' a, a = h.size → Stand p l e R s m args below meth c T' locs (cells + 1) (slots + cap) → T'.heap = h' → Ext h h' → ArI Z h' a (newarray.typeOf aty) n (fun _ => 0) → Exa Z h' a ad → D (T'.setTop { g with pc := g.pc + 2, stack := .ref a :: rest })) : D (T.setTop g) := by
  have q0 : ¬ z < 0 := by rw [Int32.lt_iff_toInt_lt, hz, show (0 : Int32).toInt = 0 from rfl]; omega
  obtain ⟨T', h', k, X', e', E, Ar, Ex, st⟩ := newPE X hx hZ w eT hg hd hs q0 (cap := cap) (by rw [to_nat hz]; exact hcap) hb hc hl had
  exact A (fun q => st _ q) (kk T' h' _ rfl X' e' E (ArI.mk Ar hz hdv) Ex)
theorem Adv.newJ (A : Adv p e below D) (X : Stand p l e R s m args below meth c T locs cells slots) (hx : p.tables.exec = Jvm.exec) (hZ : Z.Warmed39 s.vm) (w : (Cond.arrayClass .long).before a0 Z = true) (eT : T.heap = h) {z : Int32} (hz : z.toInt = n) (cap : Nat) (hcap : n ≤ cap) (hb : cap * 8 ≤ 536870912) (hc : cells + 1 ≤ R.cells) (hl : slots + cap ≤ R.slots) {g : JFrame} (hg : g.method = m) {rest : List Value} (hs : g.stack = .int z :: rest) (hd : decode c.code g.pc = .ok (.newarray .long, 2))
    (kk : ∀ T' h' a, a = h.size → Stand p l e R s m args below meth c T' locs (cells + 1) (slots + cap) → T'.heap = h' → Ext h h' → ArJ Z h' a n (fun _ => 0) → D (T'.setTop { g with pc := g.pc + 2, stack := .ref a :: rest })) : D (T.setTop g) := by
  have q0 : ¬ z < 0 := by rw [Int32.lt_iff_toInt_lt, hz, show (0 : Int32).toInt = 0 from rfl]; omega
  obtain ⟨T', h', k, X', e', E, Ar, st⟩   := newP (aty := .long) X hx hZ w eT hg hd hs q0 (cap := cap) (by rw [to_nat hz]; exact hcap) hb hc hl
  exact A (fun q => st _ q) (kk T' h' _ rfl X' e' E (ArJ.mk Ar hz))
theorem Adv.cloneI (A : Adv p e below D) (X : Stand p l e R s m args below meth c T locs cells slots) (hx : p.tables.exec = Jvm.exec) (hZ : Z.Warmed39 s.vm) {own ad : String} {index : Nat} (hown : s.vm.findClass own = some m.cls)
    (w1 : (Cond.methodLink own index ⟨ad, "clone", "()Ljava/lang/Object;"⟩).before a0 Z = true) (w2 : (Cond.sameMethod ad "java/lang/Object" "clone" "()Ljava/lang/Object;").before a0 Z = true) (w3 : (Cond.native ⟨"java/lang/Object", "clone", "()Ljava/lang/Object;"⟩).before a0 Z = true)
    (w4 : (Cond.instanceMethod ⟨"java/lang/Object", "clone", "()Ljava/lang/Object;"⟩).before a0 Z = true) (w5 : (Cond.selects ad ⟨ad, "clone", "()Ljava/lang/Object;"⟩ ⟨"java/lang/Object", "clone", "()Ljava/lang/Object;"⟩).before a0 Z = true) (w6 : (Cond.castable ad "java/lang/Cloneable").before a0 Z = true)
    (eT : T.heap = h) (F : ArI Z h a ty n f) (hfit : ∀ i, i < n → fits ty (.int (f i)) = true) (E : Exa Z h a ad) (W cap : Nat) (hcap : n ≤ cap) {g : JFrame} (hg : g.method = m) (hsz : g.locals.size = c.maxLocals) {rest : List Value} (hs : g.stack = .ref a :: rest) (hd : decode c.code g.pc = .ok (.invokevirtual index, 3))
    (hW : 2 * g.monitorRoom + (rest.map fun v => v.category).sum ≤ W) (hf : 1 ≤ R.frames) (hl : W + 14 ≤ R.locals) (hc : cells + 1 ≤ R.cells) (hsl : slots + cap ≤ R.slots)
    (kk : ∀ T' h' b, b = h.size → Stand p l e R s m args below meth c T' locs (cells + 1) (slots + cap) → T'.heap = h' → Ext h h' → ArI Z h' b ty n f → Exa Z h' b ad → D (T'.setTop { g with pc := g.pc + 3, stack := .ref b :: rest })) : D (T.setTop g) := by
  obtain ⟨z, cl, Ar, r, H⟩ := F
  have FC : FitC Z cl := fitC_of Ar fun i hi v hv => by rw [H i (by omega)] at hv; cases hv; exact hfit i (by omega)
  obtain ⟨T', h', X', e', Ex, Ar', E', st⟩ := cloneA X hx hZ hown w1 w2 w3 w4 w5 w6 eT Ar E FC hg hsz hs hd hf hW hl (by rw [r]; exact hcap) hc hsl
  exact A (fun q => st _ q) (kk T' h' _ rfl X' e' Ex ⟨z, _, Ar', r, H⟩ E')
end Arrays
end Jvm.JW
namespace Jvm.Pilot.@@N@@
open Jvm Jvm.ClassFile Sem Op Lib Jvm.Free Jvm.Stand Jvm.LawKit Jvm.RoadKit Bundle Jvm.JW Jvm.Pilot.@@N@@.Jvm.D
theorem own_root {Z : State} {a0 : Array Value} {O K : String} {kn : Nat} (w : (Cond.noSuperclass O).before a0 Z = true) (wk : (Cond.instantiable K kn).before a0 Z = true) (hn : O ≠ K) : NS Z O K := by
  obtain ⟨c, k, h1, h2, h3, -, -⟩ := Cond.noSuperclass_spec w
  obtain ⟨t, k', g1, -⟩ := Cond.instantiable_spec wk
  have ne := ids_ne h1 g1 hn
  refine ⟨c, t, h1, g1, fun fuel => ?_⟩
  cases fuel with
  | zero => rfl
  | succ f => simp [Vm.isSubclassAux, ne, h2, h3]
theorem own_no {Z : State} {a0 : Array Value} {C S K : String} {kn : Nat} (w : (Cond.superclass C S).before a0 Z = true) (wk : (Cond.instantiable K kn).before a0 Z = true) (n : NS Z C K) (hn : C ≠ K) : ∃ c t, Z.vm.findClass C = some c ∧ Z.vm.findClass K = some t ∧ Z.vm.assignable c t = false := by
  obtain ⟨c, t, h0, g0, n3⟩ := n
  obtain ⟨p, k, kp, h1, h2, h3, h4, h5, -, h7⟩ := Cond.superclass_spec h0 w
  obtain ⟨t', k', g1, g2, g5, g6, -⟩ := Cond.instantiable_spec wk
  cases g0.symm.trans g1
  have g7 : k'.isInterface = false := by simp only [Bool.or_eq_false_iff] at g6; exact g6.1
  have ne := ids_ne h0 g0 hn
  refine ⟨c, t, h0, g0, ?_⟩
  show Z.vm.assignableAux (255 + 1) c t = false
  simp [Vm.assignableAux, ne, h2, g2, h5, g5, g7, Vm.isSubclass, n3]
theorem d1_0 : decode prog_38_method_1_code 0 = .ok (.aload_n 0, 1) := by decide +kernel
theorem d1_1 : decode prog_38_method_1_code 1 = .ok (.invokespecial 1, 3) := by decide +kernel
theorem d1_4 : decode prog_38_method_1_code 4 = .ok (.aload_n 0, 1) := by decide +kernel
theorem d1_5 : decode prog_38_method_1_code 5 = .ok (.lload_n 1, 1) := by decide +kernel
theorem d1_6 : decode prog_38_method_1_code 6 = .ok (.putfield 7, 3) := by decide +kernel
theorem d1_9 : decode prog_38_method_1_code 9 = .ok (.return_, 1) := by decide +kernel
theorem pn1 : plainFor (⟨"com/example/stringified_tags/stringifiedtags/LongTag", "<init>", "(J)V"⟩ : MethodName) = true := by decide +kernel
theorem ef1 (self : Addr) (p1 : Int64) (m : MethodId) : entryFrame m #[(.ref self), (.long p1)] 3 = mkF m 0 #[.val (.ref self), .val (.long p1), .second] [] := by first | (simp [entryFrame, mkF, argsToLocals, Value.category]; done) | rfl
set_option maxRecDepth 65536 in
set_option maxHeartbeats 40000000 in
theorem rm1 (l : Launch) (Z : State) (a0 : Array Value) (hw : ∀ d ∈ tables_1, d.before a0 Z = true) (ws : List Jvm.Cond) (self : Addr) (p1 : Int64) (h0 : Heap) (n0 : Nat) (Z0 : n0 ≤ h0.size) (g_self : n0 ≤ self) (E_self : Exa Z h0 self "com/example/stringified_tags/stringifiedtags/LongTag") (F_value : Fld Z h0 self "com/example/stringified_tags/stringifiedtags/LongTag" "value" "J" (.long (0 : Int64))) :
    JMet l Z (⟨"com/example/stringified_tags/stringifiedtags/LongTag", "<init>", "(J)V"⟩ : MethodName) prog_38_method_1_code 3 none ws ({ frames := 1, cells := 0, slots := 0, locals := 12 } : Room) #[(.ref self), (.long p1)] h0 (fun v h L => v = none ∧ Fr n0 L ∧ Keep h0 h [self] ∧ Exa Z h self "com/example/stringified_tags/stringifiedtags/LongTag" ∧ Fld Z h self "com/example/stringified_tags/stringifiedtags/LongTag" "value" "J" (.long p1)) := by
  refine Jvm.JW.body #[.val (.ref self), .val (.long p1), .second] pn1 (ef1 self p1) ?_
  intro p e s m below meth c T0 D A F X0 hx hZ hby hml hown hnm hrt hlk e0
  refine A (XS.aloadN X0.here hx rfl (hb hby d1_0) rfl rfl) ?_
  show D (T0.setTop (mkF m 1 #[.val (.ref self), .val (.long p1), .second] [(.ref self)]))
  obtain ⟨T1, X1, e1, st1⟩ := initO X0 hx hZ hown (hw _ (List.mem_of_getElem? (i := 6) rfl)) (hw _ (List.mem_of_getElem? (i := 7) rfl)) (hw _ (List.mem_of_getElem? (i := 8) rfl)) e0 (g := (mkF m 1 #[.val (.ref self), .val (.long p1), .second] [(.ref self)])) rfl (by rw [hml]; rfl) rfl (hb hby d1_1) (by decide) (W := 0) (by show 2 * 0 + _ ≤ _; exact Nat.le_of_eq rfl) (by decide)
  refine A (st1 _) ?_
  show D (T1.setTop (mkF m 4 #[.val (.ref self), .val (.long p1), .second] []))
  refine A (XS.aloadN X1.here hx rfl (hb hby d1_4) rfl rfl) ?_
  show D (T1.setTop (mkF m 5 #[.val (.ref self), .val (.long p1), .second] [(.ref self)]))
  refine A (XS.lloadN X1.here hx rfl (hb hby d1_5) rfl) ?_
  show D (T1.setTop (mkF m 6 #[.val (.ref self), .val (.long p1), .second] [(.long p1), (.ref self)]))
  obtain ⟨T2, h2, X2, e2, W2, st2⟩ := putF X1 hx hZ hown (host := "") (Or.inl (hw _ (List.mem_of_getElem? (i := 9) rfl))) Via.refl e1 F_value E_self (Or.inr ⟨(hw _ (List.mem_of_getElem? (i := 10) rfl)), rfl, hnm⟩) (hw _ (List.mem_of_getElem? (i := 1) rfl)) (ty := .long) (by decide) rfl rfl (g := (mkF m 6 #[.val (.ref self), .val (.long p1), .second] [(.long p1), (.ref self)])) rfl rfl (hb hby d1_6)
  have N2 := Fr.snoc X2 (Fr.nil n0) g_self
  have F_value_2 := F_value.same W2
  have E_self_2 := E_self.wr W2
  have Z_2 : n0 ≤ h2.size := Nat.le_trans Z0 (Nat.le_of_eq W2.size.symm)
  have KK_2 : Keep h0 h2 [self] := (Keep.refl h0 [self]).wr W2 (Or.inl (List.mem_of_getElem? (i := 0) rfl))
  refine A (st2 _) ?_
  show D (T2.setTop (mkF m 9 #[.val (.ref self), .val (.long p1), .second] []))
  exact F _ (Jvm.JW.ret X2 hlk (v := none) (fun _ => rfl) (fun fs hr => X2.returnOut hx hrt (hb hby d1_9) hr) e2 ⟨rfl, N2, KK_2, E_self_2, F_value_2⟩ (by decide) (by decide))
theorem d4_0 : decode prog_35_method_1_code 0 = .ok (.aload_n 0, 1) := by decide +kernel
theorem d4_1 : decode prog_35_method_1_code 1 = .ok (.invokespecial 1, 3) := by decide +kernel
theorem d4_4 : decode prog_35_method_1_code 4 = .ok (.aload_n 0, 1) := by decide +kernel
theorem d4_5 : decode prog_35_method_1_code 5 = .ok (.iload_n 1, 1) := by decide +kernel
theorem d4_6 : decode prog_35_method_1_code 6 = .ok (.putfield 7, 3) := by decide +kernel
theorem d4_9 : decode prog_35_method_1_code 9 = .ok (.return_, 1) := by decide +kernel
theorem pn4 : plainFor (⟨"com/example/stringified_tags/stringifiedtags/IntTag", "<init>", "(I)V"⟩ : MethodName) = true := by decide +kernel
theorem ef4 (self : Addr) (p1 : Int32) (m : MethodId) : entryFrame m #[(.ref self), (.int p1)] 2 = mkF m 0 #[.val (.ref self), .val (.int p1)] [] := by first | (simp [entryFrame, mkF, argsToLocals, Value.category]; done) | rfl
set_option maxRecDepth 65536 in
set_option maxHeartbeats 40000000 in
theorem rm4 (l : Launch) (Z : State) (a0 : Array Value) (hw : ∀ d ∈ tables_1, d.before a0 Z = true) (ws : List Jvm.Cond) (self : Addr) (p1 : Int32) (h0 : Heap) (n0 : Nat) (Z0 : n0 ≤ h0.size) (g_self : n0 ≤ self) (E_self : Exa Z h0 self "com/example/stringified_tags/stringifiedtags/IntTag") (F_value : Fld Z h0 self "com/example/stringified_tags/stringifiedtags/IntTag" "value" "I" (.int (0 : Int32))) :
    JMet l Z (⟨"com/example/stringified_tags/stringifiedtags/IntTag", "<init>", "(I)V"⟩ : MethodName) prog_35_method_1_code 2 none ws ({ frames := 1, cells := 0, slots := 0, locals := 12 } : Room) #[(.ref self), (.int p1)] h0 (fun v h L => v = none ∧ Fr n0 L ∧ Keep h0 h [self] ∧ Exa Z h self "com/example/stringified_tags/stringifiedtags/IntTag" ∧ Fld Z h self "com/example/stringified_tags/stringifiedtags/IntTag" "value" "I" (.int p1)) := by
  refine Jvm.JW.body #[.val (.ref self), .val (.int p1)] pn4 (ef4 self p1) ?_
  intro p e s m below meth c T0 D A F X0 hx hZ hby hml hown hnm hrt hlk e0
  refine A (XS.aloadN X0.here hx rfl (hb hby d4_0) rfl rfl) ?_
  show D (T0.setTop (mkF m 1 #[.val (.ref self), .val (.int p1)] [(.ref self)]))
  obtain ⟨T1, X1, e1, st1⟩ := initO X0 hx hZ hown (hw _ (List.mem_of_getElem? (i := 24) rfl)) (hw _ (List.mem_of_getElem? (i := 7) rfl)) (hw _ (List.mem_of_getElem? (i := 8) rfl)) e0 (g := (mkF m 1 #[.val (.ref self), .val (.int p1)] [(.ref self)])) rfl (by rw [hml]; rfl) rfl (hb hby d4_1) (by decide) (W := 0) (by show 2 * 0 + _ ≤ _; exact Nat.le_of_eq rfl) (by decide)
  refine A (st1 _) ?_
  show D (T1.setTop (mkF m 4 #[.val (.ref self), .val (.int p1)] []))
  refine A (XS.aloadN X1.here hx rfl (hb hby d4_4) rfl rfl) ?_
  show D (T1.setTop (mkF m 5 #[.val (.ref self), .val (.int p1)] [(.ref self)]))
  refine A (XS.iloadN X1.here hx rfl (hb hby d4_5) rfl) ?_
  show D (T1.setTop (mkF m 6 #[.val (.ref self), .val (.int p1)] [(.int p1), (.ref self)]))
  obtain ⟨T2, h2, X2, e2, W2, st2⟩ := putF X1 hx hZ hown (host := "") (Or.inl (hw _ (List.mem_of_getElem? (i := 25) rfl))) Via.refl e1 F_value E_self (Or.inr ⟨(hw _ (List.mem_of_getElem? (i := 26) rfl)), rfl, hnm⟩) (hw _ (List.mem_of_getElem? (i := 19) rfl)) (ty := .int) (by decide) rfl rfl (g := (mkF m 6 #[.val (.ref self), .val (.int p1)] [(.int p1), (.ref self)])) rfl rfl (hb hby d4_6)
  have N2 := Fr.snoc X2 (Fr.nil n0) g_self
  have F_value_2 := F_value.same W2
  have E_self_2 := E_self.wr W2
  have Z_2 : n0 ≤ h2.size := Nat.le_trans Z0 (Nat.le_of_eq W2.size.symm)
  have KK_2 : Keep h0 h2 [self] := (Keep.refl h0 [self]).wr W2 (Or.inl (List.mem_of_getElem? (i := 0) rfl))
  refine A (st2 _) ?_
  show D (T2.setTop (mkF m 9 #[.val (.ref self), .val (.int p1)] []))
  exact F _ (Jvm.JW.ret X2 hlk (v := none) (fun _ => rfl) (fun fs hr => X2.returnOut hx hrt (hb hby d4_9) hr) e2 ⟨rfl, N2, KK_2, E_self_2, F_value_2⟩ (by decide) (by decide))
def own_eqv (a b : Int64) : Int32 := if a = b then 1 else 0
theorem d3_0 : decode prog_38_method_3_code 0 = .ok (.aload_n 1, 1) := by decide +kernel
theorem d3_1 : decode prog_38_method_3_code 1 = .ok (.instanceof 8, 3) := by decide +kernel
theorem d3_4 : decode prog_38_method_3_code 4 = .ok (.ifCond .eq 24, 3) := by decide +kernel
theorem d3_7 : decode prog_38_method_3_code 7 = .ok (.aload_n 1, 1) := by decide +kernel
theorem d3_8 : decode prog_38_method_3_code 8 = .ok (.checkcast 8, 3) := by decide +kernel
theorem d3_11 : decode prog_38_method_3_code 11 = .ok (.astore_n 2, 1) := by decide +kernel
theorem d3_12 : decode prog_38_method_3_code 12 = .ok (.aload_n 2, 1) := by decide +kernel
theorem d3_13 : decode prog_38_method_3_code 13 = .ok (.getfield 7, 3) := by decide +kernel
theorem d3_16 : decode prog_38_method_3_code 16 = .ok (.aload_n 0, 1) := by decide +kernel
theorem d3_17 : decode prog_38_method_3_code 17 = .ok (.getfield 7, 3) := by decide +kernel
theorem d3_20 : decode prog_38_method_3_code 20 = .ok (.lcmp, 1) := by decide +kernel
theorem d3_21 : decode prog_38_method_3_code 21 = .ok (.ifCond .ne 7, 3) := by decide +kernel
theorem d3_24 : decode prog_38_method_3_code 24 = .ok (.iconst 1, 1) := by decide +kernel
theorem d3_25 : decode prog_38_method_3_code 25 = .ok (.goto 4, 3) := by decide +kernel
theorem d3_28 : decode prog_38_method_3_code 28 = .ok (.iconst 0, 1) := by decide +kernel
theorem d3_29 : decode prog_38_method_3_code 29 = .ok (.ireturn, 1) := by decide +kernel
theorem pn3 : plainFor (⟨"com/example/stringified_tags/stringifiedtags/LongTag", "equals", "(Ljava/lang/Object;)Z"⟩ : MethodName) = true := by decide +kernel
theorem ef3 (self : Addr) (p1 : Addr) (m : MethodId) : entryFrame m #[(.ref self), (.ref p1)] 3 = mkF m 0 #[.val (.ref self), .val (.ref p1), .unset] [] := by first | (simp [entryFrame, mkF, argsToLocals, Value.category]; done) | rfl
set_option maxRecDepth 65536 in
set_option maxHeartbeats 40000000 in
theorem rm3L (l : Launch) (Z : State) (a0 : Array Value) (hw : ∀ d ∈ tables_1, d.before a0 Z = true) (ws : List Jvm.Cond) (self : Addr) (p1 : Addr) (h0 : Heap) (n0 : Nat) (y z : Int64) (F_self : Fld Z h0 self "com/example/stringified_tags/stringifiedtags/LongTag" "value" "J" (.long y)) (E_p1 : Exa Z h0 p1 "com/example/stringified_tags/stringifiedtags/LongTag") (F_p1 : Fld Z h0 p1 "com/example/stringified_tags/stringifiedtags/LongTag" "value" "J" (.long z)) :
    JMet l Z (⟨"com/example/stringified_tags/stringifiedtags/LongTag", "equals", "(Ljava/lang/Object;)Z"⟩ : MethodName) prog_38_method_3_code 3 (some .boolean) ws ({ frames := 0, cells := 0, slots := 0, locals := 0 } : Room) #[(.ref self), (.ref p1)] h0 (QP (.int (own_eqv z y)) h0 n0) := by
  refine Jvm.JW.body #[.val (.ref self), .val (.ref p1), .unset] pn3 (ef3 self p1) ?_
  intro p e s m below meth c T0 D A F X0 hx hZ hby hml hown hnm hrt hlk e0
  refine A (XS.aloadN X0.here hx rfl (hb hby d3_0) rfl rfl) ?_
  show D (T0.setTop (mkF m 1 #[.val (.ref self), .val (.ref p1), .unset] [(.ref p1)]))
  obtain ⟨T1, X1, e1, st1⟩ := instY X0 hx hZ hown (hw _ (List.mem_of_getElem? (i := 16) rfl)) e0 (Ins.self E_p1) (g := (mkF m 1 #[.val (.ref self), .val (.ref p1), .unset] [(.ref p1)])) rfl rfl (hb hby d3_1)
  refine A (st1 _) ?_
  show D (T1.setTop (mkF m 4 #[.val (.ref self), .val (.ref p1), .unset] [(.int (1 : Int32))]))
  refine A (XS.ifNo X1.here hx rfl (hb hby d3_4) rfl ((if0 _ _).trans (feq (by decide : ¬ ((1 : Int32) = (0 : Int32)))).1)) ?_
  show D (T1.setTop (mkF m 7 #[.val (.ref self), .val (.ref p1), .unset] []))
  refine A (XS.aloadN X1.here hx rfl (hb hby d3_7) rfl rfl) ?_
  show D (T1.setTop (mkF m 8 #[.val (.ref self), .val (.ref p1), .unset] [(.ref p1)]))
  obtain ⟨T2, X2, e2, st2⟩ := castY X1 hx hZ hown (hw _ (List.mem_of_getElem? (i := 16) rfl)) e1 (Ins.self E_p1) (g := (mkF m 8 #[.val (.ref self), .val (.ref p1), .unset] [(.ref p1)])) rfl rfl (hb hby d3_8)
  refine A (st2 _) ?_
  show D (T2.setTop (mkF m 11 #[.val (.ref self), .val (.ref p1), .unset] [(.ref p1)]))
  refine A (XS.astoreN X2.here hx rfl (hb hby d3_11) rfl rfl (l' := #[.val (.ref self), .val (.ref p1), .val (.ref p1)]) rfl) ?_
  show D (T2.setTop (mkF m 12 #[.val (.ref self), .val (.ref p1), .val (.ref p1)] []))
  refine A (XS.aloadN X2.here hx rfl (hb hby d3_12) rfl rfl) ?_
  show D (T2.setTop (mkF m 13 #[.val (.ref self), .val (.ref p1), .val (.ref p1)] [(.ref p1)]))
  obtain ⟨T3, X3, e3, st3⟩ := getF X2 hx hZ hown (host := "") (Or.inl (hw _ (List.mem_of_getElem? (i := 9) rfl))) Via.refl e2 F_p1 (g := (mkF m 13 #[.val (.ref self), .val (.ref p1), .val (.ref p1)] [(.ref p1)])) rfl rfl (hb hby d3_13)
  refine A (st3 _) ?_
  show D (T3.setTop (mkF m 16 #[.val (.ref self), .val (.ref p1), .val (.ref p1)] [(.long z)]))
  refine A (XS.aloadN X3.here hx rfl (hb hby d3_16) rfl rfl) ?_
  show D (T3.setTop (mkF m 17 #[.val (.ref self), .val (.ref p1), .val (.ref p1)] [(.ref self), (.long z)]))
  obtain ⟨T4, X4, e4, st4⟩ := getF X3 hx hZ hown (host := "") (Or.inl (hw _ (List.mem_of_getElem? (i := 9) rfl))) Via.refl e3 F_self (g := (mkF m 17 #[.val (.ref self), .val (.ref p1), .val (.ref p1)] [(.ref self), (.long z)])) rfl rfl (hb hby d3_17)
  refine A (st4 _) ?_
  show D (T4.setTop (mkF m 20 #[.val (.ref self), .val (.ref p1), .val (.ref p1)] [(.long y), (.long z)]))
  refine A (XS.lcmp X4.here hx rfl (hb hby d3_20) rfl) ?_
  show D (T4.setTop (mkF m 21 #[.val (.ref self), .val (.ref p1), .val (.ref p1)] [(.int (lcmpW z y))]))
  by_cases c21_5 : (lcmpW z y) = (0 : Int32)
  · refine A (XS.ifNo X4.here hx rfl (hb hby d3_21) rfl ((if0 _ _).trans (teq c21_5).2)) ?_
    show D (T4.setTop (mkF m 24 #[.val (.ref self), .val (.ref p1), .val (.ref p1)] []))
    refine A (XS.iconst X4.here hx rfl (hb hby d3_24)) ?_
    show D (T4.setTop (mkF m 25 #[.val (.ref self), .val (.ref p1), .val (.ref p1)] [(.int (1 : Int32))]))
    refine A (XS.goto X4.here hx rfl (pc0 := 25) (pc' := 29) rfl (hb hby d3_25) (by decide) (by decide)) ?_
    show D (T4.setTop (mkF m 29 #[.val (.ref self), .val (.ref p1), .val (.ref p1)] [(.int (1 : Int32))]))
    refine F _ (Jvm.JW.ret X4 hlk (v := some (.int (1 : Int32))) (fun h => by rw [hrt] at h; cases h) (fun fs hr => retOut X4 hx hrt rfl (Or.inl ⟨rfl, Or.inr (Or.inl rfl), _, rfl⟩) (hb hby d3_29) hr) rfl ?_ (by decide) (by decide))
    exact ⟨congrArg (fun z => some (Value.int z)) (by unfold own_eqv; rw [if_pos ((lw_eq _ _).mp c21_5)]), (Fr.nil n0), e4⟩
  · refine A (XS.ifYes X4.here hx rfl (pc0 := 21) (pc' := 28) rfl (hb hby d3_21) rfl ((if0 _ _).trans (feq c21_5).2) (by decide) (by decide)) ?_
    show D (T4.setTop (mkF m 28 #[.val (.ref self), .val (.ref p1), .val (.ref p1)] []))
    refine A (XS.iconst X4.here hx rfl (hb hby d3_28)) ?_
    show D (T4.setTop (mkF m 29 #[.val (.ref self), .val (.ref p1), .val (.ref p1)] [(.int (0 : Int32))]))
    refine F _ (Jvm.JW.ret X4 hlk (v := some (.int (0 : Int32))) (fun h => by rw [hrt] at h; cases h) (fun fs hr => retOut X4 hx hrt rfl (Or.inl ⟨rfl, Or.inr (Or.inl rfl), _, rfl⟩) (hb hby d3_29) hr) rfl ?_ (by decide) (by decide))
    exact ⟨congrArg (fun z => some (Value.int z)) (by unfold own_eqv; rw [if_neg (fun q => c21_5 ((lw_eq _ _).mpr q))]), (Fr.nil n0), e4⟩
set_option maxRecDepth 65536 in
set_option maxHeartbeats 40000000 in
theorem rm3I (l : Launch) (Z : State) (a0 : Array Value) (hw : ∀ d ∈ tables_1, d.before a0 Z = true) (ws : List Jvm.Cond) (self : Addr) (p1 : Addr) (h0 : Heap) (n0 : Nat) (y : Int64) (F_self : Fld Z h0 self "com/example/stringified_tags/stringifiedtags/LongTag" "value" "J" (.long y)) (E_p1 : Exa Z h0 p1 "com/example/stringified_tags/stringifiedtags/IntTag") :
    JMet l Z (⟨"com/example/stringified_tags/stringifiedtags/LongTag", "equals", "(Ljava/lang/Object;)Z"⟩ : MethodName) prog_38_method_3_code 3 (some .boolean) ws ({ frames := 0, cells := 0, slots := 0, locals := 0 } : Room) #[(.ref self), (.ref p1)] h0 (QP (.int (0 : Int32)) h0 n0) := by
  refine Jvm.JW.body #[.val (.ref self), .val (.ref p1), .unset] pn3 (ef3 self p1) ?_
  intro p e s m below meth c T0 D A F X0 hx hZ hby hml hown hnm hrt hlk e0
  refine A (XS.aloadN X0.here hx rfl (hb hby d3_0) rfl rfl) ?_
  show D (T0.setTop (mkF m 1 #[.val (.ref self), .val (.ref p1), .unset] [(.ref p1)]))
  obtain ⟨T1, X1, e1, st1⟩ := instNo X0 hx hZ hown (hw _ (List.mem_of_getElem? (i := 16) rfl)) e0 E_p1 (own_no (hw _ (List.mem_of_getElem? (i := 27) rfl)) (hw _ (List.mem_of_getElem? (i := 1) rfl)) (NS.step (hw _ (List.mem_of_getElem? (i := 27) rfl)) (own_root (hw _ (List.mem_of_getElem? (i := 28) rfl)) (hw _ (List.mem_of_getElem? (i := 1) rfl)) (by decide)) (by decide)) (by decide)) (g := (mkF m 1 #[.val (.ref self), .val (.ref p1), .unset] [(.ref p1)])) rfl rfl (hb hby d3_1)
  refine A (st1 _) ?_
  show D (T1.setTop (mkF m 4 #[.val (.ref self), .val (.ref p1), .unset] [(.int (0 : Int32))]))
  refine A (XS.ifYes X1.here hx rfl (pc0 := 4) (pc' := 28) rfl (hb hby d3_4) rfl ((if0 _ _).trans (teq (by decide : (0 : Int32) = (0 : Int32))).1) (by decide) (by decide)) ?_
  show D (T1.setTop (mkF m 28 #[.val (.ref self), .val (.ref p1), .unset] []))
  refine A (XS.iconst X1.here hx rfl (hb hby d3_28)) ?_
  show D (T1.setTop (mkF m 29 #[.val (.ref self), .val (.ref p1), .unset] [(.int (0 : Int32))]))
  refine F _ (Jvm.JW.ret X1 hlk (v := some (.int (0 : Int32))) (fun h => by rw [hrt] at h; cases h) (fun fs hr => retOut X1 hx hrt rfl (Or.inl ⟨rfl, Or.inr (Or.inl rfl), _, rfl⟩) (hb hby d3_29) hr) rfl ?_ (by decide) (by decide))
  exact ⟨rfl, (Fr.nil n0), e1⟩
theorem ef3n (self : Addr) (m : MethodId) : entryFrame m #[(.ref self), .null] 3 = mkF m 0 #[.val (.ref self), .val .null, .unset] [] := by first | (simp [entryFrame, mkF, argsToLocals, Value.category]; done) | rfl
set_option maxRecDepth 65536 in
set_option maxHeartbeats 40000000 in
theorem rm3N (l : Launch) (Z : State) (a0 : Array Value) (hw : ∀ d ∈ tables_1, d.before a0 Z = true) (ws : List Jvm.Cond) (self : Addr) (h0 : Heap) (n0 : Nat) (y : Int64) (F_self : Fld Z h0 self "com/example/stringified_tags/stringifiedtags/LongTag" "value" "J" (.long y)) :
    JMet l Z (⟨"com/example/stringified_tags/stringifiedtags/LongTag", "equals", "(Ljava/lang/Object;)Z"⟩ : MethodName) prog_38_method_3_code 3 (some .boolean) ws ({ frames := 0, cells := 0, slots := 0, locals := 0 } : Room) #[(.ref self), .null] h0 (QP (.int (0 : Int32)) h0 n0) := by
  refine Jvm.JW.body #[.val (.ref self), .val .null, .unset] pn3 (ef3n self) ?_
  intro p e s m below meth c T0 D A F X0 hx hZ hby hml hown hnm hrt hlk e0
  refine A (XS.aloadN X0.here hx rfl (hb hby d3_0) rfl rfl) ?_
  show D (T0.setTop (mkF m 1 #[.val (.ref self), .val .null, .unset] [.null]))
  refine A (X0.instanceofNull hx (g := (mkF m 1 #[.val (.ref self), .val .null, .unset] [.null])) rfl rfl (hb hby d3_1) _) ?_
  show D (T0.setTop (mkF m 4 #[.val (.ref self), .val .null, .unset] [(.int (0 : Int32))]))
  refine A (XS.ifYes X0.here hx rfl (pc0 := 4) (pc' := 28) rfl (hb hby d3_4) rfl ((if0 _ _).trans (teq (by decide : (0 : Int32) = (0 : Int32))).1) (by decide) (by decide)) ?_
  show D (T0.setTop (mkF m 28 #[.val (.ref self), .val .null, .unset] []))
  refine A (XS.iconst X0.here hx rfl (hb hby d3_28)) ?_
  show D (T0.setTop (mkF m 29 #[.val (.ref self), .val .null, .unset] [(.int (0 : Int32))]))
  refine F _ (Jvm.JW.ret X0 hlk (v := some (.int (0 : Int32))) (fun h => by rw [hrt] at h; cases h) (fun fs hr => retOut X0 hx hrt rfl (Or.inl ⟨rfl, Or.inr (Or.inl rfl), _, rfl⟩) (hb hby d3_29) hr) rfl ?_ (by decide) (by decide))
  exact ⟨rfl, (Fr.nil n0), e0⟩
theorem own_r (a : Int64) : own_eqv a a = 1 := if_pos rfl
theorem own_c (a b : Int64) : own_eqv b a = (if (lcmpW a b) = (0 : Int32) then (1 : Int32) else (0 : Int32)) := by
  unfold own_eqv
  by_cases h : a = b
  · rw [if_pos h.symm, if_pos ((lw_eq _ _).mpr h)]
  · rw [if_neg (fun q => h q.symm), if_neg (fun q => h ((lw_eq _ _).mp q))]
theorem pn0 : plainFor x = true := by decide +kernel
theorem pd0_0 : parseMethodDescriptor "(J)V" = some ⟨[.long], none⟩ := by decide +kernel
theorem pd0_1 : parseMethodDescriptor "(Ljava/lang/Object;)Z" = some ⟨[(.object "java/lang/Object")], some .boolean⟩ := by decide +kernel
theorem pd0_2 : parseMethodDescriptor "(I)V" = some ⟨[.int], none⟩ := by decide +kernel
theorem ef0 (p1 : Int64) (p2 : Int64) (p3 : Int32) (m : MethodId) : entryFrame m #[(.long p1), (.long p2), (.int p3)] maxLocals = mkF m 0 #[.val (.long p1), .second, .val (.long p2), .second, .val (.int p3), .unset, .unset, .unset, .unset, .unset, .unset] [] := by first | (simp [entryFrame, mkF, argsToLocals, Value.category, maxLocals]; done) | rfl
set_option maxRecDepth 65536 in
set_option maxHeartbeats 40000000 in
theorem rm0 (l : Launch) (Z : State) (a0 : Array Value) (hw : ∀ d ∈ tables_1, d.before a0 Z = true) (ws : List Jvm.Cond) (p1 : Int64) (p2 : Int64) (p3 : Int32) (h0 : Heap) (n0 : Nat) (Z0 : n0 ≤ h0.size) :
    JMet l Z x code maxLocals ret ws room_1 #[(.long p1), (.long p2), (.int p3)] h0 (QL n0) := by
  refine Jvm.JW.body #[.val (.long p1), .second, .val (.long p2), .second, .val (.int p3), .unset, .unset, .unset, .unset, .unset, .unset] pn0 (ef0 p1 p2 p3) ?_
  intro p e s m below meth c T0 D A F X0 hx hZ hby hml hown hnm hrt hlk e0
  obtain ⟨T1, h1, X1, e1, E1, A1, D1, -, st1⟩ := newO X0 hx hZ hown (hw _ (List.mem_of_getElem? (i := 0) rfl)) (hw _ (List.mem_of_getElem? (i := 1) rfl)) (hw _ (List.mem_of_getElem? (i := 2) rfl)) e0 (g := (mkF m 0 #[.val (.long p1), .second, .val (.long p2), .second, .val (.int p3), .unset, .unset, .unset, .unset, .unset, .unset] [])) rfl (hb hby at_0) (by decide) (by decide)
  obtain ⟨b1, q_b1⟩ : ∃ z, z = h0.size := ⟨_, rfl⟩
  rw [← q_b1] at A1 D1 st1
  have g_b1 : n0 ≤ b1 := Nat.le_trans Z0 (Nat.le_of_eq q_b1.symm)
  have Z_1 : n0 ≤ h1.size := Nat.le_trans Z0 E1.1
  have F_value_b1 : Fld Z h1 b1 "com/example/stringified_tags/stringifiedtags/LongTag" "value" "J" (.long (0 : Int64)) := D1 (Or.inr (hw _ (List.mem_of_getElem? (i := 10) rfl))) (ty := .long) (by decide)
  refine A (st1 _) ?_
  show D (T1.setTop (mkF m 3 #[.val (.long p1), .second, .val (.long p2), .second, .val (.int p3), .unset, .unset, .unset, .unset, .unset, .unset] [(.ref b1)]))
  refine A (XS.dup X1.here hx rfl (hb hby at_3) rfl rfl) ?_
  show D (T1.setTop (mkF m 4 #[.val (.long p1), .second, .val (.long p2), .second, .val (.int p3), .unset, .unset, .unset, .unset, .unset, .unset] [(.ref b1), (.ref b1)]))
  refine A (XS.lloadN X1.here hx rfl (hb hby at_4) rfl) ?_
  show D (T1.setTop (mkF m 5 #[.val (.long p1), .second, .val (.long p2), .second, .val (.int p3), .unset, .unset, .unset, .unset, .unset, .unset] [(.long p1), (.ref b1), (.ref b1)]))
  refine Adv.callI A X1 hx hZ hown rfl (hw _ (List.mem_of_getElem? (i := 3) rfl)) (hw _ (List.mem_of_getElem? (i := 4) rfl)) (hw _ (List.mem_of_getElem? (i := 2) rfl)) (hw _ (List.mem_of_getElem? (i := 5) rfl)) e1 (rm1 l Z a0 hw [] b1 p1 h1 n0 Z_1 g_b1 A1 F_value_b1) 1 (g := (mkF m 5 #[.val (.long p1), .second, .val (.long p2), .second, .val (.int p3), .unset, .unset, .unset, .unset, .unset, .unset] [(.long p1), (.ref b1), (.ref b1)])) rfl (by rw [hml]; rfl) b1 [(.long p1)] [(.ref b1)] rfl (lenOf pd0_0 rfl) rfl (by show 2 * 0 + _ ≤ _; exact Nat.le_of_eq rfl) (hb hby at_5) (by decide) (by decide) (by decide) (by decide) (by decide) ?_
  rintro T2 L2 _ X2 ⟨rfl, N2_q, K2, -, F2_l⟩
  have N2 := Fr.app (Fr.nil n0) N2_q
  have E_b1_2 := A1.keep K2
  have Z_2 : n0 ≤ T2.heap.size := Nat.le_trans Z_1 K2.1
  show D (T2.setTop (mkF m 8 #[.val (.long p1), .second, .val (.long p2), .second, .val (.int p3), .unset, .unset, .unset, .unset, .unset, .unset] [(.ref b1)]))
  refine A (XS.astore X2.here hx rfl (hb hby at_8) rfl rfl (l' := #[.val (.long p1), .second, .val (.long p2), .second, .val (.int p3), .val (.ref b1), .unset, .unset, .unset, .unset, .unset]) rfl) ?_
  show D (T2.setTop (mkF m 10 #[.val (.long p1), .second, .val (.long p2), .second, .val (.int p3), .val (.ref b1), .unset, .unset, .unset, .unset, .unset] []))
  refine A (XS.iload X2.here hx rfl (hb hby at_10) rfl) ?_
  show D (T2.setTop (mkF m 12 #[.val (.long p1), .second, .val (.long p2), .second, .val (.int p3), .val (.ref b1), .unset, .unset, .unset, .unset, .unset] [(.int p3)]))
  refine A (XS.iconst X2.here hx rfl (hb hby at_12)) ?_
  show D (T2.setTop (mkF m 13 #[.val (.long p1), .second, .val (.long p2), .second, .val (.int p3), .val (.ref b1), .unset, .unset, .unset, .unset, .unset] [(.int (3 : Int32)), (.int p3)]))
  refine A (XS.iand X2.here hx rfl (hb hby at_13) rfl) ?_
  show D (T2.setTop (mkF m 14 #[.val (.long p1), .second, .val (.long p2), .second, .val (.int p3), .val (.ref b1), .unset, .unset, .unset, .unset, .unset] [(.int (p3 &&& (3 : Int32)))]))
  refine A (XS.istore X2.here hx rfl (hb hby at_14) rfl (l' := #[.val (.long p1), .second, .val (.long p2), .second, .val (.int p3), .val (.ref b1), .val (.int (p3 &&& (3 : Int32))), .unset, .unset, .unset, .unset]) rfl) ?_
  show D (T2.setTop (mkF m 16 #[.val (.long p1), .second, .val (.long p2), .second, .val (.int p3), .val (.ref b1), .val (.int (p3 &&& (3 : Int32))), .unset, .unset, .unset, .unset] []))
  refine A (XS.iload X2.here hx rfl (hb hby at_16) rfl) ?_
  show D (T2.setTop (mkF m 18 #[.val (.long p1), .second, .val (.long p2), .second, .val (.int p3), .val (.ref b1), .val (.int (p3 &&& (3 : Int32))), .unset, .unset, .unset, .unset] [(.int (p3 &&& (3 : Int32)))]))
  by_cases c18_3 : (p3 &&& (3 : Int32)) = (0 : Int32)
  · refine A (XS.ifNo X2.here hx rfl (hb hby at_18) rfl ((if0 _ _).trans (teq c18_3).2)) ?_
    show D (T2.setTop (mkF m 21 #[.val (.long p1), .second, .val (.long p2), .second, .val (.int p3), .val (.ref b1), .val (.int (p3 &&& (3 : Int32))), .unset, .unset, .unset, .unset] []))
    obtain ⟨T4, h4, X4, e4, E4, A4, D4, -, st4⟩ := newO X2 hx hZ hown (hw _ (List.mem_of_getElem? (i := 0) rfl)) (hw _ (List.mem_of_getElem? (i := 1) rfl)) (hw _ (List.mem_of_getElem? (i := 2) rfl)) rfl (g := (mkF m 21 #[.val (.long p1), .second, .val (.long p2), .second, .val (.int p3), .val (.ref b1), .val (.int (p3 &&& (3 : Int32))), .unset, .unset, .unset, .unset] [])) rfl (hb hby at_21) (by decide) (by decide)
    obtain ⟨b4, q_b4⟩ : ∃ z, z = T2.heap.size := ⟨_, rfl⟩
    rw [← q_b4] at A4 D4 st4
    have ne_b1_b4 : b1 ≠ b4 := Nat.ne_of_lt (Nat.lt_of_lt_of_le E_b1_2.lt (Nat.le_of_eq q_b4.symm))
    have g_b4 : n0 ≤ b4 := Nat.le_trans Z_2 (Nat.le_of_eq q_b4.symm)
    have E_b1_4 := E_b1_2.ext E4
    have F_value_b1_4 := F2_l.ext E4
    have Z_4 : n0 ≤ h4.size := Nat.le_trans Z_2 E4.1
    have F_value_b4 : Fld Z h4 b4 "com/example/stringified_tags/stringifiedtags/LongTag" "value" "J" (.long (0 : Int64)) := D4 (Or.inr (hw _ (List.mem_of_getElem? (i := 10) rfl))) (ty := .long) (by decide)
    refine A (st4 _) ?_
    show D (T4.setTop (mkF m 24 #[.val (.long p1), .second, .val (.long p2), .second, .val (.int p3), .val (.ref b1), .val (.int (p3 &&& (3 : Int32))), .unset, .unset, .unset, .unset] [(.ref b4)]))
    refine A (XS.dup X4.here hx rfl (hb hby at_24) rfl rfl) ?_
    show D (T4.setTop (mkF m 25 #[.val (.long p1), .second, .val (.long p2), .second, .val (.int p3), .val (.ref b1), .val (.int (p3 &&& (3 : Int32))), .unset, .unset, .unset, .unset] [(.ref b4), (.ref b4)]))
    refine A (XS.lloadN X4.here hx rfl (hb hby at_25) rfl) ?_
    show D (T4.setTop (mkF m 26 #[.val (.long p1), .second, .val (.long p2), .second, .val (.int p3), .val (.ref b1), .val (.int (p3 &&& (3 : Int32))), .unset, .unset, .unset, .unset] [(.long p2), (.ref b4), (.ref b4)]))
    refine Adv.callI A X4 hx hZ hown rfl (hw _ (List.mem_of_getElem? (i := 3) rfl)) (hw _ (List.mem_of_getElem? (i := 4) rfl)) (hw _ (List.mem_of_getElem? (i := 2) rfl)) (hw _ (List.mem_of_getElem? (i := 5) rfl)) e4 (rm1 l Z a0 hw [] b4 p2 h4 n0 Z_4 g_b4 A4 F_value_b4) 1 (g := (mkF m 26 #[.val (.long p1), .second, .val (.long p2), .second, .val (.int p3), .val (.ref b1), .val (.int (p3 &&& (3 : Int32))), .unset, .unset, .unset, .unset] [(.long p2), (.ref b4), (.ref b4)])) rfl (by rw [hml]; rfl) b4 [(.long p2)] [(.ref b4)] rfl (lenOf pd0_0 rfl) rfl (by show 2 * 0 + _ ≤ _; exact Nat.le_of_eq rfl) (hb hby at_26) (by decide) (by decide) (by decide) (by decide) (by decide) ?_
    rintro T5 L5 _ X5 ⟨rfl, N5_q, K5, -, F5_l⟩
    have N5 := Fr.app N2 N5_q
    have E_b1_5 := E_b1_4.keep K5
    have F_value_b1_5 := F_value_b1_4.keep K5 (ninS ne_b1_b4 nin0)
    have E_b4_5 := A4.keep K5
    have Z_5 : n0 ≤ T5.heap.size := Nat.le_trans Z_4 K5.1
    show D (T5.setTop (mkF m 29 #[.val (.long p1), .second, .val (.long p2), .second, .val (.int p3), .val (.ref b1), .val (.int (p3 &&& (3 : Int32))), .unset, .unset, .unset, .unset] [(.ref b4)]))
    refine A (XS.astore X5.here hx rfl (hb hby at_29) rfl rfl (l' := #[.val (.long p1), .second, .val (.long p2), .second, .val (.int p3), .val (.ref b1), .val (.int (p3 &&& (3 : Int32))), .val (.ref b4), .unset, .unset, .unset]) rfl) ?_
    show D (T5.setTop (mkF m 31 #[.val (.long p1), .second, .val (.long p2), .second, .val (.int p3), .val (.ref b1), .val (.int (p3 &&& (3 : Int32))), .val (.ref b4), .unset, .unset, .unset] []))
    refine A (XS.lloadN X5.here hx rfl (hb hby at_31) rfl) ?_
    show D (T5.setTop (mkF m 32 #[.val (.long p1), .second, .val (.long p2), .second, .val (.int p3), .val (.ref b1), .val (.int (p3 &&& (3 : Int32))), .val (.ref b4), .unset, .unset, .unset] [(.long p1)]))
    refine A (XS.lloadN X5.here hx rfl (hb hby at_32) rfl) ?_
    show D (T5.setTop (mkF m 33 #[.val (.long p1), .second, .val (.long p2), .second, .val (.int p3), .val (.ref b1), .val (.int (p3 &&& (3 : Int32))), .val (.ref b4), .unset, .unset, .unset] [(.long p2), (.long p1)]))
    refine A (XS.lcmp X5.here hx rfl (hb hby at_33) rfl) ?_
    show D (T5.setTop (mkF m 34 #[.val (.long p1), .second, .val (.long p2), .second, .val (.int p3), .val (.ref b1), .val (.int (p3 &&& (3 : Int32))), .val (.ref b4), .unset, .unset, .unset] [(.int (lcmpW p1 p2))]))
    suffices Km42_6 : ∀ (v42s0 : Int32), v42s0 = (if (lcmpW p1 p2) = (0 : Int32) then (1 : Int32) else (0 : Int32)) → D (T5.setTop (mkF m 42 #[.val (.long p1), .second, .val (.long p2), .second, .val (.int p3), .val (.ref b1), .val (.int (p3 &&& (3 : Int32))), .val (.ref b4), .unset, .unset, .unset] [(.int v42s0)])) by
      by_cases c34_1 : (lcmpW p1 p2) = (0 : Int32)
      · refine A (XS.ifNo X5.here hx rfl (hb hby at_34) rfl ((if0 _ _).trans (teq c34_1).2)) ?_
        show D (T5.setTop (mkF m 37 #[.val (.long p1), .second, .val (.long p2), .second, .val (.int p3), .val (.ref b1), .val (.int (p3 &&& (3 : Int32))), .val (.ref b4), .unset, .unset, .unset] []))
        refine A (XS.iconst X5.here hx rfl (hb hby at_37)) ?_
        show D (T5.setTop (mkF m 38 #[.val (.long p1), .second, .val (.long p2), .second, .val (.int p3), .val (.ref b1), .val (.int (p3 &&& (3 : Int32))), .val (.ref b4), .unset, .unset, .unset] [(.int (1 : Int32))]))
        refine A (XS.goto X5.here hx rfl (pc0 := 38) (pc' := 42) rfl (hb hby at_38) (by decide) (by decide)) ?_
        show D (T5.setTop (mkF m 42 #[.val (.long p1), .second, .val (.long p2), .second, .val (.int p3), .val (.ref b1), .val (.int (p3 &&& (3 : Int32))), .val (.ref b4), .unset, .unset, .unset] [(.int (1 : Int32))]))
        exact Km42_6 _ ((if_pos c34_1)).symm
      · refine A (XS.ifYes X5.here hx rfl (pc0 := 34) (pc' := 41) rfl (hb hby at_34) rfl ((if0 _ _).trans (feq c34_1).2) (by decide) (by decide)) ?_
        show D (T5.setTop (mkF m 41 #[.val (.long p1), .second, .val (.long p2), .second, .val (.int p3), .val (.ref b1), .val (.int (p3 &&& (3 : Int32))), .val (.ref b4), .unset, .unset, .unset] []))
        refine A (XS.iconst X5.here hx rfl (hb hby at_41)) ?_
        show D (T5.setTop (mkF m 42 #[.val (.long p1), .second, .val (.long p2), .second, .val (.int p3), .val (.ref b1), .val (.int (p3 &&& (3 : Int32))), .val (.ref b4), .unset, .unset, .unset] [(.int (0 : Int32))]))
        exact Km42_6 _ ((if_neg c34_1)).symm
    intro v42s0 hv42s0
    show D (T5.setTop (mkF m 42 #[.val (.long p1), .second, .val (.long p2), .second, .val (.int p3), .val (.ref b1), .val (.int (p3 &&& (3 : Int32))), .val (.ref b4), .unset, .unset, .unset] [(.int v42s0)]))
    refine A (XS.istore X5.here hx rfl (hb hby at_42) rfl (l' := #[.val (.long p1), .second, .val (.long p2), .second, .val (.int p3), .val (.ref b1), .val (.int (p3 &&& (3 : Int32))), .val (.ref b4), .val (.int v42s0), .unset, .unset]) rfl) ?_
    show D (T5.setTop (mkF m 44 #[.val (.long p1), .second, .val (.long p2), .second, .val (.int p3), .val (.ref b1), .val (.int (p3 &&& (3 : Int32))), .val (.ref b4), .val (.int v42s0), .unset, .unset] []))
    refine A (XS.goto X5.here hx rfl (pc0 := 44) (pc' := 98) rfl (hb hby at_44) (by decide) (by decide)) ?_
    show D (T5.setTop (mkF m 98 #[.val (.long p1), .second, .val (.long p2), .second, .val (.int p3), .val (.ref b1), .val (.int (p3 &&& (3 : Int32))), .val (.ref b4), .val (.int v42s0), .unset, .unset] []))
    refine A (XS.aload X5.here hx rfl (hb hby at_98) rfl rfl) ?_
    show D (T5.setTop (mkF m 100 #[.val (.long p1), .second, .val (.long p2), .second, .val (.int p3), .val (.ref b1), .val (.int (p3 &&& (3 : Int32))), .val (.ref b4), .val (.int v42s0), .unset, .unset] [(.ref b1)]))
    refine A (XS.aload X5.here hx rfl (hb hby at_100) rfl rfl) ?_
    show D (T5.setTop (mkF m 102 #[.val (.long p1), .second, .val (.long p2), .second, .val (.int p3), .val (.ref b1), .val (.int (p3 &&& (3 : Int32))), .val (.ref b4), .val (.int v42s0), .unset, .unset] [(.ref b4), (.ref b1)]))
    refine Adv.callV A X5 hx hZ hown (hw _ (List.mem_of_getElem? (i := 11) rfl)) (hw _ (List.mem_of_getElem? (i := 12) rfl)) (notFace_of_selects (args := #[]) (mvT hZ (hw _ (List.mem_of_getElem? (i := 14) rfl)))) (hw _ (List.mem_of_getElem? (i := 14) rfl)) (hw _ (List.mem_of_getElem? (i := 13) rfl)) (hw _ (List.mem_of_getElem? (i := 2) rfl)) (hw _ (List.mem_of_getElem? (i := 15) rfl)) rfl E_b1_5 (rm3L l Z a0 hw [] b1 b4 T5.heap n0 p1 p2 F_value_b1_5 E_b4_5 F5_l) 0 (g := (mkF m 102 #[.val (.long p1), .second, .val (.long p2), .second, .val (.int p3), .val (.ref b1), .val (.int (p3 &&& (3 : Int32))), .val (.ref b4), .val (.int v42s0), .unset, .unset] [(.ref b4), (.ref b1)])) rfl (by rw [hml]; rfl) [(.ref b4)] [] rfl (lenOf pd0_1 rfl) rfl (by show 2 * 0 + _ ≤ _; exact Nat.le_of_eq rfl) (hb hby at_102) (by decide) (by decide) (by decide) (by decide) (by decide) ?_
    rintro T7 L7 _ X7 ⟨rfl, N7_q, e7⟩
    have N7 := Fr.app N5 N7_q
    show D (T7.setTop (mkF m 105 #[.val (.long p1), .second, .val (.long p2), .second, .val (.int p3), .val (.ref b1), .val (.int (p3 &&& (3 : Int32))), .val (.ref b4), .val (.int v42s0), .unset, .unset] [(.int (own_eqv p2 p1))]))
    refine A (XS.istore X7.here hx rfl (hb hby at_105) rfl (l' := #[.val (.long p1), .second, .val (.long p2), .second, .val (.int p3), .val (.ref b1), .val (.int (p3 &&& (3 : Int32))), .val (.ref b4), .val (.int v42s0), .val (.int (own_eqv p2 p1)), .unset]) rfl) ?_
    show D (T7.setTop (mkF m 107 #[.val (.long p1), .second, .val (.long p2), .second, .val (.int p3), .val (.ref b1), .val (.int (p3 &&& (3 : Int32))), .val (.ref b4), .val (.int v42s0), .val (.int (own_eqv p2 p1)), .unset] []))
    refine A (XS.aload X7.here hx rfl (hb hby at_107) rfl rfl) ?_
    show D (T7.setTop (mkF m 109 #[.val (.long p1), .second, .val (.long p2), .second, .val (.int p3), .val (.ref b1), .val (.int (p3 &&& (3 : Int32))), .val (.ref b4), .val (.int v42s0), .val (.int (own_eqv p2 p1)), .unset] [(.ref b1)]))
    refine A (XS.aload X7.here hx rfl (hb hby at_109) rfl rfl) ?_
    show D (T7.setTop (mkF m 111 #[.val (.long p1), .second, .val (.long p2), .second, .val (.int p3), .val (.ref b1), .val (.int (p3 &&& (3 : Int32))), .val (.ref b4), .val (.int v42s0), .val (.int (own_eqv p2 p1)), .unset] [(.ref b1), (.ref b1)]))
    refine Adv.callV A X7 hx hZ hown (hw _ (List.mem_of_getElem? (i := 11) rfl)) (hw _ (List.mem_of_getElem? (i := 12) rfl)) (notFace_of_selects (args := #[]) (mvT hZ (hw _ (List.mem_of_getElem? (i := 14) rfl)))) (hw _ (List.mem_of_getElem? (i := 14) rfl)) (hw _ (List.mem_of_getElem? (i := 13) rfl)) (hw _ (List.mem_of_getElem? (i := 2) rfl)) (hw _ (List.mem_of_getElem? (i := 15) rfl)) e7 E_b1_5 (rm3L l Z a0 hw [] b1 b1 T5.heap n0 p1 p1 F_value_b1_5 E_b1_5 F_value_b1_5) 0 (g := (mkF m 111 #[.val (.long p1), .second, .val (.long p2), .second, .val (.int p3), .val (.ref b1), .val (.int (p3 &&& (3 : Int32))), .val (.ref b4), .val (.int v42s0), .val (.int (own_eqv p2 p1)), .unset] [(.ref b1), (.ref b1)])) rfl (by rw [hml]; rfl) [(.ref b1)] [] rfl (lenOf pd0_1 rfl) rfl (by show 2 * 0 + _ ≤ _; exact Nat.le_of_eq rfl) (hb hby at_111) (by decide) (by decide) (by decide) (by decide) (by decide) ?_
    rintro T8 L8 _ X8 ⟨rfl, N8_q, e8⟩
    have N8 := Fr.app N7 N8_q
    show D (T8.setTop (mkF m 114 #[.val (.long p1), .second, .val (.long p2), .second, .val (.int p3), .val (.ref b1), .val (.int (p3 &&& (3 : Int32))), .val (.ref b4), .val (.int v42s0), .val (.int (own_eqv p2 p1)), .unset] [(.int (own_eqv p1 p1))]))
    refine A (XS.istore X8.here hx rfl (hb hby at_114) rfl (l' := #[.val (.long p1), .second, .val (.long p2), .second, .val (.int p3), .val (.ref b1), .val (.int (p3 &&& (3 : Int32))), .val (.ref b4), .val (.int v42s0), .val (.int (own_eqv p2 p1)), .val (.int (own_eqv p1 p1))]) rfl) ?_
    show D (T8.setTop (mkF m 116 #[.val (.long p1), .second, .val (.long p2), .second, .val (.int p3), .val (.ref b1), .val (.int (p3 &&& (3 : Int32))), .val (.ref b4), .val (.int v42s0), .val (.int (own_eqv p2 p1)), .val (.int (own_eqv p1 p1))] []))
    refine A (XS.iload X8.here hx rfl (hb hby at_116) rfl) ?_
    show D (T8.setTop (mkF m 118 #[.val (.long p1), .second, .val (.long p2), .second, .val (.int p3), .val (.ref b1), .val (.int (p3 &&& (3 : Int32))), .val (.ref b4), .val (.int v42s0), .val (.int (own_eqv p2 p1)), .val (.int (own_eqv p1 p1))] [(.int (own_eqv p2 p1))]))
    refine A (XS.iload X8.here hx rfl (hb hby at_118) rfl) ?_
    show D (T8.setTop (mkF m 120 #[.val (.long p1), .second, .val (.long p2), .second, .val (.int p3), .val (.ref b1), .val (.int (p3 &&& (3 : Int32))), .val (.ref b4), .val (.int v42s0), .val (.int (own_eqv p2 p1)), .val (.int (own_eqv p1 p1))] [(.int v42s0), (.int (own_eqv p2 p1))]))
    suffices Km133_9 : ∀ (v133s0 : Int32), v133s0 = (if (own_eqv p2 p1) = v42s0 then (if (own_eqv p1 p1) = (0 : Int32) then (0 : Int32) else (1 : Int32)) else (0 : Int32)) → D (T8.setTop (mkF m 133 #[.val (.long p1), .second, .val (.long p2), .second, .val (.int p3), .val (.ref b1), .val (.int (p3 &&& (3 : Int32))), .val (.ref b4), .val (.int v42s0), .val (.int (own_eqv p2 p1)), .val (.int (own_eqv p1 p1))] [(.int v133s0)])) by
      by_cases c120_1 : (own_eqv p2 p1) = v42s0
      · refine A (XS.icmpNo X8.here hx rfl (hb hby at_120) rfl (teq c120_1).2) ?_
        show D (T8.setTop (mkF m 123 #[.val (.long p1), .second, .val (.long p2), .second, .val (.int p3), .val (.ref b1), .val (.int (p3 &&& (3 : Int32))), .val (.ref b4), .val (.int v42s0), .val (.int (own_eqv p2 p1)), .val (.int (own_eqv p1 p1))] []))
        refine A (XS.iload X8.here hx rfl (hb hby at_123) rfl) ?_
        show D (T8.setTop (mkF m 125 #[.val (.long p1), .second, .val (.long p2), .second, .val (.int p3), .val (.ref b1), .val (.int (p3 &&& (3 : Int32))), .val (.ref b4), .val (.int v42s0), .val (.int (own_eqv p2 p1)), .val (.int (own_eqv p1 p1))] [(.int (own_eqv p1 p1))]))
        by_cases c125_2 : (own_eqv p1 p1) = (0 : Int32)
        · refine A (XS.ifYes X8.here hx rfl (pc0 := 125) (pc' := 132) rfl (hb hby at_125) rfl ((if0 _ _).trans (teq c125_2).1) (by decide) (by decide)) ?_
          show D (T8.setTop (mkF m 132 #[.val (.long p1), .second, .val (.long p2), .second, .val (.int p3), .val (.ref b1), .val (.int (p3 &&& (3 : Int32))), .val (.ref b4), .val (.int v42s0), .val (.int (own_eqv p2 p1)), .val (.int (own_eqv p1 p1))] []))
          refine A (XS.iconst X8.here hx rfl (hb hby at_132)) ?_
          show D (T8.setTop (mkF m 133 #[.val (.long p1), .second, .val (.long p2), .second, .val (.int p3), .val (.ref b1), .val (.int (p3 &&& (3 : Int32))), .val (.ref b4), .val (.int v42s0), .val (.int (own_eqv p2 p1)), .val (.int (own_eqv p1 p1))] [(.int (0 : Int32))]))
          exact Km133_9 _ (((if_pos c120_1)).trans (if_pos c125_2)).symm
        · refine A (XS.ifNo X8.here hx rfl (hb hby at_125) rfl ((if0 _ _).trans (feq c125_2).1)) ?_
          show D (T8.setTop (mkF m 128 #[.val (.long p1), .second, .val (.long p2), .second, .val (.int p3), .val (.ref b1), .val (.int (p3 &&& (3 : Int32))), .val (.ref b4), .val (.int v42s0), .val (.int (own_eqv p2 p1)), .val (.int (own_eqv p1 p1))] []))
          refine A (XS.iconst X8.here hx rfl (hb hby at_128)) ?_
          show D (T8.setTop (mkF m 129 #[.val (.long p1), .second, .val (.long p2), .second, .val (.int p3), .val (.ref b1), .val (.int (p3 &&& (3 : Int32))), .val (.ref b4), .val (.int v42s0), .val (.int (own_eqv p2 p1)), .val (.int (own_eqv p1 p1))] [(.int (1 : Int32))]))
          refine A (XS.goto X8.here hx rfl (pc0 := 129) (pc' := 133) rfl (hb hby at_129) (by decide) (by decide)) ?_
          show D (T8.setTop (mkF m 133 #[.val (.long p1), .second, .val (.long p2), .second, .val (.int p3), .val (.ref b1), .val (.int (p3 &&& (3 : Int32))), .val (.ref b4), .val (.int v42s0), .val (.int (own_eqv p2 p1)), .val (.int (own_eqv p1 p1))] [(.int (1 : Int32))]))
          exact Km133_9 _ (((if_pos c120_1)).trans (if_neg c125_2)).symm
      · refine A (XS.icmpYes X8.here hx rfl (pc0 := 120) (pc' := 132) rfl (hb hby at_120) rfl (feq c120_1).2 (by decide) (by decide)) ?_
        show D (T8.setTop (mkF m 132 #[.val (.long p1), .second, .val (.long p2), .second, .val (.int p3), .val (.ref b1), .val (.int (p3 &&& (3 : Int32))), .val (.ref b4), .val (.int v42s0), .val (.int (own_eqv p2 p1)), .val (.int (own_eqv p1 p1))] []))
        refine A (XS.iconst X8.here hx rfl (hb hby at_132)) ?_
        show D (T8.setTop (mkF m 133 #[.val (.long p1), .second, .val (.long p2), .second, .val (.int p3), .val (.ref b1), .val (.int (p3 &&& (3 : Int32))), .val (.ref b4), .val (.int v42s0), .val (.int (own_eqv p2 p1)), .val (.int (own_eqv p1 p1))] [(.int (0 : Int32))]))
        exact Km133_9 _ ((if_neg c120_1)).symm
    intro v133s0 hv133s0
    show D (T8.setTop (mkF m 133 #[.val (.long p1), .second, .val (.long p2), .second, .val (.int p3), .val (.ref b1), .val (.int (p3 &&& (3 : Int32))), .val (.ref b4), .val (.int v42s0), .val (.int (own_eqv p2 p1)), .val (.int (own_eqv p1 p1))] [(.int v133s0)]))
    obtain rfl : v133s0 = (1 : Int32) := by
      rw [hv133s0, if_pos (by rw [hv42s0]; exact own_c _ _), own_r]
      decide
    show D (T8.setTop (mkF m 133 #[.val (.long p1), .second, .val (.long p2), .second, .val (.int p3), .val (.ref b1), .val (.int (p3 &&& (3 : Int32))), .val (.ref b4), .val (.int v42s0), .val (.int (own_eqv p2 p1)), .val (.int (own_eqv p1 p1))] [(.int (1 : Int32))]))
    exact F _ (Jvm.JW.ret X8 hlk (v := some (.int (1 : Int32))) (fun h => by rw [hrt] at h; cases h) (fun fs hr => retOut X8 hx hrt rfl (Or.inl ⟨rfl, Or.inr (Or.inl rfl), _, rfl⟩) (hb hby at_133) hr) rfl ⟨rfl, N8⟩ (by decide) (by decide))
  · refine A (XS.ifYes X2.here hx rfl (pc0 := 18) (pc' := 47) rfl (hb hby at_18) rfl ((if0 _ _).trans (feq c18_3).2) (by decide) (by decide)) ?_
    show D (T2.setTop (mkF m 47 #[.val (.long p1), .second, .val (.long p2), .second, .val (.int p3), .val (.ref b1), .val (.int (p3 &&& (3 : Int32))), .unset, .unset, .unset, .unset] []))
    refine A (XS.iload X2.here hx rfl (hb hby at_47) rfl) ?_
    show D (T2.setTop (mkF m 49 #[.val (.long p1), .second, .val (.long p2), .second, .val (.int p3), .val (.ref b1), .val (.int (p3 &&& (3 : Int32))), .unset, .unset, .unset, .unset] [(.int (p3 &&& (3 : Int32)))]))
    refine A (XS.iconst X2.here hx rfl (hb hby at_49)) ?_
    show D (T2.setTop (mkF m 50 #[.val (.long p1), .second, .val (.long p2), .second, .val (.int p3), .val (.ref b1), .val (.int (p3 &&& (3 : Int32))), .unset, .unset, .unset, .unset] [(.int (1 : Int32)), (.int (p3 &&& (3 : Int32)))]))
    by_cases c50_10 : (p3 &&& (3 : Int32)) = (1 : Int32)
    · refine A (XS.icmpNo X2.here hx rfl (hb hby at_50) rfl (teq c50_10).2) ?_
      show D (T2.setTop (mkF m 53 #[.val (.long p1), .second, .val (.long p2), .second, .val (.int p3), .val (.ref b1), .val (.int (p3 &&& (3 : Int32))), .unset, .unset, .unset, .unset] []))
      obtain ⟨T11, h11, X11, e11, E11, A11, D11, -, st11⟩ := newO X2 hx hZ hown (hw _ (List.mem_of_getElem? (i := 0) rfl)) (hw _ (List.mem_of_getElem? (i := 1) rfl)) (hw _ (List.mem_of_getElem? (i := 2) rfl)) rfl (g := (mkF m 53 #[.val (.long p1), .second, .val (.long p2), .second, .val (.int p3), .val (.ref b1), .val (.int (p3 &&& (3 : Int32))), .unset, .unset, .unset, .unset] [])) rfl (hb hby at_53) (by decide) (by decide)
      obtain ⟨b11, q_b11⟩ : ∃ z, z = T2.heap.size := ⟨_, rfl⟩
      rw [← q_b11] at A11 D11 st11
      have ne_b1_b11 : b1 ≠ b11 := Nat.ne_of_lt (Nat.lt_of_lt_of_le E_b1_2.lt (Nat.le_of_eq q_b11.symm))
      have g_b11 : n0 ≤ b11 := Nat.le_trans Z_2 (Nat.le_of_eq q_b11.symm)
      have E_b1_11 := E_b1_2.ext E11
      have F_value_b1_11 := F2_l.ext E11
      have Z_11 : n0 ≤ h11.size := Nat.le_trans Z_2 E11.1
      have F_value_b11 : Fld Z h11 b11 "com/example/stringified_tags/stringifiedtags/LongTag" "value" "J" (.long (0 : Int64)) := D11 (Or.inr (hw _ (List.mem_of_getElem? (i := 10) rfl))) (ty := .long) (by decide)
      refine A (st11 _) ?_
      show D (T11.setTop (mkF m 56 #[.val (.long p1), .second, .val (.long p2), .second, .val (.int p3), .val (.ref b1), .val (.int (p3 &&& (3 : Int32))), .unset, .unset, .unset, .unset] [(.ref b11)]))
      refine A (XS.dup X11.here hx rfl (hb hby at_56) rfl rfl) ?_
      show D (T11.setTop (mkF m 57 #[.val (.long p1), .second, .val (.long p2), .second, .val (.int p3), .val (.ref b1), .val (.int (p3 &&& (3 : Int32))), .unset, .unset, .unset, .unset] [(.ref b11), (.ref b11)]))
      refine A (XS.lloadN X11.here hx rfl (hb hby at_57) rfl) ?_
      show D (T11.setTop (mkF m 58 #[.val (.long p1), .second, .val (.long p2), .second, .val (.int p3), .val (.ref b1), .val (.int (p3 &&& (3 : Int32))), .unset, .unset, .unset, .unset] [(.long p1), (.ref b11), (.ref b11)]))
      refine Adv.callI A X11 hx hZ hown rfl (hw _ (List.mem_of_getElem? (i := 3) rfl)) (hw _ (List.mem_of_getElem? (i := 4) rfl)) (hw _ (List.mem_of_getElem? (i := 2) rfl)) (hw _ (List.mem_of_getElem? (i := 5) rfl)) e11 (rm1 l Z a0 hw [] b11 p1 h11 n0 Z_11 g_b11 A11 F_value_b11) 1 (g := (mkF m 58 #[.val (.long p1), .second, .val (.long p2), .second, .val (.int p3), .val (.ref b1), .val (.int (p3 &&& (3 : Int32))), .unset, .unset, .unset, .unset] [(.long p1), (.ref b11), (.ref b11)])) rfl (by rw [hml]; rfl) b11 [(.long p1)] [(.ref b11)] rfl (lenOf pd0_0 rfl) rfl (by show 2 * 0 + _ ≤ _; exact Nat.le_of_eq rfl) (hb hby at_58) (by decide) (by decide) (by decide) (by decide) (by decide) ?_
      rintro T12 L12 _ X12 ⟨rfl, N12_q, K12, -, F12_l⟩
      have N12 := Fr.app N2 N12_q
      have E_b1_12 := E_b1_11.keep K12
      have F_value_b1_12 := F_value_b1_11.keep K12 (ninS ne_b1_b11 nin0)
      have E_b11_12 := A11.keep K12
      have Z_12 : n0 ≤ T12.heap.size := Nat.le_trans Z_11 K12.1
      show D (T12.setTop (mkF m 61 #[.val (.long p1), .second, .val (.long p2), .second, .val (.int p3), .val (.ref b1), .val (.int (p3 &&& (3 : Int32))), .unset, .unset, .unset, .unset] [(.ref b11)]))
      refine A (XS.astore X12.here hx rfl (hb hby at_61) rfl rfl (l' := #[.val (.long p1), .second, .val (.long p2), .second, .val (.int p3), .val (.ref b1), .val (.int (p3 &&& (3 : Int32))), .val (.ref b11), .unset, .unset, .unset]) rfl) ?_
      show D (T12.setTop (mkF m 63 #[.val (.long p1), .second, .val (.long p2), .second, .val (.int p3), .val (.ref b1), .val (.int (p3 &&& (3 : Int32))), .val (.ref b11), .unset, .unset, .unset] []))
      refine A (XS.iconst X12.here hx rfl (hb hby at_63)) ?_
      show D (T12.setTop (mkF m 64 #[.val (.long p1), .second, .val (.long p2), .second, .val (.int p3), .val (.ref b1), .val (.int (p3 &&& (3 : Int32))), .val (.ref b11), .unset, .unset, .unset] [(.int (1 : Int32))]))
      refine A (XS.istore X12.here hx rfl (hb hby at_64) rfl (l' := #[.val (.long p1), .second, .val (.long p2), .second, .val (.int p3), .val (.ref b1), .val (.int (p3 &&& (3 : Int32))), .val (.ref b11), .val (.int (1 : Int32)), .unset, .unset]) rfl) ?_
      show D (T12.setTop (mkF m 66 #[.val (.long p1), .second, .val (.long p2), .second, .val (.int p3), .val (.ref b1), .val (.int (p3 &&& (3 : Int32))), .val (.ref b11), .val (.int (1 : Int32)), .unset, .unset] []))
      refine A (XS.goto X12.here hx rfl (pc0 := 66) (pc' := 98) rfl (hb hby at_66) (by decide) (by decide)) ?_
      show D (T12.setTop (mkF m 98 #[.val (.long p1), .second, .val (.long p2), .second, .val (.int p3), .val (.ref b1), .val (.int (p3 &&& (3 : Int32))), .val (.ref b11), .val (.int (1 : Int32)), .unset, .unset] []))
      refine A (XS.aload X12.here hx rfl (hb hby at_98) rfl rfl) ?_
      show D (T12.setTop (mkF m 100 #[.val (.long p1), .second, .val (.long p2), .second, .val (.int p3), .val (.ref b1), .val (.int (p3 &&& (3 : Int32))), .val (.ref b11), .val (.int (1 : Int32)), .unset, .unset] [(.ref b1)]))
      refine A (XS.aload X12.here hx rfl (hb hby at_100) rfl rfl) ?_
      show D (T12.setTop (mkF m 102 #[.val (.long p1), .second, .val (.long p2), .second, .val (.int p3), .val (.ref b1), .val (.int (p3 &&& (3 : Int32))), .val (.ref b11), .val (.int (1 : Int32)), .unset, .unset] [(.ref b11), (.ref b1)]))
      refine Adv.callV A X12 hx hZ hown (hw _ (List.mem_of_getElem? (i := 11) rfl)) (hw _ (List.mem_of_getElem? (i := 12) rfl)) (notFace_of_selects (args := #[]) (mvT hZ (hw _ (List.mem_of_getElem? (i := 14) rfl)))) (hw _ (List.mem_of_getElem? (i := 14) rfl)) (hw _ (List.mem_of_getElem? (i := 13) rfl)) (hw _ (List.mem_of_getElem? (i := 2) rfl)) (hw _ (List.mem_of_getElem? (i := 15) rfl)) rfl E_b1_12 (rm3L l Z a0 hw [] b1 b11 T12.heap n0 p1 p1 F_value_b1_12 E_b11_12 F12_l) 0 (g := (mkF m 102 #[.val (.long p1), .second, .val (.long p2), .second, .val (.int p3), .val (.ref b1), .val (.int (p3 &&& (3 : Int32))), .val (.ref b11), .val (.int (1 : Int32)), .unset, .unset] [(.ref b11), (.ref b1)])) rfl (by rw [hml]; rfl) [(.ref b11)] [] rfl (lenOf pd0_1 rfl) rfl (by show 2 * 0 + _ ≤ _; exact Nat.le_of_eq rfl) (hb hby at_102) (by decide) (by decide) (by decide) (by decide) (by decide) ?_
      rintro T13 L13 _ X13 ⟨rfl, N13_q, e13⟩
      have N13 := Fr.app N12 N13_q
      show D (T13.setTop (mkF m 105 #[.val (.long p1), .second, .val (.long p2), .second, .val (.int p3), .val (.ref b1), .val (.int (p3 &&& (3 : Int32))), .val (.ref b11), .val (.int (1 : Int32)), .unset, .unset] [(.int (own_eqv p1 p1))]))
      refine A (XS.istore X13.here hx rfl (hb hby at_105) rfl (l' := #[.val (.long p1), .second, .val (.long p2), .second, .val (.int p3), .val (.ref b1), .val (.int (p3 &&& (3 : Int32))), .val (.ref b11), .val (.int (1 : Int32)), .val (.int (own_eqv p1 p1)), .unset]) rfl) ?_
      show D (T13.setTop (mkF m 107 #[.val (.long p1), .second, .val (.long p2), .second, .val (.int p3), .val (.ref b1), .val (.int (p3 &&& (3 : Int32))), .val (.ref b11), .val (.int (1 : Int32)), .val (.int (own_eqv p1 p1)), .unset] []))
      refine A (XS.aload X13.here hx rfl (hb hby at_107) rfl rfl) ?_
      show D (T13.setTop (mkF m 109 #[.val (.long p1), .second, .val (.long p2), .second, .val (.int p3), .val (.ref b1), .val (.int (p3 &&& (3 : Int32))), .val (.ref b11), .val (.int (1 : Int32)), .val (.int (own_eqv p1 p1)), .unset] [(.ref b1)]))
      refine A (XS.aload X13.here hx rfl (hb hby at_109) rfl rfl) ?_
      show D (T13.setTop (mkF m 111 #[.val (.long p1), .second, .val (.long p2), .second, .val (.int p3), .val (.ref b1), .val (.int (p3 &&& (3 : Int32))), .val (.ref b11), .val (.int (1 : Int32)), .val (.int (own_eqv p1 p1)), .unset] [(.ref b1), (.ref b1)]))
      refine Adv.callV A X13 hx hZ hown (hw _ (List.mem_of_getElem? (i := 11) rfl)) (hw _ (List.mem_of_getElem? (i := 12) rfl)) (notFace_of_selects (args := #[]) (mvT hZ (hw _ (List.mem_of_getElem? (i := 14) rfl)))) (hw _ (List.mem_of_getElem? (i := 14) rfl)) (hw _ (List.mem_of_getElem? (i := 13) rfl)) (hw _ (List.mem_of_getElem? (i := 2) rfl)) (hw _ (List.mem_of_getElem? (i := 15) rfl)) e13 E_b1_12 (rm3L l Z a0 hw [] b1 b1 T12.heap n0 p1 p1 F_value_b1_12 E_b1_12 F_value_b1_12) 0 (g := (mkF m 111 #[.val (.long p1), .second, .val (.long p2), .second, .val (.int p3), .val (.ref b1), .val (.int (p3 &&& (3 : Int32))), .val (.ref b11), .val (.int (1 : Int32)), .val (.int (own_eqv p1 p1)), .unset] [(.ref b1), (.ref b1)])) rfl (by rw [hml]; rfl) [(.ref b1)] [] rfl (lenOf pd0_1 rfl) rfl (by show 2 * 0 + _ ≤ _; exact Nat.le_of_eq rfl) (hb hby at_111) (by decide) (by decide) (by decide) (by decide) (by decide) ?_
      rintro T14 L14 _ X14 ⟨rfl, N14_q, e14⟩
      have N14 := Fr.app N13 N14_q
      show D (T14.setTop (mkF m 114 #[.val (.long p1), .second, .val (.long p2), .second, .val (.int p3), .val (.ref b1), .val (.int (p3 &&& (3 : Int32))), .val (.ref b11), .val (.int (1 : Int32)), .val (.int (own_eqv p1 p1)), .unset] [(.int (own_eqv p1 p1))]))
      refine A (XS.istore X14.here hx rfl (hb hby at_114) rfl (l' := #[.val (.long p1), .second, .val (.long p2), .second, .val (.int p3), .val (.ref b1), .val (.int (p3 &&& (3 : Int32))), .val (.ref b11), .val (.int (1 : Int32)), .val (.int (own_eqv p1 p1)), .val (.int (own_eqv p1 p1))]) rfl) ?_
      show D (T14.setTop (mkF m 116 #[.val (.long p1), .second, .val (.long p2), .second, .val (.int p3), .val (.ref b1), .val (.int (p3 &&& (3 : Int32))), .val (.ref b11), .val (.int (1 : Int32)), .val (.int (own_eqv p1 p1)), .val (.int (own_eqv p1 p1))] []))
      refine A (XS.iload X14.here hx rfl (hb hby at_116) rfl) ?_
      show D (T14.setTop (mkF m 118 #[.val (.long p1), .second, .val (.long p2), .second, .val (.int p3), .val (.ref b1), .val (.int (p3 &&& (3 : Int32))), .val (.ref b11), .val (.int (1 : Int32)), .val (.int (own_eqv p1 p1)), .val (.int (own_eqv p1 p1))] [(.int (own_eqv p1 p1))]))
      refine A (XS.iload X14.here hx rfl (hb hby at_118) rfl) ?_
      show D (T14.setTop (mkF m 120 #[.val (.long p1), .second, .val (.long p2), .second, .val (.int p3), .val (.ref b1), .val (.int (p3 &&& (3 : Int32))), .val (.ref b11), .val (.int (1 : Int32)), .val (.int (own_eqv p1 p1)), .val (.int (own_eqv p1 p1))] [(.int (1 : Int32)), (.int (own_eqv p1 p1))]))
      suffices Km133_15 : ∀ (v133s0a : Int32), v133s0a = (if (own_eqv p1 p1) = (1 : Int32) then (if (own_eqv p1 p1) = (0 : Int32) then (0 : Int32) else (1 : Int32)) else (0 : Int32)) → D (T14.setTop (mkF m 133 #[.val (.long p1), .second, .val (.long p2), .second, .val (.int p3), .val (.ref b1), .val (.int (p3 &&& (3 : Int32))), .val (.ref b11), .val (.int (1 : Int32)), .val (.int (own_eqv p1 p1)), .val (.int (own_eqv p1 p1))] [(.int v133s0a)])) by
        by_cases c120_2 : (own_eqv p1 p1) = (1 : Int32)
        · refine A (XS.icmpNo X14.here hx rfl (hb hby at_120) rfl (teq c120_2).2) ?_
          show D (T14.setTop (mkF m 123 #[.val (.long p1), .second, .val (.long p2), .second, .val (.int p3), .val (.ref b1), .val (.int (p3 &&& (3 : Int32))), .val (.ref b11), .val (.int (1 : Int32)), .val (.int (own_eqv p1 p1)), .val (.int (own_eqv p1 p1))] []))
          refine A (XS.iload X14.here hx rfl (hb hby at_123) rfl) ?_
          show D (T14.setTop (mkF m 125 #[.val (.long p1), .second, .val (.long p2), .second, .val (.int p3), .val (.ref b1), .val (.int (p3 &&& (3 : Int32))), .val (.ref b11), .val (.int (1 : Int32)), .val (.int (own_eqv p1 p1)), .val (.int (own_eqv p1 p1))] [(.int (own_eqv p1 p1))]))
          by_cases c125_3 : (own_eqv p1 p1) = (0 : Int32)
          · refine A (XS.ifYes X14.here hx rfl (pc0 := 125) (pc' := 132) rfl (hb hby at_125) rfl ((if0 _ _).trans (teq c125_3).1) (by decide) (by decide)) ?_
            show D (T14.setTop (mkF m 132 #[.val (.long p1), .second, .val (.long p2), .second, .val (.int p3), .val (.ref b1), .val (.int (p3 &&& (3 : Int32))), .val (.ref b11), .val (.int (1 : Int32)), .val (.int (own_eqv p1 p1)), .val (.int (own_eqv p1 p1))] []))
            refine A (XS.iconst X14.here hx rfl (hb hby at_132)) ?_
            show D (T14.setTop (mkF m 133 #[.val (.long p1), .second, .val (.long p2), .second, .val (.int p3), .val (.ref b1), .val (.int (p3 &&& (3 : Int32))), .val (.ref b11), .val (.int (1 : Int32)), .val (.int (own_eqv p1 p1)), .val (.int (own_eqv p1 p1))] [(.int (0 : Int32))]))
            exact Km133_15 _ (((if_pos c120_2)).trans (if_pos c125_3)).symm
          · refine A (XS.ifNo X14.here hx rfl (hb hby at_125) rfl ((if0 _ _).trans (feq c125_3).1)) ?_
            show D (T14.setTop (mkF m 128 #[.val (.long p1), .second, .val (.long p2), .second, .val (.int p3), .val (.ref b1), .val (.int (p3 &&& (3 : Int32))), .val (.ref b11), .val (.int (1 : Int32)), .val (.int (own_eqv p1 p1)), .val (.int (own_eqv p1 p1))] []))
            refine A (XS.iconst X14.here hx rfl (hb hby at_128)) ?_
            show D (T14.setTop (mkF m 129 #[.val (.long p1), .second, .val (.long p2), .second, .val (.int p3), .val (.ref b1), .val (.int (p3 &&& (3 : Int32))), .val (.ref b11), .val (.int (1 : Int32)), .val (.int (own_eqv p1 p1)), .val (.int (own_eqv p1 p1))] [(.int (1 : Int32))]))
            refine A (XS.goto X14.here hx rfl (pc0 := 129) (pc' := 133) rfl (hb hby at_129) (by decide) (by decide)) ?_
            show D (T14.setTop (mkF m 133 #[.val (.long p1), .second, .val (.long p2), .second, .val (.int p3), .val (.ref b1), .val (.int (p3 &&& (3 : Int32))), .val (.ref b11), .val (.int (1 : Int32)), .val (.int (own_eqv p1 p1)), .val (.int (own_eqv p1 p1))] [(.int (1 : Int32))]))
            exact Km133_15 _ (((if_pos c120_2)).trans (if_neg c125_3)).symm
        · refine A (XS.icmpYes X14.here hx rfl (pc0 := 120) (pc' := 132) rfl (hb hby at_120) rfl (feq c120_2).2 (by decide) (by decide)) ?_
          show D (T14.setTop (mkF m 132 #[.val (.long p1), .second, .val (.long p2), .second, .val (.int p3), .val (.ref b1), .val (.int (p3 &&& (3 : Int32))), .val (.ref b11), .val (.int (1 : Int32)), .val (.int (own_eqv p1 p1)), .val (.int (own_eqv p1 p1))] []))
          refine A (XS.iconst X14.here hx rfl (hb hby at_132)) ?_
          show D (T14.setTop (mkF m 133 #[.val (.long p1), .second, .val (.long p2), .second, .val (.int p3), .val (.ref b1), .val (.int (p3 &&& (3 : Int32))), .val (.ref b11), .val (.int (1 : Int32)), .val (.int (own_eqv p1 p1)), .val (.int (own_eqv p1 p1))] [(.int (0 : Int32))]))
          exact Km133_15 _ ((if_neg c120_2)).symm
      intro v133s0a hv133s0a
      show D (T14.setTop (mkF m 133 #[.val (.long p1), .second, .val (.long p2), .second, .val (.int p3), .val (.ref b1), .val (.int (p3 &&& (3 : Int32))), .val (.ref b11), .val (.int (1 : Int32)), .val (.int (own_eqv p1 p1)), .val (.int (own_eqv p1 p1))] [(.int v133s0a)]))
      obtain rfl : v133s0a = (1 : Int32) := by
        rw [hv133s0a, own_r]
        decide
      show D (T14.setTop (mkF m 133 #[.val (.long p1), .second, .val (.long p2), .second, .val (.int p3), .val (.ref b1), .val (.int (p3 &&& (3 : Int32))), .val (.ref b11), .val (.int (1 : Int32)), .val (.int (own_eqv p1 p1)), .val (.int (own_eqv p1 p1))] [(.int (1 : Int32))]))
      exact F _ (Jvm.JW.ret X14 hlk (v := some (.int (1 : Int32))) (fun h => by rw [hrt] at h; cases h) (fun fs hr => retOut X14 hx hrt rfl (Or.inl ⟨rfl, Or.inr (Or.inl rfl), _, rfl⟩) (hb hby at_133) hr) rfl ⟨rfl, N14⟩ (by decide) (by decide))
    · refine A (XS.icmpYes X2.here hx rfl (pc0 := 50) (pc' := 69) rfl (hb hby at_50) rfl (feq c50_10).2 (by decide) (by decide)) ?_
      show D (T2.setTop (mkF m 69 #[.val (.long p1), .second, .val (.long p2), .second, .val (.int p3), .val (.ref b1), .val (.int (p3 &&& (3 : Int32))), .unset, .unset, .unset, .unset] []))
      refine A (XS.iload X2.here hx rfl (hb hby at_69) rfl) ?_
      show D (T2.setTop (mkF m 71 #[.val (.long p1), .second, .val (.long p2), .second, .val (.int p3), .val (.ref b1), .val (.int (p3 &&& (3 : Int32))), .unset, .unset, .unset, .unset] [(.int (p3 &&& (3 : Int32)))]))
      refine A (XS.iconst X2.here hx rfl (hb hby at_71)) ?_
      show D (T2.setTop (mkF m 72 #[.val (.long p1), .second, .val (.long p2), .second, .val (.int p3), .val (.ref b1), .val (.int (p3 &&& (3 : Int32))), .unset, .unset, .unset, .unset] [(.int (2 : Int32)), (.int (p3 &&& (3 : Int32)))]))
      by_cases c72_16 : (p3 &&& (3 : Int32)) = (2 : Int32)
      · refine A (XS.icmpNo X2.here hx rfl (hb hby at_72) rfl (teq c72_16).2) ?_
        show D (T2.setTop (mkF m 75 #[.val (.long p1), .second, .val (.long p2), .second, .val (.int p3), .val (.ref b1), .val (.int (p3 &&& (3 : Int32))), .unset, .unset, .unset, .unset] []))
        obtain ⟨T17, h17, X17, e17, E17, A17, D17, -, st17⟩ := newO X2 hx hZ hown (hw _ (List.mem_of_getElem? (i := 18) rfl)) (hw _ (List.mem_of_getElem? (i := 19) rfl)) (hw _ (List.mem_of_getElem? (i := 20) rfl)) rfl (g := (mkF m 75 #[.val (.long p1), .second, .val (.long p2), .second, .val (.int p3), .val (.ref b1), .val (.int (p3 &&& (3 : Int32))), .unset, .unset, .unset, .unset] [])) rfl (hb hby at_75) (by decide) (by decide)
        obtain ⟨b17, q_b17⟩ : ∃ z, z = T2.heap.size := ⟨_, rfl⟩
        rw [← q_b17] at A17 D17 st17
        have ne_b1_b17 : b1 ≠ b17 := Nat.ne_of_lt (Nat.lt_of_lt_of_le E_b1_2.lt (Nat.le_of_eq q_b17.symm))
        have g_b17 : n0 ≤ b17 := Nat.le_trans Z_2 (Nat.le_of_eq q_b17.symm)
        have E_b1_17 := E_b1_2.ext E17
        have F_value_b1_17 := F2_l.ext E17
        have Z_17 : n0 ≤ h17.size := Nat.le_trans Z_2 E17.1
        have F_value_b17 : Fld Z h17 b17 "com/example/stringified_tags/stringifiedtags/IntTag" "value" "I" (.int (0 : Int32)) := D17 (Or.inr (hw _ (List.mem_of_getElem? (i := 26) rfl))) (ty := .int) (by decide)
        refine A (st17 _) ?_
        show D (T17.setTop (mkF m 78 #[.val (.long p1), .second, .val (.long p2), .second, .val (.int p3), .val (.ref b1), .val (.int (p3 &&& (3 : Int32))), .unset, .unset, .unset, .unset] [(.ref b17)]))
        refine A (XS.dup X17.here hx rfl (hb hby at_78) rfl rfl) ?_
        show D (T17.setTop (mkF m 79 #[.val (.long p1), .second, .val (.long p2), .second, .val (.int p3), .val (.ref b1), .val (.int (p3 &&& (3 : Int32))), .unset, .unset, .unset, .unset] [(.ref b17), (.ref b17)]))
        refine A (XS.lloadN X17.here hx rfl (hb hby at_79) rfl) ?_
        show D (T17.setTop (mkF m 80 #[.val (.long p1), .second, .val (.long p2), .second, .val (.int p3), .val (.ref b1), .val (.int (p3 &&& (3 : Int32))), .unset, .unset, .unset, .unset] [(.long p1), (.ref b17), (.ref b17)]))
        refine A (XS.l2i X17.here hx rfl (hb hby at_80) rfl) ?_
        show D (T17.setTop (mkF m 81 #[.val (.long p1), .second, .val (.long p2), .second, .val (.int p3), .val (.ref b1), .val (.int (p3 &&& (3 : Int32))), .unset, .unset, .unset, .unset] [(.int (p1.toInt32)), (.ref b17), (.ref b17)]))
        refine Adv.callI A X17 hx hZ hown rfl (hw _ (List.mem_of_getElem? (i := 21) rfl)) (hw _ (List.mem_of_getElem? (i := 22) rfl)) (hw _ (List.mem_of_getElem? (i := 20) rfl)) (hw _ (List.mem_of_getElem? (i := 23) rfl)) e17 (rm4 l Z a0 hw [] b17 (p1.toInt32) h17 n0 Z_17 g_b17 A17 F_value_b17) 1 (g := (mkF m 81 #[.val (.long p1), .second, .val (.long p2), .second, .val (.int p3), .val (.ref b1), .val (.int (p3 &&& (3 : Int32))), .unset, .unset, .unset, .unset] [(.int (p1.toInt32)), (.ref b17), (.ref b17)])) rfl (by rw [hml]; rfl) b17 [(.int (p1.toInt32))] [(.ref b17)] rfl (lenOf pd0_2 rfl) rfl (by show 2 * 0 + _ ≤ _; exact Nat.le_of_eq rfl) (hb hby at_81) (by decide) (by decide) (by decide) (by decide) (by decide) ?_
        rintro T18 L18 _ X18 ⟨rfl, N18_q, K18, -, F18_l⟩
        have N18 := Fr.app N2 N18_q
        have E_b1_18 := E_b1_17.keep K18
        have F_value_b1_18 := F_value_b1_17.keep K18 (ninS ne_b1_b17 nin0)
        have E_b17_18 := A17.keep K18
        have Z_18 : n0 ≤ T18.heap.size := Nat.le_trans Z_17 K18.1
        show D (T18.setTop (mkF m 84 #[.val (.long p1), .second, .val (.long p2), .second, .val (.int p3), .val (.ref b1), .val (.int (p3 &&& (3 : Int32))), .unset, .unset, .unset, .unset] [(.ref b17)]))
        refine A (XS.astore X18.here hx rfl (hb hby at_84) rfl rfl (l' := #[.val (.long p1), .second, .val (.long p2), .second, .val (.int p3), .val (.ref b1), .val (.int (p3 &&& (3 : Int32))), .val (.ref b17), .unset, .unset, .unset]) rfl) ?_
        show D (T18.setTop (mkF m 86 #[.val (.long p1), .second, .val (.long p2), .second, .val (.int p3), .val (.ref b1), .val (.int (p3 &&& (3 : Int32))), .val (.ref b17), .unset, .unset, .unset] []))
        refine A (XS.iconst X18.here hx rfl (hb hby at_86)) ?_
        show D (T18.setTop (mkF m 87 #[.val (.long p1), .second, .val (.long p2), .second, .val (.int p3), .val (.ref b1), .val (.int (p3 &&& (3 : Int32))), .val (.ref b17), .unset, .unset, .unset] [(.int (0 : Int32))]))
        refine A (XS.istore X18.here hx rfl (hb hby at_87) rfl (l' := #[.val (.long p1), .second, .val (.long p2), .second, .val (.int p3), .val (.ref b1), .val (.int (p3 &&& (3 : Int32))), .val (.ref b17), .val (.int (0 : Int32)), .unset, .unset]) rfl) ?_
        show D (T18.setTop (mkF m 89 #[.val (.long p1), .second, .val (.long p2), .second, .val (.int p3), .val (.ref b1), .val (.int (p3 &&& (3 : Int32))), .val (.ref b17), .val (.int (0 : Int32)), .unset, .unset] []))
        refine A (XS.goto X18.here hx rfl (pc0 := 89) (pc' := 98) rfl (hb hby at_89) (by decide) (by decide)) ?_
        show D (T18.setTop (mkF m 98 #[.val (.long p1), .second, .val (.long p2), .second, .val (.int p3), .val (.ref b1), .val (.int (p3 &&& (3 : Int32))), .val (.ref b17), .val (.int (0 : Int32)), .unset, .unset] []))
        refine A (XS.aload X18.here hx rfl (hb hby at_98) rfl rfl) ?_
        show D (T18.setTop (mkF m 100 #[.val (.long p1), .second, .val (.long p2), .second, .val (.int p3), .val (.ref b1), .val (.int (p3 &&& (3 : Int32))), .val (.ref b17), .val (.int (0 : Int32)), .unset, .unset] [(.ref b1)]))
        refine A (XS.aload X18.here hx rfl (hb hby at_100) rfl rfl) ?_
        show D (T18.setTop (mkF m 102 #[.val (.long p1), .second, .val (.long p2), .second, .val (.int p3), .val (.ref b1), .val (.int (p3 &&& (3 : Int32))), .val (.ref b17), .val (.int (0 : Int32)), .unset, .unset] [(.ref b17), (.ref b1)]))
        refine Adv.callV A X18 hx hZ hown (hw _ (List.mem_of_getElem? (i := 11) rfl)) (hw _ (List.mem_of_getElem? (i := 12) rfl)) (notFace_of_selects (args := #[]) (mvT hZ (hw _ (List.mem_of_getElem? (i := 14) rfl)))) (hw _ (List.mem_of_getElem? (i := 14) rfl)) (hw _ (List.mem_of_getElem? (i := 13) rfl)) (hw _ (List.mem_of_getElem? (i := 2) rfl)) (hw _ (List.mem_of_getElem? (i := 15) rfl)) rfl E_b1_18 (rm3I l Z a0 hw [] b1 b17 T18.heap n0 p1 F_value_b1_18 E_b17_18) 0 (g := (mkF m 102 #[.val (.long p1), .second, .val (.long p2), .second, .val (.int p3), .val (.ref b1), .val (.int (p3 &&& (3 : Int32))), .val (.ref b17), .val (.int (0 : Int32)), .unset, .unset] [(.ref b17), (.ref b1)])) rfl (by rw [hml]; rfl) [(.ref b17)] [] rfl (lenOf pd0_1 rfl) rfl (by show 2 * 0 + _ ≤ _; exact Nat.le_of_eq rfl) (hb hby at_102) (by decide) (by decide) (by decide) (by decide) (by decide) ?_
        rintro T19 L19 _ X19 ⟨rfl, N19_q, e19⟩
        have N19 := Fr.app N18 N19_q
        show D (T19.setTop (mkF m 105 #[.val (.long p1), .second, .val (.long p2), .second, .val (.int p3), .val (.ref b1), .val (.int (p3 &&& (3 : Int32))), .val (.ref b17), .val (.int (0 : Int32)), .unset, .unset] [(.int (0 : Int32))]))
        refine A (XS.istore X19.here hx rfl (hb hby at_105) rfl (l' := #[.val (.long p1), .second, .val (.long p2), .second, .val (.int p3), .val (.ref b1), .val (.int (p3 &&& (3 : Int32))), .val (.ref b17), .val (.int (0 : Int32)), .val (.int (0 : Int32)), .unset]) rfl) ?_
        show D (T19.setTop (mkF m 107 #[.val (.long p1), .second, .val (.long p2), .second, .val (.int p3), .val (.ref b1), .val (.int (p3 &&& (3 : Int32))), .val (.ref b17), .val (.int (0 : Int32)), .val (.int (0 : Int32)), .unset] []))
        refine A (XS.aload X19.here hx rfl (hb hby at_107) rfl rfl) ?_
        show D (T19.setTop (mkF m 109 #[.val (.long p1), .second, .val (.long p2), .second, .val (.int p3), .val (.ref b1), .val (.int (p3 &&& (3 : Int32))), .val (.ref b17), .val (.int (0 : Int32)), .val (.int (0 : Int32)), .unset] [(.ref b1)]))
        refine A (XS.aload X19.here hx rfl (hb hby at_109) rfl rfl) ?_
        show D (T19.setTop (mkF m 111 #[.val (.long p1), .second, .val (.long p2), .second, .val (.int p3), .val (.ref b1), .val (.int (p3 &&& (3 : Int32))), .val (.ref b17), .val (.int (0 : Int32)), .val (.int (0 : Int32)), .unset] [(.ref b1), (.ref b1)]))
        refine Adv.callV A X19 hx hZ hown (hw _ (List.mem_of_getElem? (i := 11) rfl)) (hw _ (List.mem_of_getElem? (i := 12) rfl)) (notFace_of_selects (args := #[]) (mvT hZ (hw _ (List.mem_of_getElem? (i := 14) rfl)))) (hw _ (List.mem_of_getElem? (i := 14) rfl)) (hw _ (List.mem_of_getElem? (i := 13) rfl)) (hw _ (List.mem_of_getElem? (i := 2) rfl)) (hw _ (List.mem_of_getElem? (i := 15) rfl)) e19 E_b1_18 (rm3L l Z a0 hw [] b1 b1 T18.heap n0 p1 p1 F_value_b1_18 E_b1_18 F_value_b1_18) 0 (g := (mkF m 111 #[.val (.long p1), .second, .val (.long p2), .second, .val (.int p3), .val (.ref b1), .val (.int (p3 &&& (3 : Int32))), .val (.ref b17), .val (.int (0 : Int32)), .val (.int (0 : Int32)), .unset] [(.ref b1), (.ref b1)])) rfl (by rw [hml]; rfl) [(.ref b1)] [] rfl (lenOf pd0_1 rfl) rfl (by show 2 * 0 + _ ≤ _; exact Nat.le_of_eq rfl) (hb hby at_111) (by decide) (by decide) (by decide) (by decide) (by decide) ?_
        rintro T20 L20 _ X20 ⟨rfl, N20_q, e20⟩
        have N20 := Fr.app N19 N20_q
        show D (T20.setTop (mkF m 114 #[.val (.long p1), .second, .val (.long p2), .second, .val (.int p3), .val (.ref b1), .val (.int (p3 &&& (3 : Int32))), .val (.ref b17), .val (.int (0 : Int32)), .val (.int (0 : Int32)), .unset] [(.int (own_eqv p1 p1))]))
        refine A (XS.istore X20.here hx rfl (hb hby at_114) rfl (l' := #[.val (.long p1), .second, .val (.long p2), .second, .val (.int p3), .val (.ref b1), .val (.int (p3 &&& (3 : Int32))), .val (.ref b17), .val (.int (0 : Int32)), .val (.int (0 : Int32)), .val (.int (own_eqv p1 p1))]) rfl) ?_
        show D (T20.setTop (mkF m 116 #[.val (.long p1), .second, .val (.long p2), .second, .val (.int p3), .val (.ref b1), .val (.int (p3 &&& (3 : Int32))), .val (.ref b17), .val (.int (0 : Int32)), .val (.int (0 : Int32)), .val (.int (own_eqv p1 p1))] []))
        refine A (XS.iload X20.here hx rfl (hb hby at_116) rfl) ?_
        show D (T20.setTop (mkF m 118 #[.val (.long p1), .second, .val (.long p2), .second, .val (.int p3), .val (.ref b1), .val (.int (p3 &&& (3 : Int32))), .val (.ref b17), .val (.int (0 : Int32)), .val (.int (0 : Int32)), .val (.int (own_eqv p1 p1))] [(.int (0 : Int32))]))
        refine A (XS.iload X20.here hx rfl (hb hby at_118) rfl) ?_
        show D (T20.setTop (mkF m 120 #[.val (.long p1), .second, .val (.long p2), .second, .val (.int p3), .val (.ref b1), .val (.int (p3 &&& (3 : Int32))), .val (.ref b17), .val (.int (0 : Int32)), .val (.int (0 : Int32)), .val (.int (own_eqv p1 p1))] [(.int (0 : Int32)), (.int (0 : Int32))]))
        refine A (XS.icmpNo X20.here hx rfl (hb hby at_120) rfl (teq (by decide : (0 : Int32) = (0 : Int32))).2) ?_
        show D (T20.setTop (mkF m 123 #[.val (.long p1), .second, .val (.long p2), .second, .val (.int p3), .val (.ref b1), .val (.int (p3 &&& (3 : Int32))), .val (.ref b17), .val (.int (0 : Int32)), .val (.int (0 : Int32)), .val (.int (own_eqv p1 p1))] []))
        refine A (XS.iload X20.here hx rfl (hb hby at_123) rfl) ?_
        show D (T20.setTop (mkF m 125 #[.val (.long p1), .second, .val (.long p2), .second, .val (.int p3), .val (.ref b1), .val (.int (p3 &&& (3 : Int32))), .val (.ref b17), .val (.int (0 : Int32)), .val (.int (0 : Int32)), .val (.int (own_eqv p1 p1))] [(.int (own_eqv p1 p1))]))
        suffices Km133_21 : ∀ (v133s0aa : Int32), v133s0aa = (if (own_eqv p1 p1) = (0 : Int32) then (0 : Int32) else (1 : Int32)) → D (T20.setTop (mkF m 133 #[.val (.long p1), .second, .val (.long p2), .second, .val (.int p3), .val (.ref b1), .val (.int (p3 &&& (3 : Int32))), .val (.ref b17), .val (.int (0 : Int32)), .val (.int (0 : Int32)), .val (.int (own_eqv p1 p1))] [(.int v133s0aa)])) by
          by_cases c125_3 : (own_eqv p1 p1) = (0 : Int32)
          · refine A (XS.ifYes X20.here hx rfl (pc0 := 125) (pc' := 132) rfl (hb hby at_125) rfl ((if0 _ _).trans (teq c125_3).1) (by decide) (by decide)) ?_
            show D (T20.setTop (mkF m 132 #[.val (.long p1), .second, .val (.long p2), .second, .val (.int p3), .val (.ref b1), .val (.int (p3 &&& (3 : Int32))), .val (.ref b17), .val (.int (0 : Int32)), .val (.int (0 : Int32)), .val (.int (own_eqv p1 p1))] []))
            refine A (XS.iconst X20.here hx rfl (hb hby at_132)) ?_
            show D (T20.setTop (mkF m 133 #[.val (.long p1), .second, .val (.long p2), .second, .val (.int p3), .val (.ref b1), .val (.int (p3 &&& (3 : Int32))), .val (.ref b17), .val (.int (0 : Int32)), .val (.int (0 : Int32)), .val (.int (own_eqv p1 p1))] [(.int (0 : Int32))]))
            exact Km133_21 _ ((if_pos c125_3)).symm
          · refine A (XS.ifNo X20.here hx rfl (hb hby at_125) rfl ((if0 _ _).trans (feq c125_3).1)) ?_
            show D (T20.setTop (mkF m 128 #[.val (.long p1), .second, .val (.long p2), .second, .val (.int p3), .val (.ref b1), .val (.int (p3 &&& (3 : Int32))), .val (.ref b17), .val (.int (0 : Int32)), .val (.int (0 : Int32)), .val (.int (own_eqv p1 p1))] []))
            refine A (XS.iconst X20.here hx rfl (hb hby at_128)) ?_
            show D (T20.setTop (mkF m 129 #[.val (.long p1), .second, .val (.long p2), .second, .val (.int p3), .val (.ref b1), .val (.int (p3 &&& (3 : Int32))), .val (.ref b17), .val (.int (0 : Int32)), .val (.int (0 : Int32)), .val (.int (own_eqv p1 p1))] [(.int (1 : Int32))]))
            refine A (XS.goto X20.here hx rfl (pc0 := 129) (pc' := 133) rfl (hb hby at_129) (by decide) (by decide)) ?_
            show D (T20.setTop (mkF m 133 #[.val (.long p1), .second, .val (.long p2), .second, .val (.int p3), .val (.ref b1), .val (.int (p3 &&& (3 : Int32))), .val (.ref b17), .val (.int (0 : Int32)), .val (.int (0 : Int32)), .val (.int (own_eqv p1 p1))] [(.int (1 : Int32))]))
            exact Km133_21 _ ((if_neg c125_3)).symm
        intro v133s0aa hv133s0aa
        show D (T20.setTop (mkF m 133 #[.val (.long p1), .second, .val (.long p2), .second, .val (.int p3), .val (.ref b1), .val (.int (p3 &&& (3 : Int32))), .val (.ref b17), .val (.int (0 : Int32)), .val (.int (0 : Int32)), .val (.int (own_eqv p1 p1))] [(.int v133s0aa)]))
        obtain rfl : v133s0aa = (1 : Int32) := by
          rw [hv133s0aa, own_r]
          decide
        show D (T20.setTop (mkF m 133 #[.val (.long p1), .second, .val (.long p2), .second, .val (.int p3), .val (.ref b1), .val (.int (p3 &&& (3 : Int32))), .val (.ref b17), .val (.int (0 : Int32)), .val (.int (0 : Int32)), .val (.int (own_eqv p1 p1))] [(.int (1 : Int32))]))
        exact F _ (Jvm.JW.ret X20 hlk (v := some (.int (1 : Int32))) (fun h => by rw [hrt] at h; cases h) (fun fs hr => retOut X20 hx hrt rfl (Or.inl ⟨rfl, Or.inr (Or.inl rfl), _, rfl⟩) (hb hby at_133) hr) rfl ⟨rfl, N20⟩ (by decide) (by decide))
      · refine A (XS.icmpYes X2.here hx rfl (pc0 := 72) (pc' := 92) rfl (hb hby at_72) rfl (feq c72_16).2 (by decide) (by decide)) ?_
        show D (T2.setTop (mkF m 92 #[.val (.long p1), .second, .val (.long p2), .second, .val (.int p3), .val (.ref b1), .val (.int (p3 &&& (3 : Int32))), .unset, .unset, .unset, .unset] []))
        refine A (XS.aconstNull X2.here hx rfl (hb hby at_92)) ?_
        show D (T2.setTop (mkF m 93 #[.val (.long p1), .second, .val (.long p2), .second, .val (.int p3), .val (.ref b1), .val (.int (p3 &&& (3 : Int32))), .unset, .unset, .unset, .unset] [.null]))
        refine A (XS.astore X2.here hx rfl (hb hby at_93) rfl rfl (l' := #[.val (.long p1), .second, .val (.long p2), .second, .val (.int p3), .val (.ref b1), .val (.int (p3 &&& (3 : Int32))), .val .null, .unset, .unset, .unset]) rfl) ?_
        show D (T2.setTop (mkF m 95 #[.val (.long p1), .second, .val (.long p2), .second, .val (.int p3), .val (.ref b1), .val (.int (p3 &&& (3 : Int32))), .val .null, .unset, .unset, .unset] []))
        refine A (XS.iconst X2.here hx rfl (hb hby at_95)) ?_
        show D (T2.setTop (mkF m 96 #[.val (.long p1), .second, .val (.long p2), .second, .val (.int p3), .val (.ref b1), .val (.int (p3 &&& (3 : Int32))), .val .null, .unset, .unset, .unset] [(.int (0 : Int32))]))
        refine A (XS.istore X2.here hx rfl (hb hby at_96) rfl (l' := #[.val (.long p1), .second, .val (.long p2), .second, .val (.int p3), .val (.ref b1), .val (.int (p3 &&& (3 : Int32))), .val .null, .val (.int (0 : Int32)), .unset, .unset]) rfl) ?_
        show D (T2.setTop (mkF m 98 #[.val (.long p1), .second, .val (.long p2), .second, .val (.int p3), .val (.ref b1), .val (.int (p3 &&& (3 : Int32))), .val .null, .val (.int (0 : Int32)), .unset, .unset] []))
        refine A (XS.aload X2.here hx rfl (hb hby at_98) rfl rfl) ?_
        show D (T2.setTop (mkF m 100 #[.val (.long p1), .second, .val (.long p2), .second, .val (.int p3), .val (.ref b1), .val (.int (p3 &&& (3 : Int32))), .val .null, .val (.int (0 : Int32)), .unset, .unset] [(.ref b1)]))
        refine A (XS.aload X2.here hx rfl (hb hby at_100) rfl rfl) ?_
        show D (T2.setTop (mkF m 102 #[.val (.long p1), .second, .val (.long p2), .second, .val (.int p3), .val (.ref b1), .val (.int (p3 &&& (3 : Int32))), .val .null, .val (.int (0 : Int32)), .unset, .unset] [.null, (.ref b1)]))
        refine Adv.callV A X2 hx hZ hown (hw _ (List.mem_of_getElem? (i := 11) rfl)) (hw _ (List.mem_of_getElem? (i := 12) rfl)) (notFace_of_selects (args := #[]) (mvT hZ (hw _ (List.mem_of_getElem? (i := 14) rfl)))) (hw _ (List.mem_of_getElem? (i := 14) rfl)) (hw _ (List.mem_of_getElem? (i := 13) rfl)) (hw _ (List.mem_of_getElem? (i := 2) rfl)) (hw _ (List.mem_of_getElem? (i := 15) rfl)) rfl E_b1_2 (rm3N l Z a0 hw [] b1 T2.heap n0 p1 F2_l) 0 (g := (mkF m 102 #[.val (.long p1), .second, .val (.long p2), .second, .val (.int p3), .val (.ref b1), .val (.int (p3 &&& (3 : Int32))), .val .null, .val (.int (0 : Int32)), .unset, .unset] [.null, (.ref b1)])) rfl (by rw [hml]; rfl) [.null] [] rfl (lenOf pd0_1 rfl) rfl (by show 2 * 0 + _ ≤ _; exact Nat.le_of_eq rfl) (hb hby at_102) (by decide) (by decide) (by decide) (by decide) (by decide) ?_
        rintro T22 L22 _ X22 ⟨rfl, N22_q, e22⟩
        have N22 := Fr.app N2 N22_q
        show D (T22.setTop (mkF m 105 #[.val (.long p1), .second, .val (.long p2), .second, .val (.int p3), .val (.ref b1), .val (.int (p3 &&& (3 : Int32))), .val .null, .val (.int (0 : Int32)), .unset, .unset] [(.int (0 : Int32))]))
        refine A (XS.istore X22.here hx rfl (hb hby at_105) rfl (l' := #[.val (.long p1), .second, .val (.long p2), .second, .val (.int p3), .val (.ref b1), .val (.int (p3 &&& (3 : Int32))), .val .null, .val (.int (0 : Int32)), .val (.int (0 : Int32)), .unset]) rfl) ?_
        show D (T22.setTop (mkF m 107 #[.val (.long p1), .second, .val (.long p2), .second, .val (.int p3), .val (.ref b1), .val (.int (p3 &&& (3 : Int32))), .val .null, .val (.int (0 : Int32)), .val (.int (0 : Int32)), .unset] []))
        refine A (XS.aload X22.here hx rfl (hb hby at_107) rfl rfl) ?_
        show D (T22.setTop (mkF m 109 #[.val (.long p1), .second, .val (.long p2), .second, .val (.int p3), .val (.ref b1), .val (.int (p3 &&& (3 : Int32))), .val .null, .val (.int (0 : Int32)), .val (.int (0 : Int32)), .unset] [(.ref b1)]))
        refine A (XS.aload X22.here hx rfl (hb hby at_109) rfl rfl) ?_
        show D (T22.setTop (mkF m 111 #[.val (.long p1), .second, .val (.long p2), .second, .val (.int p3), .val (.ref b1), .val (.int (p3 &&& (3 : Int32))), .val .null, .val (.int (0 : Int32)), .val (.int (0 : Int32)), .unset] [(.ref b1), (.ref b1)]))
        refine Adv.callV A X22 hx hZ hown (hw _ (List.mem_of_getElem? (i := 11) rfl)) (hw _ (List.mem_of_getElem? (i := 12) rfl)) (notFace_of_selects (args := #[]) (mvT hZ (hw _ (List.mem_of_getElem? (i := 14) rfl)))) (hw _ (List.mem_of_getElem? (i := 14) rfl)) (hw _ (List.mem_of_getElem? (i := 13) rfl)) (hw _ (List.mem_of_getElem? (i := 2) rfl)) (hw _ (List.mem_of_getElem? (i := 15) rfl)) e22 E_b1_2 (rm3L l Z a0 hw [] b1 b1 T2.heap n0 p1 p1 F2_l E_b1_2 F2_l) 0 (g := (mkF m 111 #[.val (.long p1), .second, .val (.long p2), .second, .val (.int p3), .val (.ref b1), .val (.int (p3 &&& (3 : Int32))), .val .null, .val (.int (0 : Int32)), .val (.int (0 : Int32)), .unset] [(.ref b1), (.ref b1)])) rfl (by rw [hml]; rfl) [(.ref b1)] [] rfl (lenOf pd0_1 rfl) rfl (by show 2 * 0 + _ ≤ _; exact Nat.le_of_eq rfl) (hb hby at_111) (by decide) (by decide) (by decide) (by decide) (by decide) ?_
        rintro T23 L23 _ X23 ⟨rfl, N23_q, e23⟩
        have N23 := Fr.app N22 N23_q
        show D (T23.setTop (mkF m 114 #[.val (.long p1), .second, .val (.long p2), .second, .val (.int p3), .val (.ref b1), .val (.int (p3 &&& (3 : Int32))), .val .null, .val (.int (0 : Int32)), .val (.int (0 : Int32)), .unset] [(.int (own_eqv p1 p1))]))
        refine A (XS.istore X23.here hx rfl (hb hby at_114) rfl (l' := #[.val (.long p1), .second, .val (.long p2), .second, .val (.int p3), .val (.ref b1), .val (.int (p3 &&& (3 : Int32))), .val .null, .val (.int (0 : Int32)), .val (.int (0 : Int32)), .val (.int (own_eqv p1 p1))]) rfl) ?_
        show D (T23.setTop (mkF m 116 #[.val (.long p1), .second, .val (.long p2), .second, .val (.int p3), .val (.ref b1), .val (.int (p3 &&& (3 : Int32))), .val .null, .val (.int (0 : Int32)), .val (.int (0 : Int32)), .val (.int (own_eqv p1 p1))] []))
        refine A (XS.iload X23.here hx rfl (hb hby at_116) rfl) ?_
        show D (T23.setTop (mkF m 118 #[.val (.long p1), .second, .val (.long p2), .second, .val (.int p3), .val (.ref b1), .val (.int (p3 &&& (3 : Int32))), .val .null, .val (.int (0 : Int32)), .val (.int (0 : Int32)), .val (.int (own_eqv p1 p1))] [(.int (0 : Int32))]))
        refine A (XS.iload X23.here hx rfl (hb hby at_118) rfl) ?_
        show D (T23.setTop (mkF m 120 #[.val (.long p1), .second, .val (.long p2), .second, .val (.int p3), .val (.ref b1), .val (.int (p3 &&& (3 : Int32))), .val .null, .val (.int (0 : Int32)), .val (.int (0 : Int32)), .val (.int (own_eqv p1 p1))] [(.int (0 : Int32)), (.int (0 : Int32))]))
        refine A (XS.icmpNo X23.here hx rfl (hb hby at_120) rfl (teq (by decide : (0 : Int32) = (0 : Int32))).2) ?_
        show D (T23.setTop (mkF m 123 #[.val (.long p1), .second, .val (.long p2), .second, .val (.int p3), .val (.ref b1), .val (.int (p3 &&& (3 : Int32))), .val .null, .val (.int (0 : Int32)), .val (.int (0 : Int32)), .val (.int (own_eqv p1 p1))] []))
        refine A (XS.iload X23.here hx rfl (hb hby at_123) rfl) ?_
        show D (T23.setTop (mkF m 125 #[.val (.long p1), .second, .val (.long p2), .second, .val (.int p3), .val (.ref b1), .val (.int (p3 &&& (3 : Int32))), .val .null, .val (.int (0 : Int32)), .val (.int (0 : Int32)), .val (.int (own_eqv p1 p1))] [(.int (own_eqv p1 p1))]))
        suffices Km133_24 : ∀ (v133s0aaa : Int32), v133s0aaa = (if (own_eqv p1 p1) = (0 : Int32) then (0 : Int32) else (1 : Int32)) → D (T23.setTop (mkF m 133 #[.val (.long p1), .second, .val (.long p2), .second, .val (.int p3), .val (.ref b1), .val (.int (p3 &&& (3 : Int32))), .val .null, .val (.int (0 : Int32)), .val (.int (0 : Int32)), .val (.int (own_eqv p1 p1))] [(.int v133s0aaa)])) by
          by_cases c125_3 : (own_eqv p1 p1) = (0 : Int32)
          · refine A (XS.ifYes X23.here hx rfl (pc0 := 125) (pc' := 132) rfl (hb hby at_125) rfl ((if0 _ _).trans (teq c125_3).1) (by decide) (by decide)) ?_
            show D (T23.setTop (mkF m 132 #[.val (.long p1), .second, .val (.long p2), .second, .val (.int p3), .val (.ref b1), .val (.int (p3 &&& (3 : Int32))), .val .null, .val (.int (0 : Int32)), .val (.int (0 : Int32)), .val (.int (own_eqv p1 p1))] []))
            refine A (XS.iconst X23.here hx rfl (hb hby at_132)) ?_
            show D (T23.setTop (mkF m 133 #[.val (.long p1), .second, .val (.long p2), .second, .val (.int p3), .val (.ref b1), .val (.int (p3 &&& (3 : Int32))), .val .null, .val (.int (0 : Int32)), .val (.int (0 : Int32)), .val (.int (own_eqv p1 p1))] [(.int (0 : Int32))]))
            exact Km133_24 _ ((if_pos c125_3)).symm
          · refine A (XS.ifNo X23.here hx rfl (hb hby at_125) rfl ((if0 _ _).trans (feq c125_3).1)) ?_
            show D (T23.setTop (mkF m 128 #[.val (.long p1), .second, .val (.long p2), .second, .val (.int p3), .val (.ref b1), .val (.int (p3 &&& (3 : Int32))), .val .null, .val (.int (0 : Int32)), .val (.int (0 : Int32)), .val (.int (own_eqv p1 p1))] []))
            refine A (XS.iconst X23.here hx rfl (hb hby at_128)) ?_
            show D (T23.setTop (mkF m 129 #[.val (.long p1), .second, .val (.long p2), .second, .val (.int p3), .val (.ref b1), .val (.int (p3 &&& (3 : Int32))), .val .null, .val (.int (0 : Int32)), .val (.int (0 : Int32)), .val (.int (own_eqv p1 p1))] [(.int (1 : Int32))]))
            refine A (XS.goto X23.here hx rfl (pc0 := 129) (pc' := 133) rfl (hb hby at_129) (by decide) (by decide)) ?_
            show D (T23.setTop (mkF m 133 #[.val (.long p1), .second, .val (.long p2), .second, .val (.int p3), .val (.ref b1), .val (.int (p3 &&& (3 : Int32))), .val .null, .val (.int (0 : Int32)), .val (.int (0 : Int32)), .val (.int (own_eqv p1 p1))] [(.int (1 : Int32))]))
            exact Km133_24 _ ((if_neg c125_3)).symm
        intro v133s0aaa hv133s0aaa
        show D (T23.setTop (mkF m 133 #[.val (.long p1), .second, .val (.long p2), .second, .val (.int p3), .val (.ref b1), .val (.int (p3 &&& (3 : Int32))), .val .null, .val (.int (0 : Int32)), .val (.int (0 : Int32)), .val (.int (own_eqv p1 p1))] [(.int v133s0aaa)]))
        obtain rfl : v133s0aaa = (1 : Int32) := by
          rw [hv133s0aaa, own_r]
          decide
        show D (T23.setTop (mkF m 133 #[.val (.long p1), .second, .val (.long p2), .second, .val (.int p3), .val (.ref b1), .val (.int (p3 &&& (3 : Int32))), .val .null, .val (.int (0 : Int32)), .val (.int (0 : Int32)), .val (.int (own_eqv p1 p1))] [(.int (1 : Int32))]))
        exact F _ (Jvm.JW.ret X23 hlk (v := some (.int (1 : Int32))) (fun h => by rw [hrt] at h; cases h) (fun fs hr => retOut X23 hx hrt rfl (Or.inl ⟨rfl, Or.inr (Or.inl rfl), _, rfl⟩) (hb hby at_133) hr) rfl ⟨rfl, N23⟩ (by decide) (by decide))
set_option maxRecDepth 65536 in
set_option maxHeartbeats 40000000 in
theorem comes_1 {Post : Tables → Env → Array Value → State → Outcome → State → Prop} (hpost : ∀ tb e args s v u, (limb_1_1.after args s (.returned v) u = true ∧ limb_1_2.after args s (.returned v) u = true ∧ True) → FrameEnd s (.returned v) u (Jvm.fieldLocs frame_1_writes args s ++ Jvm.arrayLocs frame_1_arrays args s ++ Jvm.staticLocs frame_1_statics s) 16 128 → Post tb e args s (.returned v) u) :
    ArmFor flags0 classFile x code maxLocals ret World_1 tables_1 room_1 Calls_1 rest_1 Pre_1 Post := by
  intro l hfl _ _ p e ha hc hk s m args below hf hA hF happ hP
  obtain ⟨hcalls, hrest, hpre⟩ := hP
  obtain ⟨-, -, -, hnamed, -, -, -, hat⟩ := (Spec.applies_iff hf).mp happ
  obtain ⟨hg, hn⟩ := and_e (Cond.before_iff.mp (show (Jvm.Cond.and given_1 narrow_1).before args s = true from hpre))
  obtain ⟨g0, g1⟩ := and_e hg
  obtain ⟨t1, g2⟩ := and_e g1
  obtain ⟨t2, g3⟩ := and_e g2
  obtain ⟨w0, w1, w2, rfl⟩ : ∃ w0 w1 w2 : Value, args = #[w0, w1, w2] := by
    have hs : args.size = 3 := by simpa [Cond.value, given_1] using g0
    obtain ⟨L⟩ := args
    match L, hs with
    | [w0, w1, w2], _ => exact ⟨w0, w1, w2, rfl⟩
  have hw := fun d (hd : d ∈ tables_1) => atoms_spec (ws := Jvm.Cond.code x code maxLocals ret :: tables_1) hat d (List.mem_cons_of_mem _ hd)
  obtain ⟨i0, q0⟩ := isL_v t1
  obtain rfl : w0 = (.long i0) := Option.some.inj q0
  obtain ⟨i1, q1⟩ := isL_v t2
  obtain rfl : w1 = (.long i1) := Option.some.inj q1
  obtain ⟨i2, q2⟩ := is_v g3
  obtain rfl : w2 = (.int i2) := Option.some.inj q2
  obtain ⟨n, o, h1, h2, h3, _, L, rfl, ⟨rfl, N⟩, hq⟩ := rm0 l s _ hw tables_1 i0 i1 i2 s.heap s.heap.size (Nat.le_refl _) p e ha hc hk s m _ below hf ((Spec.applies_iff_loose hf).mp happ).1 ⟨rfl, State.Warmed39.refl s, rfl⟩ trivial
  refine ⟨n, _, h1, h2, h3, hpost _ _ _ _ _ _ ⟨Cond.after_iff.mpr rfl, Cond.after_iff.mpr (eq_i res_at (Term.int_eval (1)) rfl), trivial⟩ ⟨hq.1, hq.2.1, (hq.2.2.sift fun y hy => Or.inr (N y hy)).mono (by decide) (by decide)⟩⟩
theorem main_1_1 : Claimed_1_1 := comes_1 fun _ _ _ _ _ _ h hF => ⟨h.1, hF⟩
theorem main_1_2 : Claimed_1_2 := comes_1 fun _ _ _ _ _ _ h hF => ⟨h.2.1, hF⟩
end Jvm.Pilot.@@N@@
namespace Jvm.Pilot.@@N@@
open Jvm Jvm.ClassFile Sem Op Lib Jvm.Free Jvm.Stand Jvm.Pilot.@@N@@.Jvm.D
/-! MADE BY PROGRAM (witnessworld.py) out of the Statement's table words and the real class files: 11 classes; the members and pool entries that the words name. The judged class is class 1, her method 1. -/
namespace start1
open Jvm.ClassFile
def u (s : String) : CpInfo := .utf8 (stringToUtf16 s)
/-- a pool by its gaps: so many unusable entries, then the entry; so many at the end -/
def gap : Nat → List CpInfo → List CpInfo
  | 0, r => r
  | n + 1, r => .unusable :: gap n r
def poolList (es : List (Nat × CpInfo)) (last : Nat) : List CpInfo := es.foldr (fun e r => gap e.1 (e.2 :: r)) (gap last [])
def pool (es : List (Nat × CpInfo)) (last : Nat) : Array CpInfo := ⟨poolList es last⟩
def fileOf (pool : Array CpInfo) (this : Nat) (attrs : Array Attribute := #[]) (ms : Array MethodInfo := #[]) (fl : Nat := 33) (sup : Nat := 0) (ifs : Array Nat := #[]) (fds : Array FieldInfo := #[]) : ClassFile where
  minorVersion := 0
  majorVersion := 65
  constantPool := pool
  accessFlags := fl
  thisClass := this
  superClass := sup
  interfaces := ifs
  fields := fds
  methods := ms
  attributes := attrs
def plain (name : String) (sup : Option ClassId) : Class where
  name := name
  kind := .ordinary
  loader := none
  accessFlags := 33
  super := sup
  interfaces := #[]
  cf := none
  fields := #[]
  methods := #[]
  instanceTypes := #[]
  staticTypes := #[]
  resolved := #[]
  callSites := []
  init := .initialized
  statics := none
  mirror := none

def pool0 : Array CpInfo := pool [(5, u "<init>"), (0, u "()V"), (1, .class_ 10), (1, u "java/lang/Object")] 113

def k0c0 : Code := { maxStack := 0, maxLocals := 1, code := object_method_1_code, exceptionTable := #[], attributes := #[] }
def k0m0 : Method := { name := "<init>", desc := "()V", sig := { parameters := [], returnType := none }, accessFlags := 1, code := some k0c0 }
/-- java/lang/Object -/
def k0 : Class := { plain "java/lang/Object" none with
  accessFlags := 33
  interfaces := #[]
  cf := some (fileOf pool0 8 #[] #[{ accessFlags := 1, nameIndex := 5, descriptorIndex := 6, attributes := #[] }] 33 0 #[] #[])
  fields := #[]
  methods := #[k0m0]
  instanceTypes := #[]
  staticTypes := #[]
  resolved := Array.replicate 124 none
  statics := none }

def pool1 : Array CpInfo := pool [(2, .class_ 4), (1, u "java/lang/Object"), (0, u "<init>"), (0, u "()V"), (0, .class_ 8), (0, u "com/example/stringified_tags/stringifiedtags/LongTag"), (0, .methodref 7 10), (0, .nameAndType 5 11), (0, u "(J)V"), (0, .class_ 13), (0, u "com/example/stringified_tags/stringifiedtags/IntTag"), (0, .methodref 12 15), (0, .nameAndType 5 16), (0, u "(I)V"), (0, .methodref 7 18), (0, .nameAndType 19 20), (0, u "equals"), (0, u "(Ljava/lang/Object;)Z"), (0, .class_ 22), (0, u "com/example/stringified_tags/stringifiedtags/LongTagEqualsPinLaw"), (2, u "law"), (0, u "(JJI)Z")] 3

def k1m0 : Method := { name := "<init>", desc := "()V", sig := { parameters := [], returnType := none }, accessFlags := 1, code := none }
def k1c1 : Code := { maxStack := 4, maxLocals := 11, code := code, exceptionTable := #[], attributes := #[] }
def k1m1 : Method := { name := "law", desc := "(JJI)Z", sig := { parameters := [.long, .long, .int], returnType := some .boolean }, accessFlags := 9, code := some k1c1 }
/-- com/example/stringified_tags/stringifiedtags/LongTagEqualsPinLaw -/
def k1 : Class := { plain "com/example/stringified_tags/stringifiedtags/LongTagEqualsPinLaw" (some 0) with
  accessFlags := 49
  interfaces := #[]
  cf := some (fileOf pool1 21 #[] #[{ accessFlags := 1, nameIndex := 5, descriptorIndex := 6, attributes := #[] }, { accessFlags := 9, nameIndex := 25, descriptorIndex := 26, attributes := #[] }] 49 2 #[] #[])
  fields := #[]
  methods := #[k1m0, k1m1]
  instanceTypes := #[]
  staticTypes := #[]
  resolved := Array.replicate 30 none
  statics := none }

def pool2 : Array CpInfo := pool [(1, .class_ 2), (0, u "com/example/stringified_tags/stringifiedtags/Tag"), (0, .class_ 4), (0, u "java/lang/Object")] 29

/-- com/example/stringified_tags/stringifiedtags/Tag -/
def k2 : Class := { plain "com/example/stringified_tags/stringifiedtags/Tag" (some 0) with
  accessFlags := 1537
  interfaces := #[]
  cf := some (fileOf pool2 1 #[] #[] 1537 3 #[] #[])
  fields := #[]
  methods := #[]
  instanceTypes := #[]
  staticTypes := #[]
  resolved := Array.replicate 34 none
  statics := none }

def pool3 : Array CpInfo := pool [(1, .methodref 2 3), (0, .class_ 4), (0, .nameAndType 5 6), (0, u "java/lang/Object"), (0, u "<init>"), (0, u "()V"), (0, .fieldref 8 9), (0, .class_ 10), (0, .nameAndType 11 12), (0, u "com/example/stringified_tags/stringifiedtags/LongTag"), (0, u "value"), (0, u "J"), (12, .class_ 26), (0, u "com/example/stringified_tags/stringifiedtags/Tag"), (0, u "(J)V"), (3, u "equals"), (0, u "(Ljava/lang/Object;)Z")] 6

def k3c0 : Code := { maxStack := 3, maxLocals := 3, code := prog_38_method_1_code, exceptionTable := #[], attributes := #[] }
def k3m0 : Method := { name := "<init>", desc := "(J)V", sig := { parameters := [.long], returnType := none }, accessFlags := 1, code := some k3c0 }
def k3c1 : Code := { maxStack := 4, maxLocals := 3, code := prog_38_method_3_code, exceptionTable := #[], attributes := #[] }
def k3m1 : Method := { name := "equals", desc := "(Ljava/lang/Object;)Z", sig := { parameters := [(.object "java/lang/Object")], returnType := some .boolean }, accessFlags := 1, code := some k3c1 }
/-- com/example/stringified_tags/stringifiedtags/LongTag -/
def k3 : Class := { plain "com/example/stringified_tags/stringifiedtags/LongTag" (some 0) with
  accessFlags := 49
  interfaces := #[2]
  cf := some (fileOf pool3 8 #[] #[{ accessFlags := 1, nameIndex := 5, descriptorIndex := 27, attributes := #[] }, { accessFlags := 1, nameIndex := 31, descriptorIndex := 32, attributes := #[] }] 49 2 #[25] #[{ accessFlags := 18, nameIndex := 11, descriptorIndex := 12, attributes := #[] }])
  fields := #[{ name := "value", type := .long, accessFlags := 18, slot := 0, constantValue := 0 }]
  methods := #[k3m0, k3m1]
  instanceTypes := #[.long]
  staticTypes := #[]
  resolved := Array.replicate 39 none
  statics := none }

def pool4 : Array CpInfo := pool [(1, .methodref 2 3), (0, .class_ 4), (0, .nameAndType 5 6), (0, u "java/lang/Object"), (0, u "<init>"), (0, u "()V"), (0, .fieldref 8 9), (0, .class_ 10), (0, .nameAndType 11 12), (0, u "com/example/stringified_tags/stringifiedtags/IntTag"), (0, u "value"), (0, u "I"), (12, .class_ 26), (0, u "com/example/stringified_tags/stringifiedtags/Tag"), (0, u "(I)V")] 10

def k4c0 : Code := { maxStack := 2, maxLocals := 2, code := prog_35_method_1_code, exceptionTable := #[], attributes := #[] }
def k4m0 : Method := { name := "<init>", desc := "(I)V", sig := { parameters := [.int], returnType := none }, accessFlags := 1, code := some k4c0 }
/-- com/example/stringified_tags/stringifiedtags/IntTag -/
def k4 : Class := { plain "com/example/stringified_tags/stringifiedtags/IntTag" (some 0) with
  accessFlags := 49
  interfaces := #[2]
  cf := some (fileOf pool4 8 #[] #[{ accessFlags := 1, nameIndex := 5, descriptorIndex := 27, attributes := #[] }] 49 2 #[25] #[{ accessFlags := 18, nameIndex := 11, descriptorIndex := 12, attributes := #[] }])
  fields := #[{ name := "value", type := .int, accessFlags := 18, slot := 0, constantValue := 0 }]
  methods := #[k4m0]
  instanceTypes := #[.int]
  staticTypes := #[]
  resolved := Array.replicate 38 none
  statics := none }

def pool5 : Array CpInfo := pool [(1, u "java/lang/Cloneable"), (0, .class_ 1), (0, u "java/lang/Object"), (0, .class_ 3)] 3

/-- java/lang/Cloneable -/
def k5 : Class := { plain "java/lang/Cloneable" (some 0) with
  accessFlags := 1537
  interfaces := #[]
  cf := some (fileOf pool5 2 #[] #[] 1537 4 #[] #[])
  fields := #[]
  methods := #[]
  instanceTypes := #[]
  staticTypes := #[]
  resolved := Array.replicate 8 none
  statics := none }

def pool6 : Array CpInfo := pool [(1, u "java/io/Serializable"), (0, .class_ 1), (0, u "java/lang/Object"), (0, .class_ 3)] 3

/-- java/io/Serializable -/
def k6 : Class := { plain "java/io/Serializable" (some 0) with
  accessFlags := 1537
  interfaces := #[]
  cf := some (fileOf pool6 2 #[] #[] 1537 4 #[] #[])
  fields := #[]
  methods := #[]
  instanceTypes := #[]
  staticTypes := #[]
  resolved := Array.replicate 8 none
  statics := none }

/-- the primitive byte -/
def k7 : Class := { plain "byte" none with kind := .primitive 'B', accessFlags := 0x411 }
/-- [B -/
def k8 : Class := { plain "[B" (some 0) with kind := .array 7 .byte, interfaces := #[5, 6], accessFlags := 1041 }

/-- the primitive int -/
def k9 : Class := { plain "int" none with kind := .primitive 'I', accessFlags := 0x411 }
/-- [I -/
def k10 : Class := { plain "[I" (some 0) with kind := .array 9 .int, interfaces := #[5, 6], accessFlags := 1041 }

def heap : Heap := #[]
def classes : Array Class := #[k0, k1, k2, k3, k4, k5, k6, k7, k8, k9, k10]
def interned : List (Array UInt16 × Addr) := []
def slotsUsed : Nat := 0
def theMethod : MethodId := ⟨1, 1⟩
def args0 : Array Value := #[.long 3, .long 4, .int 5]
def aboutOver (below : List Frame) : State where
  vm := { classes := classes, interned := interned.toArray }
  heap := heap
  slotsUsed := slotsUsed
  threads := #[{ frames := .invoking theMethod args0 :: below }]
def below0 : List Frame := [.native { method := ⟨0, 0⟩, args := #[] }]
def about1 : State := aboutOver below0
def p0 : Program := .bare "" "" ""
def e0 : Env := launch0.env 0 0 0
theorem w_frames : about1.frames = Frame.invoking theMethod args0 :: below0 := rfl
set_option maxRecDepth 65536 in
theorem w_args : argsFit about1.vm theMethod args0 = true := by decide +kernel
set_option maxRecDepth 65536 in
theorem w_heap : heapFits about1 = true := by decide +kernel
set_option maxRecDepth 65536 in
theorem w_runnable : about1.curStatus? = some .runnable := by decide +kernel
set_option maxRecDepth 65536 in
theorem w_alone : about1.alone = true := by decide +kernel
set_option maxRecDepth 65536 in
theorem w_named : about1.methodNamed? x = some theMethod := by decide +kernel
set_option maxRecDepth 65536 in
theorem w_hears : about1.hears theMethod below0 = true := by decide +kernel
set_option maxRecDepth 65536 in
theorem w_ripe : about1.ripe theMethod args0 below0 = true := by decide +kernel
theorem w_running : about1.status = .running := rfl
set_option maxRecDepth 65536 in
theorem w_room : about1.hasRoom e0.platform room_1 = true :=
  launch0.hasRoom_least _ room_1 (by decide +kernel) (by decide +kernel) (by decide +kernel) (by decide +kernel) (by decide +kernel) (by decide +kernel)
theorem allAtoms_all (ts : List Jvm.Cond) (a : Array Jvm.Value) (st : Jvm.State) : (allAtoms ts).before a st = ts.all (fun c => c.before a st) := by
  induction ts with
  | nil => rfl
  | cons c t ih =>
    show (Jvm.Cond.and c (allAtoms t)).before a st = _
    rw [Jvm.Cond.before_and, ih, List.all_cons]
def words1 : List Jvm.Cond := Jvm.Cond.code x code maxLocals ret :: tables_1
/-- a 'code' word, met by the world's own term for the bytes: nothing is compared byte by byte -/
theorem code_word {y : MethodName} {bytes : ByteArray} {mx : Nat} {rt : Option FieldType} {a : Array Value} {s : State} {m : MethodId} {meth : Method} {c : Code} (h1 : s.methodNamed? y = some m) (h2 : s.vm.method? m = some meth) (h3 : meth.code = some c) (h4 : c.code = bytes)
    (h5 : (c.maxLocals == mx && c.exceptionTable.isEmpty && decide (c.maxStack ≤ mostOperands) && decide (meth.sig.returnType = rt) && !meth.locks && decide (parseMethodDescriptor y.desc = some meth.sig)) = true) : (Jvm.Cond.code y bytes mx rt).before a s = true := by
  simp only [Bool.and_eq_true, beq_iff_eq, Bool.not_eq_true', decide_eq_true_eq] at h5
  obtain ⟨⟨⟨⟨⟨g1, g2⟩, g3⟩, g4⟩, g5⟩, g6⟩ := h5
  simp [Cond.before, Cond.holds, Cond.value, h1, h2, h3, h4, g1, g2, g3, g4, g5, g6]
def isCode : Jvm.Cond → Bool
  | .code _ _ _ _ => true
  | _ => false
theorem all_split {L : List Jvm.Cond} {P : Jvm.Cond → Bool} (h1 : L.all (fun c => isCode c || P c) = true) (h2 : ∀ c ∈ L.filter isCode, P c = true) : L.all P = true := by
  refine List.all_eq_true.mpr fun c hc => ?_
  have h := List.all_eq_true.mp h1 c hc
  rcases Bool.eq_false_or_eq_true (isCode c) with hi | hi
  · exact h2 c (List.mem_filter.mpr ⟨hc, hi⟩)
  · simpa [hi] using h
set_option maxRecDepth 65536 in
theorem w_c0 : (Jvm.Cond.code x code maxLocals ret).before args0 about1 = true := code_word (m := ⟨1, 1⟩) (meth := k1m1) (c := k1c1) (by decide +kernel) rfl rfl rfl (by decide +kernel)
set_option maxRecDepth 65536 in
theorem w_c1 : (Jvm.Cond.code ({ cls := "com/example/stringified_tags/stringifiedtags/LongTag", name := "<init>", desc := "(J)V" } : Jvm.MethodName) prog_38_method_1_code (3 : Nat) (Option.none : Option Jvm.ClassFile.FieldType)).before args0 about1 = true := code_word (m := ⟨3, 0⟩) (meth := k3m0) (c := k3c0) (by decide +kernel) rfl rfl rfl (by decide +kernel)
set_option maxRecDepth 65536 in
theorem w_c2 : (Jvm.Cond.code ({ cls := "java/lang/Object", name := "<init>", desc := "()V" } : Jvm.MethodName) object_method_1_code (1 : Nat) (Option.none : Option Jvm.ClassFile.FieldType)).before args0 about1 = true := code_word (m := ⟨0, 0⟩) (meth := k0m0) (c := k0c0) (by decide +kernel) rfl rfl rfl (by decide +kernel)
set_option maxRecDepth 65536 in
theorem w_c3 : (Jvm.Cond.code ({ cls := "com/example/stringified_tags/stringifiedtags/LongTag", name := "equals", desc := "(Ljava/lang/Object;)Z" } : Jvm.MethodName) prog_38_method_3_code (3 : Nat) (Option.some Jvm.ClassFile.FieldType.boolean)).before args0 about1 = true := code_word (m := ⟨3, 1⟩) (meth := k3m1) (c := k3c1) (by decide +kernel) rfl rfl rfl (by decide +kernel)
set_option maxRecDepth 65536 in
theorem w_c4 : (Jvm.Cond.code ({ cls := "com/example/stringified_tags/stringifiedtags/IntTag", name := "<init>", desc := "(I)V" } : Jvm.MethodName) prog_35_method_1_code (2 : Nat) (Option.none : Option Jvm.ClassFile.FieldType)).before args0 about1 = true := code_word (m := ⟨4, 0⟩) (meth := k4m0) (c := k4c0) (by decide +kernel) rfl rfl rfl (by decide +kernel)
def codes1 : List Jvm.Cond := [Jvm.Cond.code x code maxLocals ret, Jvm.Cond.code ({ cls := "com/example/stringified_tags/stringifiedtags/LongTag", name := "<init>", desc := "(J)V" } : Jvm.MethodName) prog_38_method_1_code (3 : Nat) (Option.none : Option Jvm.ClassFile.FieldType), Jvm.Cond.code ({ cls := "java/lang/Object", name := "<init>", desc := "()V" } : Jvm.MethodName) object_method_1_code (1 : Nat) (Option.none : Option Jvm.ClassFile.FieldType), Jvm.Cond.code ({ cls := "com/example/stringified_tags/stringifiedtags/LongTag", name := "equals", desc := "(Ljava/lang/Object;)Z" } : Jvm.MethodName) prog_38_method_3_code (3 : Nat) (Option.some Jvm.ClassFile.FieldType.boolean), Jvm.Cond.code ({ cls := "com/example/stringified_tags/stringifiedtags/IntTag", name := "<init>", desc := "(I)V" } : Jvm.MethodName) prog_35_method_1_code (2 : Nat) (Option.none : Option Jvm.ClassFile.FieldType)]
set_option maxRecDepth 65536 in
theorem codes_eq : words1.filter isCode = codes1 := rfl
theorem w_codes : ∀ c ∈ words1.filter isCode, c.before args0 about1 = true := by
  rw [codes_eq]
  intro c hc
  simp only [codes1, List.mem_cons, List.not_mem_nil, or_false] at hc
  rcases hc with rfl | rfl | rfl | rfl | rfl
  · exact w_c0
  · exact w_c1
  · exact w_c2
  · exact w_c3
  · exact w_c4
set_option maxRecDepth 65536 in
theorem w_t1 : (words1.take 24).all (fun c => isCode c || c.before args0 about1) = true := by decide +kernel
set_option maxRecDepth 65536 in
theorem w_t2 : (words1.drop 24).all (fun c => isCode c || c.before args0 about1) = true := by decide +kernel
theorem w_tables : (allAtoms (Jvm.Cond.code x code maxLocals ret :: tables_1)).before args0 about1 = true := by
  rw [allAtoms_all]
  show words1.all (fun c => c.before args0 about1) = true
  refine all_split ?_ w_codes
  rw [← List.take_append_drop 24 words1, List.all_append, w_t1, w_t2]
  rfl
set_option maxRecDepth 65536 in
theorem w_case : (Jvm.Cond.and given_1 narrow_1).before args0 about1 = true := by decide +kernel
theorem w_applies : (headSpec (Jvm.Cond.code x code maxLocals ret :: tables_1) room_1).applies x e0.platform about1 = true :=
  (Spec.applies_iff w_frames).mpr ⟨w_running, w_runnable, w_alone, w_named, w_hears, w_ripe, w_room, w_tables⟩
theorem atStart : AtStart classFile x code maxLocals ret World_1 tables_1 room_1 Calls_1 rest_1 Pre_1 launch0 p0 e0 about1 theMethod args0 below0 :=
  ⟨lists_1, trivial, launch0.admits_env _ _ _, launch0.least_env, fairChoices_fair.cas, fairChoices_fair.clock, w_frames, w_args, w_heap, w_applies, trivial, trivial, w_case⟩
end start1
theorem witness_1 : WitnessClaimed_1 := ⟨start1.p0, start1.e0, start1.about1, start1.theMethod, start1.args0, start1.below0, start1.atStart⟩
end Jvm.Pilot.@@N@@
