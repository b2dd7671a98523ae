import JvmDerived
import JvmDerived.Pilot.@@N@@Statement
import JvmDerived.Pilot.@@N@@Code
set_option linter.unusedVariables false
set_option linter.unusedSimpArgs false
namespace Jvm.JW
open Sem ClassFile Op Lib Jvm.Stand Jvm.Free Jvm.LawKit Jvm.RoadKit
/-! The walk in continuation form: D holds of a machine state if the run from it ends as the contract says. -/
def Dn (p : Program) (e : Env) (below : List Frame) (s : State) (Q : Option Value → Heap → List Loc → Prop) (k n : Nat) (S : State) : Prop :=
  ∃ s₂ o, Steps p.tables e below S s₂ ∧ s₂.status = .running ∧ Ended s₂ below o ∧ ∃ v L, o = .returned v ∧ Q v s₂.heap L ∧ FrameEnd s o s₂ L k n
def Adv (p : Program) (e : Env) (below : List Frame) (D : State → Prop) : Prop :=
  ∀ {S S' : State}, (∀ {t : State}, Steps p.tables e below S' t → Steps p.tables e below S t) → D S' → D S
theorem Adv.dn {p : Program} {e : Env} {below : List Frame} {s : State} {Q : Option Value → Heap → List Loc → Prop} {k n : Nat} : Adv p e below (Dn p e below s Q k n) := by
  intro S S' h d
  obtain ⟨s2, o, h1, h2⟩ := d
  exact ⟨s2, o, h h1, h2⟩
theorem Adv.tr {p : Program} {e : Env} {below : List Frame} {D : State → Prop} (A : Adv p e below D) {S S' : State} (h : Steps p.tables e below S S') (d : D S') : D S := A (fun k => h.trans k) d
abbrev JMet (l : Launch) (Z : State) (y : MethodName) (bytes : ByteArray) (maxL : Nat) (ret : Option FieldType) (ws : List Cond) (rm : Room) (as' : Array Value) (h0 : Heap) (Q : Option Value → Heap → List Loc → Prop) : Prop :=
  MetFree l y (head1 (Cond.code y bytes maxL ret :: ws) rm) (fun a U => a = as' ∧ Z.Warmed39 U.vm ∧ U.heap = h0) (fun _ _ _ _ _ => True) (fun _ U o U' => ∃ v L, o = .returned v ∧ Q v U'.heap L ∧ FrameEnd U o U' L rm.cells rm.slots)
/-- a body that returns r and leaves the heap as it was -/
def QP (r : Value) (h0 : Heap) (n0 : Nat) (v : Option Value) (h : Heap) (L : List Loc) : Prop := v = some r ∧ Fr n0 L ∧ h = h0
/-- the law: it returns 1; nothing that stood at the start is written -/
def QL (n0 : Nat) (v : Option Value) (h : Heap) (L : List Loc) : Prop := v = some (.int 1) ∧ Fr n0 L
section Kit
variable {p : Program} {l : Launch} {e : Env} {R : Room} {s : State} {m : MethodId} {args : Array Value} {below : List Frame} {meth : Method} {c : Code} {T : State} {locs : List Loc} {cells slots : Nat} {Z : State} {a0 : Array Value} {h : Heap} {D : State → Prop}
theorem ret (X : Stand p l e R s m args below meth c T locs cells slots) (hlk : meth.locks = false) {Q : Option Value → Heap → List Loc → Prop} {k n : Nat} {S : State} {v : Option Value} (hv : meth.sig.returnType = none → v = none)
    (hst : ∀ fs, (∀ (f : JFrame) (acts : List Action), f.method = m → f.locked = none → f.entered = [] → (doReturn e (T.setTop f) acts v).1 = T.setFrames fs) → Steps p.tables e below S (T.setFrames fs))
    {hh : Heap} (eT : T.heap = hh) (hq : Q v hh locs) (hk : cells ≤ k) (hn : slots ≤ n) : Dn p e below s Q k n S := by
  subst eT
  obtain ⟨fs, hr, hrun, hended, hW, hsame⟩ := X.leave (v := v) hv hlk
  exact ⟨_, _, hst fs hr, hrun, hended, _, _, rfl, hq, ⟨_, rfl⟩, hW, hsame.mono hk hn⟩
theorem body {y : MethodName} {bytes : ByteArray} {maxL : Nat} {rt : Option FieldType} {ws : List Cond} {rm : Room} {as' : Array Value} {h0 : Heap} {Q : Option Value → Heap → List Loc → Prop} (Ls : Array Slot) (hpl : plainFor y = true) (hef : ∀ m, entryFrame m as' maxL = mkF m 0 Ls [])
    (bd : ∀ (p : Program) (e : Env) (s : State) (m : MethodId) (below : List Frame) (meth : Method) (c : Code) (T0 : State) (D : State → Prop), Adv p e below D → (∀ S, Dn p e below s Q rm.cells rm.slots S → D S) → Stand p l e rm s m as' below meth c T0 [] 0 0 → p.tables.exec = Jvm.exec → Z.Warmed39 s.vm → c.code = bytes → c.maxLocals = maxL → s.vm.findClass y.cls = some m.cls → meth.name = y.name → meth.sig.returnType = rt → meth.locks = false → T0.heap = h0 → D (T0.setTop (mkF m 0 Ls []))) :
    JMet l Z y bytes maxL rt ws rm as' h0 Q := by
  refine MetFree.of_bodySF hpl hisR ?_
  intro p e s m args below meth c s₁ Bd hml hP hK
  obtain ⟨rfl, hZ, hh⟩ := hP
  have q := bd p e s m below meth c s₁ (Dn p e below s Q rm.cells rm.slots) Adv.dn (fun _ d => d) (Stand.of_body Bd) Bd.exec hZ Bd.bytes hml (findClass_of_methodNamed Bd.named) (name_of_methodNamed Bd.named Bd.method).1 Bd.returns Bd.notSynchronized (by rw [← hh, Bd.state]; rfl)
  rw [← hef m] at q
  exact q
theorem Adv.callS (A : Adv p e below D) (X : Stand p l e R s m args below meth c T locs cells slots) (hx : p.tables.exec = Jvm.exec) (hZ : Z.Warmed39 s.vm) {own : String} {index : Nat} {y : MethodName} {bytes : ByteArray} {maxL : Nat} {rt : Option FieldType} {rm : Room} {as' : Array Value} {Q : Option Value → Heap → List Loc → Prop}
    (hown : s.vm.findClass own = some m.cls) (w1 : (Cond.methodLink own index y).before a0 Z = true) (w2 : (Cond.static y).before a0 Z = true) (w3 : (Cond.initialized y.cls).before a0 Z = true) (w4 : (Cond.code y bytes maxL rt).before a0 Z = true) (eT : T.heap = h)
    (hM : JMet l Z y bytes maxL rt [] rm as' h Q) (W : Nat) {g : JFrame} (hg : g.method = m) (hsz : g.locals.size = c.maxLocals) (argsL rest : List Value) (has : as' = argsL.toArray)
    (hlen : ∀ sig, parseMethodDescriptor y.desc = some sig → argsL.length = sig.parameters.length) (hstack : g.stack = argsL.reverse ++ rest) (hW : 2 * g.monitorRoom + (rest.map fun v => v.category).sum ≤ W)
    (hd : decode c.code g.pc = .ok (.invokestatic index, 3)) (hy : y.cls ≠ "java/lang/invoke/MethodHandle" ∧ y.cls ≠ "java/lang/invoke/VarHandle") (hf : rm.frames + 1 ≤ R.frames) (hl : W + (maxL + 11) + rm.locals ≤ R.locals) (hc : cells + rm.cells ≤ R.cells) (hs : slots + rm.slots ≤ R.slots)
    (k : ∀ (T' : State) (L' : List Loc) (v : Option Value), Stand p l e R s m args below meth c T' (locs ++ L') (cells + rm.cells) (slots + rm.slots) → Q v T'.heap L' → D (T'.setTop { g with pc := g.pc + 3, stack := v.toList ++ rest })) : D (T.setTop g) := by
  subst has
  obtain ⟨v, _, ⟨T', L, k', n'⟩, -, X', ⟨Lc, hQ, l', y', z'⟩, st⟩ := Jvm.LawKit.callS X hx (y := y) hown (mvT hZ w1) (mvT hZ w2) (mvT hZ w3) (mvT hZ w4) hy (backOf (W := W) hM hZ w4 w3 hf hl) (g := g) hg hsz (argsL := argsL) (rest := rest) hlen hstack hW hd (fun _ _ => ⟨rfl, eT, hc, hs⟩)
  dsimp only [Pt.U, Pt.locs, Pt.cells, Pt.slots] at X' l' y' z' st hQ
  subst l' y' z'
  exact A (fun q => st _ q) (k T' Lc v X' hQ)
theorem Adv.callI (A : Adv p e below D) (X : Stand p l e R s m args below meth c T locs cells slots) (hx : p.tables.exec = Jvm.exec) (hZ : Z.Warmed39 s.vm) {own : String} {index : Nat} {y : MethodName} {bytes : ByteArray} {maxL : Nat} {rm : Room} {as' : Array Value} {Q : Option Value → Heap → List Loc → Prop}
    (hown : s.vm.findClass own = some m.cls) (hi : y.name = "<init>") (w1 : (Cond.methodLink own index y).before a0 Z = true) (w2 : (Cond.instanceMethod y).before a0 Z = true) (w3 : (Cond.initialized y.cls).before a0 Z = true) (w4 : (Cond.code y bytes maxL none).before a0 Z = true) (eT : T.heap = h)
    (hM : JMet l Z y bytes maxL none [] rm as' h Q) (W : Nat) {g : JFrame} (hg : g.method = m) (hsz : g.locals.size = c.maxLocals) (a : Addr) (argsL rest : List Value) (has : as' = (.ref a :: argsL).toArray)
    (hlen : ∀ sig, parseMethodDescriptor y.desc = some sig → argsL.length = sig.parameters.length) (hstack : g.stack = argsL.reverse ++ .ref a :: rest) (hW : 2 * g.monitorRoom + (rest.map fun v => v.category).sum ≤ W)
    (hd : decode c.code g.pc = .ok (.invokespecial index, 3)) (hy : y.cls ≠ "java/lang/invoke/MethodHandle" ∧ y.cls ≠ "java/lang/invoke/VarHandle") (hf : rm.frames + 1 ≤ R.frames) (hl : W + (maxL + 11) + rm.locals ≤ R.locals) (hc : cells + rm.cells ≤ R.cells) (hs : slots + rm.slots ≤ R.slots)
    (k : ∀ (T' : State) (L' : List Loc) (v : Option Value), Stand p l e R s m args below meth c T' (locs ++ L') (cells + rm.cells) (slots + rm.slots) → Q v T'.heap L' → D (T'.setTop { g with pc := g.pc + 3, stack := v.toList ++ rest })) : D (T.setTop g) := by
  subst has
  obtain ⟨v, _, ⟨T', L, k', n'⟩, -, X', ⟨Lc, hQ, l', y', z'⟩, st⟩ := X.specialBack hx (y := y) hi hown (mvT hZ w1) (mvT hZ w2) (mvT hZ w4) hy (backOf (W := W) hM hZ w4 w3 hf hl) (g := g) hg hsz (Steps.refl _) (a := a) (argsL := argsL) (rest := rest) hlen hstack hW hd (fun _ _ => ⟨rfl, eT, hc, hs⟩)
  dsimp only [Pt.U, Pt.locs, Pt.cells, Pt.slots] at X' l' y' z' st hQ
  subst l' y' z'
  exact A.tr st (k T' Lc v X' hQ)
theorem Adv.callV (A : Adv p e below D) (X : Stand p l e R s m args below meth c T locs cells slots) (hx : p.tables.exec = Jvm.exec) (hZ : Z.Warmed39 s.vm) {own C : String} {index : Nat} {y z : MethodName} {bytes : ByteArray} {maxL : Nat} {rt : Option FieldType} {rm : Room} {as' : Array Value} {Q : Option Value → Heap → List Loc → Prop} {a : Addr}
    (hown : s.vm.findClass own = some m.cls) (w1 : (Cond.methodLink own index y).before a0 Z = true) (w2 : (Cond.declares y).before a0 Z = true) (nf : NotFace s y) (w5 : (Cond.selects C y z).before a0 Z = true) (w6 : (Cond.instanceMethod z).before a0 Z = true) (w3 : (Cond.initialized z.cls).before a0 Z = true) (w4 : (Cond.code z bytes maxL rt).before a0 Z = true) (eT : T.heap = h) (E : Exa Z h a C)
    (hM : JMet l Z z bytes maxL rt [] rm as' h Q) (W : Nat) {g : JFrame} (hg : g.method = m) (hsz : g.locals.size = c.maxLocals) (argsL rest : List Value) (has : as' = (.ref a :: argsL).toArray)
    (hlen : ∀ sig, parseMethodDescriptor y.desc = some sig → argsL.length = sig.parameters.length) (hstack : g.stack = argsL.reverse ++ .ref a :: rest) (hW : 2 * g.monitorRoom + (rest.map fun v => v.category).sum ≤ W)
    (hd : decode c.code g.pc = .ok (.invokevirtual index, 3)) (hy : y.cls ≠ "java/lang/invoke/MethodHandle" ∧ y.cls ≠ "java/lang/invoke/VarHandle") (hf : rm.frames + 1 ≤ R.frames) (hl : W + (maxL + 11) + rm.locals ≤ R.locals) (hc : cells + rm.cells ≤ R.cells) (hs : slots + rm.slots ≤ R.slots)
    (k : ∀ (T' : State) (L' : List Loc) (v : Option Value), Stand p l e R s m args below meth c T' (locs ++ L') (cells + rm.cells) (slots + rm.slots) → Q v T'.heap L' → D (T'.setTop { g with pc := g.pc + 3, stack := v.toList ++ rest })) : D (T.setTop g) := by
  subst has
  obtain ⟨cq, kq, qa, qb, qc⟩ := isOf hZ eT E
  obtain ⟨v, _, ⟨T', L, k', n'⟩, -, X', ⟨Lc, hQ, l', y', z'⟩, st⟩ := X.virtualBack hx (y := y) (z := z) hown (mvT hZ w1) (mvT hZ w2) nf (mvT hZ w5) (mvT hZ w6) hy (backOf (W := W) hM hZ w4 w3 hf hl) qa qc (g := g) hg hsz (Steps.refl _) (argsL := argsL) (rest := rest) hlen hstack hW hd (fun _ _ => ⟨rfl, eT, hc, hs⟩)
  dsimp only [Pt.U, Pt.locs, Pt.cells, Pt.slots] at X' l' y' z' st hQ
  subst l' y' z'
  exact A.tr st (k T' Lc v X' hQ)
theorem Adv.callU (A : Adv p e below D) (X : Stand p l e R s m args below meth c T locs cells slots) (hx : p.tables.exec = Jvm.exec) (hZ : Z.Warmed39 s.vm) {own C owner : String} {index : Nat} {y z : MethodName} {bytes : ByteArray} {maxL : Nat} {rt : Option FieldType} {rm : Room} {as' : Array Value} {Q : Option Value → Heap → List Loc → Prop} {a : Addr}
    (hown : s.vm.findClass own = some m.cls) (w1 : (Cond.methodLink own index y).before a0 Z = true) (w7 : (Cond.sameMethod y.cls owner y.name y.desc).before a0 Z = true) (w2 : (Cond.declares ⟨owner, y.name, y.desc⟩).before a0 Z = true) (w5 : (Cond.selects C y z).before a0 Z = true) (w6 : (Cond.instanceMethod z).before a0 Z = true) (w3 : (Cond.initialized z.cls).before a0 Z = true) (w4 : (Cond.code z bytes maxL rt).before a0 Z = true) (eT : T.heap = h) (E : Exa Z h a C)
    (hM : JMet l Z z bytes maxL rt [] rm as' h Q) (W : Nat) {g : JFrame} (hg : g.method = m) (hsz : g.locals.size = c.maxLocals) (argsL rest : List Value) (has : as' = (.ref a :: argsL).toArray)
    (hlen : ∀ sig, parseMethodDescriptor y.desc = some sig → argsL.length = sig.parameters.length) (hstack : g.stack = argsL.reverse ++ .ref a :: rest) (hW : 2 * g.monitorRoom + (rest.map fun v => v.category).sum ≤ W)
    (hd : decode c.code g.pc = .ok (.invokevirtual index, 3)) (hy : owner ≠ "java/lang/invoke/MethodHandle" ∧ owner ≠ "java/lang/invoke/VarHandle") (hf : rm.frames + 1 ≤ R.frames) (hl : W + (maxL + 11) + rm.locals ≤ R.locals) (hc : cells + rm.cells ≤ R.cells) (hs : slots + rm.slots ≤ R.slots)
    (k : ∀ (T' : State) (L' : List Loc) (v : Option Value), Stand p l e R s m args below meth c T' (locs ++ L') (cells + rm.cells) (slots + rm.slots) → Q v T'.heap L' → D (T'.setTop { g with pc := g.pc + 3, stack := v.toList ++ rest })) : D (T.setTop g) := by
  subst has
  obtain ⟨cq, kq, qa, qb, qc⟩ := isOf hZ eT E
  obtain ⟨v, _, ⟨T', L, k', n'⟩, -, X', ⟨Lc, hQ, l', y', z'⟩, st⟩ := X.virtualBackUp hx (x := y) (y := z) (owner := owner) hown (mvT hZ w1) (mvT hZ w7) (mvT hZ w2) hy (mvT hZ w5) (mvT hZ w6) (backOf (W := W) hM hZ w4 w3 hf hl) qa qc (g := g) hg hsz (Steps.refl _) (argsL := argsL) (rest := rest) hlen hstack hW hd (fun _ _ => ⟨rfl, eT, hc, hs⟩)
  dsimp only [Pt.U, Pt.locs, Pt.cells, Pt.slots] at X' l' y' z' st hQ
  subst l' y' z'
  exact A.tr st (k T' Lc v X' hQ)
theorem Adv.callP (A : Adv p e below D) (X : Stand p l e R s m args below meth c T locs cells slots) (hx : p.tables.exec = Jvm.exec) (hZ : Z.Warmed39 s.vm) {own C : String} {index kn : Nat} {y : MethodName} {bytes : ByteArray} {maxL : Nat} {rt : Option FieldType} {rm : Room} {as' : Array Value} {Q : Option Value → Heap → List Loc → Prop} {a : Addr}
    (hown : s.vm.findClass own = some m.cls) (w1 : (Cond.methodLink own index y).before a0 Z = true) (w2 : (Cond.instanceMethod y).before a0 Z = true) (wi : (Cond.instantiable y.cls kn).before a0 Z = true) (w5 : (Cond.privateMethod y).before a0 Z = true) (w3 : (Cond.initialized y.cls).before a0 Z = true) (w4 : (Cond.code y bytes maxL rt).before a0 Z = true) (eT : T.heap = h) (E : Exa Z h a C)
    (hM : JMet l Z y bytes maxL rt [] rm as' h Q) (W : Nat) {g : JFrame} (hg : g.method = m) (hsz : g.locals.size = c.maxLocals) (argsL rest : List Value) (has : as' = (.ref a :: argsL).toArray)
    (hlen : ∀ sig, parseMethodDescriptor y.desc = some sig → argsL.length = sig.parameters.length) (hstack : g.stack = argsL.reverse ++ .ref a :: rest) (hW : 2 * g.monitorRoom + (rest.map fun v => v.category).sum ≤ W)
    (hd : decode c.code g.pc = .ok (.invokevirtual index, 3)) (hy : y.cls ≠ "java/lang/invoke/MethodHandle" ∧ y.cls ≠ "java/lang/invoke/VarHandle") (hf : rm.frames + 1 ≤ R.frames) (hl : W + (maxL + 11) + rm.locals ≤ R.locals) (hc : cells + rm.cells ≤ R.cells) (hs : slots + rm.slots ≤ R.slots)
    (k : ∀ (T' : State) (L' : List Loc) (v : Option Value), Stand p l e R s m args below meth c T' (locs ++ L') (cells + rm.cells) (slots + rm.slots) → Q v T'.heap L' → D (T'.setTop { g with pc := g.pc + 3, stack := v.toList ++ rest })) : D (T.setTop g) := by
  subst has
  obtain ⟨ce, hce, hob⟩ := E.cell
  have hpriv : s.PrivateAt y := Cond.privateMethod_at (mvP hZ w5 (args := #[]))
  have hins : (Cond.instanceMethod y).before args s = true := mvT hZ w2
  have hwi : (Cond.instantiable y.cls kn).before args s = true := mvT hZ wi
  obtain ⟨ck, kk, c1, c2, -, c4, -⟩ := Cond.instantiable_spec hwi
  have hsel := selects_self_of_private c1 c2 (Bool.or_eq_false_iff.mp c4).1 hpriv hins hy
  obtain ⟨v, _, ⟨T', L, k', n'⟩, -, X', ⟨Lc, hQ, l', y', z'⟩, st⟩ := X.privateBack hx (y := y) hown (mvT hZ w1) hins hsel hpriv (mvT hZ w4) hy (backOf (W := W) hM hZ w4 w3 hf hl) (g := g) hg hsz (Steps.refl _) (a := a) (cell := ce) (by rw [eT]; exact hce) hob (argsL := argsL) (rest := rest) hlen hstack hW hd (fun _ _ => ⟨rfl, eT, hc, hs⟩)
  dsimp only [Pt.U, Pt.locs, Pt.cells, Pt.slots] at X' l' y' z' st hQ
  subst l' y' z'
  exact A.tr st (k T' Lc v X' hQ)
end Kit
/-! ### arrays by a function of the place -/
section Arrays
variable {p : Program} {l : Launch} {e : Env} {R : Room} {s : State} {m : MethodId} {args : Array Value} {below : List Frame} {meth : Method} {c : Code} {T : State} {locs : List Loc} {cells slots : Nat} {Z : State} {a0 : Array Value} {h h' : Heap} {D : State → Prop} {a b : Addr} {ty : FieldType} {n : Nat} {f : Nat → Int32} {fJ : Nat → Int64} {sl : Nat} {v : Value} {ws : List Addr}
def ArI (Z : State) (h : Heap) (a : Addr) (ty : FieldType) (n : Nat) (f : Nat → Int32) : Prop :=
  n < 2147483648 ∧ ∃ c : Cell, Arr Z h a c ty ∧ c.slots.size = n ∧ ∀ i, i < n → c.slots[i]? = some (.int (f i))
def ArJ (Z : State) (h : Heap) (a : Addr) (n : Nat) (f : Nat → Int64) : Prop :=
  n < 2147483648 ∧ ∃ c : Cell, Arr Z h a c .long ∧ c.slots.size = n ∧ ∀ i, i < n → c.slots[i]? = some (.long (f i))
theorem ArI.lt (F : ArI Z h a ty n f) : a < h.size := by obtain ⟨-, c, A, -⟩ := F; exact A.lt
theorem ArI.ext (F : ArI Z h a ty n f) (E : Ext h h') : ArI Z h' a ty n f := by obtain ⟨q, c, A, r⟩ := F; exact ⟨q, c, A.ext E, r⟩
theorem ArI.other (F : ArI Z h b ty n f) (W : Wr h h' a sl v) (q : b ≠ a) : ArI Z h' b ty n f := by obtain ⟨z, c, A, r⟩ := F; exact ⟨z, c, A.other W q, r⟩
theorem ArI.keep (F : ArI Z h a ty n f) (K : Keep h h' ws) (q : a ∉ ws) : ArI Z h' a ty n f := by obtain ⟨z, c, A, r⟩ := F; exact ⟨z, c, ⟨K.2.1 a c A.1 q, A.2⟩, r⟩
theorem ArI.eqf {g : Nat → Int32} (F : ArI Z h a ty n f) (q : ∀ i, i < n → f i = g i) : ArI Z h a ty n g := by
  obtain ⟨z, c, A, r, H⟩ := F; exact ⟨z, c, A, r, fun i hi => by rw [← q i hi]; exact H i hi⟩
theorem ArJ.lt (F : ArJ Z h a n fJ) : a < h.size := by obtain ⟨-, c, A, -⟩ := F; exact A.lt
theorem ArJ.ext (F : ArJ Z h a n fJ) (E : Ext h h') : ArJ Z h' a n fJ := by obtain ⟨q, c, A, r⟩ := F; exact ⟨q, c, A.ext E, r⟩
theorem ArJ.other (F : ArJ Z h b n fJ) (W : Wr h h' a sl v) (q : b ≠ a) : ArJ Z h' b n fJ := by obtain ⟨z, c, A, r⟩ := F; exact ⟨z, c, A.other W q, r⟩
theorem ArJ.keep (F : ArJ Z h a n fJ) (K : Keep h h' ws) (q : a ∉ ws) : ArJ Z h' a n fJ := by obtain ⟨z, c, A, r⟩ := F; exact ⟨z, c, ⟨K.2.1 a c A.1 q, A.2⟩, r⟩
theorem ArJ.eqf {g : Nat → Int64} (F : ArJ Z h a n fJ) (q : ∀ i, i < n → fJ i = g i) : ArJ Z h a n g := by
  obtain ⟨z, c, A, r, H⟩ := F; exact ⟨z, c, A, r, fun i hi => by rw [← q i hi]; exact H i hi⟩
theorem ne_ari {C : String} {k : Nat} (F : Exa Z h a C) (wi : (Cond.instantiable C k).before a0 Z = true) (G : ArI Z h b ty n f) : a ≠ b := by obtain ⟨-, c, A, -⟩ := G; exact ne_arr F wi A
theorem ne_arj {C : String} {k : Nat} (F : Exa Z h a C) (wi : (Cond.instantiable C k).before a0 Z = true) (G : ArJ Z h b n fJ) : a ≠ b := by obtain ⟨-, c, A, -⟩ := G; exact ne_arr F wi A
theorem ne_arr2 {c1 c2 : Cell} {t1 t2 : FieldType} (F : Arr Z h a c1 t1) (G : Arr Z h b c2 t2) (hn : t1 ≠ t2) : a ≠ b := fun q => by
  subst q
  cases F.1.symm.trans G.1
  obtain ⟨-, k1, j1, comp1, j2⟩ := F.2.1
  obtain ⟨-, k2, i1, comp2, i2⟩ := G.2.1
  cases j1.symm.trans i1
  rw [j2] at i2
  injection i2 with _ q2
  exact hn q2
theorem ne_aij {n' : Nat} (F : ArI Z h a ty n f) (G : ArJ Z h b n' fJ) (hn : ty ≠ .long) : a ≠ b := by obtain ⟨-, c, A, -⟩ := F; obtain ⟨-, c', A', -⟩ := G; exact ne_arr2 A A' hn
theorem to_nat {j : Int32} {k : Nat} (hk : j.toInt = k) : j.toNatClampNeg = k := by simp only [Int32.toNatClampNeg, hk, Int.toNat_natCast]
theorem inb {cl : Cell} {j : Int32} {k : Nat} (hk : j.toInt = k) (hkn : k < n) (hs : cl.slots.size = n) : ¬ (j < 0 ∨ cl.slots.size ≤ j.toNatClampNeg) := by
  rw [to_nat hk, hs, Int32.lt_iff_toInt_lt, hk, show (0 : Int32).toInt = 0 from rfl]; omega
theorem ixadd {x d : Int32} {k j : Nat} (hx : x.toInt = k) (hd : d.toInt = j) (h : k + j < 2147483648) : (x + d).toInt = ((k + j : Nat) : Int) := by
  have h2 := c_iadd x d
  have h3 := rng32 (x + d)
  omega
theorem ArI.mk {k : ClassId} {z : Int32} (A : Arr Z h a (newA k ty z) ty) (hn : z.toInt = n) (hd : defaultValue ty = .int 0) : ArI Z h a ty n (fun _ => 0) := by
  have hz := to_nat hn
  refine ⟨?_, _, A, by rw [sz_new, hz], fun i hi => ?_⟩
  · have := Int32.toInt_lt z; omega
  · simp [newA, hz, hi, hd]
theorem ArJ.mk {k : ClassId} {z : Int32} (A : Arr Z h a (newA k .long z) .long) (hn : z.toInt = n) : ArJ Z h a n (fun _ => 0) := by
  have hz := to_nat hn
  refine ⟨?_, _, A, by rw [sz_new, hz], fun i hi => ?_⟩
  · have := Int32.toInt_lt z; omega
  · simp [newA, hz, hi, defaultValue]
theorem set_at {cl : Cell} {i k : Nat} (hk : k < cl.slots.size) : (cl.setSlot k v).slots[i]? = if i = k then some v else cl.slots[i]? := by
  simp only [Cell.setSlot, Array.getElem?_setIfInBounds]
  by_cases q : i = k
  · subst q; simp [hk]
  · simp [q, Ne.symm q]
theorem ArI.set {x : Int32} {k : Nat} (F : ArI Z h a ty n f) (W : Wr h h' a k (.int x)) (hk : k < n) : ArI Z h' a ty n (fun i => if i = k then x else f i) := by
  obtain ⟨z, c, A, r, H⟩ := F
  refine ⟨z, _, A.same W, by rw [sz_set, r], fun i hi => ?_⟩
  rw [set_at (by omega)]
  by_cases q : i = k
  · simp [q]
  · simp [q, H i hi]
theorem ArJ.set {x : Int64} {k : Nat} (F : ArJ Z h a n fJ) (W : Wr h h' a k (.long x)) (hk : k < n) : ArJ Z h' a n (fun i => if i = k then x else fJ i) := by
  obtain ⟨z, c, A, r, H⟩ := F
  refine ⟨z, _, A.same W, by rw [sz_set, r], fun i hi => ?_⟩
  rw [set_at (by omega)]
  by_cases q : i = k
  · simp [q]
  · simp [q, H i hi]
theorem Adv.ldI (A : Adv p e below D) (X : Stand p l e R s m args below meth c T locs cells slots) (hx : p.tables.exec = Jvm.exec) (hZ : Z.Warmed39 s.vm) (eT : T.heap = h) (F : ArI Z h a .int n f) {j : Int32} {k : Nat} (hk : j.toInt = k) (hkn : k < n) {g : JFrame} (hg : g.method = m) {rest : List Value} (hs : g.stack = .int j :: .ref a :: rest) (hd : decode c.code g.pc = .ok (.iaload, 1))
    (kk : D (T.setTop { g with pc := g.pc + 1, stack := .int (f k) :: rest })) : D (T.setTop g) := by
  obtain ⟨-, cl, Ar, r, H⟩ := F
  exact A (X.iaload hx (j := j) (v := .int (f k)) (by rw [eT]; exact Ar.1) (State.isArrayOf_alike hZ.alike Ar.2.1) Ar.2.2 (inb hk hkn r) (by rw [to_nat hk]; exact H k hkn) (g := g) hg hs hd _) kk
theorem Adv.ldB (A : Adv p e below D) (X : Stand p l e R s m args below meth c T locs cells slots) (hx : p.tables.exec = Jvm.exec) (hZ : Z.Warmed39 s.vm) (eT : T.heap = h) (F : ArI Z h a .byte n f) {j : Int32} {k : Nat} (hk : j.toInt = k) (hkn : k < n) {g : JFrame} (hg : g.method = m) {rest : List Value} (hs : g.stack = .int j :: .ref a :: rest) (hd : decode c.code g.pc = .ok (.baload, 1))
    (kk : D (T.setTop { g with pc := g.pc + 1, stack := .int (f k) :: rest })) : D (T.setTop g) := by
  obtain ⟨-, cl, Ar, r, H⟩ := F
  exact A (X.baloadBytes hx (j := j) (v := .int (f k)) (by rw [eT]; exact Ar.1) (State.isArrayOf_alike hZ.alike Ar.2.1) Ar.2.2 (inb hk hkn r) (by rw [to_nat hk]; exact H k hkn) (g := g) hg hs hd _) kk
theorem Adv.ldJ (A : Adv p e below D) (X : Stand p l e R s m args below meth c T locs cells slots) (hx : p.tables.exec = Jvm.exec) (hZ : Z.Warmed39 s.vm) (eT : T.heap = h) (F : ArJ Z h a n fJ) {j : Int32} {k : Nat} (hk : j.toInt = k) (hkn : k < n) {g : JFrame} (hg : g.method = m) {rest : List Value} (hs : g.stack = .int j :: .ref a :: rest) (hd : decode c.code g.pc = .ok (.laload, 1))
    (kk : D (T.setTop { g with pc := g.pc + 1, stack := .long (fJ k) :: rest })) : D (T.setTop g) := by
  obtain ⟨-, cl, Ar, r, H⟩ := F
  exact A (X.laload hx (j := j) (v := .long (fJ k)) (by rw [eT]; exact Ar.1) (State.isArrayOf_alike hZ.alike Ar.2.1) Ar.2.2 (inb hk hkn r) (by rw [to_nat hk]; exact H k hkn) (g := g) hg hs hd _) kk
theorem len32 {cl : Cell} (z : n < 2147483648) (r : cl.slots.size = n) : cl.slots.size.toInt32 = Int32.ofNat n   := by rw [r]
theorem Adv.lenI (A : Adv p e below D) (X : Stand p l e R s m args below meth c T locs cells slots) (hx : p.tables.exec = Jvm.exec) (hZ : Z.Warmed39 s.vm) (eT : T.heap = h) (F : ArI Z h a ty n f) {g : JFrame} (hg : g.method = m) {rest : List Value} (hs : g.stack = .ref a :: rest) (hd : decode c.code g.pc = .ok (.arraylength, 1))
    (kk : D (T.setTop { g with pc := g.pc + 1, stack := .int (Int32.ofNat n) :: rest })) : D (T.setTop g) := by
  obtain ⟨z, cl, Ar, r, H⟩ := F
  rw [← len32 z r] at kk
  exact A (X.arraylength hx (by rw [eT]; exact Ar.1) (State.isArrayOf_alike hZ.alike Ar.2.1) (g := g) hg hs hd _) kk
theorem Adv.lenJ (A : Adv p e below D) (X : Stand p l e R s m args below meth c T locs cells slots) (hx : p.tables.exec = Jvm.exec) (hZ : Z.Warmed39 s.vm) (eT : T.heap = h) (F : ArJ Z h a n fJ) {g : JFrame} (hg : g.method = m) {rest : List Value} (hs : g.stack = .ref a :: rest) (hd : decode c.code g.pc = .ok (.arraylength, 1))
    (kk : D (T.setTop { g with pc := g.pc + 1, stack := .int (Int32.ofNat n) :: rest })) : D (T.setTop g) := by
  obtain ⟨z, cl, Ar, r, H⟩ := F
  rw [← len32 z r] at kk
  exact A (X.arraylength hx (by rw [eT]; exact Ar.1) (State.isArrayOf_alike hZ.alike Ar.2.1) (g := g) hg hs hd _) kk
theorem Adv.stI (A : Adv p e below D) (X : Stand p l e R s m args below meth c T locs cells slots) (hx : p.tables.exec = Jvm.exec) (hZ : Z.Warmed39 s.vm) (eT : T.heap = h) (F : ArI Z h a .int n f) {j x : Int32} {k : Nat} (hk : j.toInt = k) (hkn : k < n) {g : JFrame} (hg : g.method = m) {rest : List Value} (hs : g.stack = .int x :: .int j :: .ref a :: rest) (hd : decode c.code g.pc = .ok (.iastore, 1))
    (kk : ∀ T' h', Stand p l e R s m args below meth c T' (locs ++ [⟨a, k⟩]) cells slots → T'.heap = h' → Wr h h' a k (.int x) → ArI Z h' a .int n (fun i => if i = k then x else f i) → D (T'.setTop { g with pc := g.pc + 1, stack := rest })) : D (T.setTop g) := by
  obtain ⟨cl, Ar, r, H⟩ := F.2
  obtain ⟨T', h', X', e', W, st⟩ := Jvm.RoadKit.stI X hx hZ eT Ar (j := j) (x := x) (inb hk hkn r) hg hs hd
  rw [to_nat hk] at X' W
  exact A (fun q => st _ q) (kk T' h' X' e' W (F.set W hkn))
theorem Adv.stB (A : Adv p e below D) (X : Stand p l e R s m args below meth c T locs cells slots) (hx : p.tables.exec = Jvm.exec) (hZ : Z.Warmed39 s.vm) (eT : T.heap = h) (F : ArI Z h a .byte n f) {j x : Int32} {k : Nat} (hk : j.toInt = k) (hkn : k < n) {g : JFrame} (hg : g.method = m) {rest : List Value} (hs : g.stack = .int x :: .int j :: .ref a :: rest) (hd : decode c.code g.pc = .ok (.bastore, 1))
    (kk : ∀ T' h', Stand p l e R s m args below meth c T' (locs ++ [⟨a, k⟩]) cells slots → T'.heap = h' → Wr h h' a k (.int x.toInt8.toInt32) → ArI Z h' a .byte n (fun i => if i = k then x.toInt8.toInt32 else f i) → D (T'.setTop { g with pc := g.pc + 1, stack := rest })) : D (T.setTop g) := by
  obtain ⟨cl, Ar, r, H⟩ := F.2
  obtain ⟨T', h', X', e', W, st⟩ := Jvm.RoadKit.stB X hx hZ eT Ar (j := j) (x := x) (inb hk hkn r) hg hs hd
  rw [to_nat hk] at X' W
  exact A (fun q => st _ q) (kk T' h' X' e' W (F.set W hkn))
theorem Adv.stJ (A : Adv p e below D) (X : Stand p l e R s m args below meth c T locs cells slots) (hx : p.tables.exec = Jvm.exec) (hZ : Z.Warmed39 s.vm) (eT : T.heap = h) (F : ArJ Z h a n fJ) {j : Int32} {x : Int64} {k : Nat} (hk : j.toInt = k) (hkn : k < n) {g : JFrame} (hg : g.method = m) {rest : List Value} (hs : g.stack = .long x :: .int j :: .ref a :: rest) (hd : decode c.code g.pc = .ok (.lastore, 1))
    (kk : ∀ T' h', Stand p l e R s m args below meth c T' (locs ++ [⟨a, k⟩]) cells slots → T'.heap = h' → Wr h h' a k (.long x) → ArJ Z h' a n (fun i => if i = k then x else fJ i) → D (T'.setTop { g with pc := g.pc + 1, stack := rest })) : D (T.setTop g) := by
  obtain ⟨cl, Ar, r, H⟩ := F.2
  obtain ⟨T', h', X', e', W, st⟩ := Jvm.RoadKit.stJ X hx hZ eT Ar (j := j) (x := x) (inb hk hkn r) hg hs hd
  rw [to_nat hk] at X' W
  exact A (fun q => st _ q) (kk T' h' X' e' W (F.set W hkn))
theorem Adv.newI (A : Adv p e below D) (X : Stand p l e R s m args below meth c T locs cells slots) (hx : p.tables.exec = Jvm.exec) (hZ : Z.Warmed39 s.vm) {aty : ArrayType} (w : (Cond.arrayClass (newarray.typeOf aty)).before a0 Z = true) (eT : T.heap = h) {z : Int32} (hz : z.toInt = n) (cap : Nat) (hcap : n ≤ cap) (hb : cap * 8 ≤ 536870912) (hdv : defaultValue (newarray.typeOf aty) = .int 0) {ad : String} (had : "[" ++ (newarray.typeOf aty).toString = ad) (hc : cells + 1 ≤ R.cells) (hl : slots + cap ≤ R.slots) {g : JFrame} (hg : g.method = m) {rest : List Value} (hs : g.stack = .int z :: rest) (hd : decode c.code g.pc = .ok (.newarray aty, 2))
    (kk : ∀ T' h' a, a = h.size → Stand p l e R s m args below meth c T' locs (cells + 1) (slots + cap) → T'.heap = h' → Ext h h' → ArI Z h' a (newarray.typeOf aty) n (fun _ => 0) → Exa Z h' a ad → D (T'.setTop { g with pc := g.pc + 2, stack := .ref a :: rest })) : D (T.setTop g) := by
  have q0 : ¬ z < 0 := by rw [Int32.lt_iff_toInt_lt, hz, show (0 : Int32).toInt = 0 from rfl]; omega
  obtain ⟨T', h', k, X', e', E, Ar, Ex, st⟩ := newPE X hx hZ w eT hg hd hs q0 (cap := cap) (by rw [to_nat hz]; exact hcap) hb hc hl had
  exact A (fun q => st _ q) (kk T' h' _ rfl X' e' E (ArI.mk Ar hz hdv) Ex)
theorem Adv.newJ (A : Adv p e below D) (X : Stand p l e R s m args below meth c T locs cells slots) (hx : p.tables.exec = Jvm.exec) (hZ : Z.Warmed39 s.vm) (w : (Cond.arrayClass .long).before a0 Z = true) (eT : T.heap = h) {z : Int32} (hz : z.toInt = n) (cap : Nat) (hcap : n ≤ cap) (hb : cap * 8 ≤ 536870912) (hc : cells + 1 ≤ R.cells) (hl : slots + cap ≤ R.slots) {g : JFrame} (hg : g.method = m) {rest : List Value} (hs : g.stack = .int z :: rest) (hd : decode c.code g.pc = .ok (.newarray .long, 2))
    (kk : ∀ T' h' a, a = h.size → Stand p l e R s m args below meth c T' locs (cells + 1) (slots + cap) → T'.heap = h' → Ext h h' → ArJ Z h' a n (fun _ => 0) → D (T'.setTop { g with pc := g.pc + 2, stack := .ref a :: rest })) : D (T.setTop g) := by
  have q0 : ¬ z < 0 := by rw [Int32.lt_iff_toInt_lt, hz, show (0 : Int32).toInt = 0 from rfl]; omega
  obtain ⟨T', h', k, X', e', E, Ar, st⟩   := newP (aty := .long) X hx hZ w eT hg hd hs q0 (cap := cap) (by rw [to_nat hz]; exact hcap) hb hc hl
  exact A (fun q => st _ q) (kk T' h' _ rfl X' e' E (ArJ.mk Ar hz))
theorem Adv.cloneI (A : Adv p e below D) (X : Stand p l e R s m args below meth c T locs cells slots) (hx : p.tables.exec = Jvm.exec) (hZ : Z.Warmed39 s.vm) {own ad : String} {index : Nat} (hown : s.vm.findClass own = some m.cls)
    (w1 : (Cond.methodLink own index ⟨ad, "clone", "()Ljava/lang/Object;"⟩).before a0 Z = true) (w2 : (Cond.sameMethod ad "java/lang/Object" "clone" "()Ljava/lang/Object;").before a0 Z = true) (w3 : (Cond.native ⟨"java/lang/Object", "clone", "()Ljava/lang/Object;"⟩).before a0 Z = true)
    (w4 : (Cond.instanceMethod ⟨"java/lang/Object", "clone", "()Ljava/lang/Object;"⟩).before a0 Z = true) (w5 : (Cond.selects ad ⟨ad, "clone", "()Ljava/lang/Object;"⟩ ⟨"java/lang/Object", "clone", "()Ljava/lang/Object;"⟩).before a0 Z = true) (w6 : (Cond.castable ad "java/lang/Cloneable").before a0 Z = true)
    (eT : T.heap = h) (F : ArI Z h a ty n f) (hfit : ∀ i, i < n → fits ty (.int (f i)) = true) (E : Exa Z h a ad) (W cap : Nat) (hcap : n ≤ cap) {g : JFrame} (hg : g.method = m) (hsz : g.locals.size = c.maxLocals) {rest : List Value} (hs : g.stack = .ref a :: rest) (hd : decode c.code g.pc = .ok (.invokevirtual index, 3))
    (hW : 2 * g.monitorRoom + (rest.map fun v => v.category).sum ≤ W) (hf : 1 ≤ R.frames) (hl : W + 14 ≤ R.locals) (hc : cells + 1 ≤ R.cells) (hsl : slots + cap ≤ R.slots)
    (kk : ∀ T' h' b, b = h.size → Stand p l e R s m args below meth c T' locs (cells + 1) (slots + cap) → T'.heap = h' → Ext h h' → ArI Z h' b ty n f → Exa Z h' b ad → D (T'.setTop { g with pc := g.pc + 3, stack := .ref b :: rest })) : D (T.setTop g) := by
  obtain ⟨z, cl, Ar, r, H⟩ := F
  have FC : FitC Z cl := fitC_of Ar fun i hi v hv => by rw [H i (by omega)] at hv; cases hv; exact hfit i (by omega)
  obtain ⟨T', h', X', e', Ex, Ar', E', st⟩ := cloneA X hx hZ hown w1 w2 w3 w4 w5 w6 eT Ar E FC hg hsz hs hd hf hW hl (by rw [r]; exact hcap) hc hsl
  exact A (fun q => st _ q) (kk T' h' _ rfl X' e' Ex ⟨z, _, Ar', r, H⟩ E')
end Arrays
end Jvm.JW
namespace Jvm.Pilot.@@N@@
open Jvm Jvm.ClassFile Sem Op Lib Jvm.Free Jvm.Stand Jvm.LawKit Jvm.RoadKit Bundle Jvm.JW Jvm.Pilot.@@N@@.Jvm.D
theorem d1_0 : decode prog_96_method_4_code 0 = .ok (.aload_n 0, 1) := by decide +kernel
theorem d1_1 : decode prog_96_method_4_code 1 = .ok (.iload_n 1, 1) := by decide +kernel
theorem d1_2 : decode prog_96_method_4_code 2 = .ok (.baload, 1) := by decide +kernel
theorem d1_3 : decode prog_96_method_4_code 3 = .ok (.sipush 255, 3) := by decide +kernel
theorem d1_6 : decode prog_96_method_4_code 6 = .ok (.iand, 1) := by decide +kernel
theorem d1_7 : decode prog_96_method_4_code 7 = .ok (.istore_n 2, 1) := by decide +kernel
theorem d1_8 : decode prog_96_method_4_code 8 = .ok (.iload_n 2, 1) := by decide +kernel
theorem d1_9 : decode prog_96_method_4_code 9 = .ok (.sipush 128, 3) := by decide +kernel
theorem d1_12 : decode prog_96_method_4_code 12 = .ok (.if_icmp .ge 5, 3) := by decide +kernel
theorem d1_15 : decode prog_96_method_4_code 15 = .ok (.iload_n 2, 1) := by decide +kernel
theorem d1_16 : decode prog_96_method_4_code 16 = .ok (.ireturn, 1) := by decide +kernel
theorem d1_17 : decode prog_96_method_4_code 17 = .ok (.iload_n 2, 1) := by decide +kernel
theorem d1_18 : decode prog_96_method_4_code 18 = .ok (.sipush 224, 3) := by decide +kernel
theorem d1_21 : decode prog_96_method_4_code 21 = .ok (.if_icmp .ge 20, 3) := by decide +kernel
theorem d1_24 : decode prog_96_method_4_code 24 = .ok (.iload_n 2, 1) := by decide +kernel
theorem d1_25 : decode prog_96_method_4_code 25 = .ok (.bipush 31, 2) := by decide +kernel
theorem d1_27 : decode prog_96_method_4_code 27 = .ok (.iand, 1) := by decide +kernel
theorem d1_28 : decode prog_96_method_4_code 28 = .ok (.bipush 6, 2) := by decide +kernel
theorem d1_30 : decode prog_96_method_4_code 30 = .ok (.ishl, 1) := by decide +kernel
theorem d1_31 : decode prog_96_method_4_code 31 = .ok (.aload_n 0, 1) := by decide +kernel
theorem d1_32 : decode prog_96_method_4_code 32 = .ok (.iload_n 1, 1) := by decide +kernel
theorem d1_33 : decode prog_96_method_4_code 33 = .ok (.iconst 1, 1) := by decide +kernel
theorem d1_34 : decode prog_96_method_4_code 34 = .ok (.iadd, 1) := by decide +kernel
theorem d1_35 : decode prog_96_method_4_code 35 = .ok (.baload, 1) := by decide +kernel
theorem d1_36 : decode prog_96_method_4_code 36 = .ok (.bipush 63, 2) := by decide +kernel
theorem d1_38 : decode prog_96_method_4_code 38 = .ok (.iand, 1) := by decide +kernel
theorem d1_39 : decode prog_96_method_4_code 39 = .ok (.ior, 1) := by decide +kernel
theorem d1_40 : decode prog_96_method_4_code 40 = .ok (.ireturn, 1) := by decide +kernel
theorem d1_41 : decode prog_96_method_4_code 41 = .ok (.iload_n 2, 1) := by decide +kernel
theorem d1_42 : decode prog_96_method_4_code 42 = .ok (.sipush 240, 3) := by decide +kernel
theorem d1_45 : decode prog_96_method_4_code 45 = .ok (.if_icmp .ge 32, 3) := by decide +kernel
theorem d1_48 : decode prog_96_method_4_code 48 = .ok (.iload_n 2, 1) := by decide +kernel
theorem d1_49 : decode prog_96_method_4_code 49 = .ok (.bipush 15, 2) := by decide +kernel
theorem d1_51 : decode prog_96_method_4_code 51 = .ok (.iand, 1) := by decide +kernel
theorem d1_52 : decode prog_96_method_4_code 52 = .ok (.bipush 12, 2) := by decide +kernel
theorem d1_54 : decode prog_96_method_4_code 54 = .ok (.ishl, 1) := by decide +kernel
theorem d1_55 : decode prog_96_method_4_code 55 = .ok (.aload_n 0, 1) := by decide +kernel
theorem d1_56 : decode prog_96_method_4_code 56 = .ok (.iload_n 1, 1) := by decide +kernel
theorem d1_57 : decode prog_96_method_4_code 57 = .ok (.iconst 1, 1) := by decide +kernel
theorem d1_58 : decode prog_96_method_4_code 58 = .ok (.iadd, 1) := by decide +kernel
theorem d1_59 : decode prog_96_method_4_code 59 = .ok (.baload, 1) := by decide +kernel
theorem d1_60 : decode prog_96_method_4_code 60 = .ok (.bipush 63, 2) := by decide +kernel
theorem d1_62 : decode prog_96_method_4_code 62 = .ok (.iand, 1) := by decide +kernel
theorem d1_63 : decode prog_96_method_4_code 63 = .ok (.bipush 6, 2) := by decide +kernel
theorem d1_65 : decode prog_96_method_4_code 65 = .ok (.ishl, 1) := by decide +kernel
theorem d1_66 : decode prog_96_method_4_code 66 = .ok (.ior, 1) := by decide +kernel
theorem d1_67 : decode prog_96_method_4_code 67 = .ok (.aload_n 0, 1) := by decide +kernel
theorem d1_68 : decode prog_96_method_4_code 68 = .ok (.iload_n 1, 1) := by decide +kernel
theorem d1_69 : decode prog_96_method_4_code 69 = .ok (.iconst 2, 1) := by decide +kernel
theorem d1_70 : decode prog_96_method_4_code 70 = .ok (.iadd, 1) := by decide +kernel
theorem d1_71 : decode prog_96_method_4_code 71 = .ok (.baload, 1) := by decide +kernel
theorem d1_72 : decode prog_96_method_4_code 72 = .ok (.bipush 63, 2) := by decide +kernel
theorem d1_74 : decode prog_96_method_4_code 74 = .ok (.iand, 1) := by decide +kernel
theorem d1_75 : decode prog_96_method_4_code 75 = .ok (.ior, 1) := by decide +kernel
theorem d1_76 : decode prog_96_method_4_code 76 = .ok (.ireturn, 1) := by decide +kernel
theorem d1_77 : decode prog_96_method_4_code 77 = .ok (.iload_n 2, 1) := by decide +kernel
theorem d1_78 : decode prog_96_method_4_code 78 = .ok (.bipush 7, 2) := by decide +kernel
theorem d1_80 : decode prog_96_method_4_code 80 = .ok (.iand, 1) := by decide +kernel
theorem d1_81 : decode prog_96_method_4_code 81 = .ok (.bipush 18, 2) := by decide +kernel
theorem d1_83 : decode prog_96_method_4_code 83 = .ok (.ishl, 1) := by decide +kernel
theorem d1_84 : decode prog_96_method_4_code 84 = .ok (.aload_n 0, 1) := by decide +kernel
theorem d1_85 : decode prog_96_method_4_code 85 = .ok (.iload_n 1, 1) := by decide +kernel
theorem d1_86 : decode prog_96_method_4_code 86 = .ok (.iconst 1, 1) := by decide +kernel
theorem d1_87 : decode prog_96_method_4_code 87 = .ok (.iadd, 1) := by decide +kernel
theorem d1_88 : decode prog_96_method_4_code 88 = .ok (.baload, 1) := by decide +kernel
theorem d1_89 : decode prog_96_method_4_code 89 = .ok (.bipush 63, 2) := by decide +kernel
theorem d1_91 : decode prog_96_method_4_code 91 = .ok (.iand, 1) := by decide +kernel
theorem d1_92 : decode prog_96_method_4_code 92 = .ok (.bipush 12, 2) := by decide +kernel
theorem d1_94 : decode prog_96_method_4_code 94 = .ok (.ishl, 1) := by decide +kernel
theorem d1_95 : decode prog_96_method_4_code 95 = .ok (.ior, 1) := by decide +kernel
theorem d1_96 : decode prog_96_method_4_code 96 = .ok (.aload_n 0, 1) := by decide +kernel
theorem d1_97 : decode prog_96_method_4_code 97 = .ok (.iload_n 1, 1) := by decide +kernel
theorem d1_98 : decode prog_96_method_4_code 98 = .ok (.iconst 2, 1) := by decide +kernel
theorem d1_99 : decode prog_96_method_4_code 99 = .ok (.iadd, 1) := by decide +kernel
theorem d1_100 : decode prog_96_method_4_code 100 = .ok (.baload, 1) := by decide +kernel
theorem d1_101 : decode prog_96_method_4_code 101 = .ok (.bipush 63, 2) := by decide +kernel
theorem d1_103 : decode prog_96_method_4_code 103 = .ok (.iand, 1) := by decide +kernel
theorem d1_104 : decode prog_96_method_4_code 104 = .ok (.bipush 6, 2) := by decide +kernel
theorem d1_106 : decode prog_96_method_4_code 106 = .ok (.ishl, 1) := by decide +kernel
theorem d1_107 : decode prog_96_method_4_code 107 = .ok (.ior, 1) := by decide +kernel
theorem d1_108 : decode prog_96_method_4_code 108 = .ok (.aload_n 0, 1) := by decide +kernel
theorem d1_109 : decode prog_96_method_4_code 109 = .ok (.iload_n 1, 1) := by decide +kernel
theorem d1_110 : decode prog_96_method_4_code 110 = .ok (.iconst 3, 1) := by decide +kernel
theorem d1_111 : decode prog_96_method_4_code 111 = .ok (.iadd, 1) := by decide +kernel
theorem d1_112 : decode prog_96_method_4_code 112 = .ok (.baload, 1) := by decide +kernel
theorem d1_113 : decode prog_96_method_4_code 113 = .ok (.bipush 63, 2) := by decide +kernel
theorem d1_115 : decode prog_96_method_4_code 115 = .ok (.iand, 1) := by decide +kernel
theorem d1_116 : decode prog_96_method_4_code 116 = .ok (.ior, 1) := by decide +kernel
theorem d1_117 : decode prog_96_method_4_code 117 = .ok (.ireturn, 1) := by decide +kernel
theorem pn1 : plainFor site_391 = true := by decide +kernel
theorem ef1 (p1 : Addr) (p2 : Int32) (m : MethodId) : entryFrame m #[(.ref p1), (.int p2)] 3 = mkF m 0 #[.val (.ref p1), .val (.int p2), .unset] [] := by first | (simp [entryFrame, mkF, argsToLocals, Value.category]; done) | rfl
def f1 (fa : Nat → Int32) (k : Nat) : Int32 := let x2_8 := ((fa k) &&& (255 : Int32)); if x2_8 < (128 : Int32) then (x2_8) else (if x2_8 < (224 : Int32) then ((((x2_8 &&& (31 : Int32)) <<< ((6 : Int32) &&& 31)) ||| ((fa (k + 1)) &&& (63 : Int32)))) else (if x2_8 < (240 : Int32) then (((((x2_8 &&& (15 : Int32)) <<< ((12 : Int32) &&& 31)) ||| (((fa (k + 1)) &&& (63 : Int32)) <<< ((6 : Int32) &&& 31))) ||| ((fa (k + 2)) &&& (63 : Int32)))) else ((((((x2_8 &&& (7 : Int32)) <<< ((18 : Int32) &&& 31)) ||| (((fa (k + 1)) &&& (63 : Int32)) <<< ((12 : Int32) &&& 31))) ||| (((fa (k + 2)) &&& (63 : Int32)) <<< ((6 : Int32) &&& 31))) ||| ((fa (k + 3)) &&& (63 : Int32))))))
set_option maxRecDepth 65536 in
set_option maxHeartbeats 40000000 in
theorem rm1 (l : Launch) (Z : State) (a0 : Array Value) (hw : ∀ d ∈ tables_1, d.before a0 Z = true) (ws : List Jvm.Cond) (p1 : Addr) (p2 : Int32) (h0 : Heap) (n0 : Nat) (fa : Nat → Int32) (k : Nat) (hk : p2.toInt = k) (hk4 : k < 4) (V_p1 : ArI Z h0 p1 .byte 8 fa) :
    JMet l Z site_391 prog_96_method_4_code 3 (some .int) ws ({ frames := 0, cells := 0, slots := 0, locals := 0 } : Room) #[(.ref p1), (.int p2)] h0 (QP (.int (f1 fa k)) h0 n0) := by
  refine Jvm.JW.body #[.val (.ref p1), .val (.int p2), .unset] pn1 (ef1 p1 p2) ?_
  intro p e s m below meth c T0 D A F X0 hx hZ hby hml hown hnm hrt hlk e0
  refine A (XS.aloadN X0.here hx rfl (hb hby d1_0) rfl rfl) ?_
  show D (T0.setTop (mkF m 1 #[.val (.ref p1), .val (.int p2), .unset] [(.ref p1)]))
  refine A (XS.iloadN X0.here hx rfl (hb hby d1_1) rfl) ?_
  show D (T0.setTop (mkF m 2 #[.val (.ref p1), .val (.int p2), .unset] [(.int p2), (.ref p1)]))
  refine Adv.ldB A X0 hx hZ e0 V_p1 (k := k) hk (by omega) (g := (mkF m 2 #[.val (.ref p1), .val (.int p2), .unset] [(.int p2), (.ref p1)])) rfl rfl (hb hby d1_2) ?_
  show D (T0.setTop (mkF m 3 #[.val (.ref p1), .val (.int p2), .unset] [(.int (fa k))]))
  refine A (XS.sipush X0.here hx rfl (hb hby d1_3)) ?_
  show D (T0.setTop (mkF m 6 #[.val (.ref p1), .val (.int p2), .unset] [(.int (255 : Int32)), (.int (fa k))]))
  refine A (XS.iand X0.here hx rfl (hb hby d1_6) rfl) ?_
  show D (T0.setTop (mkF m 7 #[.val (.ref p1), .val (.int p2), .unset] [(.int ((fa k) &&& (255 : Int32)))]))
  refine A (XS.istoreN X0.here hx rfl (hb hby d1_7) rfl (l' := #[.val (.ref p1), .val (.int p2), .val (.int ((fa k) &&& (255 : Int32)))]) rfl) ?_
  show D (T0.setTop (mkF m 8 #[.val (.ref p1), .val (.int p2), .val (.int ((fa k) &&& (255 : Int32)))] []))
  suffices Kx2_8 : ∀ x2_8 : Int32, x2_8 = ((fa k) &&& (255 : Int32)) → D (T0.setTop (mkF m 8 #[.val (.ref p1), .val (.int p2), .val (.int x2_8)] [])) from Kx2_8 _ rfl
  intro x2_8 hx2_8
  refine A (XS.iloadN X0.here hx rfl (hb hby d1_8) rfl) ?_
  show D (T0.setTop (mkF m 9 #[.val (.ref p1), .val (.int p2), .val (.int x2_8)] [(.int x2_8)]))
  refine A (XS.sipush X0.here hx rfl (hb hby d1_9)) ?_
  show D (T0.setTop (mkF m 12 #[.val (.ref p1), .val (.int p2), .val (.int x2_8)] [(.int (128 : Int32)), (.int x2_8)]))
  by_cases c12_1 : x2_8 < (128 : Int32)
  · refine A (XS.icmpNo X0.here hx rfl (hb hby d1_12) rfl (tlt c12_1).2.1) ?_
    show D (T0.setTop (mkF m 15 #[.val (.ref p1), .val (.int p2), .val (.int x2_8)] []))
    refine A (XS.iloadN X0.here hx rfl (hb hby d1_15) rfl) ?_
    show D (T0.setTop (mkF m 16 #[.val (.ref p1), .val (.int p2), .val (.int x2_8)] [(.int x2_8)]))
    refine F _ (Jvm.JW.ret X0 hlk (v := some (.int x2_8)) (fun h => by rw [hrt] at h; cases h) (fun fs hr => retOut X0 hx hrt rfl (Or.inl ⟨rfl, Or.inl rfl, _, rfl⟩) (hb hby d1_16) hr) rfl ?_ (by decide) (by decide))
    exact ⟨congrArg (fun z => some (Value.int z)) (by subst hx2_8; exact (if_pos c12_1).symm), (Fr.nil n0), e0⟩
  · refine A (XS.icmpYes X0.here hx rfl (pc0 := 12) (pc' := 17) rfl (hb hby d1_12) rfl (flt c12_1).2.1 (by decide) (by decide)) ?_
    show D (T0.setTop (mkF m 17 #[.val (.ref p1), .val (.int p2), .val (.int x2_8)] []))
    refine A (XS.iloadN X0.here hx rfl (hb hby d1_17) rfl) ?_
    show D (T0.setTop (mkF m 18 #[.val (.ref p1), .val (.int p2), .val (.int x2_8)] [(.int x2_8)]))
    refine A (XS.sipush X0.here hx rfl (hb hby d1_18)) ?_
    show D (T0.setTop (mkF m 21 #[.val (.ref p1), .val (.int p2), .val (.int x2_8)] [(.int (224 : Int32)), (.int x2_8)]))
    by_cases c21_2 : x2_8 < (224 : Int32)
    · refine A (XS.icmpNo X0.here hx rfl (hb hby d1_21) rfl (tlt c21_2).2.1) ?_
      show D (T0.setTop (mkF m 24 #[.val (.ref p1), .val (.int p2), .val (.int x2_8)] []))
      refine A (XS.iloadN X0.here hx rfl (hb hby d1_24) rfl) ?_
      show D (T0.setTop (mkF m 25 #[.val (.ref p1), .val (.int p2), .val (.int x2_8)] [(.int x2_8)]))
      refine A (XS.bipush X0.here hx rfl (hb hby d1_25)) ?_
      show D (T0.setTop (mkF m 27 #[.val (.ref p1), .val (.int p2), .val (.int x2_8)] [(.int (31 : Int32)), (.int x2_8)]))
      refine A (XS.iand X0.here hx rfl (hb hby d1_27) rfl) ?_
      show D (T0.setTop (mkF m 28 #[.val (.ref p1), .val (.int p2), .val (.int x2_8)] [(.int (x2_8 &&& (31 : Int32)))]))
      refine A (XS.bipush X0.here hx rfl (hb hby d1_28)) ?_
      show D (T0.setTop (mkF m 30 #[.val (.ref p1), .val (.int p2), .val (.int x2_8)] [(.int (6 : Int32)), (.int (x2_8 &&& (31 : Int32)))]))
      refine A (XS.ishl X0.here hx rfl (hb hby d1_30) rfl) ?_
      show D (T0.setTop (mkF m 31 #[.val (.ref p1), .val (.int p2), .val (.int x2_8)] [(.int ((x2_8 &&& (31 : Int32)) <<< ((6 : Int32) &&& 31)))]))
      refine A (XS.aloadN X0.here hx rfl (hb hby d1_31) rfl rfl) ?_
      show D (T0.setTop (mkF m 32 #[.val (.ref p1), .val (.int p2), .val (.int x2_8)] [(.ref p1), (.int ((x2_8 &&& (31 : Int32)) <<< ((6 : Int32) &&& 31)))]))
      refine A (XS.iloadN X0.here hx rfl (hb hby d1_32) rfl) ?_
      show D (T0.setTop (mkF m 33 #[.val (.ref p1), .val (.int p2), .val (.int x2_8)] [(.int p2), (.ref p1), (.int ((x2_8 &&& (31 : Int32)) <<< ((6 : Int32) &&& 31)))]))
      refine A (XS.iconst X0.here hx rfl (hb hby d1_33)) ?_
      show D (T0.setTop (mkF m 34 #[.val (.ref p1), .val (.int p2), .val (.int x2_8)] [(.int (1 : Int32)), (.int p2), (.ref p1), (.int ((x2_8 &&& (31 : Int32)) <<< ((6 : Int32) &&& 31)))]))
      refine A (XS.iadd X0.here hx rfl (hb hby d1_34) rfl) ?_
      show D (T0.setTop (mkF m 35 #[.val (.ref p1), .val (.int p2), .val (.int x2_8)] [(.int (p2 + (1 : Int32))), (.ref p1), (.int ((x2_8 &&& (31 : Int32)) <<< ((6 : Int32) &&& 31)))]))
      refine Adv.ldB A X0 hx hZ e0 V_p1 (k := (k + 1)) (ixadd hk (by decide) (by omega)) (by omega) (g := (mkF m 35 #[.val (.ref p1), .val (.int p2), .val (.int x2_8)] [(.int (p2 + (1 : Int32))), (.ref p1), (.int ((x2_8 &&& (31 : Int32)) <<< ((6 : Int32) &&& 31)))])) rfl rfl (hb hby d1_35) ?_
      show D (T0.setTop (mkF m 36 #[.val (.ref p1), .val (.int p2), .val (.int x2_8)] [(.int (fa (k + 1))), (.int ((x2_8 &&& (31 : Int32)) <<< ((6 : Int32) &&& 31)))]))
      refine A (XS.bipush X0.here hx rfl (hb hby d1_36)) ?_
      show D (T0.setTop (mkF m 38 #[.val (.ref p1), .val (.int p2), .val (.int x2_8)] [(.int (63 : Int32)), (.int (fa (k + 1))), (.int ((x2_8 &&& (31 : Int32)) <<< ((6 : Int32) &&& 31)))]))
      refine A (XS.iand X0.here hx rfl (hb hby d1_38) rfl) ?_
      show D (T0.setTop (mkF m 39 #[.val (.ref p1), .val (.int p2), .val (.int x2_8)] [(.int ((fa (k + 1)) &&& (63 : Int32))), (.int ((x2_8 &&& (31 : Int32)) <<< ((6 : Int32) &&& 31)))]))
      refine A (XS.ior X0.here hx rfl (hb hby d1_39) rfl) ?_
      show D (T0.setTop (mkF m 40 #[.val (.ref p1), .val (.int p2), .val (.int x2_8)] [(.int (((x2_8 &&& (31 : Int32)) <<< ((6 : Int32) &&& 31)) ||| ((fa (k + 1)) &&& (63 : Int32))))]))
      refine F _ (Jvm.JW.ret X0 hlk (v := some (.int (((x2_8 &&& (31 : Int32)) <<< ((6 : Int32) &&& 31)) ||| ((fa (k + 1)) &&& (63 : Int32))))) (fun h => by rw [hrt] at h; cases h) (fun fs hr => retOut X0 hx hrt rfl (Or.inl ⟨rfl, Or.inl rfl, _, rfl⟩) (hb hby d1_40) hr) rfl ?_ (by decide) (by decide))
      exact ⟨congrArg (fun z => some (Value.int z)) (by subst hx2_8; exact ((if_neg c12_1).trans (if_pos c21_2)).symm), (Fr.nil n0), e0⟩
    · refine A (XS.icmpYes X0.here hx rfl (pc0 := 21) (pc' := 41) rfl (hb hby d1_21) rfl (flt c21_2).2.1 (by decide) (by decide)) ?_
      show D (T0.setTop (mkF m 41 #[.val (.ref p1), .val (.int p2), .val (.int x2_8)] []))
      refine A (XS.iloadN X0.here hx rfl (hb hby d1_41) rfl) ?_
      show D (T0.setTop (mkF m 42 #[.val (.ref p1), .val (.int p2), .val (.int x2_8)] [(.int x2_8)]))
      refine A (XS.sipush X0.here hx rfl (hb hby d1_42)) ?_
      show D (T0.setTop (mkF m 45 #[.val (.ref p1), .val (.int p2), .val (.int x2_8)] [(.int (240 : Int32)), (.int x2_8)]))
      by_cases c45_3 : x2_8 < (240 : Int32)
      · refine A (XS.icmpNo X0.here hx rfl (hb hby d1_45) rfl (tlt c45_3).2.1) ?_
        show D (T0.setTop (mkF m 48 #[.val (.ref p1), .val (.int p2), .val (.int x2_8)] []))
        refine A (XS.iloadN X0.here hx rfl (hb hby d1_48) rfl) ?_
        show D (T0.setTop (mkF m 49 #[.val (.ref p1), .val (.int p2), .val (.int x2_8)] [(.int x2_8)]))
        refine A (XS.bipush X0.here hx rfl (hb hby d1_49)) ?_
        show D (T0.setTop (mkF m 51 #[.val (.ref p1), .val (.int p2), .val (.int x2_8)] [(.int (15 : Int32)), (.int x2_8)]))
        refine A (XS.iand X0.here hx rfl (hb hby d1_51) rfl) ?_
        show D (T0.setTop (mkF m 52 #[.val (.ref p1), .val (.int p2), .val (.int x2_8)] [(.int (x2_8 &&& (15 : Int32)))]))
        refine A (XS.bipush X0.here hx rfl (hb hby d1_52)) ?_
        show D (T0.setTop (mkF m 54 #[.val (.ref p1), .val (.int p2), .val (.int x2_8)] [(.int (12 : Int32)), (.int (x2_8 &&& (15 : Int32)))]))
        refine A (XS.ishl X0.here hx rfl (hb hby d1_54) rfl) ?_
        show D (T0.setTop (mkF m 55 #[.val (.ref p1), .val (.int p2), .val (.int x2_8)] [(.int ((x2_8 &&& (15 : Int32)) <<< ((12 : Int32) &&& 31)))]))
        refine A (XS.aloadN X0.here hx rfl (hb hby d1_55) rfl rfl) ?_
        show D (T0.setTop (mkF m 56 #[.val (.ref p1), .val (.int p2), .val (.int x2_8)] [(.ref p1), (.int ((x2_8 &&& (15 : Int32)) <<< ((12 : Int32) &&& 31)))]))
        refine A (XS.iloadN X0.here hx rfl (hb hby d1_56) rfl) ?_
        show D (T0.setTop (mkF m 57 #[.val (.ref p1), .val (.int p2), .val (.int x2_8)] [(.int p2), (.ref p1), (.int ((x2_8 &&& (15 : Int32)) <<< ((12 : Int32) &&& 31)))]))
        refine A (XS.iconst X0.here hx rfl (hb hby d1_57)) ?_
        show D (T0.setTop (mkF m 58 #[.val (.ref p1), .val (.int p2), .val (.int x2_8)] [(.int (1 : Int32)), (.int p2), (.ref p1), (.int ((x2_8 &&& (15 : Int32)) <<< ((12 : Int32) &&& 31)))]))
        refine A (XS.iadd X0.here hx rfl (hb hby d1_58) rfl) ?_
        show D (T0.setTop (mkF m 59 #[.val (.ref p1), .val (.int p2), .val (.int x2_8)] [(.int (p2 + (1 : Int32))), (.ref p1), (.int ((x2_8 &&& (15 : Int32)) <<< ((12 : Int32) &&& 31)))]))
        refine Adv.ldB A X0 hx hZ e0 V_p1 (k := (k + 1)) (ixadd hk (by decide) (by omega)) (by omega) (g := (mkF m 59 #[.val (.ref p1), .val (.int p2), .val (.int x2_8)] [(.int (p2 + (1 : Int32))), (.ref p1), (.int ((x2_8 &&& (15 : Int32)) <<< ((12 : Int32) &&& 31)))])) rfl rfl (hb hby d1_59) ?_
        show D (T0.setTop (mkF m 60 #[.val (.ref p1), .val (.int p2), .val (.int x2_8)] [(.int (fa (k + 1))), (.int ((x2_8 &&& (15 : Int32)) <<< ((12 : Int32) &&& 31)))]))
        refine A (XS.bipush X0.here hx rfl (hb hby d1_60)) ?_
        show D (T0.setTop (mkF m 62 #[.val (.ref p1), .val (.int p2), .val (.int x2_8)] [(.int (63 : Int32)), (.int (fa (k + 1))), (.int ((x2_8 &&& (15 : Int32)) <<< ((12 : Int32) &&& 31)))]))
        refine A (XS.iand X0.here hx rfl (hb hby d1_62) rfl) ?_
        show D (T0.setTop (mkF m 63 #[.val (.ref p1), .val (.int p2), .val (.int x2_8)] [(.int ((fa (k + 1)) &&& (63 : Int32))), (.int ((x2_8 &&& (15 : Int32)) <<< ((12 : Int32) &&& 31)))]))
        refine A (XS.bipush X0.here hx rfl (hb hby d1_63)) ?_
        show D (T0.setTop (mkF m 65 #[.val (.ref p1), .val (.int p2), .val (.int x2_8)] [(.int (6 : Int32)), (.int ((fa (k + 1)) &&& (63 : Int32))), (.int ((x2_8 &&& (15 : Int32)) <<< ((12 : Int32) &&& 31)))]))
        refine A (XS.ishl X0.here hx rfl (hb hby d1_65) rfl) ?_
        show D (T0.setTop (mkF m 66 #[.val (.ref p1), .val (.int p2), .val (.int x2_8)] [(.int (((fa (k + 1)) &&& (63 : Int32)) <<< ((6 : Int32) &&& 31))), (.int ((x2_8 &&& (15 : Int32)) <<< ((12 : Int32) &&& 31)))]))
        refine A (XS.ior X0.here hx rfl (hb hby d1_66) rfl) ?_
        show D (T0.setTop (mkF m 67 #[.val (.ref p1), .val (.int p2), .val (.int x2_8)] [(.int (((x2_8 &&& (15 : Int32)) <<< ((12 : Int32) &&& 31)) ||| (((fa (k + 1)) &&& (63 : Int32)) <<< ((6 : Int32) &&& 31))))]))
        refine A (XS.aloadN X0.here hx rfl (hb hby d1_67) rfl rfl) ?_
        show D (T0.setTop (mkF m 68 #[.val (.ref p1), .val (.int p2), .val (.int x2_8)] [(.ref p1), (.int (((x2_8 &&& (15 : Int32)) <<< ((12 : Int32) &&& 31)) ||| (((fa (k + 1)) &&& (63 : Int32)) <<< ((6 : Int32) &&& 31))))]))
        refine A (XS.iloadN X0.here hx rfl (hb hby d1_68) rfl) ?_
        show D (T0.setTop (mkF m 69 #[.val (.ref p1), .val (.int p2), .val (.int x2_8)] [(.int p2), (.ref p1), (.int (((x2_8 &&& (15 : Int32)) <<< ((12 : Int32) &&& 31)) ||| (((fa (k + 1)) &&& (63 : Int32)) <<< ((6 : Int32) &&& 31))))]))
        refine A (XS.iconst X0.here hx rfl (hb hby d1_69)) ?_
        show D (T0.setTop (mkF m 70 #[.val (.ref p1), .val (.int p2), .val (.int x2_8)] [(.int (2 : Int32)), (.int p2), (.ref p1), (.int (((x2_8 &&& (15 : Int32)) <<< ((12 : Int32) &&& 31)) ||| (((fa (k + 1)) &&& (63 : Int32)) <<< ((6 : Int32) &&& 31))))]))
        refine A (XS.iadd X0.here hx rfl (hb hby d1_70) rfl) ?_
        show D (T0.setTop (mkF m 71 #[.val (.ref p1), .val (.int p2), .val (.int x2_8)] [(.int (p2 + (2 : Int32))), (.ref p1), (.int (((x2_8 &&& (15 : Int32)) <<< ((12 : Int32) &&& 31)) ||| (((fa (k + 1)) &&& (63 : Int32)) <<< ((6 : Int32) &&& 31))))]))
        refine Adv.ldB A X0 hx hZ e0 V_p1 (k := (k + 2)) (ixadd hk (by decide) (by omega)) (by omega) (g := (mkF m 71 #[.val (.ref p1), .val (.int p2), .val (.int x2_8)] [(.int (p2 + (2 : Int32))), (.ref p1), (.int (((x2_8 &&& (15 : Int32)) <<< ((12 : Int32) &&& 31)) ||| (((fa (k + 1)) &&& (63 : Int32)) <<< ((6 : Int32) &&& 31))))])) rfl rfl (hb hby d1_71) ?_
        show D (T0.setTop (mkF m 72 #[.val (.ref p1), .val (.int p2), .val (.int x2_8)] [(.int (fa (k + 2))), (.int (((x2_8 &&& (15 : Int32)) <<< ((12 : Int32) &&& 31)) ||| (((fa (k + 1)) &&& (63 : Int32)) <<< ((6 : Int32) &&& 31))))]))
        refine A (XS.bipush X0.here hx rfl (hb hby d1_72)) ?_
        show D (T0.setTop (mkF m 74 #[.val (.ref p1), .val (.int p2), .val (.int x2_8)] [(.int (63 : Int32)), (.int (fa (k + 2))), (.int (((x2_8 &&& (15 : Int32)) <<< ((12 : Int32) &&& 31)) ||| (((fa (k + 1)) &&& (63 : Int32)) <<< ((6 : Int32) &&& 31))))]))
        refine A (XS.iand X0.here hx rfl (hb hby d1_74) rfl) ?_
        show D (T0.setTop (mkF m 75 #[.val (.ref p1), .val (.int p2), .val (.int x2_8)] [(.int ((fa (k + 2)) &&& (63 : Int32))), (.int (((x2_8 &&& (15 : Int32)) <<< ((12 : Int32) &&& 31)) ||| (((fa (k + 1)) &&& (63 : Int32)) <<< ((6 : Int32) &&& 31))))]))
        refine A (XS.ior X0.here hx rfl (hb hby d1_75) rfl) ?_
        show D (T0.setTop (mkF m 76 #[.val (.ref p1), .val (.int p2), .val (.int x2_8)] [(.int ((((x2_8 &&& (15 : Int32)) <<< ((12 : Int32) &&& 31)) ||| (((fa (k + 1)) &&& (63 : Int32)) <<< ((6 : Int32) &&& 31))) ||| ((fa (k + 2)) &&& (63 : Int32))))]))
        refine F _ (Jvm.JW.ret X0 hlk (v := some (.int ((((x2_8 &&& (15 : Int32)) <<< ((12 : Int32) &&& 31)) ||| (((fa (k + 1)) &&& (63 : Int32)) <<< ((6 : Int32) &&& 31))) ||| ((fa (k + 2)) &&& (63 : Int32))))) (fun h => by rw [hrt] at h; cases h) (fun fs hr => retOut X0 hx hrt rfl (Or.inl ⟨rfl, Or.inl rfl, _, rfl⟩) (hb hby d1_76) hr) rfl ?_ (by decide) (by decide))
        exact ⟨congrArg (fun z => some (Value.int z)) (by subst hx2_8; exact (((if_neg c12_1).trans (if_neg c21_2)).trans (if_pos c45_3)).symm), (Fr.nil n0), e0⟩
      · refine A (XS.icmpYes X0.here hx rfl (pc0 := 45) (pc' := 77) rfl (hb hby d1_45) rfl (flt c45_3).2.1 (by decide) (by decide)) ?_
        show D (T0.setTop (mkF m 77 #[.val (.ref p1), .val (.int p2), .val (.int x2_8)] []))
        refine A (XS.iloadN X0.here hx rfl (hb hby d1_77) rfl) ?_
        show D (T0.setTop (mkF m 78 #[.val (.ref p1), .val (.int p2), .val (.int x2_8)] [(.int x2_8)]))
        refine A (XS.bipush X0.here hx rfl (hb hby d1_78)) ?_
        show D (T0.setTop (mkF m 80 #[.val (.ref p1), .val (.int p2), .val (.int x2_8)] [(.int (7 : Int32)), (.int x2_8)]))
        refine A (XS.iand X0.here hx rfl (hb hby d1_80) rfl) ?_
        show D (T0.setTop (mkF m 81 #[.val (.ref p1), .val (.int p2), .val (.int x2_8)] [(.int (x2_8 &&& (7 : Int32)))]))
        refine A (XS.bipush X0.here hx rfl (hb hby d1_81)) ?_
        show D (T0.setTop (mkF m 83 #[.val (.ref p1), .val (.int p2), .val (.int x2_8)] [(.int (18 : Int32)), (.int (x2_8 &&& (7 : Int32)))]))
        refine A (XS.ishl X0.here hx rfl (hb hby d1_83) rfl) ?_
        show D (T0.setTop (mkF m 84 #[.val (.ref p1), .val (.int p2), .val (.int x2_8)] [(.int ((x2_8 &&& (7 : Int32)) <<< ((18 : Int32) &&& 31)))]))
        refine A (XS.aloadN X0.here hx rfl (hb hby d1_84) rfl rfl) ?_
        show D (T0.setTop (mkF m 85 #[.val (.ref p1), .val (.int p2), .val (.int x2_8)] [(.ref p1), (.int ((x2_8 &&& (7 : Int32)) <<< ((18 : Int32) &&& 31)))]))
        refine A (XS.iloadN X0.here hx rfl (hb hby d1_85) rfl) ?_
        show D (T0.setTop (mkF m 86 #[.val (.ref p1), .val (.int p2), .val (.int x2_8)] [(.int p2), (.ref p1), (.int ((x2_8 &&& (7 : Int32)) <<< ((18 : Int32) &&& 31)))]))
        refine A (XS.iconst X0.here hx rfl (hb hby d1_86)) ?_
        show D (T0.setTop (mkF m 87 #[.val (.ref p1), .val (.int p2), .val (.int x2_8)] [(.int (1 : Int32)), (.int p2), (.ref p1), (.int ((x2_8 &&& (7 : Int32)) <<< ((18 : Int32) &&& 31)))]))
        refine A (XS.iadd X0.here hx rfl (hb hby d1_87) rfl) ?_
        show D (T0.setTop (mkF m 88 #[.val (.ref p1), .val (.int p2), .val (.int x2_8)] [(.int (p2 + (1 : Int32))), (.ref p1), (.int ((x2_8 &&& (7 : Int32)) <<< ((18 : Int32) &&& 31)))]))
        refine Adv.ldB A X0 hx hZ e0 V_p1 (k := (k + 1)) (ixadd hk (by decide) (by omega)) (by omega) (g := (mkF m 88 #[.val (.ref p1), .val (.int p2), .val (.int x2_8)] [(.int (p2 + (1 : Int32))), (.ref p1), (.int ((x2_8 &&& (7 : Int32)) <<< ((18 : Int32) &&& 31)))])) rfl rfl (hb hby d1_88) ?_
        show D (T0.setTop (mkF m 89 #[.val (.ref p1), .val (.int p2), .val (.int x2_8)] [(.int (fa (k + 1))), (.int ((x2_8 &&& (7 : Int32)) <<< ((18 : Int32) &&& 31)))]))
        refine A (XS.bipush X0.here hx rfl (hb hby d1_89)) ?_
        show D (T0.setTop (mkF m 91 #[.val (.ref p1), .val (.int p2), .val (.int x2_8)] [(.int (63 : Int32)), (.int (fa (k + 1))), (.int ((x2_8 &&& (7 : Int32)) <<< ((18 : Int32) &&& 31)))]))
        refine A (XS.iand X0.here hx rfl (hb hby d1_91) rfl) ?_
        show D (T0.setTop (mkF m 92 #[.val (.ref p1), .val (.int p2), .val (.int x2_8)] [(.int ((fa (k + 1)) &&& (63 : Int32))), (.int ((x2_8 &&& (7 : Int32)) <<< ((18 : Int32) &&& 31)))]))
        refine A (XS.bipush X0.here hx rfl (hb hby d1_92)) ?_
        show D (T0.setTop (mkF m 94 #[.val (.ref p1), .val (.int p2), .val (.int x2_8)] [(.int (12 : Int32)), (.int ((fa (k + 1)) &&& (63 : Int32))), (.int ((x2_8 &&& (7 : Int32)) <<< ((18 : Int32) &&& 31)))]))
        refine A (XS.ishl X0.here hx rfl (hb hby d1_94) rfl) ?_
        show D (T0.setTop (mkF m 95 #[.val (.ref p1), .val (.int p2), .val (.int x2_8)] [(.int (((fa (k + 1)) &&& (63 : Int32)) <<< ((12 : Int32) &&& 31))), (.int ((x2_8 &&& (7 : Int32)) <<< ((18 : Int32) &&& 31)))]))
        refine A (XS.ior X0.here hx rfl (hb hby d1_95) rfl) ?_
        show D (T0.setTop (mkF m 96 #[.val (.ref p1), .val (.int p2), .val (.int x2_8)] [(.int (((x2_8 &&& (7 : Int32)) <<< ((18 : Int32) &&& 31)) ||| (((fa (k + 1)) &&& (63 : Int32)) <<< ((12 : Int32) &&& 31))))]))
        refine A (XS.aloadN X0.here hx rfl (hb hby d1_96) rfl rfl) ?_
        show D (T0.setTop (mkF m 97 #[.val (.ref p1), .val (.int p2), .val (.int x2_8)] [(.ref p1), (.int (((x2_8 &&& (7 : Int32)) <<< ((18 : Int32) &&& 31)) ||| (((fa (k + 1)) &&& (63 : Int32)) <<< ((12 : Int32) &&& 31))))]))
        refine A (XS.iloadN X0.here hx rfl (hb hby d1_97) rfl) ?_
        show D (T0.setTop (mkF m 98 #[.val (.ref p1), .val (.int p2), .val (.int x2_8)] [(.int p2), (.ref p1), (.int (((x2_8 &&& (7 : Int32)) <<< ((18 : Int32) &&& 31)) ||| (((fa (k + 1)) &&& (63 : Int32)) <<< ((12 : Int32) &&& 31))))]))
        refine A (XS.iconst X0.here hx rfl (hb hby d1_98)) ?_
        show D (T0.setTop (mkF m 99 #[.val (.ref p1), .val (.int p2), .val (.int x2_8)] [(.int (2 : Int32)), (.int p2), (.ref p1), (.int (((x2_8 &&& (7 : Int32)) <<< ((18 : Int32) &&& 31)) ||| (((fa (k + 1)) &&& (63 : Int32)) <<< ((12 : Int32) &&& 31))))]))
        refine A (XS.iadd X0.here hx rfl (hb hby d1_99) rfl) ?_
        show D (T0.setTop (mkF m 100 #[.val (.ref p1), .val (.int p2), .val (.int x2_8)] [(.int (p2 + (2 : Int32))), (.ref p1), (.int (((x2_8 &&& (7 : Int32)) <<< ((18 : Int32) &&& 31)) ||| (((fa (k + 1)) &&& (63 : Int32)) <<< ((12 : Int32) &&& 31))))]))
        refine Adv.ldB A X0 hx hZ e0 V_p1 (k := (k + 2)) (ixadd hk (by decide) (by omega)) (by omega) (g := (mkF m 100 #[.val (.ref p1), .val (.int p2), .val (.int x2_8)] [(.int (p2 + (2 : Int32))), (.ref p1), (.int (((x2_8 &&& (7 : Int32)) <<< ((18 : Int32) &&& 31)) ||| (((fa (k + 1)) &&& (63 : Int32)) <<< ((12 : Int32) &&& 31))))])) rfl rfl (hb hby d1_100) ?_
        show D (T0.setTop (mkF m 101 #[.val (.ref p1), .val (.int p2), .val (.int x2_8)] [(.int (fa (k + 2))), (.int (((x2_8 &&& (7 : Int32)) <<< ((18 : Int32) &&& 31)) ||| (((fa (k + 1)) &&& (63 : Int32)) <<< ((12 : Int32) &&& 31))))]))
        refine A (XS.bipush X0.here hx rfl (hb hby d1_101)) ?_
        show D (T0.setTop (mkF m 103 #[.val (.ref p1), .val (.int p2), .val (.int x2_8)] [(.int (63 : Int32)), (.int (fa (k + 2))), (.int (((x2_8 &&& (7 : Int32)) <<< ((18 : Int32) &&& 31)) ||| (((fa (k + 1)) &&& (63 : Int32)) <<< ((12 : Int32) &&& 31))))]))
        refine A (XS.iand X0.here hx rfl (hb hby d1_103) rfl) ?_
        show D (T0.setTop (mkF m 104 #[.val (.ref p1), .val (.int p2), .val (.int x2_8)] [(.int ((fa (k + 2)) &&& (63 : Int32))), (.int (((x2_8 &&& (7 : Int32)) <<< ((18 : Int32) &&& 31)) ||| (((fa (k + 1)) &&& (63 : Int32)) <<< ((12 : Int32) &&& 31))))]))
        refine A (XS.bipush X0.here hx rfl (hb hby d1_104)) ?_
        show D (T0.setTop (mkF m 106 #[.val (.ref p1), .val (.int p2), .val (.int x2_8)] [(.int (6 : Int32)), (.int ((fa (k + 2)) &&& (63 : Int32))), (.int (((x2_8 &&& (7 : Int32)) <<< ((18 : Int32) &&& 31)) ||| (((fa (k + 1)) &&& (63 : Int32)) <<< ((12 : Int32) &&& 31))))]))
        refine A (XS.ishl X0.here hx rfl (hb hby d1_106) rfl) ?_
        show D (T0.setTop (mkF m 107 #[.val (.ref p1), .val (.int p2), .val (.int x2_8)] [(.int (((fa (k + 2)) &&& (63 : Int32)) <<< ((6 : Int32) &&& 31))), (.int (((x2_8 &&& (7 : Int32)) <<< ((18 : Int32) &&& 31)) ||| (((fa (k + 1)) &&& (63 : Int32)) <<< ((12 : Int32) &&& 31))))]))
        refine A (XS.ior X0.here hx rfl (hb hby d1_107) rfl) ?_
        show D (T0.setTop (mkF m 108 #[.val (.ref p1), .val (.int p2), .val (.int x2_8)] [(.int ((((x2_8 &&& (7 : Int32)) <<< ((18 : Int32) &&& 31)) ||| (((fa (k + 1)) &&& (63 : Int32)) <<< ((12 : Int32) &&& 31))) ||| (((fa (k + 2)) &&& (63 : Int32)) <<< ((6 : Int32) &&& 31))))]))
        refine A (XS.aloadN X0.here hx rfl (hb hby d1_108) rfl rfl) ?_
        show D (T0.setTop (mkF m 109 #[.val (.ref p1), .val (.int p2), .val (.int x2_8)] [(.ref p1), (.int ((((x2_8 &&& (7 : Int32)) <<< ((18 : Int32) &&& 31)) ||| (((fa (k + 1)) &&& (63 : Int32)) <<< ((12 : Int32) &&& 31))) ||| (((fa (k + 2)) &&& (63 : Int32)) <<< ((6 : Int32) &&& 31))))]))
        refine A (XS.iloadN X0.here hx rfl (hb hby d1_109) rfl) ?_
        show D (T0.setTop (mkF m 110 #[.val (.ref p1), .val (.int p2), .val (.int x2_8)] [(.int p2), (.ref p1), (.int ((((x2_8 &&& (7 : Int32)) <<< ((18 : Int32) &&& 31)) ||| (((fa (k + 1)) &&& (63 : Int32)) <<< ((12 : Int32) &&& 31))) ||| (((fa (k + 2)) &&& (63 : Int32)) <<< ((6 : Int32) &&& 31))))]))
        refine A (XS.iconst X0.here hx rfl (hb hby d1_110)) ?_
        show D (T0.setTop (mkF m 111 #[.val (.ref p1), .val (.int p2), .val (.int x2_8)] [(.int (3 : Int32)), (.int p2), (.ref p1), (.int ((((x2_8 &&& (7 : Int32)) <<< ((18 : Int32) &&& 31)) ||| (((fa (k + 1)) &&& (63 : Int32)) <<< ((12 : Int32) &&& 31))) ||| (((fa (k + 2)) &&& (63 : Int32)) <<< ((6 : Int32) &&& 31))))]))
        refine A (XS.iadd X0.here hx rfl (hb hby d1_111) rfl) ?_
        show D (T0.setTop (mkF m 112 #[.val (.ref p1), .val (.int p2), .val (.int x2_8)] [(.int (p2 + (3 : Int32))), (.ref p1), (.int ((((x2_8 &&& (7 : Int32)) <<< ((18 : Int32) &&& 31)) ||| (((fa (k + 1)) &&& (63 : Int32)) <<< ((12 : Int32) &&& 31))) ||| (((fa (k + 2)) &&& (63 : Int32)) <<< ((6 : Int32) &&& 31))))]))
        refine Adv.ldB A X0 hx hZ e0 V_p1 (k := (k + 3)) (ixadd hk (by decide) (by omega)) (by omega) (g := (mkF m 112 #[.val (.ref p1), .val (.int p2), .val (.int x2_8)] [(.int (p2 + (3 : Int32))), (.ref p1), (.int ((((x2_8 &&& (7 : Int32)) <<< ((18 : Int32) &&& 31)) ||| (((fa (k + 1)) &&& (63 : Int32)) <<< ((12 : Int32) &&& 31))) ||| (((fa (k + 2)) &&& (63 : Int32)) <<< ((6 : Int32) &&& 31))))])) rfl rfl (hb hby d1_112) ?_
        show D (T0.setTop (mkF m 113 #[.val (.ref p1), .val (.int p2), .val (.int x2_8)] [(.int (fa (k + 3))), (.int ((((x2_8 &&& (7 : Int32)) <<< ((18 : Int32) &&& 31)) ||| (((fa (k + 1)) &&& (63 : Int32)) <<< ((12 : Int32) &&& 31))) ||| (((fa (k + 2)) &&& (63 : Int32)) <<< ((6 : Int32) &&& 31))))]))
        refine A (XS.bipush X0.here hx rfl (hb hby d1_113)) ?_
        show D (T0.setTop (mkF m 115 #[.val (.ref p1), .val (.int p2), .val (.int x2_8)] [(.int (63 : Int32)), (.int (fa (k + 3))), (.int ((((x2_8 &&& (7 : Int32)) <<< ((18 : Int32) &&& 31)) ||| (((fa (k + 1)) &&& (63 : Int32)) <<< ((12 : Int32) &&& 31))) ||| (((fa (k + 2)) &&& (63 : Int32)) <<< ((6 : Int32) &&& 31))))]))
        refine A (XS.iand X0.here hx rfl (hb hby d1_115) rfl) ?_
        show D (T0.setTop (mkF m 116 #[.val (.ref p1), .val (.int p2), .val (.int x2_8)] [(.int ((fa (k + 3)) &&& (63 : Int32))), (.int ((((x2_8 &&& (7 : Int32)) <<< ((18 : Int32) &&& 31)) ||| (((fa (k + 1)) &&& (63 : Int32)) <<< ((12 : Int32) &&& 31))) ||| (((fa (k + 2)) &&& (63 : Int32)) <<< ((6 : Int32) &&& 31))))]))
        refine A (XS.ior X0.here hx rfl (hb hby d1_116) rfl) ?_
        show D (T0.setTop (mkF m 117 #[.val (.ref p1), .val (.int p2), .val (.int x2_8)] [(.int (((((x2_8 &&& (7 : Int32)) <<< ((18 : Int32) &&& 31)) ||| (((fa (k + 1)) &&& (63 : Int32)) <<< ((12 : Int32) &&& 31))) ||| (((fa (k + 2)) &&& (63 : Int32)) <<< ((6 : Int32) &&& 31))) ||| ((fa (k + 3)) &&& (63 : Int32))))]))
        refine F _ (Jvm.JW.ret X0 hlk (v := some (.int (((((x2_8 &&& (7 : Int32)) <<< ((18 : Int32) &&& 31)) ||| (((fa (k + 1)) &&& (63 : Int32)) <<< ((12 : Int32) &&& 31))) ||| (((fa (k + 2)) &&& (63 : Int32)) <<< ((6 : Int32) &&& 31))) ||| ((fa (k + 3)) &&& (63 : Int32))))) (fun h => by rw [hrt] at h; cases h) (fun fs hr => retOut X0 hx hrt rfl (Or.inl ⟨rfl, Or.inl rfl, _, rfl⟩) (hb hby d1_117) hr) rfl ?_ (by decide) (by decide))
        exact ⟨congrArg (fun z => some (Value.int z)) (by subst hx2_8; exact (((if_neg c12_1).trans (if_neg c21_2)).trans (if_neg c45_3)).symm), (Fr.nil n0), e0⟩
theorem own_off {v s : Int32} (h : v = ((s.toUInt32 >>> ((2 : Int32) &&& 31).toUInt32).toInt32 &&& (3 : Int32))) : ∃ o : Nat, v.toInt = o ∧ o < 4 := by
  have h1 := c_mask (s.toUInt32 >>> ((2 : Int32) &&& 31).toUInt32).toInt32 3 2 (by decide) (by decide)
  rw [← h] at h1
  exact ⟨v.toInt.toNat, by omega, by omega⟩
theorem own_byte (x : Int32) (h0 : 0 ≤ x.toInt) (h1 : x.toInt ≤ 255) : ((x.toInt8.toInt32).toInt8.toInt32 &&& (255 : Int32)).toInt = x.toInt := by
  have a := c_i2b x
  have b := c_i2b x.toInt8.toInt32
  have m := c_mask (x.toInt8.toInt32).toInt8.toInt32 255 8 (by decide) (by decide)
  omega
theorem own_six (x : Int32) : ((x.toInt8.toInt32).toInt8.toInt32 &&& (63 : Int32)).toInt = x.toInt % 64 := by
  have a := c_i2b x
  have b := c_i2b x.toInt8.toInt32
  have m := c_mask (x.toInt8.toInt32).toInt8.toInt32 63 6 (by decide) (by decide)
  omega
theorem own_cp {p1 p2 x6 v : Int32} (h6 : x6 = (p2 &&& (2147483647 : Int32))) (h : v = (if (p1 &&& (3 : Int32)) = (0 : Int32) then (x6 &&& (127 : Int32)) else (if (p1 &&& (3 : Int32)) = (1 : Int32) then ((128 : Int32) + (x6 % (1920 : Int32))) else (if (p1 &&& (3 : Int32)) = (2 : Int32) then (if ((2048 : Int32) + (x6 % (63488 : Int32))) < (55296 : Int32) then ((2048 : Int32) + (x6 % (63488 : Int32))) else (if (57343 : Int32) < ((2048 : Int32) + (x6 % (63488 : Int32))) then ((2048 : Int32) + (x6 % (63488 : Int32))) else (((2048 : Int32) + (x6 % (63488 : Int32))) + (2048 : Int32)))) else ((65536 : Int32) + (x6 % (1048576 : Int32))))))) :
    0 ≤ v.toInt ∧ v.toInt < 1114112 := by
  have a := c_mask p2 2147483647 31 (by decide) (by decide)
  rw [← h6] at a
  have b := c_mask x6 127 7 (by decide) (by decide)
  have r1 := (c_irem x6 1920 1920 (by decide)).1 (by omega)
  have r2 := (c_irem x6 63488 63488 (by decide)).1 (by omega)
  have r3 := (c_irem x6 1048576 1048576 (by decide)).1 (by omega)
  have s1 := c_iadd 128 (x6 % 1920)
  have s2 := c_iadd 2048 (x6 % 63488)
  have s3 := c_iadd 65536 (x6 % 1048576)
  have s4 := c_iadd (2048 + x6 % 63488) 2048
  have t1 := rng32 (128 + x6 % 1920)
  have t2 := rng32 (2048 + x6 % 63488)
  have t3 := rng32 (65536 + x6 % 1048576)
  have t4 := rng32 (2048 + x6 % 63488 + 2048)
  have l1 : (128 : Int32).toInt = 128 := rfl
  have l2 : (2048 : Int32).toInt = 2048 := rfl
  have l3 : (65536 : Int32).toInt = 65536 := rfl
  have l4 : (55296 : Int32).toInt = 55296 := rfl
  have l5 : (57343 : Int32).toInt = 57343 := rfl
  rw [h]
  simp only [Int32.lt_iff_toInt_lt]
  repeat' split
  all_goals omega
theorem own_c1 (f : Nat → Int32) (o : Nat) (c : Int32) (h0 : 0 ≤ c.toInt) (h1 : c.toInt < 128) (hA : f o = (c.toInt8.toInt32).toInt8.toInt32) : f1 f o = c := by
  have a := own_byte c (by omega) (by omega)
  rw [← hA] at a
  have e : f1 f o = if ((f o) &&& (255 : Int32)) < (128 : Int32) then ((f o) &&& (255 : Int32)) else _ := rfl
  rw [e, if_pos (by rw [Int32.lt_iff_toInt_lt, a, show (128 : Int32).toInt = 128 from rfl]; omega)]
  exact Int32.toInt_inj.mp a
theorem own_c2 (f : Nat → Int32) (o : Nat) (c : Int32) (h0 : 128 ≤ c.toInt) (h1 : c.toInt < 2048) (hA : f o = (((192 : Int32) ||| (c >>> ((6 : Int32) &&& 31))).toInt8.toInt32).toInt8.toInt32) (hB : f (o + 1) = (((128 : Int32) ||| (c &&& (63 : Int32))).toInt8.toInt32).toInt8.toInt32) : f1 f o = c := by
  have s := c_ishr c 6 6 (by decide)
  have oA := c_or 192 (c >>> ((6 : Int32) &&& 31)) 5 (by decide) 32 (by decide) (by decide) (by omega) (by omega)
  have m := c_mask c 63 6 (by decide) (by decide)
  have oB := c_or 128 (c &&& 63) 6 (by decide) 64 (by decide) (by decide) (by omega) (by omega)
  have l1 : (192 : Int32).toInt = 192 := rfl
  have l2 : (128 : Int32).toInt = 128 := rfl
  have rA := rng32 ((192 : Int32) ||| (c >>> ((6 : Int32) &&& 31)))
  have rB := rng32 ((128 : Int32) ||| (c &&& (63 : Int32)))
  have a := own_byte ((192 : Int32) ||| (c >>> ((6 : Int32) &&& 31))) (by omega) (by omega)
  have b := own_six ((128 : Int32) ||| (c &&& (63 : Int32)))
  rw [← hA] at a
  rw [← hB] at b
  have e : f1 f o = if ((f o) &&& (255 : Int32)) < (128 : Int32) then ((f o) &&& (255 : Int32)) else (if ((f o) &&& (255 : Int32)) < (224 : Int32) then (((((f o) &&& (255 : Int32)) &&& (31 : Int32)) <<< ((6 : Int32) &&& 31)) ||| ((f (o + 1)) &&& (63 : Int32))) else _) := rfl
  rw [e, if_neg (by rw [Int32.lt_iff_toInt_lt, a, l2]; omega), if_pos (by rw [Int32.lt_iff_toInt_lt, a, show (224 : Int32).toInt = 224 from rfl]; omega)]
  generalize ((f o) &&& (255 : Int32)) = A at *
  generalize ((f (o + 1)) &&& (63 : Int32)) = B at *
  have mA := c_mask A 31 5 (by decide) (by decide)
  have sA := c_ishl (A &&& 31) 6 6 (by decide)
  have rS := rng32 ((A &&& 31) <<< ((6 : Int32) &&& 31))
  have oF := c_or ((A &&& 31) <<< ((6 : Int32) &&& 31)) B 6 (by decide) 64 (by decide) (by omega) (by omega) (by omega)
  have rF := rng32 (((A &&& 31) <<< ((6 : Int32) &&& 31)) ||| B)
  apply Int32.toInt_inj.mp
  omega
theorem own_c3 (f : Nat → Int32) (o : Nat) (c : Int32) (h0 : 2048 ≤ c.toInt) (h1 : c.toInt < 65536) (hA : f o = (((224 : Int32) ||| (c >>> ((12 : Int32) &&& 31))).toInt8.toInt32).toInt8.toInt32) (hB : f (o + 1) = (((128 : Int32) ||| ((c >>> ((6 : Int32) &&& 31)) &&& (63 : Int32))).toInt8.toInt32).toInt8.toInt32) (hC : f (o + 2) = (((128 : Int32) ||| (c &&& (63 : Int32))).toInt8.toInt32).toInt8.toInt32) : f1 f o = c := by
  have s := c_ishr c 12 12 (by decide)
  have s6 := c_ishr c 6 6 (by decide)
  have oA := c_or 224 (c >>> ((12 : Int32) &&& 31)) 4 (by decide) 16 (by decide) (by decide) (by omega) (by omega)
  have m6 := c_mask (c >>> ((6 : Int32) &&& 31)) 63 6 (by decide) (by decide)
  have m := c_mask c 63 6 (by decide) (by decide)
  have oB := c_or 128 ((c >>> ((6 : Int32) &&& 31)) &&& 63) 6 (by decide) 64 (by decide) (by decide) (by omega) (by omega)
  have oC := c_or 128 (c &&& 63) 6 (by decide) 64 (by decide) (by decide) (by omega) (by omega)
  have l1 : (224 : Int32).toInt = 224 := rfl
  have l2 : (128 : Int32).toInt = 128 := rfl
  have rA := rng32 ((224 : Int32) ||| (c >>> ((12 : Int32) &&& 31)))
  have rB := rng32 ((128 : Int32) ||| ((c >>> ((6 : Int32) &&& 31)) &&& (63 : Int32)))
  have rC := rng32 ((128 : Int32) ||| (c &&& (63 : Int32)))
  have a := own_byte ((224 : Int32) ||| (c >>> ((12 : Int32) &&& 31))) (by omega) (by omega)
  have b := own_six ((128 : Int32) ||| ((c >>> ((6 : Int32) &&& 31)) &&& (63 : Int32)))
  have d := own_six ((128 : Int32) ||| (c &&& (63 : Int32)))
  rw [← hA] at a
  rw [← hB] at b
  rw [← hC] at d
  have e : f1 f o = if ((f o) &&& (255 : Int32)) < (128 : Int32) then ((f o) &&& (255 : Int32)) else (if ((f o) &&& (255 : Int32)) < (224 : Int32) then (((((f o) &&& (255 : Int32)) &&& (31 : Int32)) <<< ((6 : Int32) &&& 31)) ||| ((f (o + 1)) &&& (63 : Int32))) else (if ((f o) &&& (255 : Int32)) < (240 : Int32) then ((((((f o) &&& (255 : Int32)) &&& (15 : Int32)) <<< ((12 : Int32) &&& 31)) ||| (((f (o + 1)) &&& (63 : Int32)) <<< ((6 : Int32) &&& 31))) ||| ((f (o + 2)) &&& (63 : Int32))) else _)) := rfl
  rw [e, if_neg (by rw [Int32.lt_iff_toInt_lt, a, l2]; omega), if_neg (by rw [Int32.lt_iff_toInt_lt, a, l1]; omega), if_pos (by rw [Int32.lt_iff_toInt_lt, a, show (240 : Int32).toInt = 240 from rfl]; omega)]
  generalize ((f o) &&& (255 : Int32)) = A at *
  generalize ((f (o + 1)) &&& (63 : Int32)) = B at *
  generalize ((f (o + 2)) &&& (63 : Int32)) = E at *
  have mA := c_mask A 15 4 (by decide) (by decide)
  have sA := c_ishl (A &&& 15) 12 12 (by decide)
  have rS := rng32 ((A &&& 15) <<< ((12 : Int32) &&& 31))
  have sB := c_ishl B 6 6 (by decide)
  have rT := rng32 (B <<< ((6 : Int32) &&& 31))
  have o1 := c_or ((A &&& 15) <<< ((12 : Int32) &&& 31)) (B <<< ((6 : Int32) &&& 31)) 12 (by decide) 4096 (by decide) (by omega) (by omega) (by omega)
  have r1 := rng32 (((A &&& 15) <<< ((12 : Int32) &&& 31)) ||| (B <<< ((6 : Int32) &&& 31)))
  have oF := c_or (((A &&& 15) <<< ((12 : Int32) &&& 31)) ||| (B <<< ((6 : Int32) &&& 31))) E 6 (by decide) 64 (by decide) (by omega) (by omega) (by omega)
  have rF := rng32 ((((A &&& 15) <<< ((12 : Int32) &&& 31)) ||| (B <<< ((6 : Int32) &&& 31))) ||| E)
  apply Int32.toInt_inj.mp
  omega
theorem own_c4 (f : Nat → Int32) (o : Nat) (c : Int32) (h0 : 65536 ≤ c.toInt) (h1 : c.toInt < 1114112) (hA : f o = (((240 : Int32) ||| (c >>> ((18 : Int32) &&& 31))).toInt8.toInt32).toInt8.toInt32) (hB : f (o + 1) = (((128 : Int32) ||| ((c >>> ((12 : Int32) &&& 31)) &&& (63 : Int32))).toInt8.toInt32).toInt8.toInt32) (hC : f (o + 2) = (((128 : Int32) ||| ((c >>> ((6 : Int32) &&& 31)) &&& (63 : Int32))).toInt8.toInt32).toInt8.toInt32) (hD : f (o + 3) = (((128 : Int32) ||| (c &&& (63 : Int32))).toInt8.toInt32).toInt8.toInt32) : f1 f o = c := by
  have s := c_ishr c 18 18 (by decide)
  have s12 := c_ishr c 12 12 (by decide)
  have s6 := c_ishr c 6 6 (by decide)
  have oA := c_or 240 (c >>> ((18 : Int32) &&& 31)) 4 (by decide) 16 (by decide) (by decide) (by omega) (by omega)
  have m12 := c_mask (c >>> ((12 : Int32) &&& 31)) 63 6 (by decide) (by decide)
  have m6 := c_mask (c >>> ((6 : Int32) &&& 31)) 63 6 (by decide) (by decide)
  have m := c_mask c 63 6 (by decide) (by decide)
  have oB := c_or 128 ((c >>> ((12 : Int32) &&& 31)) &&& 63) 6 (by decide) 64 (by decide) (by decide) (by omega) (by omega)
  have oC := c_or 128 ((c >>> ((6 : Int32) &&& 31)) &&& 63) 6 (by decide) 64 (by decide) (by decide) (by omega) (by omega)
  have oD := c_or 128 (c &&& 63) 6 (by decide) 64 (by decide) (by decide) (by omega) (by omega)
  have l1 : (240 : Int32).toInt = 240 := rfl
  have l2 : (128 : Int32).toInt = 128 := rfl
  have rA := rng32 ((240 : Int32) ||| (c >>> ((18 : Int32) &&& 31)))
  have rB := rng32 ((128 : Int32) ||| ((c >>> ((12 : Int32) &&& 31)) &&& (63 : Int32)))
  have rC := rng32 ((128 : Int32) ||| ((c >>> ((6 : Int32) &&& 31)) &&& (63 : Int32)))
  have rD := rng32 ((128 : Int32) ||| (c &&& (63 : Int32)))
  have a := own_byte ((240 : Int32) ||| (c >>> ((18 : Int32) &&& 31))) (by omega) (by omega)
  have b := own_six ((128 : Int32) ||| ((c >>> ((12 : Int32) &&& 31)) &&& (63 : Int32)))
  have d := own_six ((128 : Int32) ||| ((c >>> ((6 : Int32) &&& 31)) &&& (63 : Int32)))
  have w := own_six ((128 : Int32) ||| (c &&& (63 : Int32)))
  rw [← hA] at a
  rw [← hB] at b
  rw [← hC] at d
  rw [← hD] at w
  have e : f1 f o = if ((f o) &&& (255 : Int32)) < (128 : Int32) then ((f o) &&& (255 : Int32)) else (if ((f o) &&& (255 : Int32)) < (224 : Int32) then (((((f o) &&& (255 : Int32)) &&& (31 : Int32)) <<< ((6 : Int32) &&& 31)) ||| ((f (o + 1)) &&& (63 : Int32))) else (if ((f o) &&& (255 : Int32)) < (240 : Int32) then ((((((f o) &&& (255 : Int32)) &&& (15 : Int32)) <<< ((12 : Int32) &&& 31)) ||| (((f (o + 1)) &&& (63 : Int32)) <<< ((6 : Int32) &&& 31))) ||| ((f (o + 2)) &&& (63 : Int32))) else (((((((f o) &&& (255 : Int32)) &&& (7 : Int32)) <<< ((18 : Int32) &&& 31)) ||| (((f (o + 1)) &&& (63 : Int32)) <<< ((12 : Int32) &&& 31))) ||| (((f (o + 2)) &&& (63 : Int32)) <<< ((6 : Int32) &&& 31))) ||| ((f (o + 3)) &&& (63 : Int32))))) := rfl
  rw [e, if_neg (by rw [Int32.lt_iff_toInt_lt, a, l2]; omega), if_neg (by rw [Int32.lt_iff_toInt_lt, a, show (224 : Int32).toInt = 224 from rfl]; omega), if_neg (by rw [Int32.lt_iff_toInt_lt, a, l1]; omega)]
  generalize ((f o) &&& (255 : Int32)) = A at *
  generalize ((f (o + 1)) &&& (63 : Int32)) = B at *
  generalize ((f (o + 2)) &&& (63 : Int32)) = E at *
  generalize ((f (o + 3)) &&& (63 : Int32)) = G at *
  have mA := c_mask A 7 3 (by decide) (by decide)
  have sA := c_ishl (A &&& 7) 18 18 (by decide)
  have rS := rng32 ((A &&& 7) <<< ((18 : Int32) &&& 31))
  have sB := c_ishl B 12 12 (by decide)
  have rT := rng32 (B <<< ((12 : Int32) &&& 31))
  have sE := c_ishl E 6 6 (by decide)
  have rE := rng32 (E <<< ((6 : Int32) &&& 31))
  have o1 := c_or ((A &&& 7) <<< ((18 : Int32) &&& 31)) (B <<< ((12 : Int32) &&& 31)) 18 (by decide) 262144 (by decide) (by omega) (by omega) (by omega)
  have r1 := rng32 (((A &&& 7) <<< ((18 : Int32) &&& 31)) ||| (B <<< ((12 : Int32) &&& 31)))
  have o2 := c_or (((A &&& 7) <<< ((18 : Int32) &&& 31)) ||| (B <<< ((12 : Int32) &&& 31))) (E <<< ((6 : Int32) &&& 31)) 12 (by decide) 4096 (by decide) (by omega) (by omega) (by omega)
  have r2 := rng32 ((((A &&& 7) <<< ((18 : Int32) &&& 31)) ||| (B <<< ((12 : Int32) &&& 31))) ||| (E <<< ((6 : Int32) &&& 31)))
  have oF := c_or ((((A &&& 7) <<< ((18 : Int32) &&& 31)) ||| (B <<< ((12 : Int32) &&& 31))) ||| (E <<< ((6 : Int32) &&& 31))) G 6 (by decide) 64 (by decide) (by omega) (by omega) (by omega)
  have rF := rng32 (((((A &&& 7) <<< ((18 : Int32) &&& 31)) ||| (B <<< ((12 : Int32) &&& 31))) ||| (E <<< ((6 : Int32) &&& 31))) ||| G)
  apply Int32.toInt_inj.mp
  omega
theorem pn0 : plainFor x = true := by decide +kernel
theorem pd0_0 : parseMethodDescriptor "([BI)I" = some ⟨[(.array .byte), .int], some .int⟩ := by decide +kernel
theorem ef0 (p1 : Int32) (p2 : Int32) (p3 : Int64) (m : MethodId) : entryFrame m #[(.int p1), (.int p2), (.long p3)] maxLocals = mkF m 0 #[.val (.int p1), .val (.int p2), .val (.long p3), .second, .unset, .unset, .unset, .unset, .unset] [] := by first | (simp [entryFrame, mkF, argsToLocals, Value.category, maxLocals]; done) | rfl
set_option maxRecDepth 65536 in
set_option maxHeartbeats 40000000 in
theorem rm0 (l : Launch) (Z : State) (a0 : Array Value) (hw : ∀ d ∈ tables_1, d.before a0 Z = true) (ws : List Jvm.Cond) (p1 : Int32) (p2 : Int32) (p3 : Int64) (h0 : Heap) (n0 : Nat) (Z0 : n0 ≤ h0.size) :
    JMet l Z x code maxLocals ret ws room_1 #[(.int p1), (.int p2), (.long p3)] h0 (QL n0) := by
  refine Jvm.JW.body #[.val (.int p1), .val (.int p2), .val (.long p3), .second, .unset, .unset, .unset, .unset, .unset] pn0 (ef0 p1 p2 p3) ?_
  intro p e s m below meth c T0 D A F X0 hx hZ hby hml hown hnm hrt hlk e0
  refine A (XS.iloadN X0.here hx rfl (hb hby at_0) rfl) ?_
  show D (T0.setTop (mkF m 1 #[.val (.int p1), .val (.int p2), .val (.long p3), .second, .unset, .unset, .unset, .unset, .unset] [(.int p1)]))
  refine A (XS.iconst X0.here hx rfl (hb hby at_1)) ?_
  show D (T0.setTop (mkF m 2 #[.val (.int p1), .val (.int p2), .val (.long p3), .second, .unset, .unset, .unset, .unset, .unset] [(.int (3 : Int32)), (.int p1)]))
  refine A (XS.iand X0.here hx rfl (hb hby at_2) rfl) ?_
  show D (T0.setTop (mkF m 3 #[.val (.int p1), .val (.int p2), .val (.long p3), .second, .unset, .unset, .unset, .unset, .unset] [(.int (p1 &&& (3 : Int32)))]))
  refine A (XS.istore X0.here hx rfl (hb hby at_3) rfl (l' := #[.val (.int p1), .val (.int p2), .val (.long p3), .second, .val (.int (p1 &&& (3 : Int32))), .unset, .unset, .unset, .unset]) rfl) ?_
  show D (T0.setTop (mkF m 5 #[.val (.int p1), .val (.int p2), .val (.long p3), .second, .val (.int (p1 &&& (3 : Int32))), .unset, .unset, .unset, .unset] []))
  refine A (XS.iloadN X0.here hx rfl (hb hby at_5) rfl) ?_
  show D (T0.setTop (mkF m 6 #[.val (.int p1), .val (.int p2), .val (.long p3), .second, .val (.int (p1 &&& (3 : Int32))), .unset, .unset, .unset, .unset] [(.int p1)]))
  refine A (XS.iconst X0.here hx rfl (hb hby at_6)) ?_
  show D (T0.setTop (mkF m 7 #[.val (.int p1), .val (.int p2), .val (.long p3), .second, .val (.int (p1 &&& (3 : Int32))), .unset, .unset, .unset, .unset] [(.int (2 : Int32)), (.int p1)]))
  refine A (XS.iushr X0.here hx rfl (hb hby at_7) rfl) ?_
  show D (T0.setTop (mkF m 8 #[.val (.int p1), .val (.int p2), .val (.long p3), .second, .val (.int (p1 &&& (3 : Int32))), .unset, .unset, .unset, .unset] [(.int ((p1.toUInt32 >>> ((2 : Int32) &&& 31).toUInt32).toInt32))]))
  refine A (XS.iconst X0.here hx rfl (hb hby at_8)) ?_
  show D (T0.setTop (mkF m 9 #[.val (.int p1), .val (.int p2), .val (.long p3), .second, .val (.int (p1 &&& (3 : Int32))), .unset, .unset, .unset, .unset] [(.int (3 : Int32)), (.int ((p1.toUInt32 >>> ((2 : Int32) &&& 31).toUInt32).toInt32))]))
  refine A (XS.iand X0.here hx rfl (hb hby at_9) rfl) ?_
  show D (T0.setTop (mkF m 10 #[.val (.int p1), .val (.int p2), .val (.long p3), .second, .val (.int (p1 &&& (3 : Int32))), .unset, .unset, .unset, .unset] [(.int (((p1.toUInt32 >>> ((2 : Int32) &&& 31).toUInt32).toInt32) &&& (3 : Int32)))]))
  refine A (XS.istore X0.here hx rfl (hb hby at_10) rfl (l' := #[.val (.int p1), .val (.int p2), .val (.long p3), .second, .val (.int (p1 &&& (3 : Int32))), .val (.int (((p1.toUInt32 >>> ((2 : Int32) &&& 31).toUInt32).toInt32) &&& (3 : Int32))), .unset, .unset, .unset]) rfl) ?_
  show D (T0.setTop (mkF m 12 #[.val (.int p1), .val (.int p2), .val (.long p3), .second, .val (.int (p1 &&& (3 : Int32))), .val (.int (((p1.toUInt32 >>> ((2 : Int32) &&& 31).toUInt32).toInt32) &&& (3 : Int32))), .unset, .unset, .unset] []))
  suffices Kx5_12 : ∀ x5_12 : Int32, x5_12 = (((p1.toUInt32 >>> ((2 : Int32) &&& 31).toUInt32).toInt32) &&& (3 : Int32)) → D (T0.setTop (mkF m 12 #[.val (.int p1), .val (.int p2), .val (.long p3), .second, .val (.int (p1 &&& (3 : Int32))), .val (.int x5_12), .unset, .unset, .unset] [])) from Kx5_12 _ rfl
  intro x5_12 hx5_12
  obtain ⟨o, ho, ho4⟩ : ∃ o : Nat, x5_12.toInt = o ∧ o < 4 := own_off hx5_12
  refine A (XS.iloadN X0.here hx rfl (hb hby at_12) rfl) ?_
  show D (T0.setTop (mkF m 13 #[.val (.int p1), .val (.int p2), .val (.long p3), .second, .val (.int (p1 &&& (3 : Int32))), .val (.int x5_12), .unset, .unset, .unset] [(.int p2)]))
  refine A (X0.ldcInt hx hown (mvT hZ (hw _ (List.mem_of_getElem? (i := 0) rfl))) (g := (mkF m 13 #[.val (.int p1), .val (.int p2), .val (.long p3), .second, .val (.int (p1 &&& (3 : Int32))), .val (.int x5_12), .unset, .unset, .unset] [(.int p2)])) rfl (hb hby at_13) _) ?_
  show D (T0.setTop (mkF m 15 #[.val (.int p1), .val (.int p2), .val (.long p3), .second, .val (.int (p1 &&& (3 : Int32))), .val (.int x5_12), .unset, .unset, .unset] [(.int (2147483647 : Int32)), (.int p2)]))
  refine A (XS.iand X0.here hx rfl (hb hby at_15) rfl) ?_
  show D (T0.setTop (mkF m 16 #[.val (.int p1), .val (.int p2), .val (.long p3), .second, .val (.int (p1 &&& (3 : Int32))), .val (.int x5_12), .unset, .unset, .unset] [(.int (p2 &&& (2147483647 : Int32)))]))
  refine A (XS.istore X0.here hx rfl (hb hby at_16) rfl (l' := #[.val (.int p1), .val (.int p2), .val (.long p3), .second, .val (.int (p1 &&& (3 : Int32))), .val (.int x5_12), .val (.int (p2 &&& (2147483647 : Int32))), .unset, .unset]) rfl) ?_
  show D (T0.setTop (mkF m 18 #[.val (.int p1), .val (.int p2), .val (.long p3), .second, .val (.int (p1 &&& (3 : Int32))), .val (.int x5_12), .val (.int (p2 &&& (2147483647 : Int32))), .unset, .unset] []))
  suffices Kx6_18 : ∀ x6_18 : Int32, x6_18 = (p2 &&& (2147483647 : Int32)) → D (T0.setTop (mkF m 18 #[.val (.int p1), .val (.int p2), .val (.long p3), .second, .val (.int (p1 &&& (3 : Int32))), .val (.int x5_12), .val (.int x6_18), .unset, .unset] [])) from Kx6_18 _ rfl
  intro x6_18 hx6_18
  refine A (XS.iload X0.here hx rfl (hb hby at_18) rfl) ?_
  show D (T0.setTop (mkF m 20 #[.val (.int p1), .val (.int p2), .val (.long p3), .second, .val (.int (p1 &&& (3 : Int32))), .val (.int x5_12), .val (.int x6_18), .unset, .unset] [(.int (p1 &&& (3 : Int32)))]))
  suffices Km106_1 : ∀ (v106_7 : Int32), v106_7 = (if (p1 &&& (3 : Int32)) = (0 : Int32) then (x6_18 &&& (127 : Int32)) else (if (p1 &&& (3 : Int32)) = (1 : Int32) then ((128 : Int32) + (x6_18 % (1920 : Int32))) else (if (p1 &&& (3 : Int32)) = (2 : Int32) then (if ((2048 : Int32) + (x6_18 % (63488 : Int32))) < (55296 : Int32) then ((2048 : Int32) + (x6_18 % (63488 : Int32))) else (if (57343 : Int32) < ((2048 : Int32) + (x6_18 % (63488 : Int32))) then ((2048 : Int32) + (x6_18 % (63488 : Int32))) else (((2048 : Int32) + (x6_18 % (63488 : Int32))) + (2048 : Int32)))) else ((65536 : Int32) + (x6_18 % (1048576 : Int32)))))) → D (T0.setTop (mkF m 106 #[.val (.int p1), .val (.int p2), .val (.long p3), .second, .val (.int (p1 &&& (3 : Int32))), .val (.int x5_12), .val (.int x6_18), .val (.int v106_7), .unset] [])) by
    by_cases c20_0 : (p1 &&& (3 : Int32)) = (0 : Int32)
    · refine A (XS.ifNo X0.here hx rfl (hb hby at_20) rfl ((if0 _ _).trans (teq c20_0).2)) ?_
      show D (T0.setTop (mkF m 23 #[.val (.int p1), .val (.int p2), .val (.long p3), .second, .val (.int (p1 &&& (3 : Int32))), .val (.int x5_12), .val (.int x6_18), .unset, .unset] []))
      refine A (XS.iload X0.here hx rfl (hb hby at_23) rfl) ?_
      show D (T0.setTop (mkF m 25 #[.val (.int p1), .val (.int p2), .val (.long p3), .second, .val (.int (p1 &&& (3 : Int32))), .val (.int x5_12), .val (.int x6_18), .unset, .unset] [(.int x6_18)]))
      refine A (XS.bipush X0.here hx rfl (hb hby at_25)) ?_
      show D (T0.setTop (mkF m 27 #[.val (.int p1), .val (.int p2), .val (.long p3), .second, .val (.int (p1 &&& (3 : Int32))), .val (.int x5_12), .val (.int x6_18), .unset, .unset] [(.int (127 : Int32)), (.int x6_18)]))
      refine A (XS.iand X0.here hx rfl (hb hby at_27) rfl) ?_
      show D (T0.setTop (mkF m 28 #[.val (.int p1), .val (.int p2), .val (.long p3), .second, .val (.int (p1 &&& (3 : Int32))), .val (.int x5_12), .val (.int x6_18), .unset, .unset] [(.int (x6_18 &&& (127 : Int32)))]))
      refine A (XS.istore X0.here hx rfl (hb hby at_28) rfl (l' := #[.val (.int p1), .val (.int p2), .val (.long p3), .second, .val (.int (p1 &&& (3 : Int32))), .val (.int x5_12), .val (.int x6_18), .val (.int (x6_18 &&& (127 : Int32))), .unset]) rfl) ?_
      show D (T0.setTop (mkF m 30 #[.val (.int p1), .val (.int p2), .val (.long p3), .second, .val (.int (p1 &&& (3 : Int32))), .val (.int x5_12), .val (.int x6_18), .val (.int (x6_18 &&& (127 : Int32))), .unset] []))
      refine A (XS.goto X0.here hx rfl (pc0 := 30) (pc' := 106) rfl (hb hby at_30) (by decide) (by decide)) ?_
      show D (T0.setTop (mkF m 106 #[.val (.int p1), .val (.int p2), .val (.long p3), .second, .val (.int (p1 &&& (3 : Int32))), .val (.int x5_12), .val (.int x6_18), .val (.int (x6_18 &&& (127 : Int32))), .unset] []))
      exact Km106_1 _ ((if_pos c20_0)).symm
    · refine A (XS.ifYes X0.here hx rfl (pc0 := 20) (pc' := 33) rfl (hb hby at_20) rfl ((if0 _ _).trans (feq c20_0).2) (by decide) (by decide)) ?_
      show D (T0.setTop (mkF m 33 #[.val (.int p1), .val (.int p2), .val (.long p3), .second, .val (.int (p1 &&& (3 : Int32))), .val (.int x5_12), .val (.int x6_18), .unset, .unset] []))
      refine A (XS.iload X0.here hx rfl (hb hby at_33) rfl) ?_
      show D (T0.setTop (mkF m 35 #[.val (.int p1), .val (.int p2), .val (.long p3), .second, .val (.int (p1 &&& (3 : Int32))), .val (.int x5_12), .val (.int x6_18), .unset, .unset] [(.int (p1 &&& (3 : Int32)))]))
      refine A (XS.iconst X0.here hx rfl (hb hby at_35)) ?_
      show D (T0.setTop (mkF m 36 #[.val (.int p1), .val (.int p2), .val (.long p3), .second, .val (.int (p1 &&& (3 : Int32))), .val (.int x5_12), .val (.int x6_18), .unset, .unset] [(.int (1 : Int32)), (.int (p1 &&& (3 : Int32)))]))
      by_cases c36_1 : (p1 &&& (3 : Int32)) = (1 : Int32)
      · refine A (XS.icmpNo X0.here hx rfl (hb hby at_36) rfl (teq c36_1).2) ?_
        show D (T0.setTop (mkF m 39 #[.val (.int p1), .val (.int p2), .val (.long p3), .second, .val (.int (p1 &&& (3 : Int32))), .val (.int x5_12), .val (.int x6_18), .unset, .unset] []))
        refine A (XS.sipush X0.here hx rfl (hb hby at_39)) ?_
        show D (T0.setTop (mkF m 42 #[.val (.int p1), .val (.int p2), .val (.long p3), .second, .val (.int (p1 &&& (3 : Int32))), .val (.int x5_12), .val (.int x6_18), .unset, .unset] [(.int (128 : Int32))]))
        refine A (XS.iload X0.here hx rfl (hb hby at_42) rfl) ?_
        show D (T0.setTop (mkF m 44 #[.val (.int p1), .val (.int p2), .val (.long p3), .second, .val (.int (p1 &&& (3 : Int32))), .val (.int x5_12), .val (.int x6_18), .unset, .unset] [(.int x6_18), (.int (128 : Int32))]))
        refine A (XS.sipush X0.here hx rfl (hb hby at_44)) ?_
        show D (T0.setTop (mkF m 47 #[.val (.int p1), .val (.int p2), .val (.long p3), .second, .val (.int (p1 &&& (3 : Int32))), .val (.int x5_12), .val (.int x6_18), .unset, .unset] [(.int (1920 : Int32)), (.int x6_18), (.int (128 : Int32))]))
        refine A (iremM X0 hx rfl (hb hby at_47) rfl (by decide)) ?_
        show D (T0.setTop (mkF m 48 #[.val (.int p1), .val (.int p2), .val (.long p3), .second, .val (.int (p1 &&& (3 : Int32))), .val (.int x5_12), .val (.int x6_18), .unset, .unset] [(.int (x6_18 % (1920 : Int32))), (.int (128 : Int32))]))
        refine A (XS.iadd X0.here hx rfl (hb hby at_48) rfl) ?_
        show D (T0.setTop (mkF m 49 #[.val (.int p1), .val (.int p2), .val (.long p3), .second, .val (.int (p1 &&& (3 : Int32))), .val (.int x5_12), .val (.int x6_18), .unset, .unset] [(.int ((128 : Int32) + (x6_18 % (1920 : Int32))))]))
        refine A (XS.istore X0.here hx rfl (hb hby at_49) rfl (l' := #[.val (.int p1), .val (.int p2), .val (.long p3), .second, .val (.int (p1 &&& (3 : Int32))), .val (.int x5_12), .val (.int x6_18), .val (.int ((128 : Int32) + (x6_18 % (1920 : Int32)))), .unset]) rfl) ?_
        show D (T0.setTop (mkF m 51 #[.val (.int p1), .val (.int p2), .val (.long p3), .second, .val (.int (p1 &&& (3 : Int32))), .val (.int x5_12), .val (.int x6_18), .val (.int ((128 : Int32) + (x6_18 % (1920 : Int32)))), .unset] []))
        refine A (XS.goto X0.here hx rfl (pc0 := 51) (pc' := 106) rfl (hb hby at_51) (by decide) (by decide)) ?_
        show D (T0.setTop (mkF m 106 #[.val (.int p1), .val (.int p2), .val (.long p3), .second, .val (.int (p1 &&& (3 : Int32))), .val (.int x5_12), .val (.int x6_18), .val (.int ((128 : Int32) + (x6_18 % (1920 : Int32)))), .unset] []))
        exact Km106_1 _ (((if_neg c20_0)).trans (if_pos c36_1)).symm
      · refine A (XS.icmpYes X0.here hx rfl (pc0 := 36) (pc' := 54) rfl (hb hby at_36) rfl (feq c36_1).2 (by decide) (by decide)) ?_
        show D (T0.setTop (mkF m 54 #[.val (.int p1), .val (.int p2), .val (.long p3), .second, .val (.int (p1 &&& (3 : Int32))), .val (.int x5_12), .val (.int x6_18), .unset, .unset] []))
        refine A (XS.iload X0.here hx rfl (hb hby at_54) rfl) ?_
        show D (T0.setTop (mkF m 56 #[.val (.int p1), .val (.int p2), .val (.long p3), .second, .val (.int (p1 &&& (3 : Int32))), .val (.int x5_12), .val (.int x6_18), .unset, .unset] [(.int (p1 &&& (3 : Int32)))]))
        refine A (XS.iconst X0.here hx rfl (hb hby at_56)) ?_
        show D (T0.setTop (mkF m 57 #[.val (.int p1), .val (.int p2), .val (.long p3), .second, .val (.int (p1 &&& (3 : Int32))), .val (.int x5_12), .val (.int x6_18), .unset, .unset] [(.int (2 : Int32)), (.int (p1 &&& (3 : Int32)))]))
        by_cases c57_2 : (p1 &&& (3 : Int32)) = (2 : Int32)
        · refine A (XS.icmpNo X0.here hx rfl (hb hby at_57) rfl (teq c57_2).2) ?_
          show D (T0.setTop (mkF m 60 #[.val (.int p1), .val (.int p2), .val (.long p3), .second, .val (.int (p1 &&& (3 : Int32))), .val (.int x5_12), .val (.int x6_18), .unset, .unset] []))
          refine A (XS.sipush X0.here hx rfl (hb hby at_60)) ?_
          show D (T0.setTop (mkF m 63 #[.val (.int p1), .val (.int p2), .val (.long p3), .second, .val (.int (p1 &&& (3 : Int32))), .val (.int x5_12), .val (.int x6_18), .unset, .unset] [(.int (2048 : Int32))]))
          refine A (XS.iload X0.here hx rfl (hb hby at_63) rfl) ?_
          show D (T0.setTop (mkF m 65 #[.val (.int p1), .val (.int p2), .val (.long p3), .second, .val (.int (p1 &&& (3 : Int32))), .val (.int x5_12), .val (.int x6_18), .unset, .unset] [(.int x6_18), (.int (2048 : Int32))]))
          refine A (X0.ldcInt hx hown (mvT hZ (hw _ (List.mem_of_getElem? (i := 8) rfl))) (g := (mkF m 65 #[.val (.int p1), .val (.int p2), .val (.long p3), .second, .val (.int (p1 &&& (3 : Int32))), .val (.int x5_12), .val (.int x6_18), .unset, .unset] [(.int x6_18), (.int (2048 : Int32))])) rfl (hb hby at_65) _) ?_
          show D (T0.setTop (mkF m 67 #[.val (.int p1), .val (.int p2), .val (.long p3), .second, .val (.int (p1 &&& (3 : Int32))), .val (.int x5_12), .val (.int x6_18), .unset, .unset] [(.int (63488 : Int32)), (.int x6_18), (.int (2048 : Int32))]))
          refine A (iremM X0 hx rfl (hb hby at_67) rfl (by decide)) ?_
          show D (T0.setTop (mkF m 68 #[.val (.int p1), .val (.int p2), .val (.long p3), .second, .val (.int (p1 &&& (3 : Int32))), .val (.int x5_12), .val (.int x6_18), .unset, .unset] [(.int (x6_18 % (63488 : Int32))), (.int (2048 : Int32))]))
          refine A (XS.iadd X0.here hx rfl (hb hby at_68) rfl) ?_
          show D (T0.setTop (mkF m 69 #[.val (.int p1), .val (.int p2), .val (.long p3), .second, .val (.int (p1 &&& (3 : Int32))), .val (.int x5_12), .val (.int x6_18), .unset, .unset] [(.int ((2048 : Int32) + (x6_18 % (63488 : Int32))))]))
          refine A (XS.istore X0.here hx rfl (hb hby at_69) rfl (l' := #[.val (.int p1), .val (.int p2), .val (.long p3), .second, .val (.int (p1 &&& (3 : Int32))), .val (.int x5_12), .val (.int x6_18), .val (.int ((2048 : Int32) + (x6_18 % (63488 : Int32)))), .unset]) rfl) ?_
          show D (T0.setTop (mkF m 71 #[.val (.int p1), .val (.int p2), .val (.long p3), .second, .val (.int (p1 &&& (3 : Int32))), .val (.int x5_12), .val (.int x6_18), .val (.int ((2048 : Int32) + (x6_18 % (63488 : Int32)))), .unset] []))
          refine A (XS.iload X0.here hx rfl (hb hby at_71) rfl) ?_
          show D (T0.setTop (mkF m 73 #[.val (.int p1), .val (.int p2), .val (.long p3), .second, .val (.int (p1 &&& (3 : Int32))), .val (.int x5_12), .val (.int x6_18), .val (.int ((2048 : Int32) + (x6_18 % (63488 : Int32)))), .unset] [(.int ((2048 : Int32) + (x6_18 % (63488 : Int32))))]))
          refine A (X0.ldcInt hx hown (mvT hZ (hw _ (List.mem_of_getElem? (i := 9) rfl))) (g := (mkF m 73 #[.val (.int p1), .val (.int p2), .val (.long p3), .second, .val (.int (p1 &&& (3 : Int32))), .val (.int x5_12), .val (.int x6_18), .val (.int ((2048 : Int32) + (x6_18 % (63488 : Int32)))), .unset] [(.int ((2048 : Int32) + (x6_18 % (63488 : Int32))))])) rfl (hb hby at_73) _) ?_
          show D (T0.setTop (mkF m 75 #[.val (.int p1), .val (.int p2), .val (.long p3), .second, .val (.int (p1 &&& (3 : Int32))), .val (.int x5_12), .val (.int x6_18), .val (.int ((2048 : Int32) + (x6_18 % (63488 : Int32)))), .unset] [(.int (55296 : Int32)), (.int ((2048 : Int32) + (x6_18 % (63488 : Int32))))]))
          by_cases c75_3 : ((2048 : Int32) + (x6_18 % (63488 : Int32))) < (55296 : Int32)
          · refine A (XS.icmpYes X0.here hx rfl (pc0 := 75) (pc' := 106) rfl (hb hby at_75) rfl (tlt c75_3).1 (by decide) (by decide)) ?_
            show D (T0.setTop (mkF m 106 #[.val (.int p1), .val (.int p2), .val (.long p3), .second, .val (.int (p1 &&& (3 : Int32))), .val (.int x5_12), .val (.int x6_18), .val (.int ((2048 : Int32) + (x6_18 % (63488 : Int32)))), .unset] []))
            exact Km106_1 _ (((((if_neg c20_0)).trans (if_neg c36_1)).trans (if_pos c57_2)).trans (if_pos c75_3)).symm
          · refine A (XS.icmpNo X0.here hx rfl (hb hby at_75) rfl (flt c75_3).1) ?_
            show D (T0.setTop (mkF m 78 #[.val (.int p1), .val (.int p2), .val (.long p3), .second, .val (.int (p1 &&& (3 : Int32))), .val (.int x5_12), .val (.int x6_18), .val (.int ((2048 : Int32) + (x6_18 % (63488 : Int32)))), .unset] []))
            refine A (XS.iload X0.here hx rfl (hb hby at_78) rfl) ?_
            show D (T0.setTop (mkF m 80 #[.val (.int p1), .val (.int p2), .val (.long p3), .second, .val (.int (p1 &&& (3 : Int32))), .val (.int x5_12), .val (.int x6_18), .val (.int ((2048 : Int32) + (x6_18 % (63488 : Int32)))), .unset] [(.int ((2048 : Int32) + (x6_18 % (63488 : Int32))))]))
            refine A (X0.ldcInt hx hown (mvT hZ (hw _ (List.mem_of_getElem? (i := 10) rfl))) (g := (mkF m 80 #[.val (.int p1), .val (.int p2), .val (.long p3), .second, .val (.int (p1 &&& (3 : Int32))), .val (.int x5_12), .val (.int x6_18), .val (.int ((2048 : Int32) + (x6_18 % (63488 : Int32)))), .unset] [(.int ((2048 : Int32) + (x6_18 % (63488 : Int32))))])) rfl (hb hby at_80) _) ?_
            show D (T0.setTop (mkF m 82 #[.val (.int p1), .val (.int p2), .val (.long p3), .second, .val (.int (p1 &&& (3 : Int32))), .val (.int x5_12), .val (.int x6_18), .val (.int ((2048 : Int32) + (x6_18 % (63488 : Int32)))), .unset] [(.int (57343 : Int32)), (.int ((2048 : Int32) + (x6_18 % (63488 : Int32))))]))
            by_cases c82_4 : (57343 : Int32) < ((2048 : Int32) + (x6_18 % (63488 : Int32)))
            · refine A (XS.icmpYes X0.here hx rfl (pc0 := 82) (pc' := 106) rfl (hb hby at_82) rfl (tlt c82_4).2.2.1 (by decide) (by decide)) ?_
              show D (T0.setTop (mkF m 106 #[.val (.int p1), .val (.int p2), .val (.long p3), .second, .val (.int (p1 &&& (3 : Int32))), .val (.int x5_12), .val (.int x6_18), .val (.int ((2048 : Int32) + (x6_18 % (63488 : Int32)))), .unset] []))
              exact Km106_1 _ ((((((if_neg c20_0)).trans (if_neg c36_1)).trans (if_pos c57_2)).trans (if_neg c75_3)).trans (if_pos c82_4)).symm
            · refine A (XS.icmpNo X0.here hx rfl (hb hby at_82) rfl (flt c82_4).2.2.1) ?_
              show D (T0.setTop (mkF m 85 #[.val (.int p1), .val (.int p2), .val (.long p3), .second, .val (.int (p1 &&& (3 : Int32))), .val (.int x5_12), .val (.int x6_18), .val (.int ((2048 : Int32) + (x6_18 % (63488 : Int32)))), .unset] []))
              refine A (XS.iload X0.here hx rfl (hb hby at_85) rfl) ?_
              show D (T0.setTop (mkF m 87 #[.val (.int p1), .val (.int p2), .val (.long p3), .second, .val (.int (p1 &&& (3 : Int32))), .val (.int x5_12), .val (.int x6_18), .val (.int ((2048 : Int32) + (x6_18 % (63488 : Int32)))), .unset] [(.int ((2048 : Int32) + (x6_18 % (63488 : Int32))))]))
              refine A (XS.sipush X0.here hx rfl (hb hby at_87)) ?_
              show D (T0.setTop (mkF m 90 #[.val (.int p1), .val (.int p2), .val (.long p3), .second, .val (.int (p1 &&& (3 : Int32))), .val (.int x5_12), .val (.int x6_18), .val (.int ((2048 : Int32) + (x6_18 % (63488 : Int32)))), .unset] [(.int (2048 : Int32)), (.int ((2048 : Int32) + (x6_18 % (63488 : Int32))))]))
              refine A (XS.iadd X0.here hx rfl (hb hby at_90) rfl) ?_
              show D (T0.setTop (mkF m 91 #[.val (.int p1), .val (.int p2), .val (.long p3), .second, .val (.int (p1 &&& (3 : Int32))), .val (.int x5_12), .val (.int x6_18), .val (.int ((2048 : Int32) + (x6_18 % (63488 : Int32)))), .unset] [(.int (((2048 : Int32) + (x6_18 % (63488 : Int32))) + (2048 : Int32)))]))
              refine A (XS.istore X0.here hx rfl (hb hby at_91) rfl (l' := #[.val (.int p1), .val (.int p2), .val (.long p3), .second, .val (.int (p1 &&& (3 : Int32))), .val (.int x5_12), .val (.int x6_18), .val (.int (((2048 : Int32) + (x6_18 % (63488 : Int32))) + (2048 : Int32))), .unset]) rfl) ?_
              show D (T0.setTop (mkF m 93 #[.val (.int p1), .val (.int p2), .val (.long p3), .second, .val (.int (p1 &&& (3 : Int32))), .val (.int x5_12), .val (.int x6_18), .val (.int (((2048 : Int32) + (x6_18 % (63488 : Int32))) + (2048 : Int32))), .unset] []))
              refine A (XS.goto X0.here hx rfl (pc0 := 93) (pc' := 106) rfl (hb hby at_93) (by decide) (by decide)) ?_
              show D (T0.setTop (mkF m 106 #[.val (.int p1), .val (.int p2), .val (.long p3), .second, .val (.int (p1 &&& (3 : Int32))), .val (.int x5_12), .val (.int x6_18), .val (.int (((2048 : Int32) + (x6_18 % (63488 : Int32))) + (2048 : Int32))), .unset] []))
              exact Km106_1 _ ((((((if_neg c20_0)).trans (if_neg c36_1)).trans (if_pos c57_2)).trans (if_neg c75_3)).trans (if_neg c82_4)).symm
        · refine A (XS.icmpYes X0.here hx rfl (pc0 := 57) (pc' := 96) rfl (hb hby at_57) rfl (feq c57_2).2 (by decide) (by decide)) ?_
          show D (T0.setTop (mkF m 96 #[.val (.int p1), .val (.int p2), .val (.long p3), .second, .val (.int (p1 &&& (3 : Int32))), .val (.int x5_12), .val (.int x6_18), .unset, .unset] []))
          refine A (X0.ldcInt hx hown (mvT hZ (hw _ (List.mem_of_getElem? (i := 6) rfl))) (g := (mkF m 96 #[.val (.int p1), .val (.int p2), .val (.long p3), .second, .val (.int (p1 &&& (3 : Int32))), .val (.int x5_12), .val (.int x6_18), .unset, .unset] [])) rfl (hb hby at_96) _) ?_
          show D (T0.setTop (mkF m 98 #[.val (.int p1), .val (.int p2), .val (.long p3), .second, .val (.int (p1 &&& (3 : Int32))), .val (.int x5_12), .val (.int x6_18), .unset, .unset] [(.int (65536 : Int32))]))
          refine A (XS.iload X0.here hx rfl (hb hby at_98) rfl) ?_
          show D (T0.setTop (mkF m 100 #[.val (.int p1), .val (.int p2), .val (.long p3), .second, .val (.int (p1 &&& (3 : Int32))), .val (.int x5_12), .val (.int x6_18), .unset, .unset] [(.int x6_18), (.int (65536 : Int32))]))
          refine A (X0.ldcInt hx hown (mvT hZ (hw _ (List.mem_of_getElem? (i := 7) rfl))) (g := (mkF m 100 #[.val (.int p1), .val (.int p2), .val (.long p3), .second, .val (.int (p1 &&& (3 : Int32))), .val (.int x5_12), .val (.int x6_18), .unset, .unset] [(.int x6_18), (.int (65536 : Int32))])) rfl (hb hby at_100) _) ?_
          show D (T0.setTop (mkF m 102 #[.val (.int p1), .val (.int p2), .val (.long p3), .second, .val (.int (p1 &&& (3 : Int32))), .val (.int x5_12), .val (.int x6_18), .unset, .unset] [(.int (1048576 : Int32)), (.int x6_18), (.int (65536 : Int32))]))
          refine A (iremM X0 hx rfl (hb hby at_102) rfl (by decide)) ?_
          show D (T0.setTop (mkF m 103 #[.val (.int p1), .val (.int p2), .val (.long p3), .second, .val (.int (p1 &&& (3 : Int32))), .val (.int x5_12), .val (.int x6_18), .unset, .unset] [(.int (x6_18 % (1048576 : Int32))), (.int (65536 : Int32))]))
          refine A (XS.iadd X0.here hx rfl (hb hby at_103) rfl) ?_
          show D (T0.setTop (mkF m 104 #[.val (.int p1), .val (.int p2), .val (.long p3), .second, .val (.int (p1 &&& (3 : Int32))), .val (.int x5_12), .val (.int x6_18), .unset, .unset] [(.int ((65536 : Int32) + (x6_18 % (1048576 : Int32))))]))
          refine A (XS.istore X0.here hx rfl (hb hby at_104) rfl (l' := #[.val (.int p1), .val (.int p2), .val (.long p3), .second, .val (.int (p1 &&& (3 : Int32))), .val (.int x5_12), .val (.int x6_18), .val (.int ((65536 : Int32) + (x6_18 % (1048576 : Int32)))), .unset]) rfl) ?_
          show D (T0.setTop (mkF m 106 #[.val (.int p1), .val (.int p2), .val (.long p3), .second, .val (.int (p1 &&& (3 : Int32))), .val (.int x5_12), .val (.int x6_18), .val (.int ((65536 : Int32) + (x6_18 % (1048576 : Int32)))), .unset] []))
          exact Km106_1 _ ((((if_neg c20_0)).trans (if_neg c36_1)).trans (if_neg c57_2)).symm
  intro v106_7 hv106_7
  show D (T0.setTop (mkF m 106 #[.val (.int p1), .val (.int p2), .val (.long p3), .second, .val (.int (p1 &&& (3 : Int32))), .val (.int x5_12), .val (.int x6_18), .val (.int v106_7), .unset] []))
  refine A (XS.bipush X0.here hx rfl (hb hby at_106)) ?_
  show D (T0.setTop (mkF m 108 #[.val (.int p1), .val (.int p2), .val (.long p3), .second, .val (.int (p1 &&& (3 : Int32))), .val (.int x5_12), .val (.int x6_18), .val (.int v106_7), .unset] [(.int (8 : Int32))]))
  refine Adv.newI A X0 hx hZ (aty := .byte) (hw _ (List.mem_of_getElem? (i := 1) rfl)) e0 (n := 8) (by decide) 8 (by decide) (by decide) rfl (ad := "[B") (by decide) (by decide) (by decide) (g := (mkF m 108 #[.val (.int p1), .val (.int p2), .val (.long p3), .second, .val (.int (p1 &&& (3 : Int32))), .val (.int x5_12), .val (.int x6_18), .val (.int v106_7), .unset] [(.int (8 : Int32))])) rfl rfl (hb hby at_108) ?_
  intro T2 h2 b2 q_b2 X2 e2 E2 V_b2 EA_b2
  have g_b2 : n0 ≤ b2 := Nat.le_trans Z0 (Nat.le_of_eq q_b2.symm)
  have Z_2 : n0 ≤ h2.size := Nat.le_trans Z0 E2.1
  show D (T2.setTop (mkF m 110 #[.val (.int p1), .val (.int p2), .val (.long p3), .second, .val (.int (p1 &&& (3 : Int32))), .val (.int x5_12), .val (.int x6_18), .val (.int v106_7), .unset] [(.ref b2)]))
  refine A (XS.astore X2.here hx rfl (hb hby at_110) rfl rfl (l' := #[.val (.int p1), .val (.int p2), .val (.long p3), .second, .val (.int (p1 &&& (3 : Int32))), .val (.int x5_12), .val (.int x6_18), .val (.int v106_7), .val (.ref b2)]) rfl) ?_
  show D (T2.setTop (mkF m 112 #[.val (.int p1), .val (.int p2), .val (.long p3), .second, .val (.int (p1 &&& (3 : Int32))), .val (.int x5_12), .val (.int x6_18), .val (.int v106_7), .val (.ref b2)] []))
  refine A (XS.aload X2.here hx rfl (hb hby at_112) rfl rfl) ?_
  show D (T2.setTop (mkF m 114 #[.val (.int p1), .val (.int p2), .val (.long p3), .second, .val (.int (p1 &&& (3 : Int32))), .val (.int x5_12), .val (.int x6_18), .val (.int v106_7), .val (.ref b2)] [(.ref b2)]))
  refine A (XS.iconst X2.here hx rfl (hb hby at_114)) ?_
  show D (T2.setTop (mkF m 115 #[.val (.int p1), .val (.int p2), .val (.long p3), .second, .val (.int (p1 &&& (3 : Int32))), .val (.int x5_12), .val (.int x6_18), .val (.int v106_7), .val (.ref b2)] [(.int (0 : Int32)), (.ref b2)]))
  refine A (XS.lloadN X2.here hx rfl (hb hby at_115) rfl) ?_
  show D (T2.setTop (mkF m 116 #[.val (.int p1), .val (.int p2), .val (.long p3), .second, .val (.int (p1 &&& (3 : Int32))), .val (.int x5_12), .val (.int x6_18), .val (.int v106_7), .val (.ref b2)] [(.long p3), (.int (0 : Int32)), (.ref b2)]))
  refine A (XS.l2i X2.here hx rfl (hb hby at_116) rfl) ?_
  show D (T2.setTop (mkF m 117 #[.val (.int p1), .val (.int p2), .val (.long p3), .second, .val (.int (p1 &&& (3 : Int32))), .val (.int x5_12), .val (.int x6_18), .val (.int v106_7), .val (.ref b2)] [(.int (p3.toInt32)), (.int (0 : Int32)), (.ref b2)]))
  refine A (XS.i2b X2.here hx rfl (hb hby at_117) rfl) ?_
  show D (T2.setTop (mkF m 118 #[.val (.int p1), .val (.int p2), .val (.long p3), .second, .val (.int (p1 &&& (3 : Int32))), .val (.int x5_12), .val (.int x6_18), .val (.int v106_7), .val (.ref b2)] [(.int ((p3.toInt32).toInt8.toInt32)), (.int (0 : Int32)), (.ref b2)]))
  refine Adv.stB A X2 hx hZ e2 V_b2 (k := 0) (by decide) (by decide) (g := (mkF m 118 #[.val (.int p1), .val (.int p2), .val (.long p3), .second, .val (.int (p1 &&& (3 : Int32))), .val (.int x5_12), .val (.int x6_18), .val (.int v106_7), .val (.ref b2)] [(.int ((p3.toInt32).toInt8.toInt32)), (.int (0 : Int32)), (.ref b2)])) rfl rfl (hb hby at_118) ?_
  intro T3 h3 X3 e3 W3 Vb2_3
  have N3 := Fr.snoc X3 (Fr.nil n0) g_b2
  have Z_3 : n0 ≤ h3.size := Nat.le_trans Z_2 (Nat.le_of_eq W3.size.symm)
  show D (T3.setTop (mkF m 119 #[.val (.int p1), .val (.int p2), .val (.long p3), .second, .val (.int (p1 &&& (3 : Int32))), .val (.int x5_12), .val (.int x6_18), .val (.int v106_7), .val (.ref b2)] []))
  obtain ⟨fn4, hfn4⟩ : ∃ z : Nat → Int32, z = (fun ix => if ix = 0 then ((p3.toInt32).toInt8.toInt32).toInt8.toInt32 else (fun _ => 0) ix) := ⟨_, rfl⟩
  rw [← hfn4] at Vb2_3
  refine A (XS.aload X3.here hx rfl (hb hby at_119) rfl rfl) ?_
  show D (T3.setTop (mkF m 121 #[.val (.int p1), .val (.int p2), .val (.long p3), .second, .val (.int (p1 &&& (3 : Int32))), .val (.int x5_12), .val (.int x6_18), .val (.int v106_7), .val (.ref b2)] [(.ref b2)]))
  refine A (XS.iconst X3.here hx rfl (hb hby at_121)) ?_
  show D (T3.setTop (mkF m 122 #[.val (.int p1), .val (.int p2), .val (.long p3), .second, .val (.int (p1 &&& (3 : Int32))), .val (.int x5_12), .val (.int x6_18), .val (.int v106_7), .val (.ref b2)] [(.int (1 : Int32)), (.ref b2)]))
  refine A (XS.lloadN X3.here hx rfl (hb hby at_122) rfl) ?_
  show D (T3.setTop (mkF m 123 #[.val (.int p1), .val (.int p2), .val (.long p3), .second, .val (.int (p1 &&& (3 : Int32))), .val (.int x5_12), .val (.int x6_18), .val (.int v106_7), .val (.ref b2)] [(.long p3), (.int (1 : Int32)), (.ref b2)]))
  refine A (XS.bipush X3.here hx rfl (hb hby at_123)) ?_
  show D (T3.setTop (mkF m 125 #[.val (.int p1), .val (.int p2), .val (.long p3), .second, .val (.int (p1 &&& (3 : Int32))), .val (.int x5_12), .val (.int x6_18), .val (.int v106_7), .val (.ref b2)] [(.int (8 : Int32)), (.long p3), (.int (1 : Int32)), (.ref b2)]))
  refine A (XS.lushr X3.here hx rfl (hb hby at_125) rfl) ?_
  show D (T3.setTop (mkF m 126 #[.val (.int p1), .val (.int p2), .val (.long p3), .second, .val (.int (p1 &&& (3 : Int32))), .val (.int x5_12), .val (.int x6_18), .val (.int v106_7), .val (.ref b2)] [(.long ((p3.toUInt64 >>> ((8 : Int32) &&& 0x3f).toInt64.toUInt64).toInt64)), (.int (1 : Int32)), (.ref b2)]))
  refine A (XS.l2i X3.here hx rfl (hb hby at_126) rfl) ?_
  show D (T3.setTop (mkF m 127 #[.val (.int p1), .val (.int p2), .val (.long p3), .second, .val (.int (p1 &&& (3 : Int32))), .val (.int x5_12), .val (.int x6_18), .val (.int v106_7), .val (.ref b2)] [(.int (((p3.toUInt64 >>> ((8 : Int32) &&& 0x3f).toInt64.toUInt64).toInt64).toInt32)), (.int (1 : Int32)), (.ref b2)]))
  refine A (XS.i2b X3.here hx rfl (hb hby at_127) rfl) ?_
  show D (T3.setTop (mkF m 128 #[.val (.int p1), .val (.int p2), .val (.long p3), .second, .val (.int (p1 &&& (3 : Int32))), .val (.int x5_12), .val (.int x6_18), .val (.int v106_7), .val (.ref b2)] [(.int ((((p3.toUInt64 >>> ((8 : Int32) &&& 0x3f).toInt64.toUInt64).toInt64).toInt32).toInt8.toInt32)), (.int (1 : Int32)), (.ref b2)]))
  refine Adv.stB A X3 hx hZ e3 Vb2_3 (k := 1) (by decide) (by decide) (g := (mkF m 128 #[.val (.int p1), .val (.int p2), .val (.long p3), .second, .val (.int (p1 &&& (3 : Int32))), .val (.int x5_12), .val (.int x6_18), .val (.int v106_7), .val (.ref b2)] [(.int ((((p3.toUInt64 >>> ((8 : Int32) &&& 0x3f).toInt64.toUInt64).toInt64).toInt32).toInt8.toInt32)), (.int (1 : Int32)), (.ref b2)])) rfl rfl (hb hby at_128) ?_
  intro T5 h5 X5 e5 W5 Vb2_5
  have N5 := Fr.snoc X5 N3 g_b2
  have Z_5 : n0 ≤ h5.size := Nat.le_trans Z_3 (Nat.le_of_eq W5.size.symm)
  show D (T5.setTop (mkF m 129 #[.val (.int p1), .val (.int p2), .val (.long p3), .second, .val (.int (p1 &&& (3 : Int32))), .val (.int x5_12), .val (.int x6_18), .val (.int v106_7), .val (.ref b2)] []))
  obtain ⟨fn6, hfn6⟩ : ∃ z : Nat → Int32, z = (fun ix => if ix = 1 then ((((p3.toUInt64 >>> ((8 : Int32) &&& 0x3f).toInt64.toUInt64).toInt64).toInt32).toInt8.toInt32).toInt8.toInt32 else fn4 ix) := ⟨_, rfl⟩
  rw [← hfn6] at Vb2_5
  refine A (XS.aload X5.here hx rfl (hb hby at_129) rfl rfl) ?_
  show D (T5.setTop (mkF m 131 #[.val (.int p1), .val (.int p2), .val (.long p3), .second, .val (.int (p1 &&& (3 : Int32))), .val (.int x5_12), .val (.int x6_18), .val (.int v106_7), .val (.ref b2)] [(.ref b2)]))
  refine A (XS.iconst X5.here hx rfl (hb hby at_131)) ?_
  show D (T5.setTop (mkF m 132 #[.val (.int p1), .val (.int p2), .val (.long p3), .second, .val (.int (p1 &&& (3 : Int32))), .val (.int x5_12), .val (.int x6_18), .val (.int v106_7), .val (.ref b2)] [(.int (2 : Int32)), (.ref b2)]))
  refine A (XS.lloadN X5.here hx rfl (hb hby at_132) rfl) ?_
  show D (T5.setTop (mkF m 133 #[.val (.int p1), .val (.int p2), .val (.long p3), .second, .val (.int (p1 &&& (3 : Int32))), .val (.int x5_12), .val (.int x6_18), .val (.int v106_7), .val (.ref b2)] [(.long p3), (.int (2 : Int32)), (.ref b2)]))
  refine A (XS.bipush X5.here hx rfl (hb hby at_133)) ?_
  show D (T5.setTop (mkF m 135 #[.val (.int p1), .val (.int p2), .val (.long p3), .second, .val (.int (p1 &&& (3 : Int32))), .val (.int x5_12), .val (.int x6_18), .val (.int v106_7), .val (.ref b2)] [(.int (16 : Int32)), (.long p3), (.int (2 : Int32)), (.ref b2)]))
  refine A (XS.lushr X5.here hx rfl (hb hby at_135) rfl) ?_
  show D (T5.setTop (mkF m 136 #[.val (.int p1), .val (.int p2), .val (.long p3), .second, .val (.int (p1 &&& (3 : Int32))), .val (.int x5_12), .val (.int x6_18), .val (.int v106_7), .val (.ref b2)] [(.long ((p3.toUInt64 >>> ((16 : Int32) &&& 0x3f).toInt64.toUInt64).toInt64)), (.int (2 : Int32)), (.ref b2)]))
  refine A (XS.l2i X5.here hx rfl (hb hby at_136) rfl) ?_
  show D (T5.setTop (mkF m 137 #[.val (.int p1), .val (.int p2), .val (.long p3), .second, .val (.int (p1 &&& (3 : Int32))), .val (.int x5_12), .val (.int x6_18), .val (.int v106_7), .val (.ref b2)] [(.int (((p3.toUInt64 >>> ((16 : Int32) &&& 0x3f).toInt64.toUInt64).toInt64).toInt32)), (.int (2 : Int32)), (.ref b2)]))
  refine A (XS.i2b X5.here hx rfl (hb hby at_137) rfl) ?_
  show D (T5.setTop (mkF m 138 #[.val (.int p1), .val (.int p2), .val (.long p3), .second, .val (.int (p1 &&& (3 : Int32))), .val (.int x5_12), .val (.int x6_18), .val (.int v106_7), .val (.ref b2)] [(.int ((((p3.toUInt64 >>> ((16 : Int32) &&& 0x3f).toInt64.toUInt64).toInt64).toInt32).toInt8.toInt32)), (.int (2 : Int32)), (.ref b2)]))
  refine Adv.stB A X5 hx hZ e5 Vb2_5 (k := 2) (by decide) (by decide) (g := (mkF m 138 #[.val (.int p1), .val (.int p2), .val (.long p3), .second, .val (.int (p1 &&& (3 : Int32))), .val (.int x5_12), .val (.int x6_18), .val (.int v106_7), .val (.ref b2)] [(.int ((((p3.toUInt64 >>> ((16 : Int32) &&& 0x3f).toInt64.toUInt64).toInt64).toInt32).toInt8.toInt32)), (.int (2 : Int32)), (.ref b2)])) rfl rfl (hb hby at_138) ?_
  intro T7 h7 X7 e7 W7 Vb2_7
  have N7 := Fr.snoc X7 N5 g_b2
  have Z_7 : n0 ≤ h7.size := Nat.le_trans Z_5 (Nat.le_of_eq W7.size.symm)
  show D (T7.setTop (mkF m 139 #[.val (.int p1), .val (.int p2), .val (.long p3), .second, .val (.int (p1 &&& (3 : Int32))), .val (.int x5_12), .val (.int x6_18), .val (.int v106_7), .val (.ref b2)] []))
  obtain ⟨fn8, hfn8⟩ : ∃ z : Nat → Int32, z = (fun ix => if ix = 2 then ((((p3.toUInt64 >>> ((16 : Int32) &&& 0x3f).toInt64.toUInt64).toInt64).toInt32).toInt8.toInt32).toInt8.toInt32 else fn6 ix) := ⟨_, rfl⟩
  rw [← hfn8] at Vb2_7
  refine A (XS.aload X7.here hx rfl (hb hby at_139) rfl rfl) ?_
  show D (T7.setTop (mkF m 141 #[.val (.int p1), .val (.int p2), .val (.long p3), .second, .val (.int (p1 &&& (3 : Int32))), .val (.int x5_12), .val (.int x6_18), .val (.int v106_7), .val (.ref b2)] [(.ref b2)]))
  refine A (XS.iconst X7.here hx rfl (hb hby at_141)) ?_
  show D (T7.setTop (mkF m 142 #[.val (.int p1), .val (.int p2), .val (.long p3), .second, .val (.int (p1 &&& (3 : Int32))), .val (.int x5_12), .val (.int x6_18), .val (.int v106_7), .val (.ref b2)] [(.int (3 : Int32)), (.ref b2)]))
  refine A (XS.lloadN X7.here hx rfl (hb hby at_142) rfl) ?_
  show D (T7.setTop (mkF m 143 #[.val (.int p1), .val (.int p2), .val (.long p3), .second, .val (.int (p1 &&& (3 : Int32))), .val (.int x5_12), .val (.int x6_18), .val (.int v106_7), .val (.ref b2)] [(.long p3), (.int (3 : Int32)), (.ref b2)]))
  refine A (XS.bipush X7.here hx rfl (hb hby at_143)) ?_
  show D (T7.setTop (mkF m 145 #[.val (.int p1), .val (.int p2), .val (.long p3), .second, .val (.int (p1 &&& (3 : Int32))), .val (.int x5_12), .val (.int x6_18), .val (.int v106_7), .val (.ref b2)] [(.int (24 : Int32)), (.long p3), (.int (3 : Int32)), (.ref b2)]))
  refine A (XS.lushr X7.here hx rfl (hb hby at_145) rfl) ?_
  show D (T7.setTop (mkF m 146 #[.val (.int p1), .val (.int p2), .val (.long p3), .second, .val (.int (p1 &&& (3 : Int32))), .val (.int x5_12), .val (.int x6_18), .val (.int v106_7), .val (.ref b2)] [(.long ((p3.toUInt64 >>> ((24 : Int32) &&& 0x3f).toInt64.toUInt64).toInt64)), (.int (3 : Int32)), (.ref b2)]))
  refine A (XS.l2i X7.here hx rfl (hb hby at_146) rfl) ?_
  show D (T7.setTop (mkF m 147 #[.val (.int p1), .val (.int p2), .val (.long p3), .second, .val (.int (p1 &&& (3 : Int32))), .val (.int x5_12), .val (.int x6_18), .val (.int v106_7), .val (.ref b2)] [(.int (((p3.toUInt64 >>> ((24 : Int32) &&& 0x3f).toInt64.toUInt64).toInt64).toInt32)), (.int (3 : Int32)), (.ref b2)]))
  refine A (XS.i2b X7.here hx rfl (hb hby at_147) rfl) ?_
  show D (T7.setTop (mkF m 148 #[.val (.int p1), .val (.int p2), .val (.long p3), .second, .val (.int (p1 &&& (3 : Int32))), .val (.int x5_12), .val (.int x6_18), .val (.int v106_7), .val (.ref b2)] [(.int ((((p3.toUInt64 >>> ((24 : Int32) &&& 0x3f).toInt64.toUInt64).toInt64).toInt32).toInt8.toInt32)), (.int (3 : Int32)), (.ref b2)]))
  refine Adv.stB A X7 hx hZ e7 Vb2_7 (k := 3) (by decide) (by decide) (g := (mkF m 148 #[.val (.int p1), .val (.int p2), .val (.long p3), .second, .val (.int (p1 &&& (3 : Int32))), .val (.int x5_12), .val (.int x6_18), .val (.int v106_7), .val (.ref b2)] [(.int ((((p3.toUInt64 >>> ((24 : Int32) &&& 0x3f).toInt64.toUInt64).toInt64).toInt32).toInt8.toInt32)), (.int (3 : Int32)), (.ref b2)])) rfl rfl (hb hby at_148) ?_
  intro T9 h9 X9 e9 W9 Vb2_9
  have N9 := Fr.snoc X9 N7 g_b2
  have Z_9 : n0 ≤ h9.size := Nat.le_trans Z_7 (Nat.le_of_eq W9.size.symm)
  show D (T9.setTop (mkF m 149 #[.val (.int p1), .val (.int p2), .val (.long p3), .second, .val (.int (p1 &&& (3 : Int32))), .val (.int x5_12), .val (.int x6_18), .val (.int v106_7), .val (.ref b2)] []))
  obtain ⟨fn10, hfn10⟩ : ∃ z : Nat → Int32, z = (fun ix => if ix = 3 then ((((p3.toUInt64 >>> ((24 : Int32) &&& 0x3f).toInt64.toUInt64).toInt64).toInt32).toInt8.toInt32).toInt8.toInt32 else fn8 ix) := ⟨_, rfl⟩
  rw [← hfn10] at Vb2_9
  refine A (XS.aload X9.here hx rfl (hb hby at_149) rfl rfl) ?_
  show D (T9.setTop (mkF m 151 #[.val (.int p1), .val (.int p2), .val (.long p3), .second, .val (.int (p1 &&& (3 : Int32))), .val (.int x5_12), .val (.int x6_18), .val (.int v106_7), .val (.ref b2)] [(.ref b2)]))
  refine A (XS.iconst X9.here hx rfl (hb hby at_151)) ?_
  show D (T9.setTop (mkF m 152 #[.val (.int p1), .val (.int p2), .val (.long p3), .second, .val (.int (p1 &&& (3 : Int32))), .val (.int x5_12), .val (.int x6_18), .val (.int v106_7), .val (.ref b2)] [(.int (4 : Int32)), (.ref b2)]))
  refine A (XS.lloadN X9.here hx rfl (hb hby at_152) rfl) ?_
  show D (T9.setTop (mkF m 153 #[.val (.int p1), .val (.int p2), .val (.long p3), .second, .val (.int (p1 &&& (3 : Int32))), .val (.int x5_12), .val (.int x6_18), .val (.int v106_7), .val (.ref b2)] [(.long p3), (.int (4 : Int32)), (.ref b2)]))
  refine A (XS.bipush X9.here hx rfl (hb hby at_153)) ?_
  show D (T9.setTop (mkF m 155 #[.val (.int p1), .val (.int p2), .val (.long p3), .second, .val (.int (p1 &&& (3 : Int32))), .val (.int x5_12), .val (.int x6_18), .val (.int v106_7), .val (.ref b2)] [(.int (32 : Int32)), (.long p3), (.int (4 : Int32)), (.ref b2)]))
  refine A (XS.lushr X9.here hx rfl (hb hby at_155) rfl) ?_
  show D (T9.setTop (mkF m 156 #[.val (.int p1), .val (.int p2), .val (.long p3), .second, .val (.int (p1 &&& (3 : Int32))), .val (.int x5_12), .val (.int x6_18), .val (.int v106_7), .val (.ref b2)] [(.long ((p3.toUInt64 >>> ((32 : Int32) &&& 0x3f).toInt64.toUInt64).toInt64)), (.int (4 : Int32)), (.ref b2)]))
  refine A (XS.l2i X9.here hx rfl (hb hby at_156) rfl) ?_
  show D (T9.setTop (mkF m 157 #[.val (.int p1), .val (.int p2), .val (.long p3), .second, .val (.int (p1 &&& (3 : Int32))), .val (.int x5_12), .val (.int x6_18), .val (.int v106_7), .val (.ref b2)] [(.int (((p3.toUInt64 >>> ((32 : Int32) &&& 0x3f).toInt64.toUInt64).toInt64).toInt32)), (.int (4 : Int32)), (.ref b2)]))
  refine A (XS.i2b X9.here hx rfl (hb hby at_157) rfl) ?_
  show D (T9.setTop (mkF m 158 #[.val (.int p1), .val (.int p2), .val (.long p3), .second, .val (.int (p1 &&& (3 : Int32))), .val (.int x5_12), .val (.int x6_18), .val (.int v106_7), .val (.ref b2)] [(.int ((((p3.toUInt64 >>> ((32 : Int32) &&& 0x3f).toInt64.toUInt64).toInt64).toInt32).toInt8.toInt32)), (.int (4 : Int32)), (.ref b2)]))
  refine Adv.stB A X9 hx hZ e9 Vb2_9 (k := 4) (by decide) (by decide) (g := (mkF m 158 #[.val (.int p1), .val (.int p2), .val (.long p3), .second, .val (.int (p1 &&& (3 : Int32))), .val (.int x5_12), .val (.int x6_18), .val (.int v106_7), .val (.ref b2)] [(.int ((((p3.toUInt64 >>> ((32 : Int32) &&& 0x3f).toInt64.toUInt64).toInt64).toInt32).toInt8.toInt32)), (.int (4 : Int32)), (.ref b2)])) rfl rfl (hb hby at_158) ?_
  intro T11 h11 X11 e11 W11 Vb2_11
  have N11 := Fr.snoc X11 N9 g_b2
  have Z_11 : n0 ≤ h11.size := Nat.le_trans Z_9 (Nat.le_of_eq W11.size.symm)
  show D (T11.setTop (mkF m 159 #[.val (.int p1), .val (.int p2), .val (.long p3), .second, .val (.int (p1 &&& (3 : Int32))), .val (.int x5_12), .val (.int x6_18), .val (.int v106_7), .val (.ref b2)] []))
  obtain ⟨fn12, hfn12⟩ : ∃ z : Nat → Int32, z = (fun ix => if ix = 4 then ((((p3.toUInt64 >>> ((32 : Int32) &&& 0x3f).toInt64.toUInt64).toInt64).toInt32).toInt8.toInt32).toInt8.toInt32 else fn10 ix) := ⟨_, rfl⟩
  rw [← hfn12] at Vb2_11
  refine A (XS.aload X11.here hx rfl (hb hby at_159) rfl rfl) ?_
  show D (T11.setTop (mkF m 161 #[.val (.int p1), .val (.int p2), .val (.long p3), .second, .val (.int (p1 &&& (3 : Int32))), .val (.int x5_12), .val (.int x6_18), .val (.int v106_7), .val (.ref b2)] [(.ref b2)]))
  refine A (XS.iconst X11.here hx rfl (hb hby at_161)) ?_
  show D (T11.setTop (mkF m 162 #[.val (.int p1), .val (.int p2), .val (.long p3), .second, .val (.int (p1 &&& (3 : Int32))), .val (.int x5_12), .val (.int x6_18), .val (.int v106_7), .val (.ref b2)] [(.int (5 : Int32)), (.ref b2)]))
  refine A (XS.lloadN X11.here hx rfl (hb hby at_162) rfl) ?_
  show D (T11.setTop (mkF m 163 #[.val (.int p1), .val (.int p2), .val (.long p3), .second, .val (.int (p1 &&& (3 : Int32))), .val (.int x5_12), .val (.int x6_18), .val (.int v106_7), .val (.ref b2)] [(.long p3), (.int (5 : Int32)), (.ref b2)]))
  refine A (XS.bipush X11.here hx rfl (hb hby at_163)) ?_
  show D (T11.setTop (mkF m 165 #[.val (.int p1), .val (.int p2), .val (.long p3), .second, .val (.int (p1 &&& (3 : Int32))), .val (.int x5_12), .val (.int x6_18), .val (.int v106_7), .val (.ref b2)] [(.int (40 : Int32)), (.long p3), (.int (5 : Int32)), (.ref b2)]))
  refine A (XS.lushr X11.here hx rfl (hb hby at_165) rfl) ?_
  show D (T11.setTop (mkF m 166 #[.val (.int p1), .val (.int p2), .val (.long p3), .second, .val (.int (p1 &&& (3 : Int32))), .val (.int x5_12), .val (.int x6_18), .val (.int v106_7), .val (.ref b2)] [(.long ((p3.toUInt64 >>> ((40 : Int32) &&& 0x3f).toInt64.toUInt64).toInt64)), (.int (5 : Int32)), (.ref b2)]))
  refine A (XS.l2i X11.here hx rfl (hb hby at_166) rfl) ?_
  show D (T11.setTop (mkF m 167 #[.val (.int p1), .val (.int p2), .val (.long p3), .second, .val (.int (p1 &&& (3 : Int32))), .val (.int x5_12), .val (.int x6_18), .val (.int v106_7), .val (.ref b2)] [(.int (((p3.toUInt64 >>> ((40 : Int32) &&& 0x3f).toInt64.toUInt64).toInt64).toInt32)), (.int (5 : Int32)), (.ref b2)]))
  refine A (XS.i2b X11.here hx rfl (hb hby at_167) rfl) ?_
  show D (T11.setTop (mkF m 168 #[.val (.int p1), .val (.int p2), .val (.long p3), .second, .val (.int (p1 &&& (3 : Int32))), .val (.int x5_12), .val (.int x6_18), .val (.int v106_7), .val (.ref b2)] [(.int ((((p3.toUInt64 >>> ((40 : Int32) &&& 0x3f).toInt64.toUInt64).toInt64).toInt32).toInt8.toInt32)), (.int (5 : Int32)), (.ref b2)]))
  refine Adv.stB A X11 hx hZ e11 Vb2_11 (k := 5) (by decide) (by decide) (g := (mkF m 168 #[.val (.int p1), .val (.int p2), .val (.long p3), .second, .val (.int (p1 &&& (3 : Int32))), .val (.int x5_12), .val (.int x6_18), .val (.int v106_7), .val (.ref b2)] [(.int ((((p3.toUInt64 >>> ((40 : Int32) &&& 0x3f).toInt64.toUInt64).toInt64).toInt32).toInt8.toInt32)), (.int (5 : Int32)), (.ref b2)])) rfl rfl (hb hby at_168) ?_
  intro T13 h13 X13 e13 W13 Vb2_13
  have N13 := Fr.snoc X13 N11 g_b2
  have Z_13 : n0 ≤ h13.size := Nat.le_trans Z_11 (Nat.le_of_eq W13.size.symm)
  show D (T13.setTop (mkF m 169 #[.val (.int p1), .val (.int p2), .val (.long p3), .second, .val (.int (p1 &&& (3 : Int32))), .val (.int x5_12), .val (.int x6_18), .val (.int v106_7), .val (.ref b2)] []))
  obtain ⟨fn14, hfn14⟩ : ∃ z : Nat → Int32, z = (fun ix => if ix = 5 then ((((p3.toUInt64 >>> ((40 : Int32) &&& 0x3f).toInt64.toUInt64).toInt64).toInt32).toInt8.toInt32).toInt8.toInt32 else fn12 ix) := ⟨_, rfl⟩
  rw [← hfn14] at Vb2_13
  refine A (XS.aload X13.here hx rfl (hb hby at_169) rfl rfl) ?_
  show D (T13.setTop (mkF m 171 #[.val (.int p1), .val (.int p2), .val (.long p3), .second, .val (.int (p1 &&& (3 : Int32))), .val (.int x5_12), .val (.int x6_18), .val (.int v106_7), .val (.ref b2)] [(.ref b2)]))
  refine A (XS.bipush X13.here hx rfl (hb hby at_171)) ?_
  show D (T13.setTop (mkF m 173 #[.val (.int p1), .val (.int p2), .val (.long p3), .second, .val (.int (p1 &&& (3 : Int32))), .val (.int x5_12), .val (.int x6_18), .val (.int v106_7), .val (.ref b2)] [(.int (6 : Int32)), (.ref b2)]))
  refine A (XS.lloadN X13.here hx rfl (hb hby at_173) rfl) ?_
  show D (T13.setTop (mkF m 174 #[.val (.int p1), .val (.int p2), .val (.long p3), .second, .val (.int (p1 &&& (3 : Int32))), .val (.int x5_12), .val (.int x6_18), .val (.int v106_7), .val (.ref b2)] [(.long p3), (.int (6 : Int32)), (.ref b2)]))
  refine A (XS.bipush X13.here hx rfl (hb hby at_174)) ?_
  show D (T13.setTop (mkF m 176 #[.val (.int p1), .val (.int p2), .val (.long p3), .second, .val (.int (p1 &&& (3 : Int32))), .val (.int x5_12), .val (.int x6_18), .val (.int v106_7), .val (.ref b2)] [(.int (48 : Int32)), (.long p3), (.int (6 : Int32)), (.ref b2)]))
  refine A (XS.lushr X13.here hx rfl (hb hby at_176) rfl) ?_
  show D (T13.setTop (mkF m 177 #[.val (.int p1), .val (.int p2), .val (.long p3), .second, .val (.int (p1 &&& (3 : Int32))), .val (.int x5_12), .val (.int x6_18), .val (.int v106_7), .val (.ref b2)] [(.long ((p3.toUInt64 >>> ((48 : Int32) &&& 0x3f).toInt64.toUInt64).toInt64)), (.int (6 : Int32)), (.ref b2)]))
  refine A (XS.l2i X13.here hx rfl (hb hby at_177) rfl) ?_
  show D (T13.setTop (mkF m 178 #[.val (.int p1), .val (.int p2), .val (.long p3), .second, .val (.int (p1 &&& (3 : Int32))), .val (.int x5_12), .val (.int x6_18), .val (.int v106_7), .val (.ref b2)] [(.int (((p3.toUInt64 >>> ((48 : Int32) &&& 0x3f).toInt64.toUInt64).toInt64).toInt32)), (.int (6 : Int32)), (.ref b2)]))
  refine A (XS.i2b X13.here hx rfl (hb hby at_178) rfl) ?_
  show D (T13.setTop (mkF m 179 #[.val (.int p1), .val (.int p2), .val (.long p3), .second, .val (.int (p1 &&& (3 : Int32))), .val (.int x5_12), .val (.int x6_18), .val (.int v106_7), .val (.ref b2)] [(.int ((((p3.toUInt64 >>> ((48 : Int32) &&& 0x3f).toInt64.toUInt64).toInt64).toInt32).toInt8.toInt32)), (.int (6 : Int32)), (.ref b2)]))
  refine Adv.stB A X13 hx hZ e13 Vb2_13 (k := 6) (by decide) (by decide) (g := (mkF m 179 #[.val (.int p1), .val (.int p2), .val (.long p3), .second, .val (.int (p1 &&& (3 : Int32))), .val (.int x5_12), .val (.int x6_18), .val (.int v106_7), .val (.ref b2)] [(.int ((((p3.toUInt64 >>> ((48 : Int32) &&& 0x3f).toInt64.toUInt64).toInt64).toInt32).toInt8.toInt32)), (.int (6 : Int32)), (.ref b2)])) rfl rfl (hb hby at_179) ?_
  intro T15 h15 X15 e15 W15 Vb2_15
  have N15 := Fr.snoc X15 N13 g_b2
  have Z_15 : n0 ≤ h15.size := Nat.le_trans Z_13 (Nat.le_of_eq W15.size.symm)
  show D (T15.setTop (mkF m 180 #[.val (.int p1), .val (.int p2), .val (.long p3), .second, .val (.int (p1 &&& (3 : Int32))), .val (.int x5_12), .val (.int x6_18), .val (.int v106_7), .val (.ref b2)] []))
  obtain ⟨fn16, hfn16⟩ : ∃ z : Nat → Int32, z = (fun ix => if ix = 6 then ((((p3.toUInt64 >>> ((48 : Int32) &&& 0x3f).toInt64.toUInt64).toInt64).toInt32).toInt8.toInt32).toInt8.toInt32 else fn14 ix) := ⟨_, rfl⟩
  rw [← hfn16] at Vb2_15
  refine A (XS.aload X15.here hx rfl (hb hby at_180) rfl rfl) ?_
  show D (T15.setTop (mkF m 182 #[.val (.int p1), .val (.int p2), .val (.long p3), .second, .val (.int (p1 &&& (3 : Int32))), .val (.int x5_12), .val (.int x6_18), .val (.int v106_7), .val (.ref b2)] [(.ref b2)]))
  refine A (XS.bipush X15.here hx rfl (hb hby at_182)) ?_
  show D (T15.setTop (mkF m 184 #[.val (.int p1), .val (.int p2), .val (.long p3), .second, .val (.int (p1 &&& (3 : Int32))), .val (.int x5_12), .val (.int x6_18), .val (.int v106_7), .val (.ref b2)] [(.int (7 : Int32)), (.ref b2)]))
  refine A (XS.lloadN X15.here hx rfl (hb hby at_184) rfl) ?_
  show D (T15.setTop (mkF m 185 #[.val (.int p1), .val (.int p2), .val (.long p3), .second, .val (.int (p1 &&& (3 : Int32))), .val (.int x5_12), .val (.int x6_18), .val (.int v106_7), .val (.ref b2)] [(.long p3), (.int (7 : Int32)), (.ref b2)]))
  refine A (XS.bipush X15.here hx rfl (hb hby at_185)) ?_
  show D (T15.setTop (mkF m 187 #[.val (.int p1), .val (.int p2), .val (.long p3), .second, .val (.int (p1 &&& (3 : Int32))), .val (.int x5_12), .val (.int x6_18), .val (.int v106_7), .val (.ref b2)] [(.int (56 : Int32)), (.long p3), (.int (7 : Int32)), (.ref b2)]))
  refine A (XS.lushr X15.here hx rfl (hb hby at_187) rfl) ?_
  show D (T15.setTop (mkF m 188 #[.val (.int p1), .val (.int p2), .val (.long p3), .second, .val (.int (p1 &&& (3 : Int32))), .val (.int x5_12), .val (.int x6_18), .val (.int v106_7), .val (.ref b2)] [(.long ((p3.toUInt64 >>> ((56 : Int32) &&& 0x3f).toInt64.toUInt64).toInt64)), (.int (7 : Int32)), (.ref b2)]))
  refine A (XS.l2i X15.here hx rfl (hb hby at_188) rfl) ?_
  show D (T15.setTop (mkF m 189 #[.val (.int p1), .val (.int p2), .val (.long p3), .second, .val (.int (p1 &&& (3 : Int32))), .val (.int x5_12), .val (.int x6_18), .val (.int v106_7), .val (.ref b2)] [(.int (((p3.toUInt64 >>> ((56 : Int32) &&& 0x3f).toInt64.toUInt64).toInt64).toInt32)), (.int (7 : Int32)), (.ref b2)]))
  refine A (XS.i2b X15.here hx rfl (hb hby at_189) rfl) ?_
  show D (T15.setTop (mkF m 190 #[.val (.int p1), .val (.int p2), .val (.long p3), .second, .val (.int (p1 &&& (3 : Int32))), .val (.int x5_12), .val (.int x6_18), .val (.int v106_7), .val (.ref b2)] [(.int ((((p3.toUInt64 >>> ((56 : Int32) &&& 0x3f).toInt64.toUInt64).toInt64).toInt32).toInt8.toInt32)), (.int (7 : Int32)), (.ref b2)]))
  refine Adv.stB A X15 hx hZ e15 Vb2_15 (k := 7) (by decide) (by decide) (g := (mkF m 190 #[.val (.int p1), .val (.int p2), .val (.long p3), .second, .val (.int (p1 &&& (3 : Int32))), .val (.int x5_12), .val (.int x6_18), .val (.int v106_7), .val (.ref b2)] [(.int ((((p3.toUInt64 >>> ((56 : Int32) &&& 0x3f).toInt64.toUInt64).toInt64).toInt32).toInt8.toInt32)), (.int (7 : Int32)), (.ref b2)])) rfl rfl (hb hby at_190) ?_
  intro T17 h17 X17 e17 W17 Vb2_17
  have N17 := Fr.snoc X17 N15 g_b2
  have Z_17 : n0 ≤ h17.size := Nat.le_trans Z_15 (Nat.le_of_eq W17.size.symm)
  show D (T17.setTop (mkF m 191 #[.val (.int p1), .val (.int p2), .val (.long p3), .second, .val (.int (p1 &&& (3 : Int32))), .val (.int x5_12), .val (.int x6_18), .val (.int v106_7), .val (.ref b2)] []))
  obtain ⟨fn18, hfn18⟩ : ∃ z : Nat → Int32, z = (fun ix => if ix = 7 then ((((p3.toUInt64 >>> ((56 : Int32) &&& 0x3f).toInt64.toUInt64).toInt64).toInt32).toInt8.toInt32).toInt8.toInt32 else fn16 ix) := ⟨_, rfl⟩
  rw [← hfn18] at Vb2_17
  refine A (XS.iload X17.here hx rfl (hb hby at_191) rfl) ?_
  show D (T17.setTop (mkF m 193 #[.val (.int p1), .val (.int p2), .val (.long p3), .second, .val (.int (p1 &&& (3 : Int32))), .val (.int x5_12), .val (.int x6_18), .val (.int v106_7), .val (.ref b2)] [(.int v106_7)]))
  refine A (XS.sipush X17.here hx rfl (hb hby at_193)) ?_
  show D (T17.setTop (mkF m 196 #[.val (.int p1), .val (.int p2), .val (.long p3), .second, .val (.int (p1 &&& (3 : Int32))), .val (.int x5_12), .val (.int x6_18), .val (.int v106_7), .val (.ref b2)] [(.int (128 : Int32)), (.int v106_7)]))
  by_cases c196_19 : v106_7 < (128 : Int32)
  · refine A (XS.icmpNo X17.here hx rfl (hb hby at_196) rfl (tlt c196_19).2.1) ?_
    show D (T17.setTop (mkF m 199 #[.val (.int p1), .val (.int p2), .val (.long p3), .second, .val (.int (p1 &&& (3 : Int32))), .val (.int x5_12), .val (.int x6_18), .val (.int v106_7), .val (.ref b2)] []))
    refine A (XS.aload X17.here hx rfl (hb hby at_199) rfl rfl) ?_
    show D (T17.setTop (mkF m 201 #[.val (.int p1), .val (.int p2), .val (.long p3), .second, .val (.int (p1 &&& (3 : Int32))), .val (.int x5_12), .val (.int x6_18), .val (.int v106_7), .val (.ref b2)] [(.ref b2)]))
    refine A (XS.iload X17.here hx rfl (hb hby at_201) rfl) ?_
    show D (T17.setTop (mkF m 203 #[.val (.int p1), .val (.int p2), .val (.long p3), .second, .val (.int (p1 &&& (3 : Int32))), .val (.int x5_12), .val (.int x6_18), .val (.int v106_7), .val (.ref b2)] [(.int x5_12), (.ref b2)]))
    refine A (XS.iload X17.here hx rfl (hb hby at_203) rfl) ?_
    show D (T17.setTop (mkF m 205 #[.val (.int p1), .val (.int p2), .val (.long p3), .second, .val (.int (p1 &&& (3 : Int32))), .val (.int x5_12), .val (.int x6_18), .val (.int v106_7), .val (.ref b2)] [(.int v106_7), (.int x5_12), (.ref b2)]))
    refine A (XS.i2b X17.here hx rfl (hb hby at_205) rfl) ?_
    show D (T17.setTop (mkF m 206 #[.val (.int p1), .val (.int p2), .val (.long p3), .second, .val (.int (p1 &&& (3 : Int32))), .val (.int x5_12), .val (.int x6_18), .val (.int v106_7), .val (.ref b2)] [(.int (v106_7.toInt8.toInt32)), (.int x5_12), (.ref b2)]))
    refine Adv.stB A X17 hx hZ e17 Vb2_17 (k := o) ho (by omega) (g := (mkF m 206 #[.val (.int p1), .val (.int p2), .val (.long p3), .second, .val (.int (p1 &&& (3 : Int32))), .val (.int x5_12), .val (.int x6_18), .val (.int v106_7), .val (.ref b2)] [(.int (v106_7.toInt8.toInt32)), (.int x5_12), (.ref b2)])) rfl rfl (hb hby at_206) ?_
    intro T20 h20 X20 e20 W20 Vb2_20
    have N20 := Fr.snoc X20 N17 g_b2
    have Z_20 : n0 ≤ h20.size := Nat.le_trans Z_17 (Nat.le_of_eq W20.size.symm)
    show D (T20.setTop (mkF m 207 #[.val (.int p1), .val (.int p2), .val (.long p3), .second, .val (.int (p1 &&& (3 : Int32))), .val (.int x5_12), .val (.int x6_18), .val (.int v106_7), .val (.ref b2)] []))
    obtain ⟨fn21, hfn21⟩ : ∃ z : Nat → Int32, z = (fun ix => if ix = o then (v106_7.toInt8.toInt32).toInt8.toInt32 else fn18 ix) := ⟨_, rfl⟩
    rw [← hfn21] at Vb2_20
    refine A (XS.goto X20.here hx rfl (pc0 := 207) (pc' := 387) rfl (hb hby at_207) (by decide) (by decide)) ?_
    show D (T20.setTop (mkF m 387 #[.val (.int p1), .val (.int p2), .val (.long p3), .second, .val (.int (p1 &&& (3 : Int32))), .val (.int x5_12), .val (.int x6_18), .val (.int v106_7), .val (.ref b2)] []))
    refine A (XS.aload X20.here hx rfl (hb hby at_387) rfl rfl) ?_
    show D (T20.setTop (mkF m 389 #[.val (.int p1), .val (.int p2), .val (.long p3), .second, .val (.int (p1 &&& (3 : Int32))), .val (.int x5_12), .val (.int x6_18), .val (.int v106_7), .val (.ref b2)] [(.ref b2)]))
    refine A (XS.iload X20.here hx rfl (hb hby at_389) rfl) ?_
    show D (T20.setTop (mkF m 391 #[.val (.int p1), .val (.int p2), .val (.long p3), .second, .val (.int (p1 &&& (3 : Int32))), .val (.int x5_12), .val (.int x6_18), .val (.int v106_7), .val (.ref b2)] [(.int x5_12), (.ref b2)]))
    refine Adv.callS A X20 hx hZ hown (hw _ (List.mem_of_getElem? (i := 2) rfl)) (hw _ (List.mem_of_getElem? (i := 3) rfl)) (hw _ (List.mem_of_getElem? (i := 4) rfl)) (hw _ (List.mem_of_getElem? (i := 5) rfl)) e20 (rm1 l Z a0 hw [] b2 x5_12 h20 n0 fn21 o ho ho4 Vb2_20) 0 (g := (mkF m 391 #[.val (.int p1), .val (.int p2), .val (.long p3), .second, .val (.int (p1 &&& (3 : Int32))), .val (.int x5_12), .val (.int x6_18), .val (.int v106_7), .val (.ref b2)] [(.int x5_12), (.ref b2)])) rfl (by rw [hml]; rfl) [(.ref b2), (.int x5_12)] [] rfl (lenOf pd0_0 rfl) rfl (by show 2 * 0 + _ ≤ _; exact Nat.le_of_eq rfl) (hb hby at_391) (by decide) (by decide) (by decide) (by decide) (by decide) ?_
    rintro T22 L22 _ X22 ⟨rfl, N22_q, e22⟩
    have N22 := Fr.app N20 N22_q
    show D (T22.setTop (mkF m 394 #[.val (.int p1), .val (.int p2), .val (.long p3), .second, .val (.int (p1 &&& (3 : Int32))), .val (.int x5_12), .val (.int x6_18), .val (.int v106_7), .val (.ref b2)] [(.int (f1 fn21 o))]))
    refine A (XS.iload X22.here hx rfl (hb hby at_394) rfl) ?_
    show D (T22.setTop (mkF m 396 #[.val (.int p1), .val (.int p2), .val (.long p3), .second, .val (.int (p1 &&& (3 : Int32))), .val (.int x5_12), .val (.int x6_18), .val (.int v106_7), .val (.ref b2)] [(.int v106_7), (.int (f1 fn21 o))]))
    suffices Km404_23 : ∀ (v404s0 : Int32), v404s0 = (if (f1 fn21 o) = v106_7 then (1 : Int32) else (0 : Int32)) → D (T22.setTop (mkF m 404 #[.val (.int p1), .val (.int p2), .val (.long p3), .second, .val (.int (p1 &&& (3 : Int32))), .val (.int x5_12), .val (.int x6_18), .val (.int v106_7), .val (.ref b2)] [(.int v404s0)])) by
      by_cases c396_1 : (f1 fn21 o) = v106_7
      · refine A (XS.icmpNo X22.here hx rfl (hb hby at_396) rfl (teq c396_1).2) ?_
        show D (T22.setTop (mkF m 399 #[.val (.int p1), .val (.int p2), .val (.long p3), .second, .val (.int (p1 &&& (3 : Int32))), .val (.int x5_12), .val (.int x6_18), .val (.int v106_7), .val (.ref b2)] []))
        refine A (XS.iconst X22.here hx rfl (hb hby at_399)) ?_
        show D (T22.setTop (mkF m 400 #[.val (.int p1), .val (.int p2), .val (.long p3), .second, .val (.int (p1 &&& (3 : Int32))), .val (.int x5_12), .val (.int x6_18), .val (.int v106_7), .val (.ref b2)] [(.int (1 : Int32))]))
        refine A (XS.goto X22.here hx rfl (pc0 := 400) (pc' := 404) rfl (hb hby at_400) (by decide) (by decide)) ?_
        show D (T22.setTop (mkF m 404 #[.val (.int p1), .val (.int p2), .val (.long p3), .second, .val (.int (p1 &&& (3 : Int32))), .val (.int x5_12), .val (.int x6_18), .val (.int v106_7), .val (.ref b2)] [(.int (1 : Int32))]))
        exact Km404_23 _ ((if_pos c396_1)).symm
      · refine A (XS.icmpYes X22.here hx rfl (pc0 := 396) (pc' := 403) rfl (hb hby at_396) rfl (feq c396_1).2 (by decide) (by decide)) ?_
        show D (T22.setTop (mkF m 403 #[.val (.int p1), .val (.int p2), .val (.long p3), .second, .val (.int (p1 &&& (3 : Int32))), .val (.int x5_12), .val (.int x6_18), .val (.int v106_7), .val (.ref b2)] []))
        refine A (XS.iconst X22.here hx rfl (hb hby at_403)) ?_
        show D (T22.setTop (mkF m 404 #[.val (.int p1), .val (.int p2), .val (.long p3), .second, .val (.int (p1 &&& (3 : Int32))), .val (.int x5_12), .val (.int x6_18), .val (.int v106_7), .val (.ref b2)] [(.int (0 : Int32))]))
        exact Km404_23 _ ((if_neg c396_1)).symm
    intro v404s0 hv404s0
    show D (T22.setTop (mkF m 404 #[.val (.int p1), .val (.int p2), .val (.long p3), .second, .val (.int (p1 &&& (3 : Int32))), .val (.int x5_12), .val (.int x6_18), .val (.int v106_7), .val (.ref b2)] [(.int v404s0)]))
    obtain rfl : v404s0 = (1 : Int32) := by
      have hb := own_cp hx6_18 hv106_7
      have g0 := c196_19
      rw [Int32.lt_iff_toInt_lt] at g0
      have q1 : (128 : Int32).toInt = 128 := rfl
      have q2 : (2048 : Int32).toInt = 2048 := rfl
      have q3 : (65536 : Int32).toInt = 65536 := rfl
      rw [hv404s0, if_pos (own_c1 fn21 o v106_7 (by omega) (by omega) (by rw [hfn21]; exact if_pos rfl))]
    show D (T22.setTop (mkF m 404 #[.val (.int p1), .val (.int p2), .val (.long p3), .second, .val (.int (p1 &&& (3 : Int32))), .val (.int x5_12), .val (.int x6_18), .val (.int v106_7), .val (.ref b2)] [(.int (1 : Int32))]))
    exact F _ (Jvm.JW.ret X22 hlk (v := some (.int (1 : Int32))) (fun h => by rw [hrt] at h; cases h) (fun fs hr => retOut X22 hx hrt rfl (Or.inl ⟨rfl, Or.inr (Or.inl rfl), _, rfl⟩) (hb hby at_404) hr) rfl ⟨rfl, N22⟩ (by decide) (by decide))
  · refine A (XS.icmpYes X17.here hx rfl (pc0 := 196) (pc' := 210) rfl (hb hby at_196) rfl (flt c196_19).2.1 (by decide) (by decide)) ?_
    show D (T17.setTop (mkF m 210 #[.val (.int p1), .val (.int p2), .val (.long p3), .second, .val (.int (p1 &&& (3 : Int32))), .val (.int x5_12), .val (.int x6_18), .val (.int v106_7), .val (.ref b2)] []))
    refine A (XS.iload X17.here hx rfl (hb hby at_210) rfl) ?_
    show D (T17.setTop (mkF m 212 #[.val (.int p1), .val (.int p2), .val (.long p3), .second, .val (.int (p1 &&& (3 : Int32))), .val (.int x5_12), .val (.int x6_18), .val (.int v106_7), .val (.ref b2)] [(.int v106_7)]))
    refine A (XS.sipush X17.here hx rfl (hb hby at_212)) ?_
    show D (T17.setTop (mkF m 215 #[.val (.int p1), .val (.int p2), .val (.long p3), .second, .val (.int (p1 &&& (3 : Int32))), .val (.int x5_12), .val (.int x6_18), .val (.int v106_7), .val (.ref b2)] [(.int (2048 : Int32)), (.int v106_7)]))
    by_cases c215_24 : v106_7 < (2048 : Int32)
    · refine A (XS.icmpNo X17.here hx rfl (hb hby at_215) rfl (tlt c215_24).2.1) ?_
      show D (T17.setTop (mkF m 218 #[.val (.int p1), .val (.int p2), .val (.long p3), .second, .val (.int (p1 &&& (3 : Int32))), .val (.int x5_12), .val (.int x6_18), .val (.int v106_7), .val (.ref b2)] []))
      refine A (XS.aload X17.here hx rfl (hb hby at_218) rfl rfl) ?_
      show D (T17.setTop (mkF m 220 #[.val (.int p1), .val (.int p2), .val (.long p3), .second, .val (.int (p1 &&& (3 : Int32))), .val (.int x5_12), .val (.int x6_18), .val (.int v106_7), .val (.ref b2)] [(.ref b2)]))
      refine A (XS.iload X17.here hx rfl (hb hby at_220) rfl) ?_
      show D (T17.setTop (mkF m 222 #[.val (.int p1), .val (.int p2), .val (.long p3), .second, .val (.int (p1 &&& (3 : Int32))), .val (.int x5_12), .val (.int x6_18), .val (.int v106_7), .val (.ref b2)] [(.int x5_12), (.ref b2)]))
      refine A (XS.sipush X17.here hx rfl (hb hby at_222)) ?_
      show D (T17.setTop (mkF m 225 #[.val (.int p1), .val (.int p2), .val (.long p3), .second, .val (.int (p1 &&& (3 : Int32))), .val (.int x5_12), .val (.int x6_18), .val (.int v106_7), .val (.ref b2)] [(.int (192 : Int32)), (.int x5_12), (.ref b2)]))
      refine A (XS.iload X17.here hx rfl (hb hby at_225) rfl) ?_
      show D (T17.setTop (mkF m 227 #[.val (.int p1), .val (.int p2), .val (.long p3), .second, .val (.int (p1 &&& (3 : Int32))), .val (.int x5_12), .val (.int x6_18), .val (.int v106_7), .val (.ref b2)] [(.int v106_7), (.int (192 : Int32)), (.int x5_12), (.ref b2)]))
      refine A (XS.bipush X17.here hx rfl (hb hby at_227)) ?_
      show D (T17.setTop (mkF m 229 #[.val (.int p1), .val (.int p2), .val (.long p3), .second, .val (.int (p1 &&& (3 : Int32))), .val (.int x5_12), .val (.int x6_18), .val (.int v106_7), .val (.ref b2)] [(.int (6 : Int32)), (.int v106_7), (.int (192 : Int32)), (.int x5_12), (.ref b2)]))
      refine A (XS.ishr X17.here hx rfl (hb hby at_229) rfl) ?_
      show D (T17.setTop (mkF m 230 #[.val (.int p1), .val (.int p2), .val (.long p3), .second, .val (.int (p1 &&& (3 : Int32))), .val (.int x5_12), .val (.int x6_18), .val (.int v106_7), .val (.ref b2)] [(.int (v106_7 >>> ((6 : Int32) &&& 31))), (.int (192 : Int32)), (.int x5_12), (.ref b2)]))
      refine A (XS.ior X17.here hx rfl (hb hby at_230) rfl) ?_
      show D (T17.setTop (mkF m 231 #[.val (.int p1), .val (.int p2), .val (.long p3), .second, .val (.int (p1 &&& (3 : Int32))), .val (.int x5_12), .val (.int x6_18), .val (.int v106_7), .val (.ref b2)] [(.int ((192 : Int32) ||| (v106_7 >>> ((6 : Int32) &&& 31)))), (.int x5_12), (.ref b2)]))
      refine A (XS.i2b X17.here hx rfl (hb hby at_231) rfl) ?_
      show D (T17.setTop (mkF m 232 #[.val (.int p1), .val (.int p2), .val (.long p3), .second, .val (.int (p1 &&& (3 : Int32))), .val (.int x5_12), .val (.int x6_18), .val (.int v106_7), .val (.ref b2)] [(.int (((192 : Int32) ||| (v106_7 >>> ((6 : Int32) &&& 31))).toInt8.toInt32)), (.int x5_12), (.ref b2)]))
      refine Adv.stB A X17 hx hZ e17 Vb2_17 (k := o) ho (by omega) (g := (mkF m 232 #[.val (.int p1), .val (.int p2), .val (.long p3), .second, .val (.int (p1 &&& (3 : Int32))), .val (.int x5_12), .val (.int x6_18), .val (.int v106_7), .val (.ref b2)] [(.int (((192 : Int32) ||| (v106_7 >>> ((6 : Int32) &&& 31))).toInt8.toInt32)), (.int x5_12), (.ref b2)])) rfl rfl (hb hby at_232) ?_
      intro T25 h25 X25 e25 W25 Vb2_25
      have N25 := Fr.snoc X25 N17 g_b2
      have Z_25 : n0 ≤ h25.size := Nat.le_trans Z_17 (Nat.le_of_eq W25.size.symm)
      show D (T25.setTop (mkF m 233 #[.val (.int p1), .val (.int p2), .val (.long p3), .second, .val (.int (p1 &&& (3 : Int32))), .val (.int x5_12), .val (.int x6_18), .val (.int v106_7), .val (.ref b2)] []))
      obtain ⟨fn26, hfn26⟩ : ∃ z : Nat → Int32, z = (fun ix => if ix = o then (((192 : Int32) ||| (v106_7 >>> ((6 : Int32) &&& 31))).toInt8.toInt32).toInt8.toInt32 else fn18 ix) := ⟨_, rfl⟩
      rw [← hfn26] at Vb2_25
      refine A (XS.aload X25.here hx rfl (hb hby at_233) rfl rfl) ?_
      show D (T25.setTop (mkF m 235 #[.val (.int p1), .val (.int p2), .val (.long p3), .second, .val (.int (p1 &&& (3 : Int32))), .val (.int x5_12), .val (.int x6_18), .val (.int v106_7), .val (.ref b2)] [(.ref b2)]))
      refine A (XS.iload X25.here hx rfl (hb hby at_235) rfl) ?_
      show D (T25.setTop (mkF m 237 #[.val (.int p1), .val (.int p2), .val (.long p3), .second, .val (.int (p1 &&& (3 : Int32))), .val (.int x5_12), .val (.int x6_18), .val (.int v106_7), .val (.ref b2)] [(.int x5_12), (.ref b2)]))
      refine A (XS.iconst X25.here hx rfl (hb hby at_237)) ?_
      show D (T25.setTop (mkF m 238 #[.val (.int p1), .val (.int p2), .val (.long p3), .second, .val (.int (p1 &&& (3 : Int32))), .val (.int x5_12), .val (.int x6_18), .val (.int v106_7), .val (.ref b2)] [(.int (1 : Int32)), (.int x5_12), (.ref b2)]))
      refine A (XS.iadd X25.here hx rfl (hb hby at_238) rfl) ?_
      show D (T25.setTop (mkF m 239 #[.val (.int p1), .val (.int p2), .val (.long p3), .second, .val (.int (p1 &&& (3 : Int32))), .val (.int x5_12), .val (.int x6_18), .val (.int v106_7), .val (.ref b2)] [(.int (x5_12 + (1 : Int32))), (.ref b2)]))
      refine A (XS.sipush X25.here hx rfl (hb hby at_239)) ?_
      show D (T25.setTop (mkF m 242 #[.val (.int p1), .val (.int p2), .val (.long p3), .second, .val (.int (p1 &&& (3 : Int32))), .val (.int x5_12), .val (.int x6_18), .val (.int v106_7), .val (.ref b2)] [(.int (128 : Int32)), (.int (x5_12 + (1 : Int32))), (.ref b2)]))
      refine A (XS.iload X25.here hx rfl (hb hby at_242) rfl) ?_
      show D (T25.setTop (mkF m 244 #[.val (.int p1), .val (.int p2), .val (.long p3), .second, .val (.int (p1 &&& (3 : Int32))), .val (.int x5_12), .val (.int x6_18), .val (.int v106_7), .val (.ref b2)] [(.int v106_7), (.int (128 : Int32)), (.int (x5_12 + (1 : Int32))), (.ref b2)]))
      refine A (XS.bipush X25.here hx rfl (hb hby at_244)) ?_
      show D (T25.setTop (mkF m 246 #[.val (.int p1), .val (.int p2), .val (.long p3), .second, .val (.int (p1 &&& (3 : Int32))), .val (.int x5_12), .val (.int x6_18), .val (.int v106_7), .val (.ref b2)] [(.int (63 : Int32)), (.int v106_7), (.int (128 : Int32)), (.int (x5_12 + (1 : Int32))), (.ref b2)]))
      refine A (XS.iand X25.here hx rfl (hb hby at_246) rfl) ?_
      show D (T25.setTop (mkF m 247 #[.val (.int p1), .val (.int p2), .val (.long p3), .second, .val (.int (p1 &&& (3 : Int32))), .val (.int x5_12), .val (.int x6_18), .val (.int v106_7), .val (.ref b2)] [(.int (v106_7 &&& (63 : Int32))), (.int (128 : Int32)), (.int (x5_12 + (1 : Int32))), (.ref b2)]))
      refine A (XS.ior X25.here hx rfl (hb hby at_247) rfl) ?_
      show D (T25.setTop (mkF m 248 #[.val (.int p1), .val (.int p2), .val (.long p3), .second, .val (.int (p1 &&& (3 : Int32))), .val (.int x5_12), .val (.int x6_18), .val (.int v106_7), .val (.ref b2)] [(.int ((128 : Int32) ||| (v106_7 &&& (63 : Int32)))), (.int (x5_12 + (1 : Int32))), (.ref b2)]))
      refine A (XS.i2b X25.here hx rfl (hb hby at_248) rfl) ?_
      show D (T25.setTop (mkF m 249 #[.val (.int p1), .val (.int p2), .val (.long p3), .second, .val (.int (p1 &&& (3 : Int32))), .val (.int x5_12), .val (.int x6_18), .val (.int v106_7), .val (.ref b2)] [(.int (((128 : Int32) ||| (v106_7 &&& (63 : Int32))).toInt8.toInt32)), (.int (x5_12 + (1 : Int32))), (.ref b2)]))
      refine Adv.stB A X25 hx hZ e25 Vb2_25 (k := (o + 1)) (ixadd ho (by decide) (by omega)) (by omega) (g := (mkF m 249 #[.val (.int p1), .val (.int p2), .val (.long p3), .second, .val (.int (p1 &&& (3 : Int32))), .val (.int x5_12), .val (.int x6_18), .val (.int v106_7), .val (.ref b2)] [(.int (((128 : Int32) ||| (v106_7 &&& (63 : Int32))).toInt8.toInt32)), (.int (x5_12 + (1 : Int32))), (.ref b2)])) rfl rfl (hb hby at_249) ?_
      intro T27 h27 X27 e27 W27 Vb2_27
      have N27 := Fr.snoc X27 N25 g_b2
      have Z_27 : n0 ≤ h27.size := Nat.le_trans Z_25 (Nat.le_of_eq W27.size.symm)
      show D (T27.setTop (mkF m 250 #[.val (.int p1), .val (.int p2), .val (.long p3), .second, .val (.int (p1 &&& (3 : Int32))), .val (.int x5_12), .val (.int x6_18), .val (.int v106_7), .val (.ref b2)] []))
      obtain ⟨fn28, hfn28⟩ : ∃ z : Nat → Int32, z = (fun ix => if ix = (o + 1) then (((128 : Int32) ||| (v106_7 &&& (63 : Int32))).toInt8.toInt32).toInt8.toInt32 else fn26 ix) := ⟨_, rfl⟩
      rw [← hfn28] at Vb2_27
      refine A (XS.goto X27.here hx rfl (pc0 := 250) (pc' := 387) rfl (hb hby at_250) (by decide) (by decide)) ?_
      show D (T27.setTop (mkF m 387 #[.val (.int p1), .val (.int p2), .val (.long p3), .second, .val (.int (p1 &&& (3 : Int32))), .val (.int x5_12), .val (.int x6_18), .val (.int v106_7), .val (.ref b2)] []))
      refine A (XS.aload X27.here hx rfl (hb hby at_387) rfl rfl) ?_
      show D (T27.setTop (mkF m 389 #[.val (.int p1), .val (.int p2), .val (.long p3), .second, .val (.int (p1 &&& (3 : Int32))), .val (.int x5_12), .val (.int x6_18), .val (.int v106_7), .val (.ref b2)] [(.ref b2)]))
      refine A (XS.iload X27.here hx rfl (hb hby at_389) rfl) ?_
      show D (T27.setTop (mkF m 391 #[.val (.int p1), .val (.int p2), .val (.long p3), .second, .val (.int (p1 &&& (3 : Int32))), .val (.int x5_12), .val (.int x6_18), .val (.int v106_7), .val (.ref b2)] [(.int x5_12), (.ref b2)]))
      refine Adv.callS A X27 hx hZ hown (hw _ (List.mem_of_getElem? (i := 2) rfl)) (hw _ (List.mem_of_getElem? (i := 3) rfl)) (hw _ (List.mem_of_getElem? (i := 4) rfl)) (hw _ (List.mem_of_getElem? (i := 5) rfl)) e27 (rm1 l Z a0 hw [] b2 x5_12 h27 n0 fn28 o ho ho4 Vb2_27) 0 (g := (mkF m 391 #[.val (.int p1), .val (.int p2), .val (.long p3), .second, .val (.int (p1 &&& (3 : Int32))), .val (.int x5_12), .val (.int x6_18), .val (.int v106_7), .val (.ref b2)] [(.int x5_12), (.ref b2)])) rfl (by rw [hml]; rfl) [(.ref b2), (.int x5_12)] [] rfl (lenOf pd0_0 rfl) rfl (by show 2 * 0 + _ ≤ _; exact Nat.le_of_eq rfl) (hb hby at_391) (by decide) (by decide) (by decide) (by decide) (by decide) ?_
      rintro T29 L29 _ X29 ⟨rfl, N29_q, e29⟩
      have N29 := Fr.app N27 N29_q
      show D (T29.setTop (mkF m 394 #[.val (.int p1), .val (.int p2), .val (.long p3), .second, .val (.int (p1 &&& (3 : Int32))), .val (.int x5_12), .val (.int x6_18), .val (.int v106_7), .val (.ref b2)] [(.int (f1 fn28 o))]))
      refine A (XS.iload X29.here hx rfl (hb hby at_394) rfl) ?_
      show D (T29.setTop (mkF m 396 #[.val (.int p1), .val (.int p2), .val (.long p3), .second, .val (.int (p1 &&& (3 : Int32))), .val (.int x5_12), .val (.int x6_18), .val (.int v106_7), .val (.ref b2)] [(.int v106_7), (.int (f1 fn28 o))]))
      suffices Km404_30 : ∀ (v404s0a : Int32), v404s0a = (if (f1 fn28 o) = v106_7 then (1 : Int32) else (0 : Int32)) → D (T29.setTop (mkF m 404 #[.val (.int p1), .val (.int p2), .val (.long p3), .second, .val (.int (p1 &&& (3 : Int32))), .val (.int x5_12), .val (.int x6_18), .val (.int v106_7), .val (.ref b2)] [(.int v404s0a)])) by
        by_cases c396_2 : (f1 fn28 o) = v106_7
        · refine A (XS.icmpNo X29.here hx rfl (hb hby at_396) rfl (teq c396_2).2) ?_
          show D (T29.setTop (mkF m 399 #[.val (.int p1), .val (.int p2), .val (.long p3), .second, .val (.int (p1 &&& (3 : Int32))), .val (.int x5_12), .val (.int x6_18), .val (.int v106_7), .val (.ref b2)] []))
          refine A (XS.iconst X29.here hx rfl (hb hby at_399)) ?_
          show D (T29.setTop (mkF m 400 #[.val (.int p1), .val (.int p2), .val (.long p3), .second, .val (.int (p1 &&& (3 : Int32))), .val (.int x5_12), .val (.int x6_18), .val (.int v106_7), .val (.ref b2)] [(.int (1 : Int32))]))
          refine A (XS.goto X29.here hx rfl (pc0 := 400) (pc' := 404) rfl (hb hby at_400) (by decide) (by decide)) ?_
          show D (T29.setTop (mkF m 404 #[.val (.int p1), .val (.int p2), .val (.long p3), .second, .val (.int (p1 &&& (3 : Int32))), .val (.int x5_12), .val (.int x6_18), .val (.int v106_7), .val (.ref b2)] [(.int (1 : Int32))]))
          exact Km404_30 _ ((if_pos c396_2)).symm
        · refine A (XS.icmpYes X29.here hx rfl (pc0 := 396) (pc' := 403) rfl (hb hby at_396) rfl (feq c396_2).2 (by decide) (by decide)) ?_
          show D (T29.setTop (mkF m 403 #[.val (.int p1), .val (.int p2), .val (.long p3), .second, .val (.int (p1 &&& (3 : Int32))), .val (.int x5_12), .val (.int x6_18), .val (.int v106_7), .val (.ref b2)] []))
          refine A (XS.iconst X29.here hx rfl (hb hby at_403)) ?_
          show D (T29.setTop (mkF m 404 #[.val (.int p1), .val (.int p2), .val (.long p3), .second, .val (.int (p1 &&& (3 : Int32))), .val (.int x5_12), .val (.int x6_18), .val (.int v106_7), .val (.ref b2)] [(.int (0 : Int32))]))
          exact Km404_30 _ ((if_neg c396_2)).symm
      intro v404s0a hv404s0a
      show D (T29.setTop (mkF m 404 #[.val (.int p1), .val (.int p2), .val (.long p3), .second, .val (.int (p1 &&& (3 : Int32))), .val (.int x5_12), .val (.int x6_18), .val (.int v106_7), .val (.ref b2)] [(.int v404s0a)]))
      obtain rfl : v404s0a = (1 : Int32) := by
        have hb := own_cp hx6_18 hv106_7
        have g0 := c196_19
        have g1 := c215_24
        rw [Int32.lt_iff_toInt_lt] at g0
        rw [Int32.lt_iff_toInt_lt] at g1
        have q1 : (128 : Int32).toInt = 128 := rfl
        have q2 : (2048 : Int32).toInt = 2048 := rfl
        have q3 : (65536 : Int32).toInt = 65536 := rfl
        rw [hv404s0a, if_pos (own_c2 fn28 o v106_7 (by omega) (by omega) (by rw [hfn28]; show (if o = o + 1 then _ else fn26 (o)) = _; rw [if_neg (by omega)]; rw [hfn26]; exact if_pos rfl) (by rw [hfn28]; exact if_pos rfl))]
      show D (T29.setTop (mkF m 404 #[.val (.int p1), .val (.int p2), .val (.long p3), .second, .val (.int (p1 &&& (3 : Int32))), .val (.int x5_12), .val (.int x6_18), .val (.int v106_7), .val (.ref b2)] [(.int (1 : Int32))]))
      exact F _ (Jvm.JW.ret X29 hlk (v := some (.int (1 : Int32))) (fun h => by rw [hrt] at h; cases h) (fun fs hr => retOut X29 hx hrt rfl (Or.inl ⟨rfl, Or.inr (Or.inl rfl), _, rfl⟩) (hb hby at_404) hr) rfl ⟨rfl, N29⟩ (by decide) (by decide))
    · refine A (XS.icmpYes X17.here hx rfl (pc0 := 215) (pc' := 253) rfl (hb hby at_215) rfl (flt c215_24).2.1 (by decide) (by decide)) ?_
      show D (T17.setTop (mkF m 253 #[.val (.int p1), .val (.int p2), .val (.long p3), .second, .val (.int (p1 &&& (3 : Int32))), .val (.int x5_12), .val (.int x6_18), .val (.int v106_7), .val (.ref b2)] []))
      refine A (XS.iload X17.here hx rfl (hb hby at_253) rfl) ?_
      show D (T17.setTop (mkF m 255 #[.val (.int p1), .val (.int p2), .val (.long p3), .second, .val (.int (p1 &&& (3 : Int32))), .val (.int x5_12), .val (.int x6_18), .val (.int v106_7), .val (.ref b2)] [(.int v106_7)]))
      refine A (X17.ldcInt hx hown (mvT hZ (hw _ (List.mem_of_getElem? (i := 6) rfl))) (g := (mkF m 255 #[.val (.int p1), .val (.int p2), .val (.long p3), .second, .val (.int (p1 &&& (3 : Int32))), .val (.int x5_12), .val (.int x6_18), .val (.int v106_7), .val (.ref b2)] [(.int v106_7)])) rfl (hb hby at_255) _) ?_
      show D (T17.setTop (mkF m 257 #[.val (.int p1), .val (.int p2), .val (.long p3), .second, .val (.int (p1 &&& (3 : Int32))), .val (.int x5_12), .val (.int x6_18), .val (.int v106_7), .val (.ref b2)] [(.int (65536 : Int32)), (.int v106_7)]))
      by_cases c257_31 : v106_7 < (65536 : Int32)
      · refine A (XS.icmpNo X17.here hx rfl (hb hby at_257) rfl (tlt c257_31).2.1) ?_
        show D (T17.setTop (mkF m 260 #[.val (.int p1), .val (.int p2), .val (.long p3), .second, .val (.int (p1 &&& (3 : Int32))), .val (.int x5_12), .val (.int x6_18), .val (.int v106_7), .val (.ref b2)] []))
        refine A (XS.aload X17.here hx rfl (hb hby at_260) rfl rfl) ?_
        show D (T17.setTop (mkF m 262 #[.val (.int p1), .val (.int p2), .val (.long p3), .second, .val (.int (p1 &&& (3 : Int32))), .val (.int x5_12), .val (.int x6_18), .val (.int v106_7), .val (.ref b2)] [(.ref b2)]))
        refine A (XS.iload X17.here hx rfl (hb hby at_262) rfl) ?_
        show D (T17.setTop (mkF m 264 #[.val (.int p1), .val (.int p2), .val (.long p3), .second, .val (.int (p1 &&& (3 : Int32))), .val (.int x5_12), .val (.int x6_18), .val (.int v106_7), .val (.ref b2)] [(.int x5_12), (.ref b2)]))
        refine A (XS.sipush X17.here hx rfl (hb hby at_264)) ?_
        show D (T17.setTop (mkF m 267 #[.val (.int p1), .val (.int p2), .val (.long p3), .second, .val (.int (p1 &&& (3 : Int32))), .val (.int x5_12), .val (.int x6_18), .val (.int v106_7), .val (.ref b2)] [(.int (224 : Int32)), (.int x5_12), (.ref b2)]))
        refine A (XS.iload X17.here hx rfl (hb hby at_267) rfl) ?_
        show D (T17.setTop (mkF m 269 #[.val (.int p1), .val (.int p2), .val (.long p3), .second, .val (.int (p1 &&& (3 : Int32))), .val (.int x5_12), .val (.int x6_18), .val (.int v106_7), .val (.ref b2)] [(.int v106_7), (.int (224 : Int32)), (.int x5_12), (.ref b2)]))
        refine A (XS.bipush X17.here hx rfl (hb hby at_269)) ?_
        show D (T17.setTop (mkF m 271 #[.val (.int p1), .val (.int p2), .val (.long p3), .second, .val (.int (p1 &&& (3 : Int32))), .val (.int x5_12), .val (.int x6_18), .val (.int v106_7), .val (.ref b2)] [(.int (12 : Int32)), (.int v106_7), (.int (224 : Int32)), (.int x5_12), (.ref b2)]))
        refine A (XS.ishr X17.here hx rfl (hb hby at_271) rfl) ?_
        show D (T17.setTop (mkF m 272 #[.val (.int p1), .val (.int p2), .val (.long p3), .second, .val (.int (p1 &&& (3 : Int32))), .val (.int x5_12), .val (.int x6_18), .val (.int v106_7), .val (.ref b2)] [(.int (v106_7 >>> ((12 : Int32) &&& 31))), (.int (224 : Int32)), (.int x5_12), (.ref b2)]))
        refine A (XS.ior X17.here hx rfl (hb hby at_272) rfl) ?_
        show D (T17.setTop (mkF m 273 #[.val (.int p1), .val (.int p2), .val (.long p3), .second, .val (.int (p1 &&& (3 : Int32))), .val (.int x5_12), .val (.int x6_18), .val (.int v106_7), .val (.ref b2)] [(.int ((224 : Int32) ||| (v106_7 >>> ((12 : Int32) &&& 31)))), (.int x5_12), (.ref b2)]))
        refine A (XS.i2b X17.here hx rfl (hb hby at_273) rfl) ?_
        show D (T17.setTop (mkF m 274 #[.val (.int p1), .val (.int p2), .val (.long p3), .second, .val (.int (p1 &&& (3 : Int32))), .val (.int x5_12), .val (.int x6_18), .val (.int v106_7), .val (.ref b2)] [(.int (((224 : Int32) ||| (v106_7 >>> ((12 : Int32) &&& 31))).toInt8.toInt32)), (.int x5_12), (.ref b2)]))
        refine Adv.stB A X17 hx hZ e17 Vb2_17 (k := o) ho (by omega) (g := (mkF m 274 #[.val (.int p1), .val (.int p2), .val (.long p3), .second, .val (.int (p1 &&& (3 : Int32))), .val (.int x5_12), .val (.int x6_18), .val (.int v106_7), .val (.ref b2)] [(.int (((224 : Int32) ||| (v106_7 >>> ((12 : Int32) &&& 31))).toInt8.toInt32)), (.int x5_12), (.ref b2)])) rfl rfl (hb hby at_274) ?_
        intro T32 h32 X32 e32 W32 Vb2_32
        have N32 := Fr.snoc X32 N17 g_b2
        have Z_32 : n0 ≤ h32.size := Nat.le_trans Z_17 (Nat.le_of_eq W32.size.symm)
        show D (T32.setTop (mkF m 275 #[.val (.int p1), .val (.int p2), .val (.long p3), .second, .val (.int (p1 &&& (3 : Int32))), .val (.int x5_12), .val (.int x6_18), .val (.int v106_7), .val (.ref b2)] []))
        obtain ⟨fn33, hfn33⟩ : ∃ z : Nat → Int32, z = (fun ix => if ix = o then (((224 : Int32) ||| (v106_7 >>> ((12 : Int32) &&& 31))).toInt8.toInt32).toInt8.toInt32 else fn18 ix) := ⟨_, rfl⟩
        rw [← hfn33] at Vb2_32
        refine A (XS.aload X32.here hx rfl (hb hby at_275) rfl rfl) ?_
        show D (T32.setTop (mkF m 277 #[.val (.int p1), .val (.int p2), .val (.long p3), .second, .val (.int (p1 &&& (3 : Int32))), .val (.int x5_12), .val (.int x6_18), .val (.int v106_7), .val (.ref b2)] [(.ref b2)]))
        refine A (XS.iload X32.here hx rfl (hb hby at_277) rfl) ?_
        show D (T32.setTop (mkF m 279 #[.val (.int p1), .val (.int p2), .val (.long p3), .second, .val (.int (p1 &&& (3 : Int32))), .val (.int x5_12), .val (.int x6_18), .val (.int v106_7), .val (.ref b2)] [(.int x5_12), (.ref b2)]))
        refine A (XS.iconst X32.here hx rfl (hb hby at_279)) ?_
        show D (T32.setTop (mkF m 280 #[.val (.int p1), .val (.int p2), .val (.long p3), .second, .val (.int (p1 &&& (3 : Int32))), .val (.int x5_12), .val (.int x6_18), .val (.int v106_7), .val (.ref b2)] [(.int (1 : Int32)), (.int x5_12), (.ref b2)]))
        refine A (XS.iadd X32.here hx rfl (hb hby at_280) rfl) ?_
        show D (T32.setTop (mkF m 281 #[.val (.int p1), .val (.int p2), .val (.long p3), .second, .val (.int (p1 &&& (3 : Int32))), .val (.int x5_12), .val (.int x6_18), .val (.int v106_7), .val (.ref b2)] [(.int (x5_12 + (1 : Int32))), (.ref b2)]))
        refine A (XS.sipush X32.here hx rfl (hb hby at_281)) ?_
        show D (T32.setTop (mkF m 284 #[.val (.int p1), .val (.int p2), .val (.long p3), .second, .val (.int (p1 &&& (3 : Int32))), .val (.int x5_12), .val (.int x6_18), .val (.int v106_7), .val (.ref b2)] [(.int (128 : Int32)), (.int (x5_12 + (1 : Int32))), (.ref b2)]))
        refine A (XS.iload X32.here hx rfl (hb hby at_284) rfl) ?_
        show D (T32.setTop (mkF m 286 #[.val (.int p1), .val (.int p2), .val (.long p3), .second, .val (.int (p1 &&& (3 : Int32))), .val (.int x5_12), .val (.int x6_18), .val (.int v106_7), .val (.ref b2)] [(.int v106_7), (.int (128 : Int32)), (.int (x5_12 + (1 : Int32))), (.ref b2)]))
        refine A (XS.bipush X32.here hx rfl (hb hby at_286)) ?_
        show D (T32.setTop (mkF m 288 #[.val (.int p1), .val (.int p2), .val (.long p3), .second, .val (.int (p1 &&& (3 : Int32))), .val (.int x5_12), .val (.int x6_18), .val (.int v106_7), .val (.ref b2)] [(.int (6 : Int32)), (.int v106_7), (.int (128 : Int32)), (.int (x5_12 + (1 : Int32))), (.ref b2)]))
        refine A (XS.ishr X32.here hx rfl (hb hby at_288) rfl) ?_
        show D (T32.setTop (mkF m 289 #[.val (.int p1), .val (.int p2), .val (.long p3), .second, .val (.int (p1 &&& (3 : Int32))), .val (.int x5_12), .val (.int x6_18), .val (.int v106_7), .val (.ref b2)] [(.int (v106_7 >>> ((6 : Int32) &&& 31))), (.int (128 : Int32)), (.int (x5_12 + (1 : Int32))), (.ref b2)]))
        refine A (XS.bipush X32.here hx rfl (hb hby at_289)) ?_
        show D (T32.setTop (mkF m 291 #[.val (.int p1), .val (.int p2), .val (.long p3), .second, .val (.int (p1 &&& (3 : Int32))), .val (.int x5_12), .val (.int x6_18), .val (.int v106_7), .val (.ref b2)] [(.int (63 : Int32)), (.int (v106_7 >>> ((6 : Int32) &&& 31))), (.int (128 : Int32)), (.int (x5_12 + (1 : Int32))), (.ref b2)]))
        refine A (XS.iand X32.here hx rfl (hb hby at_291) rfl) ?_
        show D (T32.setTop (mkF m 292 #[.val (.int p1), .val (.int p2), .val (.long p3), .second, .val (.int (p1 &&& (3 : Int32))), .val (.int x5_12), .val (.int x6_18), .val (.int v106_7), .val (.ref b2)] [(.int ((v106_7 >>> ((6 : Int32) &&& 31)) &&& (63 : Int32))), (.int (128 : Int32)), (.int (x5_12 + (1 : Int32))), (.ref b2)]))
        refine A (XS.ior X32.here hx rfl (hb hby at_292) rfl) ?_
        show D (T32.setTop (mkF m 293 #[.val (.int p1), .val (.int p2), .val (.long p3), .second, .val (.int (p1 &&& (3 : Int32))), .val (.int x5_12), .val (.int x6_18), .val (.int v106_7), .val (.ref b2)] [(.int ((128 : Int32) ||| ((v106_7 >>> ((6 : Int32) &&& 31)) &&& (63 : Int32)))), (.int (x5_12 + (1 : Int32))), (.ref b2)]))
        refine A (XS.i2b X32.here hx rfl (hb hby at_293) rfl) ?_
        show D (T32.setTop (mkF m 294 #[.val (.int p1), .val (.int p2), .val (.long p3), .second, .val (.int (p1 &&& (3 : Int32))), .val (.int x5_12), .val (.int x6_18), .val (.int v106_7), .val (.ref b2)] [(.int (((128 : Int32) ||| ((v106_7 >>> ((6 : Int32) &&& 31)) &&& (63 : Int32))).toInt8.toInt32)), (.int (x5_12 + (1 : Int32))), (.ref b2)]))
        refine Adv.stB A X32 hx hZ e32 Vb2_32 (k := (o + 1)) (ixadd ho (by decide) (by omega)) (by omega) (g := (mkF m 294 #[.val (.int p1), .val (.int p2), .val (.long p3), .second, .val (.int (p1 &&& (3 : Int32))), .val (.int x5_12), .val (.int x6_18), .val (.int v106_7), .val (.ref b2)] [(.int (((128 : Int32) ||| ((v106_7 >>> ((6 : Int32) &&& 31)) &&& (63 : Int32))).toInt8.toInt32)), (.int (x5_12 + (1 : Int32))), (.ref b2)])) rfl rfl (hb hby at_294) ?_
        intro T34 h34 X34 e34 W34 Vb2_34
        have N34 := Fr.snoc X34 N32 g_b2
        have Z_34 : n0 ≤ h34.size := Nat.le_trans Z_32 (Nat.le_of_eq W34.size.symm)
        show D (T34.setTop (mkF m 295 #[.val (.int p1), .val (.int p2), .val (.long p3), .second, .val (.int (p1 &&& (3 : Int32))), .val (.int x5_12), .val (.int x6_18), .val (.int v106_7), .val (.ref b2)] []))
        obtain ⟨fn35, hfn35⟩ : ∃ z : Nat → Int32, z = (fun ix => if ix = (o + 1) then (((128 : Int32) ||| ((v106_7 >>> ((6 : Int32) &&& 31)) &&& (63 : Int32))).toInt8.toInt32).toInt8.toInt32 else fn33 ix) := ⟨_, rfl⟩
        rw [← hfn35] at Vb2_34
        refine A (XS.aload X34.here hx rfl (hb hby at_295) rfl rfl) ?_
        show D (T34.setTop (mkF m 297 #[.val (.int p1), .val (.int p2), .val (.long p3), .second, .val (.int (p1 &&& (3 : Int32))), .val (.int x5_12), .val (.int x6_18), .val (.int v106_7), .val (.ref b2)] [(.ref b2)]))
        refine A (XS.iload X34.here hx rfl (hb hby at_297) rfl) ?_
        show D (T34.setTop (mkF m 299 #[.val (.int p1), .val (.int p2), .val (.long p3), .second, .val (.int (p1 &&& (3 : Int32))), .val (.int x5_12), .val (.int x6_18), .val (.int v106_7), .val (.ref b2)] [(.int x5_12), (.ref b2)]))
        refine A (XS.iconst X34.here hx rfl (hb hby at_299)) ?_
        show D (T34.setTop (mkF m 300 #[.val (.int p1), .val (.int p2), .val (.long p3), .second, .val (.int (p1 &&& (3 : Int32))), .val (.int x5_12), .val (.int x6_18), .val (.int v106_7), .val (.ref b2)] [(.int (2 : Int32)), (.int x5_12), (.ref b2)]))
        refine A (XS.iadd X34.here hx rfl (hb hby at_300) rfl) ?_
        show D (T34.setTop (mkF m 301 #[.val (.int p1), .val (.int p2), .val (.long p3), .second, .val (.int (p1 &&& (3 : Int32))), .val (.int x5_12), .val (.int x6_18), .val (.int v106_7), .val (.ref b2)] [(.int (x5_12 + (2 : Int32))), (.ref b2)]))
        refine A (XS.sipush X34.here hx rfl (hb hby at_301)) ?_
        show D (T34.setTop (mkF m 304 #[.val (.int p1), .val (.int p2), .val (.long p3), .second, .val (.int (p1 &&& (3 : Int32))), .val (.int x5_12), .val (.int x6_18), .val (.int v106_7), .val (.ref b2)] [(.int (128 : Int32)), (.int (x5_12 + (2 : Int32))), (.ref b2)]))
        refine A (XS.iload X34.here hx rfl (hb hby at_304) rfl) ?_
        show D (T34.setTop (mkF m 306 #[.val (.int p1), .val (.int p2), .val (.long p3), .second, .val (.int (p1 &&& (3 : Int32))), .val (.int x5_12), .val (.int x6_18), .val (.int v106_7), .val (.ref b2)] [(.int v106_7), (.int (128 : Int32)), (.int (x5_12 + (2 : Int32))), (.ref b2)]))
        refine A (XS.bipush X34.here hx rfl (hb hby at_306)) ?_
        show D (T34.setTop (mkF m 308 #[.val (.int p1), .val (.int p2), .val (.long p3), .second, .val (.int (p1 &&& (3 : Int32))), .val (.int x5_12), .val (.int x6_18), .val (.int v106_7), .val (.ref b2)] [(.int (63 : Int32)), (.int v106_7), (.int (128 : Int32)), (.int (x5_12 + (2 : Int32))), (.ref b2)]))
        refine A (XS.iand X34.here hx rfl (hb hby at_308) rfl) ?_
        show D (T34.setTop (mkF m 309 #[.val (.int p1), .val (.int p2), .val (.long p3), .second, .val (.int (p1 &&& (3 : Int32))), .val (.int x5_12), .val (.int x6_18), .val (.int v106_7), .val (.ref b2)] [(.int (v106_7 &&& (63 : Int32))), (.int (128 : Int32)), (.int (x5_12 + (2 : Int32))), (.ref b2)]))
        refine A (XS.ior X34.here hx rfl (hb hby at_309) rfl) ?_
        show D (T34.setTop (mkF m 310 #[.val (.int p1), .val (.int p2), .val (.long p3), .second, .val (.int (p1 &&& (3 : Int32))), .val (.int x5_12), .val (.int x6_18), .val (.int v106_7), .val (.ref b2)] [(.int ((128 : Int32) ||| (v106_7 &&& (63 : Int32)))), (.int (x5_12 + (2 : Int32))), (.ref b2)]))
        refine A (XS.i2b X34.here hx rfl (hb hby at_310) rfl) ?_
        show D (T34.setTop (mkF m 311 #[.val (.int p1), .val (.int p2), .val (.long p3), .second, .val (.int (p1 &&& (3 : Int32))), .val (.int x5_12), .val (.int x6_18), .val (.int v106_7), .val (.ref b2)] [(.int (((128 : Int32) ||| (v106_7 &&& (63 : Int32))).toInt8.toInt32)), (.int (x5_12 + (2 : Int32))), (.ref b2)]))
        refine Adv.stB A X34 hx hZ e34 Vb2_34 (k := (o + 2)) (ixadd ho (by decide) (by omega)) (by omega) (g := (mkF m 311 #[.val (.int p1), .val (.int p2), .val (.long p3), .second, .val (.int (p1 &&& (3 : Int32))), .val (.int x5_12), .val (.int x6_18), .val (.int v106_7), .val (.ref b2)] [(.int (((128 : Int32) ||| (v106_7 &&& (63 : Int32))).toInt8.toInt32)), (.int (x5_12 + (2 : Int32))), (.ref b2)])) rfl rfl (hb hby at_311) ?_
        intro T36 h36 X36 e36 W36 Vb2_36
        have N36 := Fr.snoc X36 N34 g_b2
        have Z_36 : n0 ≤ h36.size := Nat.le_trans Z_34 (Nat.le_of_eq W36.size.symm)
        show D (T36.setTop (mkF m 312 #[.val (.int p1), .val (.int p2), .val (.long p3), .second, .val (.int (p1 &&& (3 : Int32))), .val (.int x5_12), .val (.int x6_18), .val (.int v106_7), .val (.ref b2)] []))
        obtain ⟨fn37, hfn37⟩ : ∃ z : Nat → Int32, z = (fun ix => if ix = (o + 2) then (((128 : Int32) ||| (v106_7 &&& (63 : Int32))).toInt8.toInt32).toInt8.toInt32 else fn35 ix) := ⟨_, rfl⟩
        rw [← hfn37] at Vb2_36
        refine A (XS.goto X36.here hx rfl (pc0 := 312) (pc' := 387) rfl (hb hby at_312) (by decide) (by decide)) ?_
        show D (T36.setTop (mkF m 387 #[.val (.int p1), .val (.int p2), .val (.long p3), .second, .val (.int (p1 &&& (3 : Int32))), .val (.int x5_12), .val (.int x6_18), .val (.int v106_7), .val (.ref b2)] []))
        refine A (XS.aload X36.here hx rfl (hb hby at_387) rfl rfl) ?_
        show D (T36.setTop (mkF m 389 #[.val (.int p1), .val (.int p2), .val (.long p3), .second, .val (.int (p1 &&& (3 : Int32))), .val (.int x5_12), .val (.int x6_18), .val (.int v106_7), .val (.ref b2)] [(.ref b2)]))
        refine A (XS.iload X36.here hx rfl (hb hby at_389) rfl) ?_
        show D (T36.setTop (mkF m 391 #[.val (.int p1), .val (.int p2), .val (.long p3), .second, .val (.int (p1 &&& (3 : Int32))), .val (.int x5_12), .val (.int x6_18), .val (.int v106_7), .val (.ref b2)] [(.int x5_12), (.ref b2)]))
        refine Adv.callS A X36 hx hZ hown (hw _ (List.mem_of_getElem? (i := 2) rfl)) (hw _ (List.mem_of_getElem? (i := 3) rfl)) (hw _ (List.mem_of_getElem? (i := 4) rfl)) (hw _ (List.mem_of_getElem? (i := 5) rfl)) e36 (rm1 l Z a0 hw [] b2 x5_12 h36 n0 fn37 o ho ho4 Vb2_36) 0 (g := (mkF m 391 #[.val (.int p1), .val (.int p2), .val (.long p3), .second, .val (.int (p1 &&& (3 : Int32))), .val (.int x5_12), .val (.int x6_18), .val (.int v106_7), .val (.ref b2)] [(.int x5_12), (.ref b2)])) rfl (by rw [hml]; rfl) [(.ref b2), (.int x5_12)] [] rfl (lenOf pd0_0 rfl) rfl (by show 2 * 0 + _ ≤ _; exact Nat.le_of_eq rfl) (hb hby at_391) (by decide) (by decide) (by decide) (by decide) (by decide) ?_
        rintro T38 L38 _ X38 ⟨rfl, N38_q, e38⟩
        have N38 := Fr.app N36 N38_q
        show D (T38.setTop (mkF m 394 #[.val (.int p1), .val (.int p2), .val (.long p3), .second, .val (.int (p1 &&& (3 : Int32))), .val (.int x5_12), .val (.int x6_18), .val (.int v106_7), .val (.ref b2)] [(.int (f1 fn37 o))]))
        refine A (XS.iload X38.here hx rfl (hb hby at_394) rfl) ?_
        show D (T38.setTop (mkF m 396 #[.val (.int p1), .val (.int p2), .val (.long p3), .second, .val (.int (p1 &&& (3 : Int32))), .val (.int x5_12), .val (.int x6_18), .val (.int v106_7), .val (.ref b2)] [(.int v106_7), (.int (f1 fn37 o))]))
        suffices Km404_39 : ∀ (v404s0aa : Int32), v404s0aa = (if (f1 fn37 o) = v106_7 then (1 : Int32) else (0 : Int32)) → D (T38.setTop (mkF m 404 #[.val (.int p1), .val (.int p2), .val (.long p3), .second, .val (.int (p1 &&& (3 : Int32))), .val (.int x5_12), .val (.int x6_18), .val (.int v106_7), .val (.ref b2)] [(.int v404s0aa)])) by
          by_cases c396_3 : (f1 fn37 o) = v106_7
          · refine A (XS.icmpNo X38.here hx rfl (hb hby at_396) rfl (teq c396_3).2) ?_
            show D (T38.setTop (mkF m 399 #[.val (.int p1), .val (.int p2), .val (.long p3), .second, .val (.int (p1 &&& (3 : Int32))), .val (.int x5_12), .val (.int x6_18), .val (.int v106_7), .val (.ref b2)] []))
            refine A (XS.iconst X38.here hx rfl (hb hby at_399)) ?_
            show D (T38.setTop (mkF m 400 #[.val (.int p1), .val (.int p2), .val (.long p3), .second, .val (.int (p1 &&& (3 : Int32))), .val (.int x5_12), .val (.int x6_18), .val (.int v106_7), .val (.ref b2)] [(.int (1 : Int32))]))
            refine A (XS.goto X38.here hx rfl (pc0 := 400) (pc' := 404) rfl (hb hby at_400) (by decide) (by decide)) ?_
            show D (T38.setTop (mkF m 404 #[.val (.int p1), .val (.int p2), .val (.long p3), .second, .val (.int (p1 &&& (3 : Int32))), .val (.int x5_12), .val (.int x6_18), .val (.int v106_7), .val (.ref b2)] [(.int (1 : Int32))]))
            exact Km404_39 _ ((if_pos c396_3)).symm
          · refine A (XS.icmpYes X38.here hx rfl (pc0 := 396) (pc' := 403) rfl (hb hby at_396) rfl (feq c396_3).2 (by decide) (by decide)) ?_
            show D (T38.setTop (mkF m 403 #[.val (.int p1), .val (.int p2), .val (.long p3), .second, .val (.int (p1 &&& (3 : Int32))), .val (.int x5_12), .val (.int x6_18), .val (.int v106_7), .val (.ref b2)] []))
            refine A (XS.iconst X38.here hx rfl (hb hby at_403)) ?_
            show D (T38.setTop (mkF m 404 #[.val (.int p1), .val (.int p2), .val (.long p3), .second, .val (.int (p1 &&& (3 : Int32))), .val (.int x5_12), .val (.int x6_18), .val (.int v106_7), .val (.ref b2)] [(.int (0 : Int32))]))
            exact Km404_39 _ ((if_neg c396_3)).symm
        intro v404s0aa hv404s0aa
        show D (T38.setTop (mkF m 404 #[.val (.int p1), .val (.int p2), .val (.long p3), .second, .val (.int (p1 &&& (3 : Int32))), .val (.int x5_12), .val (.int x6_18), .val (.int v106_7), .val (.ref b2)] [(.int v404s0aa)]))
        obtain rfl : v404s0aa = (1 : Int32) := by
          have hb := own_cp hx6_18 hv106_7
          have g0 := c196_19
          have g1 := c215_24
          have g2 := c257_31
          rw [Int32.lt_iff_toInt_lt] at g0
          rw [Int32.lt_iff_toInt_lt] at g1
          rw [Int32.lt_iff_toInt_lt] at g2
          have q1 : (128 : Int32).toInt = 128 := rfl
          have q2 : (2048 : Int32).toInt = 2048 := rfl
          have q3 : (65536 : Int32).toInt = 65536 := rfl
          rw [hv404s0aa, if_pos (own_c3 fn37 o v106_7 (by omega) (by omega) (by rw [hfn37]; show (if o = o + 2 then _ else fn35 (o)) = _; rw [if_neg (by omega)]; rw [hfn35]; show (if o = o + 1 then _ else fn33 (o)) = _; rw [if_neg (by omega)]; rw [hfn33]; exact if_pos rfl) (by rw [hfn37]; show (if o + 1 = o + 2 then _ else fn35 (o + 1)) = _; rw [if_neg (by omega)]; rw [hfn35]; exact if_pos rfl) (by rw [hfn37]; exact if_pos rfl))]
        show D (T38.setTop (mkF m 404 #[.val (.int p1), .val (.int p2), .val (.long p3), .second, .val (.int (p1 &&& (3 : Int32))), .val (.int x5_12), .val (.int x6_18), .val (.int v106_7), .val (.ref b2)] [(.int (1 : Int32))]))
        exact F _ (Jvm.JW.ret X38 hlk (v := some (.int (1 : Int32))) (fun h => by rw [hrt] at h; cases h) (fun fs hr => retOut X38 hx hrt rfl (Or.inl ⟨rfl, Or.inr (Or.inl rfl), _, rfl⟩) (hb hby at_404) hr) rfl ⟨rfl, N38⟩ (by decide) (by decide))
      · refine A (XS.icmpYes X17.here hx rfl (pc0 := 257) (pc' := 315) rfl (hb hby at_257) rfl (flt c257_31).2.1 (by decide) (by decide)) ?_
        show D (T17.setTop (mkF m 315 #[.val (.int p1), .val (.int p2), .val (.long p3), .second, .val (.int (p1 &&& (3 : Int32))), .val (.int x5_12), .val (.int x6_18), .val (.int v106_7), .val (.ref b2)] []))
        refine A (XS.aload X17.here hx rfl (hb hby at_315) rfl rfl) ?_
        show D (T17.setTop (mkF m 317 #[.val (.int p1), .val (.int p2), .val (.long p3), .second, .val (.int (p1 &&& (3 : Int32))), .val (.int x5_12), .val (.int x6_18), .val (.int v106_7), .val (.ref b2)] [(.ref b2)]))
        refine A (XS.iload X17.here hx rfl (hb hby at_317) rfl) ?_
        show D (T17.setTop (mkF m 319 #[.val (.int p1), .val (.int p2), .val (.long p3), .second, .val (.int (p1 &&& (3 : Int32))), .val (.int x5_12), .val (.int x6_18), .val (.int v106_7), .val (.ref b2)] [(.int x5_12), (.ref b2)]))
        refine A (XS.sipush X17.here hx rfl (hb hby at_319)) ?_
        show D (T17.setTop (mkF m 322 #[.val (.int p1), .val (.int p2), .val (.long p3), .second, .val (.int (p1 &&& (3 : Int32))), .val (.int x5_12), .val (.int x6_18), .val (.int v106_7), .val (.ref b2)] [(.int (240 : Int32)), (.int x5_12), (.ref b2)]))
        refine A (XS.iload X17.here hx rfl (hb hby at_322) rfl) ?_
        show D (T17.setTop (mkF m 324 #[.val (.int p1), .val (.int p2), .val (.long p3), .second, .val (.int (p1 &&& (3 : Int32))), .val (.int x5_12), .val (.int x6_18), .val (.int v106_7), .val (.ref b2)] [(.int v106_7), (.int (240 : Int32)), (.int x5_12), (.ref b2)]))
        refine A (XS.bipush X17.here hx rfl (hb hby at_324)) ?_
        show D (T17.setTop (mkF m 326 #[.val (.int p1), .val (.int p2), .val (.long p3), .second, .val (.int (p1 &&& (3 : Int32))), .val (.int x5_12), .val (.int x6_18), .val (.int v106_7), .val (.ref b2)] [(.int (18 : Int32)), (.int v106_7), (.int (240 : Int32)), (.int x5_12), (.ref b2)]))
        refine A (XS.ishr X17.here hx rfl (hb hby at_326) rfl) ?_
        show D (T17.setTop (mkF m 327 #[.val (.int p1), .val (.int p2), .val (.long p3), .second, .val (.int (p1 &&& (3 : Int32))), .val (.int x5_12), .val (.int x6_18), .val (.int v106_7), .val (.ref b2)] [(.int (v106_7 >>> ((18 : Int32) &&& 31))), (.int (240 : Int32)), (.int x5_12), (.ref b2)]))
        refine A (XS.ior X17.here hx rfl (hb hby at_327) rfl) ?_
        show D (T17.setTop (mkF m 328 #[.val (.int p1), .val (.int p2), .val (.long p3), .second, .val (.int (p1 &&& (3 : Int32))), .val (.int x5_12), .val (.int x6_18), .val (.int v106_7), .val (.ref b2)] [(.int ((240 : Int32) ||| (v106_7 >>> ((18 : Int32) &&& 31)))), (.int x5_12), (.ref b2)]))
        refine A (XS.i2b X17.here hx rfl (hb hby at_328) rfl) ?_
        show D (T17.setTop (mkF m 329 #[.val (.int p1), .val (.int p2), .val (.long p3), .second, .val (.int (p1 &&& (3 : Int32))), .val (.int x5_12), .val (.int x6_18), .val (.int v106_7), .val (.ref b2)] [(.int (((240 : Int32) ||| (v106_7 >>> ((18 : Int32) &&& 31))).toInt8.toInt32)), (.int x5_12), (.ref b2)]))
        refine Adv.stB A X17 hx hZ e17 Vb2_17 (k := o) ho (by omega) (g := (mkF m 329 #[.val (.int p1), .val (.int p2), .val (.long p3), .second, .val (.int (p1 &&& (3 : Int32))), .val (.int x5_12), .val (.int x6_18), .val (.int v106_7), .val (.ref b2)] [(.int (((240 : Int32) ||| (v106_7 >>> ((18 : Int32) &&& 31))).toInt8.toInt32)), (.int x5_12), (.ref b2)])) rfl rfl (hb hby at_329) ?_
        intro T40 h40 X40 e40 W40 Vb2_40
        have N40 := Fr.snoc X40 N17 g_b2
        have Z_40 : n0 ≤ h40.size := Nat.le_trans Z_17 (Nat.le_of_eq W40.size.symm)
        show D (T40.setTop (mkF m 330 #[.val (.int p1), .val (.int p2), .val (.long p3), .second, .val (.int (p1 &&& (3 : Int32))), .val (.int x5_12), .val (.int x6_18), .val (.int v106_7), .val (.ref b2)] []))
        obtain ⟨fn41, hfn41⟩ : ∃ z : Nat → Int32, z = (fun ix => if ix = o then (((240 : Int32) ||| (v106_7 >>> ((18 : Int32) &&& 31))).toInt8.toInt32).toInt8.toInt32 else fn18 ix) := ⟨_, rfl⟩
        rw [← hfn41] at Vb2_40
        refine A (XS.aload X40.here hx rfl (hb hby at_330) rfl rfl) ?_
        show D (T40.setTop (mkF m 332 #[.val (.int p1), .val (.int p2), .val (.long p3), .second, .val (.int (p1 &&& (3 : Int32))), .val (.int x5_12), .val (.int x6_18), .val (.int v106_7), .val (.ref b2)] [(.ref b2)]))
        refine A (XS.iload X40.here hx rfl (hb hby at_332) rfl) ?_
        show D (T40.setTop (mkF m 334 #[.val (.int p1), .val (.int p2), .val (.long p3), .second, .val (.int (p1 &&& (3 : Int32))), .val (.int x5_12), .val (.int x6_18), .val (.int v106_7), .val (.ref b2)] [(.int x5_12), (.ref b2)]))
        refine A (XS.iconst X40.here hx rfl (hb hby at_334)) ?_
        show D (T40.setTop (mkF m 335 #[.val (.int p1), .val (.int p2), .val (.long p3), .second, .val (.int (p1 &&& (3 : Int32))), .val (.int x5_12), .val (.int x6_18), .val (.int v106_7), .val (.ref b2)] [(.int (1 : Int32)), (.int x5_12), (.ref b2)]))
        refine A (XS.iadd X40.here hx rfl (hb hby at_335) rfl) ?_
        show D (T40.setTop (mkF m 336 #[.val (.int p1), .val (.int p2), .val (.long p3), .second, .val (.int (p1 &&& (3 : Int32))), .val (.int x5_12), .val (.int x6_18), .val (.int v106_7), .val (.ref b2)] [(.int (x5_12 + (1 : Int32))), (.ref b2)]))
        refine A (XS.sipush X40.here hx rfl (hb hby at_336)) ?_
        show D (T40.setTop (mkF m 339 #[.val (.int p1), .val (.int p2), .val (.long p3), .second, .val (.int (p1 &&& (3 : Int32))), .val (.int x5_12), .val (.int x6_18), .val (.int v106_7), .val (.ref b2)] [(.int (128 : Int32)), (.int (x5_12 + (1 : Int32))), (.ref b2)]))
        refine A (XS.iload X40.here hx rfl (hb hby at_339) rfl) ?_
        show D (T40.setTop (mkF m 341 #[.val (.int p1), .val (.int p2), .val (.long p3), .second, .val (.int (p1 &&& (3 : Int32))), .val (.int x5_12), .val (.int x6_18), .val (.int v106_7), .val (.ref b2)] [(.int v106_7), (.int (128 : Int32)), (.int (x5_12 + (1 : Int32))), (.ref b2)]))
        refine A (XS.bipush X40.here hx rfl (hb hby at_341)) ?_
        show D (T40.setTop (mkF m 343 #[.val (.int p1), .val (.int p2), .val (.long p3), .second, .val (.int (p1 &&& (3 : Int32))), .val (.int x5_12), .val (.int x6_18), .val (.int v106_7), .val (.ref b2)] [(.int (12 : Int32)), (.int v106_7), (.int (128 : Int32)), (.int (x5_12 + (1 : Int32))), (.ref b2)]))
        refine A (XS.ishr X40.here hx rfl (hb hby at_343) rfl) ?_
        show D (T40.setTop (mkF m 344 #[.val (.int p1), .val (.int p2), .val (.long p3), .second, .val (.int (p1 &&& (3 : Int32))), .val (.int x5_12), .val (.int x6_18), .val (.int v106_7), .val (.ref b2)] [(.int (v106_7 >>> ((12 : Int32) &&& 31))), (.int (128 : Int32)), (.int (x5_12 + (1 : Int32))), (.ref b2)]))
        refine A (XS.bipush X40.here hx rfl (hb hby at_344)) ?_
        show D (T40.setTop (mkF m 346 #[.val (.int p1), .val (.int p2), .val (.long p3), .second, .val (.int (p1 &&& (3 : Int32))), .val (.int x5_12), .val (.int x6_18), .val (.int v106_7), .val (.ref b2)] [(.int (63 : Int32)), (.int (v106_7 >>> ((12 : Int32) &&& 31))), (.int (128 : Int32)), (.int (x5_12 + (1 : Int32))), (.ref b2)]))
        refine A (XS.iand X40.here hx rfl (hb hby at_346) rfl) ?_
        show D (T40.setTop (mkF m 347 #[.val (.int p1), .val (.int p2), .val (.long p3), .second, .val (.int (p1 &&& (3 : Int32))), .val (.int x5_12), .val (.int x6_18), .val (.int v106_7), .val (.ref b2)] [(.int ((v106_7 >>> ((12 : Int32) &&& 31)) &&& (63 : Int32))), (.int (128 : Int32)), (.int (x5_12 + (1 : Int32))), (.ref b2)]))
        refine A (XS.ior X40.here hx rfl (hb hby at_347) rfl) ?_
        show D (T40.setTop (mkF m 348 #[.val (.int p1), .val (.int p2), .val (.long p3), .second, .val (.int (p1 &&& (3 : Int32))), .val (.int x5_12), .val (.int x6_18), .val (.int v106_7), .val (.ref b2)] [(.int ((128 : Int32) ||| ((v106_7 >>> ((12 : Int32) &&& 31)) &&& (63 : Int32)))), (.int (x5_12 + (1 : Int32))), (.ref b2)]))
        refine A (XS.i2b X40.here hx rfl (hb hby at_348) rfl) ?_
        show D (T40.setTop (mkF m 349 #[.val (.int p1), .val (.int p2), .val (.long p3), .second, .val (.int (p1 &&& (3 : Int32))), .val (.int x5_12), .val (.int x6_18), .val (.int v106_7), .val (.ref b2)] [(.int (((128 : Int32) ||| ((v106_7 >>> ((12 : Int32) &&& 31)) &&& (63 : Int32))).toInt8.toInt32)), (.int (x5_12 + (1 : Int32))), (.ref b2)]))
        refine Adv.stB A X40 hx hZ e40 Vb2_40 (k := (o + 1)) (ixadd ho (by decide) (by omega)) (by omega) (g := (mkF m 349 #[.val (.int p1), .val (.int p2), .val (.long p3), .second, .val (.int (p1 &&& (3 : Int32))), .val (.int x5_12), .val (.int x6_18), .val (.int v106_7), .val (.ref b2)] [(.int (((128 : Int32) ||| ((v106_7 >>> ((12 : Int32) &&& 31)) &&& (63 : Int32))).toInt8.toInt32)), (.int (x5_12 + (1 : Int32))), (.ref b2)])) rfl rfl (hb hby at_349) ?_
        intro T42 h42 X42 e42 W42 Vb2_42
        have N42 := Fr.snoc X42 N40 g_b2
        have Z_42 : n0 ≤ h42.size := Nat.le_trans Z_40 (Nat.le_of_eq W42.size.symm)
        show D (T42.setTop (mkF m 350 #[.val (.int p1), .val (.int p2), .val (.long p3), .second, .val (.int (p1 &&& (3 : Int32))), .val (.int x5_12), .val (.int x6_18), .val (.int v106_7), .val (.ref b2)] []))
        obtain ⟨fn43, hfn43⟩ : ∃ z : Nat → Int32, z = (fun ix => if ix = (o + 1) then (((128 : Int32) ||| ((v106_7 >>> ((12 : Int32) &&& 31)) &&& (63 : Int32))).toInt8.toInt32).toInt8.toInt32 else fn41 ix) := ⟨_, rfl⟩
        rw [← hfn43] at Vb2_42
        refine A (XS.aload X42.here hx rfl (hb hby at_350) rfl rfl) ?_
        show D (T42.setTop (mkF m 352 #[.val (.int p1), .val (.int p2), .val (.long p3), .second, .val (.int (p1 &&& (3 : Int32))), .val (.int x5_12), .val (.int x6_18), .val (.int v106_7), .val (.ref b2)] [(.ref b2)]))
        refine A (XS.iload X42.here hx rfl (hb hby at_352) rfl) ?_
        show D (T42.setTop (mkF m 354 #[.val (.int p1), .val (.int p2), .val (.long p3), .second, .val (.int (p1 &&& (3 : Int32))), .val (.int x5_12), .val (.int x6_18), .val (.int v106_7), .val (.ref b2)] [(.int x5_12), (.ref b2)]))
        refine A (XS.iconst X42.here hx rfl (hb hby at_354)) ?_
        show D (T42.setTop (mkF m 355 #[.val (.int p1), .val (.int p2), .val (.long p3), .second, .val (.int (p1 &&& (3 : Int32))), .val (.int x5_12), .val (.int x6_18), .val (.int v106_7), .val (.ref b2)] [(.int (2 : Int32)), (.int x5_12), (.ref b2)]))
        refine A (XS.iadd X42.here hx rfl (hb hby at_355) rfl) ?_
        show D (T42.setTop (mkF m 356 #[.val (.int p1), .val (.int p2), .val (.long p3), .second, .val (.int (p1 &&& (3 : Int32))), .val (.int x5_12), .val (.int x6_18), .val (.int v106_7), .val (.ref b2)] [(.int (x5_12 + (2 : Int32))), (.ref b2)]))
        refine A (XS.sipush X42.here hx rfl (hb hby at_356)) ?_
        show D (T42.setTop (mkF m 359 #[.val (.int p1), .val (.int p2), .val (.long p3), .second, .val (.int (p1 &&& (3 : Int32))), .val (.int x5_12), .val (.int x6_18), .val (.int v106_7), .val (.ref b2)] [(.int (128 : Int32)), (.int (x5_12 + (2 : Int32))), (.ref b2)]))
        refine A (XS.iload X42.here hx rfl (hb hby at_359) rfl) ?_
        show D (T42.setTop (mkF m 361 #[.val (.int p1), .val (.int p2), .val (.long p3), .second, .val (.int (p1 &&& (3 : Int32))), .val (.int x5_12), .val (.int x6_18), .val (.int v106_7), .val (.ref b2)] [(.int v106_7), (.int (128 : Int32)), (.int (x5_12 + (2 : Int32))), (.ref b2)]))
        refine A (XS.bipush X42.here hx rfl (hb hby at_361)) ?_
        show D (T42.setTop (mkF m 363 #[.val (.int p1), .val (.int p2), .val (.long p3), .second, .val (.int (p1 &&& (3 : Int32))), .val (.int x5_12), .val (.int x6_18), .val (.int v106_7), .val (.ref b2)] [(.int (6 : Int32)), (.int v106_7), (.int (128 : Int32)), (.int (x5_12 + (2 : Int32))), (.ref b2)]))
        refine A (XS.ishr X42.here hx rfl (hb hby at_363) rfl) ?_
        show D (T42.setTop (mkF m 364 #[.val (.int p1), .val (.int p2), .val (.long p3), .second, .val (.int (p1 &&& (3 : Int32))), .val (.int x5_12), .val (.int x6_18), .val (.int v106_7), .val (.ref b2)] [(.int (v106_7 >>> ((6 : Int32) &&& 31))), (.int (128 : Int32)), (.int (x5_12 + (2 : Int32))), (.ref b2)]))
        refine A (XS.bipush X42.here hx rfl (hb hby at_364)) ?_
        show D (T42.setTop (mkF m 366 #[.val (.int p1), .val (.int p2), .val (.long p3), .second, .val (.int (p1 &&& (3 : Int32))), .val (.int x5_12), .val (.int x6_18), .val (.int v106_7), .val (.ref b2)] [(.int (63 : Int32)), (.int (v106_7 >>> ((6 : Int32) &&& 31))), (.int (128 : Int32)), (.int (x5_12 + (2 : Int32))), (.ref b2)]))
        refine A (XS.iand X42.here hx rfl (hb hby at_366) rfl) ?_
        show D (T42.setTop (mkF m 367 #[.val (.int p1), .val (.int p2), .val (.long p3), .second, .val (.int (p1 &&& (3 : Int32))), .val (.int x5_12), .val (.int x6_18), .val (.int v106_7), .val (.ref b2)] [(.int ((v106_7 >>> ((6 : Int32) &&& 31)) &&& (63 : Int32))), (.int (128 : Int32)), (.int (x5_12 + (2 : Int32))), (.ref b2)]))
        refine A (XS.ior X42.here hx rfl (hb hby at_367) rfl) ?_
        show D (T42.setTop (mkF m 368 #[.val (.int p1), .val (.int p2), .val (.long p3), .second, .val (.int (p1 &&& (3 : Int32))), .val (.int x5_12), .val (.int x6_18), .val (.int v106_7), .val (.ref b2)] [(.int ((128 : Int32) ||| ((v106_7 >>> ((6 : Int32) &&& 31)) &&& (63 : Int32)))), (.int (x5_12 + (2 : Int32))), (.ref b2)]))
        refine A (XS.i2b X42.here hx rfl (hb hby at_368) rfl) ?_
        show D (T42.setTop (mkF m 369 #[.val (.int p1), .val (.int p2), .val (.long p3), .second, .val (.int (p1 &&& (3 : Int32))), .val (.int x5_12), .val (.int x6_18), .val (.int v106_7), .val (.ref b2)] [(.int (((128 : Int32) ||| ((v106_7 >>> ((6 : Int32) &&& 31)) &&& (63 : Int32))).toInt8.toInt32)), (.int (x5_12 + (2 : Int32))), (.ref b2)]))
        refine Adv.stB A X42 hx hZ e42 Vb2_42 (k := (o + 2)) (ixadd ho (by decide) (by omega)) (by omega) (g := (mkF m 369 #[.val (.int p1), .val (.int p2), .val (.long p3), .second, .val (.int (p1 &&& (3 : Int32))), .val (.int x5_12), .val (.int x6_18), .val (.int v106_7), .val (.ref b2)] [(.int (((128 : Int32) ||| ((v106_7 >>> ((6 : Int32) &&& 31)) &&& (63 : Int32))).toInt8.toInt32)), (.int (x5_12 + (2 : Int32))), (.ref b2)])) rfl rfl (hb hby at_369) ?_
        intro T44 h44 X44 e44 W44 Vb2_44
        have N44 := Fr.snoc X44 N42 g_b2
        have Z_44 : n0 ≤ h44.size := Nat.le_trans Z_42 (Nat.le_of_eq W44.size.symm)
        show D (T44.setTop (mkF m 370 #[.val (.int p1), .val (.int p2), .val (.long p3), .second, .val (.int (p1 &&& (3 : Int32))), .val (.int x5_12), .val (.int x6_18), .val (.int v106_7), .val (.ref b2)] []))
        obtain ⟨fn45, hfn45⟩ : ∃ z : Nat → Int32, z = (fun ix => if ix = (o + 2) then (((128 : Int32) ||| ((v106_7 >>> ((6 : Int32) &&& 31)) &&& (63 : Int32))).toInt8.toInt32).toInt8.toInt32 else fn43 ix) := ⟨_, rfl⟩
        rw [← hfn45] at Vb2_44
        refine A (XS.aload X44.here hx rfl (hb hby at_370) rfl rfl) ?_
        show D (T44.setTop (mkF m 372 #[.val (.int p1), .val (.int p2), .val (.long p3), .second, .val (.int (p1 &&& (3 : Int32))), .val (.int x5_12), .val (.int x6_18), .val (.int v106_7), .val (.ref b2)] [(.ref b2)]))
        refine A (XS.iload X44.here hx rfl (hb hby at_372) rfl) ?_
        show D (T44.setTop (mkF m 374 #[.val (.int p1), .val (.int p2), .val (.long p3), .second, .val (.int (p1 &&& (3 : Int32))), .val (.int x5_12), .val (.int x6_18), .val (.int v106_7), .val (.ref b2)] [(.int x5_12), (.ref b2)]))
        refine A (XS.iconst X44.here hx rfl (hb hby at_374)) ?_
        show D (T44.setTop (mkF m 375 #[.val (.int p1), .val (.int p2), .val (.long p3), .second, .val (.int (p1 &&& (3 : Int32))), .val (.int x5_12), .val (.int x6_18), .val (.int v106_7), .val (.ref b2)] [(.int (3 : Int32)), (.int x5_12), (.ref b2)]))
        refine A (XS.iadd X44.here hx rfl (hb hby at_375) rfl) ?_
        show D (T44.setTop (mkF m 376 #[.val (.int p1), .val (.int p2), .val (.long p3), .second, .val (.int (p1 &&& (3 : Int32))), .val (.int x5_12), .val (.int x6_18), .val (.int v106_7), .val (.ref b2)] [(.int (x5_12 + (3 : Int32))), (.ref b2)]))
        refine A (XS.sipush X44.here hx rfl (hb hby at_376)) ?_
        show D (T44.setTop (mkF m 379 #[.val (.int p1), .val (.int p2), .val (.long p3), .second, .val (.int (p1 &&& (3 : Int32))), .val (.int x5_12), .val (.int x6_18), .val (.int v106_7), .val (.ref b2)] [(.int (128 : Int32)), (.int (x5_12 + (3 : Int32))), (.ref b2)]))
        refine A (XS.iload X44.here hx rfl (hb hby at_379) rfl) ?_
        show D (T44.setTop (mkF m 381 #[.val (.int p1), .val (.int p2), .val (.long p3), .second, .val (.int (p1 &&& (3 : Int32))), .val (.int x5_12), .val (.int x6_18), .val (.int v106_7), .val (.ref b2)] [(.int v106_7), (.int (128 : Int32)), (.int (x5_12 + (3 : Int32))), (.ref b2)]))
        refine A (XS.bipush X44.here hx rfl (hb hby at_381)) ?_
        show D (T44.setTop (mkF m 383 #[.val (.int p1), .val (.int p2), .val (.long p3), .second, .val (.int (p1 &&& (3 : Int32))), .val (.int x5_12), .val (.int x6_18), .val (.int v106_7), .val (.ref b2)] [(.int (63 : Int32)), (.int v106_7), (.int (128 : Int32)), (.int (x5_12 + (3 : Int32))), (.ref b2)]))
        refine A (XS.iand X44.here hx rfl (hb hby at_383) rfl) ?_
        show D (T44.setTop (mkF m 384 #[.val (.int p1), .val (.int p2), .val (.long p3), .second, .val (.int (p1 &&& (3 : Int32))), .val (.int x5_12), .val (.int x6_18), .val (.int v106_7), .val (.ref b2)] [(.int (v106_7 &&& (63 : Int32))), (.int (128 : Int32)), (.int (x5_12 + (3 : Int32))), (.ref b2)]))
        refine A (XS.ior X44.here hx rfl (hb hby at_384) rfl) ?_
        show D (T44.setTop (mkF m 385 #[.val (.int p1), .val (.int p2), .val (.long p3), .second, .val (.int (p1 &&& (3 : Int32))), .val (.int x5_12), .val (.int x6_18), .val (.int v106_7), .val (.ref b2)] [(.int ((128 : Int32) ||| (v106_7 &&& (63 : Int32)))), (.int (x5_12 + (3 : Int32))), (.ref b2)]))
        refine A (XS.i2b X44.here hx rfl (hb hby at_385) rfl) ?_
        show D (T44.setTop (mkF m 386 #[.val (.int p1), .val (.int p2), .val (.long p3), .second, .val (.int (p1 &&& (3 : Int32))), .val (.int x5_12), .val (.int x6_18), .val (.int v106_7), .val (.ref b2)] [(.int (((128 : Int32) ||| (v106_7 &&& (63 : Int32))).toInt8.toInt32)), (.int (x5_12 + (3 : Int32))), (.ref b2)]))
        refine Adv.stB A X44 hx hZ e44 Vb2_44 (k := (o + 3)) (ixadd ho (by decide) (by omega)) (by omega) (g := (mkF m 386 #[.val (.int p1), .val (.int p2), .val (.long p3), .second, .val (.int (p1 &&& (3 : Int32))), .val (.int x5_12), .val (.int x6_18), .val (.int v106_7), .val (.ref b2)] [(.int (((128 : Int32) ||| (v106_7 &&& (63 : Int32))).toInt8.toInt32)), (.int (x5_12 + (3 : Int32))), (.ref b2)])) rfl rfl (hb hby at_386) ?_
        intro T46 h46 X46 e46 W46 Vb2_46
        have N46 := Fr.snoc X46 N44 g_b2
        have Z_46 : n0 ≤ h46.size := Nat.le_trans Z_44 (Nat.le_of_eq W46.size.symm)
        show D (T46.setTop (mkF m 387 #[.val (.int p1), .val (.int p2), .val (.long p3), .second, .val (.int (p1 &&& (3 : Int32))), .val (.int x5_12), .val (.int x6_18), .val (.int v106_7), .val (.ref b2)] []))
        obtain ⟨fn47, hfn47⟩ : ∃ z : Nat → Int32, z = (fun ix => if ix = (o + 3) then (((128 : Int32) ||| (v106_7 &&& (63 : Int32))).toInt8.toInt32).toInt8.toInt32 else fn45 ix) := ⟨_, rfl⟩
        rw [← hfn47] at Vb2_46
        refine A (XS.aload X46.here hx rfl (hb hby at_387) rfl rfl) ?_
        show D (T46.setTop (mkF m 389 #[.val (.int p1), .val (.int p2), .val (.long p3), .second, .val (.int (p1 &&& (3 : Int32))), .val (.int x5_12), .val (.int x6_18), .val (.int v106_7), .val (.ref b2)] [(.ref b2)]))
        refine A (XS.iload X46.here hx rfl (hb hby at_389) rfl) ?_
        show D (T46.setTop (mkF m 391 #[.val (.int p1), .val (.int p2), .val (.long p3), .second, .val (.int (p1 &&& (3 : Int32))), .val (.int x5_12), .val (.int x6_18), .val (.int v106_7), .val (.ref b2)] [(.int x5_12), (.ref b2)]))
        refine Adv.callS A X46 hx hZ hown (hw _ (List.mem_of_getElem? (i := 2) rfl)) (hw _ (List.mem_of_getElem? (i := 3) rfl)) (hw _ (List.mem_of_getElem? (i := 4) rfl)) (hw _ (List.mem_of_getElem? (i := 5) rfl)) e46 (rm1 l Z a0 hw [] b2 x5_12 h46 n0 fn47 o ho ho4 Vb2_46) 0 (g := (mkF m 391 #[.val (.int p1), .val (.int p2), .val (.long p3), .second, .val (.int (p1 &&& (3 : Int32))), .val (.int x5_12), .val (.int x6_18), .val (.int v106_7), .val (.ref b2)] [(.int x5_12), (.ref b2)])) rfl (by rw [hml]; rfl) [(.ref b2), (.int x5_12)] [] rfl (lenOf pd0_0 rfl) rfl (by show 2 * 0 + _ ≤ _; exact Nat.le_of_eq rfl) (hb hby at_391) (by decide) (by decide) (by decide) (by decide) (by decide) ?_
        rintro T48 L48 _ X48 ⟨rfl, N48_q, e48⟩
        have N48 := Fr.app N46 N48_q
        show D (T48.setTop (mkF m 394 #[.val (.int p1), .val (.int p2), .val (.long p3), .second, .val (.int (p1 &&& (3 : Int32))), .val (.int x5_12), .val (.int x6_18), .val (.int v106_7), .val (.ref b2)] [(.int (f1 fn47 o))]))
        refine A (XS.iload X48.here hx rfl (hb hby at_394) rfl) ?_
        show D (T48.setTop (mkF m 396 #[.val (.int p1), .val (.int p2), .val (.long p3), .second, .val (.int (p1 &&& (3 : Int32))), .val (.int x5_12), .val (.int x6_18), .val (.int v106_7), .val (.ref b2)] [(.int v106_7), (.int (f1 fn47 o))]))
        suffices Km404_49 : ∀ (v404s0aaa : Int32), v404s0aaa = (if (f1 fn47 o) = v106_7 then (1 : Int32) else (0 : Int32)) → D (T48.setTop (mkF m 404 #[.val (.int p1), .val (.int p2), .val (.long p3), .second, .val (.int (p1 &&& (3 : Int32))), .val (.int x5_12), .val (.int x6_18), .val (.int v106_7), .val (.ref b2)] [(.int v404s0aaa)])) by
          by_cases c396_3 : (f1 fn47 o) = v106_7
          · refine A (XS.icmpNo X48.here hx rfl (hb hby at_396) rfl (teq c396_3).2) ?_
            show D (T48.setTop (mkF m 399 #[.val (.int p1), .val (.int p2), .val (.long p3), .second, .val (.int (p1 &&& (3 : Int32))), .val (.int x5_12), .val (.int x6_18), .val (.int v106_7), .val (.ref b2)] []))
            refine A (XS.iconst X48.here hx rfl (hb hby at_399)) ?_
            show D (T48.setTop (mkF m 400 #[.val (.int p1), .val (.int p2), .val (.long p3), .second, .val (.int (p1 &&& (3 : Int32))), .val (.int x5_12), .val (.int x6_18), .val (.int v106_7), .val (.ref b2)] [(.int (1 : Int32))]))
            refine A (XS.goto X48.here hx rfl (pc0 := 400) (pc' := 404) rfl (hb hby at_400) (by decide) (by decide)) ?_
            show D (T48.setTop (mkF m 404 #[.val (.int p1), .val (.int p2), .val (.long p3), .second, .val (.int (p1 &&& (3 : Int32))), .val (.int x5_12), .val (.int x6_18), .val (.int v106_7), .val (.ref b2)] [(.int (1 : Int32))]))
            exact Km404_49 _ ((if_pos c396_3)).symm
          · refine A (XS.icmpYes X48.here hx rfl (pc0 := 396) (pc' := 403) rfl (hb hby at_396) rfl (feq c396_3).2 (by decide) (by decide)) ?_
            show D (T48.setTop (mkF m 403 #[.val (.int p1), .val (.int p2), .val (.long p3), .second, .val (.int (p1 &&& (3 : Int32))), .val (.int x5_12), .val (.int x6_18), .val (.int v106_7), .val (.ref b2)] []))
            refine A (XS.iconst X48.here hx rfl (hb hby at_403)) ?_
            show D (T48.setTop (mkF m 404 #[.val (.int p1), .val (.int p2), .val (.long p3), .second, .val (.int (p1 &&& (3 : Int32))), .val (.int x5_12), .val (.int x6_18), .val (.int v106_7), .val (.ref b2)] [(.int (0 : Int32))]))
            exact Km404_49 _ ((if_neg c396_3)).symm
        intro v404s0aaa hv404s0aaa
        show D (T48.setTop (mkF m 404 #[.val (.int p1), .val (.int p2), .val (.long p3), .second, .val (.int (p1 &&& (3 : Int32))), .val (.int x5_12), .val (.int x6_18), .val (.int v106_7), .val (.ref b2)] [(.int v404s0aaa)]))
        obtain rfl : v404s0aaa = (1 : Int32) := by
          have hb := own_cp hx6_18 hv106_7
          have g0 := c196_19
          have g1 := c215_24
          have g2 := c257_31
          rw [Int32.lt_iff_toInt_lt] at g0
          rw [Int32.lt_iff_toInt_lt] at g1
          rw [Int32.lt_iff_toInt_lt] at g2
          have q1 : (128 : Int32).toInt = 128 := rfl
          have q2 : (2048 : Int32).toInt = 2048 := rfl
          have q3 : (65536 : Int32).toInt = 65536 := rfl
          rw [hv404s0aaa, if_pos (own_c4 fn47 o v106_7 (by omega) (by omega) (by rw [hfn47]; show (if o = o + 3 then _ else fn45 (o)) = _; rw [if_neg (by omega)]; rw [hfn45]; show (if o = o + 2 then _ else fn43 (o)) = _; rw [if_neg (by omega)]; rw [hfn43]; show (if o = o + 1 then _ else fn41 (o)) = _; rw [if_neg (by omega)]; rw [hfn41]; exact if_pos rfl) (by rw [hfn47]; show (if o + 1 = o + 3 then _ else fn45 (o + 1)) = _; rw [if_neg (by omega)]; rw [hfn45]; show (if o + 1 = o + 2 then _ else fn43 (o + 1)) = _; rw [if_neg (by omega)]; rw [hfn43]; exact if_pos rfl) (by rw [hfn47]; show (if o + 2 = o + 3 then _ else fn45 (o + 2)) = _; rw [if_neg (by omega)]; rw [hfn45]; exact if_pos rfl) (by rw [hfn47]; exact if_pos rfl))]
        show D (T48.setTop (mkF m 404 #[.val (.int p1), .val (.int p2), .val (.long p3), .second, .val (.int (p1 &&& (3 : Int32))), .val (.int x5_12), .val (.int x6_18), .val (.int v106_7), .val (.ref b2)] [(.int (1 : Int32))]))
        exact F _ (Jvm.JW.ret X48 hlk (v := some (.int (1 : Int32))) (fun h => by rw [hrt] at h; cases h) (fun fs hr => retOut X48 hx hrt rfl (Or.inl ⟨rfl, Or.inr (Or.inl rfl), _, rfl⟩) (hb hby at_404) hr) rfl ⟨rfl, N48⟩ (by decide) (by decide))
set_option maxRecDepth 65536 in
set_option maxHeartbeats 40000000 in
theorem comes_1 {Post : Tables → Env → Array Value → State → Outcome → State → Prop} (hpost : ∀ tb e args s v u, (limb_1_1.after args s (.returned v) u = true ∧ limb_1_2.after args s (.returned v) u = true ∧ True) → FrameEnd s (.returned v) u (Jvm.fieldLocs frame_1_writes args s ++ Jvm.arrayLocs frame_1_arrays args s ++ Jvm.staticLocs frame_1_statics s) 16 128 → Post tb e args s (.returned v) u) :
    ArmFor flags0 classFile x code maxLocals ret World_1 tables_1 room_1 Calls_1 rest_1 Pre_1 Post := by
  intro l hfl _ _ p e ha hc hk s m args below hf hA hF happ hP
  obtain ⟨hcalls, hrest, hpre⟩ := hP
  obtain ⟨-, -, -, hnamed, -, -, -, hat⟩ := (Spec.applies_iff hf).mp happ
  obtain ⟨hg, hn⟩ := and_e (Cond.before_iff.mp (show (Jvm.Cond.and given_1 narrow_1).before args s = true from hpre))
  obtain ⟨g0, g1⟩ := and_e hg
  obtain ⟨t1, g2⟩ := and_e g1
  obtain ⟨t2, g3⟩ := and_e g2
  obtain ⟨w0, w1, w2, rfl⟩ : ∃ w0 w1 w2 : Value, args = #[w0, w1, w2] := by
    have hs : args.size = 3 := by simpa [Cond.value, given_1] using g0
    obtain ⟨L⟩ := args
    match L, hs with
    | [w0, w1, w2], _ => exact ⟨w0, w1, w2, rfl⟩
  have hw := fun d (hd : d ∈ tables_1) => atoms_spec (ws := Jvm.Cond.code x code maxLocals ret :: tables_1) hat d (List.mem_cons_of_mem _ hd)
  obtain ⟨i0, q0⟩ := is_v t1
  obtain rfl : w0 = (.int i0) := Option.some.inj q0
  obtain ⟨i1, q1⟩ := is_v t2
  obtain rfl : w1 = (.int i1) := Option.some.inj q1
  obtain ⟨i2, q2⟩ := isL_v g3
  obtain rfl : w2 = (.long i2) := Option.some.inj q2
  obtain ⟨n, o, h1, h2, h3, _, L, rfl, ⟨rfl, N⟩, hq⟩ := rm0 l s _ hw tables_1 i0 i1 i2 s.heap s.heap.size (Nat.le_refl _) p e ha hc hk s m _ below hf ((Spec.applies_iff_loose hf).mp happ).1 ⟨rfl, State.Warmed39.refl s, rfl⟩ trivial
  refine ⟨n, _, h1, h2, h3, hpost _ _ _ _ _ _ ⟨Cond.after_iff.mpr rfl, Cond.after_iff.mpr (eq_i res_at (Term.int_eval (1)) rfl), trivial⟩ ⟨hq.1, hq.2.1, (hq.2.2.sift fun y hy => Or.inr (N y hy)).mono (by decide) (by decide)⟩⟩
theorem main_1_1 : Claimed_1_1 := comes_1 fun _ _ _ _ _ _ h hF => ⟨h.1, hF⟩
theorem main_1_2 : Claimed_1_2 := comes_1 fun _ _ _ _ _ _ h hF => ⟨h.2.1, hF⟩
end Jvm.Pilot.@@N@@
namespace Jvm.Pilot.@@N@@
open Jvm Jvm.ClassFile Sem Op Lib Jvm.Free Jvm.Stand Jvm.Pilot.@@N@@.Jvm.D
/-! MADE BY PROGRAM (witnessworld.py) out of the Statement's table words and the real class files: 9 classes; the members and pool entries that the words name. The judged class is class 1, her method 1. -/
namespace start1
open Jvm.ClassFile
def u (s : String) : CpInfo := .utf8 (stringToUtf16 s)
/-- a pool by its gaps: so many unusable entries, then the entry; so many at the end -/
def gap : Nat → List CpInfo → List CpInfo
  | 0, r => r
  | n + 1, r => .unusable :: gap n r
def poolList (es : List (Nat × CpInfo)) (last : Nat) : List CpInfo := es.foldr (fun e r => gap e.1 (e.2 :: r)) (gap last [])
def pool (es : List (Nat × CpInfo)) (last : Nat) : Array CpInfo := ⟨poolList es last⟩
def fileOf (pool : Array CpInfo) (this : Nat) (attrs : Array Attribute := #[]) (ms : Array MethodInfo := #[]) (fl : Nat := 33) (sup : Nat := 0) (ifs : Array Nat := #[]) (fds : Array FieldInfo := #[]) : ClassFile where
  minorVersion := 0
  majorVersion := 65
  constantPool := pool
  accessFlags := fl
  thisClass := this
  superClass := sup
  interfaces := ifs
  fields := fds
  methods := ms
  attributes := attrs
def plain (name : String) (sup : Option ClassId) : Class where
  name := name
  kind := .ordinary
  loader := none
  accessFlags := 33
  super := sup
  interfaces := #[]
  cf := none
  fields := #[]
  methods := #[]
  instanceTypes := #[]
  staticTypes := #[]
  resolved := #[]
  callSites := []
  init := .initialized
  statics := none
  mirror := none

def pool0 : Array CpInfo := pool [(5, u "<init>"), (0, u "()V"), (1, .class_ 10), (1, u "java/lang/Object")] 113

def k0m0 : Method := { name := "<init>", desc := "()V", sig := { parameters := [], returnType := none }, accessFlags := 1, code := none }
/-- java/lang/Object -/
def k0 : Class := { plain "java/lang/Object" none with
  accessFlags := 33
  interfaces := #[]
  cf := some (fileOf pool0 8 #[] #[{ accessFlags := 1, nameIndex := 5, descriptorIndex := 6, attributes := #[] }] 33 0 #[] #[])
  fields := #[]
  methods := #[k0m0]
  instanceTypes := #[]
  staticTypes := #[]
  resolved := Array.replicate 124 none
  statics := none }

def pool1 : Array CpInfo := pool [(2, .class_ 4), (1, u "java/lang/Object"), (0, u "<init>"), (0, u "()V"), (0, .integer 2147483647), (0, .integer 63488), (0, .integer 55296), (0, .integer 57343), (0, .integer 65536), (0, .integer 1048576), (0, .methodref 14 15), (0, .class_ 16), (0, .nameAndType 17 18), (0, u site_391.cls), (0, u "codePointAt"), (0, u "([BI)I"), (0, .class_ 20), (0, u x.cls), (2, u "law"), (0, u "(IIJ)Z")] 5

def k1m0 : Method := { name := "<init>", desc := "()V", sig := { parameters := [], returnType := none }, accessFlags := 1, code := none }
def k1c1 : Code := { maxStack := 5, maxLocals := 9, code := code, exceptionTable := #[], attributes := #[] }
def k1m1 : Method := { name := "law", desc := "(IIJ)Z", sig := { parameters := [.int, .int, .long], returnType := some .boolean }, accessFlags := 9, code := some k1c1 }
/-- TermBytesCodePointAtPinLaw -/
def k1 : Class := { plain x.cls (some 0) with
  accessFlags := 49
  interfaces := #[]
  cf := some (fileOf pool1 19 #[] #[{ accessFlags := 1, nameIndex := 5, descriptorIndex := 6, attributes := #[] }, { accessFlags := 9, nameIndex := 23, descriptorIndex := 24, attributes := #[] }] 49 2 #[] #[])
  fields := #[]
  methods := #[k1m0, k1m1]
  instanceTypes := #[]
  staticTypes := #[]
  resolved := Array.replicate 30 none
  statics := none }

def pool2 : Array CpInfo := pool [(2, .class_ 4), (1, u "java/lang/Object"), (6, .class_ 13), (1, u site_391.cls), (0, u "text"), (0, u "Ljava/lang/StringBuilder;"), (2, u "faults"), (0, u ("L" ++ site_391.cls ++ "$Faults;")), (15, .class_ 37), (1, u (site_391.cls ++ "$Faults")), (18, u "codePointAt"), (0, u "([BI)I")] 120

def k2c0 : Code := { maxStack := 4, maxLocals := 3, code := prog_96_method_4_code, exceptionTable := #[], attributes := #[] }
def k2m0 : Method := { name := "codePointAt", desc := "([BI)I", sig := { parameters := [(.array .byte), .int], returnType := some .int }, accessFlags := 8, code := some k2c0 }
/-- TermBytes -/
def k2 : Class := { plain site_391.cls (some 0) with
  accessFlags := 48
  interfaces := #[]
  cf := some (fileOf pool2 11 #[.nestMembers #[35]] #[{ accessFlags := 8, nameIndex := 56, descriptorIndex := 57, attributes := #[] }] 48 2 #[] #[{ accessFlags := 18, nameIndex := 18, descriptorIndex := 19, attributes := #[] }, { accessFlags := 18, nameIndex := 14, descriptorIndex := 15, attributes := #[] }])
  fields := #[{ name := "faults", type := (.object (site_391.cls ++ "$Faults")), accessFlags := 18, slot := 0, constantValue := 0 }, { name := "text", type := (.object "java/lang/StringBuilder"), accessFlags := 18, slot := 1, constantValue := 0 }]
  methods := #[k2m0]
  instanceTypes := #[(.object (site_391.cls ++ "$Faults")), (.object "java/lang/StringBuilder")]
  staticTypes := #[]
  resolved := Array.replicate 178 none
  statics := none }

def pool3 : Array CpInfo := pool [(1, u "java/lang/Cloneable"), (0, .class_ 1), (0, u "java/lang/Object"), (0, .class_ 3)] 3

/-- java/lang/Cloneable -/
def k3 : Class := { plain "java/lang/Cloneable" (some 0) with
  accessFlags := 1537
  interfaces := #[]
  cf := some (fileOf pool3 2 #[] #[] 1537 4 #[] #[])
  fields := #[]
  methods := #[]
  instanceTypes := #[]
  staticTypes := #[]
  resolved := Array.replicate 8 none
  statics := none }

def pool4 : Array CpInfo := pool [(1, u "java/io/Serializable"), (0, .class_ 1), (0, u "java/lang/Object"), (0, .class_ 3)] 3

/-- java/io/Serializable -/
def k4 : Class := { plain "java/io/Serializable" (some 0) with
  accessFlags := 1537
  interfaces := #[]
  cf := some (fileOf pool4 2 #[] #[] 1537 4 #[] #[])
  fields := #[]
  methods := #[]
  instanceTypes := #[]
  staticTypes := #[]
  resolved := Array.replicate 8 none
  statics := none }

/-- the primitive byte -/
def k5 : Class := { plain "byte" none with kind := .primitive 'B', accessFlags := 0x411 }
/-- [B -/
def k6 : Class := { plain "[B" (some 0) with kind := .array 5 .byte, interfaces := #[3, 4], accessFlags := 1041 }

/-- the primitive int -/
def k7 : Class := { plain "int" none with kind := .primitive 'I', accessFlags := 0x411 }
/-- [I -/
def k8 : Class := { plain "[I" (some 0) with kind := .array 7 .int, interfaces := #[3, 4], accessFlags := 1041 }

def heap : Heap := #[]
def classes : Array Class := #[k0, k1, k2, k3, k4, k5, k6, k7, k8]
def interned : List (Array UInt16 × Addr) := []
def slotsUsed : Nat := 0
def theMethod : MethodId := ⟨1, 1⟩
def args0 : Array Value := #[.int 3, .int 4, .long 5]
def aboutOver (below : List Frame) : State where
  vm := { classes := classes, interned := interned.toArray }
  heap := heap
  slotsUsed := slotsUsed
  threads := #[{ frames := .invoking theMethod args0 :: below }]
def below0 : List Frame := [.native { method := ⟨0, 0⟩, args := #[] }]
def about1 : State := aboutOver below0
def p0 : Program := .bare "" "" ""
def e0 : Env := launch0.env 0 0 0
theorem w_frames : about1.frames = Frame.invoking theMethod args0 :: below0 := rfl
set_option maxRecDepth 65536 in
theorem w_args : argsFit about1.vm theMethod args0 = true := by decide +kernel
set_option maxRecDepth 65536 in
theorem w_heap : heapFits about1 = true := by decide +kernel
set_option maxRecDepth 65536 in
theorem w_runnable : about1.curStatus? = some .runnable := by decide +kernel
set_option maxRecDepth 65536 in
theorem w_alone : about1.alone = true := by decide +kernel
set_option maxRecDepth 65536 in
theorem w_named : about1.methodNamed? x = some theMethod := by decide +kernel
set_option maxRecDepth 65536 in
theorem w_hears : about1.hears theMethod below0 = true := by decide +kernel
set_option maxRecDepth 65536 in
theorem w_ripe : about1.ripe theMethod args0 below0 = true := by decide +kernel
theorem w_running : about1.status = .running := rfl
set_option maxRecDepth 65536 in
theorem w_room : about1.hasRoom e0.platform room_1 = true :=
  launch0.hasRoom_least _ room_1 (by decide +kernel) (by decide +kernel) (by decide +kernel) (by decide +kernel) (by decide +kernel) (by decide +kernel)
theorem allAtoms_all (ts : List Jvm.Cond) (a : Array Jvm.Value) (st : Jvm.State) : (allAtoms ts).before a st = ts.all (fun c => c.before a st) := by
  induction ts with
  | nil => rfl
  | cons c t ih =>
    show (Jvm.Cond.and c (allAtoms t)).before a st = _
    rw [Jvm.Cond.before_and, ih, List.all_cons]
def words1 : List Jvm.Cond := Jvm.Cond.code x code maxLocals ret :: tables_1
/-- a 'code' word, met by the world's own term for the bytes: nothing is compared byte by byte -/
theorem code_word {y : MethodName} {bytes : ByteArray} {mx : Nat} {rt : Option FieldType} {a : Array Value} {s : State} {m : MethodId} {meth : Method} {c : Code} (h1 : s.methodNamed? y = some m) (h2 : s.vm.method? m = some meth) (h3 : meth.code = some c) (h4 : c.code = bytes)
    (h5 : (c.maxLocals == mx && c.exceptionTable.isEmpty && decide (c.maxStack ≤ mostOperands) && decide (meth.sig.returnType = rt) && !meth.locks && decide (parseMethodDescriptor y.desc = some meth.sig)) = true) : (Jvm.Cond.code y bytes mx rt).before a s = true := by
  simp only [Bool.and_eq_true, beq_iff_eq, Bool.not_eq_true', decide_eq_true_eq] at h5
  obtain ⟨⟨⟨⟨⟨g1, g2⟩, g3⟩, g4⟩, g5⟩, g6⟩ := h5
  simp [Cond.before, Cond.holds, Cond.value, h1, h2, h3, h4, g1, g2, g3, g4, g5, g6]
def isCode : Jvm.Cond → Bool
  | .code _ _ _ _ => true
  | _ => false
theorem all_split {L : List Jvm.Cond} {P : Jvm.Cond → Bool} (h1 : L.all (fun c => isCode c || P c) = true) (h2 : ∀ c ∈ L.filter isCode, P c = true) : L.all P = true := by
  refine List.all_eq_true.mpr fun c hc => ?_
  have h := List.all_eq_true.mp h1 c hc
  rcases Bool.eq_false_or_eq_true (isCode c) with hi | hi
  · exact h2 c (List.mem_filter.mpr ⟨hc, hi⟩)
  · simpa [hi] using h
set_option maxRecDepth 65536 in
theorem w_c0 : (Jvm.Cond.code x code maxLocals ret).before args0 about1 = true := code_word (m := ⟨1, 1⟩) (meth := k1m1) (c := k1c1) (by decide +kernel) rfl rfl rfl (by decide +kernel)
set_option maxRecDepth 65536 in
theorem w_c1 : (Jvm.Cond.code site_391 prog_96_method_4_code (3 : Nat) (Option.some Jvm.ClassFile.FieldType.int)).before args0 about1 = true := code_word (m := ⟨2, 0⟩) (meth := k2m0) (c := k2c0) (by decide +kernel) rfl rfl rfl (by decide +kernel)
def codes1 : List Jvm.Cond := [Jvm.Cond.code x code maxLocals ret, Jvm.Cond.code site_391 prog_96_method_4_code (3 : Nat) (Option.some Jvm.ClassFile.FieldType.int)]
set_option maxRecDepth 65536 in
theorem codes_eq : words1.filter isCode = codes1 := rfl
theorem w_codes : ∀ c ∈ words1.filter isCode, c.before args0 about1 = true := by
  rw [codes_eq]
  intro c hc
  simp only [codes1, List.mem_cons, List.not_mem_nil, or_false] at hc
  rcases hc with rfl | rfl
  · exact w_c0
  · exact w_c1
set_option maxRecDepth 65536 in
theorem w_t1 : words1.all (fun c => isCode c || c.before args0 about1) = true := by decide +kernel
theorem w_tables : (allAtoms (Jvm.Cond.code x code maxLocals ret :: tables_1)).before args0 about1 = true := by
  rw [allAtoms_all]
  show words1.all (fun c => c.before args0 about1) = true
  refine all_split ?_ w_codes
  rw [w_t1]
set_option maxRecDepth 65536 in
theorem w_case : (Jvm.Cond.and given_1 narrow_1).before args0 about1 = true := by decide +kernel
theorem w_applies : (headSpec (Jvm.Cond.code x code maxLocals ret :: tables_1) room_1).applies x e0.platform about1 = true :=
  (Spec.applies_iff w_frames).mpr ⟨w_running, w_runnable, w_alone, w_named, w_hears, w_ripe, w_room, w_tables⟩
theorem atStart : AtStart classFile x code maxLocals ret World_1 tables_1 room_1 Calls_1 rest_1 Pre_1 launch0 p0 e0 about1 theMethod args0 below0 :=
  ⟨lists_1, trivial, launch0.admits_env _ _ _, launch0.least_env, fairChoices_fair.cas, fairChoices_fair.clock, w_frames, w_args, w_heap, w_applies, trivial, trivial, w_case⟩
end start1
theorem witness_1 : WitnessClaimed_1 := ⟨start1.p0, start1.e0, start1.about1, start1.theMethod, start1.args0, start1.below0, start1.atStart⟩
end Jvm.Pilot.@@N@@
