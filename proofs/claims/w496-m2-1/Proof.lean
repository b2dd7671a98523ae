import JvmDerived
import JvmDerived.Pilot.@@N@@Statement
import JvmDerived.Pilot.@@N@@Code
set_option linter.unusedVariables false
set_option linter.unusedSimpArgs false
namespace Jvm.JW
open Sem ClassFile Op Lib Jvm.Stand Jvm.Free Jvm.LawKit Jvm.RoadKit
/-! The walk in continuation form: D holds of a machine state if the run from it ends as the contract says. -/
def Dn (p : Program) (e : Env) (below : List Frame) (s : State) (Q : Option Value → Heap → List Loc → Prop) (k n : Nat) (S : State) : Prop :=
  ∃ s₂ o, Steps p.tables e below S s₂ ∧ s₂.status = .running ∧ Ended s₂ below o ∧ ∃ v L, o = .returned v ∧ Q v s₂.heap L ∧ FrameEnd s o s₂ L k n
def Adv (p : Program) (e : Env) (below : List Frame) (D : State → Prop) : Prop :=
  ∀ {S S' : State}, (∀ {t : State}, Steps p.tables e below S' t → Steps p.tables e below S t) → D S' → D S
theorem Adv.dn {p : Program} {e : Env} {below : List Frame} {s : State} {Q : Option Value → Heap → List Loc → Prop} {k n : Nat} : Adv p e below (Dn p e below s Q k n) := by
  intro S S' h d
  obtain ⟨s2, o, h1, h2⟩ := d
  exact ⟨s2, o, h h1, h2⟩
theorem Adv.tr {p : Program} {e : Env} {below : List Frame} {D : State → Prop} (A : Adv p e below D) {S S' : State} (h : Steps p.tables e below S S') (d : D S') : D S := A (fun k => h.trans k) d
abbrev JMet (l : Launch) (Z : State) (y : MethodName) (bytes : ByteArray) (maxL : Nat) (ret : Option FieldType) (ws : List Cond) (rm : Room) (as' : Array Value) (h0 : Heap) (Q : Option Value → Heap → List Loc → Prop) : Prop :=
  MetFree l y (head1 (Cond.code y bytes maxL ret :: ws) rm) (fun a U => a = as' ∧ Z.Warmed39 U.vm ∧ U.heap = h0) (fun _ _ _ _ _ => True) (fun _ U o U' => ∃ v L, o = .returned v ∧ Q v U'.heap L ∧ FrameEnd U o U' L rm.cells rm.slots)
/-- a body that returns r and leaves the heap as it was -/
def QP (r : Value) (h0 : Heap) (n0 : Nat) (v : Option Value) (h : Heap) (L : List Loc) : Prop := v = some r ∧ Fr n0 L ∧ h = h0
/-- the law: it returns 1; nothing that stood at the start is written -/
def QL (n0 : Nat) (v : Option Value) (h : Heap) (L : List Loc) : Prop := v = some (.int 1) ∧ Fr n0 L
section Kit
variable {p : Program} {l : Launch} {e : Env} {R : Room} {s : State} {m : MethodId} {args : Array Value} {below : List Frame} {meth : Method} {c : Code} {T : State} {locs : List Loc} {cells slots : Nat} {Z : State} {a0 : Array Value} {h : Heap} {D : State → Prop}
theorem ret (X : Stand p l e R s m args below meth c T locs cells slots) (hlk : meth.locks = false) {Q : Option Value → Heap → List Loc → Prop} {k n : Nat} {S : State} {v : Option Value} (hv : meth.sig.returnType = none → v = none)
    (hst : ∀ fs, (∀ (f : JFrame) (acts : List Action), f.method = m → f.locked = none → f.entered = [] → (doReturn e (T.setTop f) acts v).1 = T.setFrames fs) → Steps p.tables e below S (T.setFrames fs))
    {hh : Heap} (eT : T.heap = hh) (hq : Q v hh locs) (hk : cells ≤ k) (hn : slots ≤ n) : Dn p e below s Q k n S := by
  subst eT
  obtain ⟨fs, hr, hrun, hended, hW, hsame⟩ := X.leave (v := v) hv hlk
  exact ⟨_, _, hst fs hr, hrun, hended, _, _, rfl, hq, ⟨_, rfl⟩, hW, hsame.mono hk hn⟩
theorem body {y : MethodName} {bytes : ByteArray} {maxL : Nat} {rt : Option FieldType} {ws : List Cond} {rm : Room} {as' : Array Value} {h0 : Heap} {Q : Option Value → Heap → List Loc → Prop} (Ls : Array Slot) (hpl : plainFor y = true) (hef : ∀ m, entryFrame m as' maxL = mkF m 0 Ls [])
    (bd : ∀ (p : Program) (e : Env) (s : State) (m : MethodId) (below : List Frame) (meth : Method) (c : Code) (T0 : State) (D : State → Prop), Adv p e below D → (∀ S, Dn p e below s Q rm.cells rm.slots S → D S) → Stand p l e rm s m as' below meth c T0 [] 0 0 → p.tables.exec = Jvm.exec → Z.Warmed39 s.vm → c.code = bytes → c.maxLocals = maxL → s.vm.findClass y.cls = some m.cls → meth.name = y.name → meth.sig.returnType = rt → meth.locks = false → T0.heap = h0 → D (T0.setTop (mkF m 0 Ls []))) :
    JMet l Z y bytes maxL rt ws rm as' h0 Q := by
  refine MetFree.of_bodySF hpl hisR ?_
  intro p e s m args below meth c s₁ Bd hml hP hK
  obtain ⟨rfl, hZ, hh⟩ := hP
  have q := bd p e s m below meth c s₁ (Dn p e below s Q rm.cells rm.slots) Adv.dn (fun _ d => d) (Stand.of_body Bd) Bd.exec hZ Bd.bytes hml (findClass_of_methodNamed Bd.named) (name_of_methodNamed Bd.named Bd.method).1 Bd.returns Bd.notSynchronized (by rw [← hh, Bd.state]; rfl)
  rw [← hef m] at q
  exact q
theorem Adv.callS (A : Adv p e below D) (X : Stand p l e R s m args below meth c T locs cells slots) (hx : p.tables.exec = Jvm.exec) (hZ : Z.Warmed39 s.vm) {own : String} {index : Nat} {y : MethodName} {bytes : ByteArray} {maxL : Nat} {rt : Option FieldType} {rm : Room} {as' : Array Value} {Q : Option Value → Heap → List Loc → Prop}
    (hown : s.vm.findClass own = some m.cls) (w1 : (Cond.methodLink own index y).before a0 Z = true) (w2 : (Cond.static y).before a0 Z = true) (w3 : (Cond.initialized y.cls).before a0 Z = true) (w4 : (Cond.code y bytes maxL rt).before a0 Z = true) (eT : T.heap = h)
    (hM : JMet l Z y bytes maxL rt [] rm as' h Q) (W : Nat) {g : JFrame} (hg : g.method = m) (hsz : g.locals.size = c.maxLocals) (argsL rest : List Value) (has : as' = argsL.toArray)
    (hlen : ∀ sig, parseMethodDescriptor y.desc = some sig → argsL.length = sig.parameters.length) (hstack : g.stack = argsL.reverse ++ rest) (hW : 2 * g.monitorRoom + (rest.map fun v => v.category).sum ≤ W)
    (hd : decode c.code g.pc = .ok (.invokestatic index, 3)) (hy : y.cls ≠ "java/lang/invoke/MethodHandle" ∧ y.cls ≠ "java/lang/invoke/VarHandle") (hf : rm.frames + 1 ≤ R.frames) (hl : W + (maxL + 11) + rm.locals ≤ R.locals) (hc : cells + rm.cells ≤ R.cells) (hs : slots + rm.slots ≤ R.slots)
    (k : ∀ (T' : State) (L' : List Loc) (v : Option Value), Stand p l e R s m args below meth c T' (locs ++ L') (cells + rm.cells) (slots + rm.slots) → Q v T'.heap L' → D (T'.setTop { g with pc := g.pc + 3, stack := v.toList ++ rest })) : D (T.setTop g) := by
  subst has
  obtain ⟨v, _, ⟨T', L, k', n'⟩, -, X', ⟨Lc, hQ, l', y', z'⟩, st⟩ := Jvm.LawKit.callS X hx (y := y) hown (mvT hZ w1) (mvT hZ w2) (mvT hZ w3) (mvT hZ w4) hy (backOf (W := W) hM hZ w4 w3 hf hl) (g := g) hg hsz (argsL := argsL) (rest := rest) hlen hstack hW hd (fun _ _ => ⟨rfl, eT, hc, hs⟩)
  dsimp only [Pt.U, Pt.locs, Pt.cells, Pt.slots] at X' l' y' z' st hQ
  subst l' y' z'
  exact A (fun q => st _ q) (k T' Lc v X' hQ)
theorem Adv.callI (A : Adv p e below D) (X : Stand p l e R s m args below meth c T locs cells slots) (hx : p.tables.exec = Jvm.exec) (hZ : Z.Warmed39 s.vm) {own : String} {index : Nat} {y : MethodName} {bytes : ByteArray} {maxL : Nat} {rm : Room} {as' : Array Value} {Q : Option Value → Heap → List Loc → Prop}
    (hown : s.vm.findClass own = some m.cls) (hi : y.name = "<init>") (w1 : (Cond.methodLink own index y).before a0 Z = true) (w2 : (Cond.instanceMethod y).before a0 Z = true) (w3 : (Cond.initialized y.cls).before a0 Z = true) (w4 : (Cond.code y bytes maxL none).before a0 Z = true) (eT : T.heap = h)
    (hM : JMet l Z y bytes maxL none [] rm as' h Q) (W : Nat) {g : JFrame} (hg : g.method = m) (hsz : g.locals.size = c.maxLocals) (a : Addr) (argsL rest : List Value) (has : as' = (.ref a :: argsL).toArray)
    (hlen : ∀ sig, parseMethodDescriptor y.desc = some sig → argsL.length = sig.parameters.length) (hstack : g.stack = argsL.reverse ++ .ref a :: rest) (hW : 2 * g.monitorRoom + (rest.map fun v => v.category).sum ≤ W)
    (hd : decode c.code g.pc = .ok (.invokespecial index, 3)) (hy : y.cls ≠ "java/lang/invoke/MethodHandle" ∧ y.cls ≠ "java/lang/invoke/VarHandle") (hf : rm.frames + 1 ≤ R.frames) (hl : W + (maxL + 11) + rm.locals ≤ R.locals) (hc : cells + rm.cells ≤ R.cells) (hs : slots + rm.slots ≤ R.slots)
    (k : ∀ (T' : State) (L' : List Loc) (v : Option Value), Stand p l e R s m args below meth c T' (locs ++ L') (cells + rm.cells) (slots + rm.slots) → Q v T'.heap L' → D (T'.setTop { g with pc := g.pc + 3, stack := v.toList ++ rest })) : D (T.setTop g) := by
  subst has
  obtain ⟨v, _, ⟨T', L, k', n'⟩, -, X', ⟨Lc, hQ, l', y', z'⟩, st⟩ := X.specialBack hx (y := y) hi hown (mvT hZ w1) (mvT hZ w2) (mvT hZ w4) hy (backOf (W := W) hM hZ w4 w3 hf hl) (g := g) hg hsz (Steps.refl _) (a := a) (argsL := argsL) (rest := rest) hlen hstack hW hd (fun _ _ => ⟨rfl, eT, hc, hs⟩)
  dsimp only [Pt.U, Pt.locs, Pt.cells, Pt.slots] at X' l' y' z' st hQ
  subst l' y' z'
  exact A.tr st (k T' Lc v X' hQ)
theorem Adv.callV (A : Adv p e below D) (X : Stand p l e R s m args below meth c T locs cells slots) (hx : p.tables.exec = Jvm.exec) (hZ : Z.Warmed39 s.vm) {own C : String} {index : Nat} {y z : MethodName} {bytes : ByteArray} {maxL : Nat} {rt : Option FieldType} {rm : Room} {as' : Array Value} {Q : Option Value → Heap → List Loc → Prop} {a : Addr}
    (hown : s.vm.findClass own = some m.cls) (w1 : (Cond.methodLink own index y).before a0 Z = true) (w2 : (Cond.declares y).before a0 Z = true) (nf : NotFace s y) (w5 : (Cond.selects C y z).before a0 Z = true) (w6 : (Cond.instanceMethod z).before a0 Z = true) (w3 : (Cond.initialized z.cls).before a0 Z = true) (w4 : (Cond.code z bytes maxL rt).before a0 Z = true) (eT : T.heap = h) (E : Exa Z h a C)
    (hM : JMet l Z z bytes maxL rt [] rm as' h Q) (W : Nat) {g : JFrame} (hg : g.method = m) (hsz : g.locals.size = c.maxLocals) (argsL rest : List Value) (has : as' = (.ref a :: argsL).toArray)
    (hlen : ∀ sig, parseMethodDescriptor y.desc = some sig → argsL.length = sig.parameters.length) (hstack : g.stack = argsL.reverse ++ .ref a :: rest) (hW : 2 * g.monitorRoom + (rest.map fun v => v.category).sum ≤ W)
    (hd : decode c.code g.pc = .ok (.invokevirtual index, 3)) (hy : y.cls ≠ "java/lang/invoke/MethodHandle" ∧ y.cls ≠ "java/lang/invoke/VarHandle") (hf : rm.frames + 1 ≤ R.frames) (hl : W + (maxL + 11) + rm.locals ≤ R.locals) (hc : cells + rm.cells ≤ R.cells) (hs : slots + rm.slots ≤ R.slots)
    (k : ∀ (T' : State) (L' : List Loc) (v : Option Value), Stand p l e R s m args below meth c T' (locs ++ L') (cells + rm.cells) (slots + rm.slots) → Q v T'.heap L' → D (T'.setTop { g with pc := g.pc + 3, stack := v.toList ++ rest })) : D (T.setTop g) := by
  subst has
  obtain ⟨cq, kq, qa, qb, qc⟩ := isOf hZ eT E
  obtain ⟨v, _, ⟨T', L, k', n'⟩, -, X', ⟨Lc, hQ, l', y', z'⟩, st⟩ := X.virtualBack hx (y := y) (z := z) hown (mvT hZ w1) (mvT hZ w2) nf (mvT hZ w5) (mvT hZ w6) hy (backOf (W := W) hM hZ w4 w3 hf hl) qa qc (g := g) hg hsz (Steps.refl _) (argsL := argsL) (rest := rest) hlen hstack hW hd (fun _ _ => ⟨rfl, eT, hc, hs⟩)
  dsimp only [Pt.U, Pt.locs, Pt.cells, Pt.slots] at X' l' y' z' st hQ
  subst l' y' z'
  exact A.tr st (k T' Lc v X' hQ)
theorem Adv.callU (A : Adv p e below D) (X : Stand p l e R s m args below meth c T locs cells slots) (hx : p.tables.exec = Jvm.exec) (hZ : Z.Warmed39 s.vm) {own C owner : String} {index : Nat} {y z : MethodName} {bytes : ByteArray} {maxL : Nat} {rt : Option FieldType} {rm : Room} {as' : Array Value} {Q : Option Value → Heap → List Loc → Prop} {a : Addr}
    (hown : s.vm.findClass own = some m.cls) (w1 : (Cond.methodLink own index y).before a0 Z = true) (w7 : (Cond.sameMethod y.cls owner y.name y.desc).before a0 Z = true) (w2 : (Cond.declares ⟨owner, y.name, y.desc⟩).before a0 Z = true) (w5 : (Cond.selects C y z).before a0 Z = true) (w6 : (Cond.instanceMethod z).before a0 Z = true) (w3 : (Cond.initialized z.cls).before a0 Z = true) (w4 : (Cond.code z bytes maxL rt).before a0 Z = true) (eT : T.heap = h) (E : Exa Z h a C)
    (hM : JMet l Z z bytes maxL rt [] rm as' h Q) (W : Nat) {g : JFrame} (hg : g.method = m) (hsz : g.locals.size = c.maxLocals) (argsL rest : List Value) (has : as' = (.ref a :: argsL).toArray)
    (hlen : ∀ sig, parseMethodDescriptor y.desc = some sig → argsL.length = sig.parameters.length) (hstack : g.stack = argsL.reverse ++ .ref a :: rest) (hW : 2 * g.monitorRoom + (rest.map fun v => v.category).sum ≤ W)
    (hd : decode c.code g.pc = .ok (.invokevirtual index, 3)) (hy : owner ≠ "java/lang/invoke/MethodHandle" ∧ owner ≠ "java/lang/invoke/VarHandle") (hf : rm.frames + 1 ≤ R.frames) (hl : W + (maxL + 11) + rm.locals ≤ R.locals) (hc : cells + rm.cells ≤ R.cells) (hs : slots + rm.slots ≤ R.slots)
    (k : ∀ (T' : State) (L' : List Loc) (v : Option Value), Stand p l e R s m args below meth c T' (locs ++ L') (cells + rm.cells) (slots + rm.slots) → Q v T'.heap L' → D (T'.setTop { g with pc := g.pc + 3, stack := v.toList ++ rest })) : D (T.setTop g) := by
  subst has
  obtain ⟨cq, kq, qa, qb, qc⟩ := isOf hZ eT E
  obtain ⟨v, _, ⟨T', L, k', n'⟩, -, X', ⟨Lc, hQ, l', y', z'⟩, st⟩ := X.virtualBackUp hx (x := y) (y := z) (owner := owner) hown (mvT hZ w1) (mvT hZ w7) (mvT hZ w2) hy (mvT hZ w5) (mvT hZ w6) (backOf (W := W) hM hZ w4 w3 hf hl) qa qc (g := g) hg hsz (Steps.refl _) (argsL := argsL) (rest := rest) hlen hstack hW hd (fun _ _ => ⟨rfl, eT, hc, hs⟩)
  dsimp only [Pt.U, Pt.locs, Pt.cells, Pt.slots] at X' l' y' z' st hQ
  subst l' y' z'
  exact A.tr st (k T' Lc v X' hQ)
theorem Adv.callP (A : Adv p e below D) (X : Stand p l e R s m args below meth c T locs cells slots) (hx : p.tables.exec = Jvm.exec) (hZ : Z.Warmed39 s.vm) {own C : String} {index kn : Nat} {y : MethodName} {bytes : ByteArray} {maxL : Nat} {rt : Option FieldType} {rm : Room} {as' : Array Value} {Q : Option Value → Heap → List Loc → Prop} {a : Addr}
    (hown : s.vm.findClass own = some m.cls) (w1 : (Cond.methodLink own index y).before a0 Z = true) (w2 : (Cond.instanceMethod y).before a0 Z = true) (wi : (Cond.instantiable y.cls kn).before a0 Z = true) (w5 : (Cond.privateMethod y).before a0 Z = true) (w3 : (Cond.initialized y.cls).before a0 Z = true) (w4 : (Cond.code y bytes maxL rt).before a0 Z = true) (eT : T.heap = h) (E : Exa Z h a C)
    (hM : JMet l Z y bytes maxL rt [] rm as' h Q) (W : Nat) {g : JFrame} (hg : g.method = m) (hsz : g.locals.size = c.maxLocals) (argsL rest : List Value) (has : as' = (.ref a :: argsL).toArray)
    (hlen : ∀ sig, parseMethodDescriptor y.desc = some sig → argsL.length = sig.parameters.length) (hstack : g.stack = argsL.reverse ++ .ref a :: rest) (hW : 2 * g.monitorRoom + (rest.map fun v => v.category).sum ≤ W)
    (hd : decode c.code g.pc = .ok (.invokevirtual index, 3)) (hy : y.cls ≠ "java/lang/invoke/MethodHandle" ∧ y.cls ≠ "java/lang/invoke/VarHandle") (hf : rm.frames + 1 ≤ R.frames) (hl : W + (maxL + 11) + rm.locals ≤ R.locals) (hc : cells + rm.cells ≤ R.cells) (hs : slots + rm.slots ≤ R.slots)
    (k : ∀ (T' : State) (L' : List Loc) (v : Option Value), Stand p l e R s m args below meth c T' (locs ++ L') (cells + rm.cells) (slots + rm.slots) → Q v T'.heap L' → D (T'.setTop { g with pc := g.pc + 3, stack := v.toList ++ rest })) : D (T.setTop g) := by
  subst has
  obtain ⟨ce, hce, hob⟩ := E.cell
  have hpriv : s.PrivateAt y := Cond.privateMethod_at (mvP hZ w5 (args := #[]))
  have hins : (Cond.instanceMethod y).before args s = true := mvT hZ w2
  have hwi : (Cond.instantiable y.cls kn).before args s = true := mvT hZ wi
  obtain ⟨ck, kk, c1, c2, -, c4, -⟩ := Cond.instantiable_spec hwi
  have hsel := selects_self_of_private c1 c2 (Bool.or_eq_false_iff.mp c4).1 hpriv hins hy
  obtain ⟨v, _, ⟨T', L, k', n'⟩, -, X', ⟨Lc, hQ, l', y', z'⟩, st⟩ := X.privateBack hx (y := y) hown (mvT hZ w1) hins hsel hpriv (mvT hZ w4) hy (backOf (W := W) hM hZ w4 w3 hf hl) (g := g) hg hsz (Steps.refl _) (a := a) (cell := ce) (by rw [eT]; exact hce) hob (argsL := argsL) (rest := rest) hlen hstack hW hd (fun _ _ => ⟨rfl, eT, hc, hs⟩)
  dsimp only [Pt.U, Pt.locs, Pt.cells, Pt.slots] at X' l' y' z' st hQ
  subst l' y' z'
  exact A.tr st (k T' Lc v X' hQ)
end Kit
/-! ### arrays by a function of the place -/
section Arrays
variable {p : Program} {l : Launch} {e : Env} {R : Room} {s : State} {m : MethodId} {args : Array Value} {below : List Frame} {meth : Method} {c : Code} {T : State} {locs : List Loc} {cells slots : Nat} {Z : State} {a0 : Array Value} {h h' : Heap} {D : State → Prop} {a b : Addr} {ty : FieldType} {n : Nat} {f : Nat → Int32} {fJ : Nat → Int64} {sl : Nat} {v : Value} {ws : List Addr}
def ArI (Z : State) (h : Heap) (a : Addr) (ty : FieldType) (n : Nat) (f : Nat → Int32) : Prop :=
  n < 2147483648 ∧ ∃ c : Cell, Arr Z h a c ty ∧ c.slots.size = n ∧ ∀ i, i < n → c.slots[i]? = some (.int (f i))
def ArJ (Z : State) (h : Heap) (a : Addr) (n : Nat) (f : Nat → Int64) : Prop :=
  n < 2147483648 ∧ ∃ c : Cell, Arr Z h a c .long ∧ c.slots.size = n ∧ ∀ i, i < n → c.slots[i]? = some (.long (f i))
theorem ArI.lt (F : ArI Z h a ty n f) : a < h.size := by obtain ⟨-, c, A, -⟩ := F; exact A.lt
theorem ArI.ext (F : ArI Z h a ty n f) (E : Ext h h') : ArI Z h' a ty n f := by obtain ⟨q, c, A, r⟩ := F; exact ⟨q, c, A.ext E, r⟩
theorem ArI.other (F : ArI Z h b ty n f) (W : Wr h h' a sl v) (q : b ≠ a) : ArI Z h' b ty n f := by obtain ⟨z, c, A, r⟩ := F; exact ⟨z, c, A.other W q, r⟩
theorem ArI.keep (F : ArI Z h a ty n f) (K : Keep h h' ws) (q : a ∉ ws) : ArI Z h' a ty n f := by obtain ⟨z, c, A, r⟩ := F; exact ⟨z, c, ⟨K.2.1 a c A.1 q, A.2⟩, r⟩
theorem ArI.eqf {g : Nat → Int32} (F : ArI Z h a ty n f) (q : ∀ i, i < n → f i = g i) : ArI Z h a ty n g := by
  obtain ⟨z, c, A, r, H⟩ := F; exact ⟨z, c, A, r, fun i hi => by rw [← q i hi]; exact H i hi⟩
theorem ArJ.lt (F : ArJ Z h a n fJ) : a < h.size := by obtain ⟨-, c, A, -⟩ := F; exact A.lt
theorem ArJ.ext (F : ArJ Z h a n fJ) (E : Ext h h') : ArJ Z h' a n fJ := by obtain ⟨q, c, A, r⟩ := F; exact ⟨q, c, A.ext E, r⟩
theorem ArJ.other (F : ArJ Z h b n fJ) (W : Wr h h' a sl v) (q : b ≠ a) : ArJ Z h' b n fJ := by obtain ⟨z, c, A, r⟩ := F; exact ⟨z, c, A.other W q, r⟩
theorem ArJ.keep (F : ArJ Z h a n fJ) (K : Keep h h' ws) (q : a ∉ ws) : ArJ Z h' a n fJ := by obtain ⟨z, c, A, r⟩ := F; exact ⟨z, c, ⟨K.2.1 a c A.1 q, A.2⟩, r⟩
theorem ArJ.eqf {g : Nat → Int64} (F : ArJ Z h a n fJ) (q : ∀ i, i < n → fJ i = g i) : ArJ Z h a n g := by
  obtain ⟨z, c, A, r, H⟩ := F; exact ⟨z, c, A, r, fun i hi => by rw [← q i hi]; exact H i hi⟩
theorem ne_ari {C : String} {k : Nat} (F : Exa Z h a C) (wi : (Cond.instantiable C k).before a0 Z = true) (G : ArI Z h b ty n f) : a ≠ b := by obtain ⟨-, c, A, -⟩ := G; exact ne_arr F wi A
theorem ne_arj {C : String} {k : Nat} (F : Exa Z h a C) (wi : (Cond.instantiable C k).before a0 Z = true) (G : ArJ Z h b n fJ) : a ≠ b := by obtain ⟨-, c, A, -⟩ := G; exact ne_arr F wi A
theorem ne_arr2 {c1 c2 : Cell} {t1 t2 : FieldType} (F : Arr Z h a c1 t1) (G : Arr Z h b c2 t2) (hn : t1 ≠ t2) : a ≠ b := fun q => by
  subst q
  cases F.1.symm.trans G.1
  obtain ⟨-, k1, j1, comp1, j2⟩ := F.2.1
  obtain ⟨-, k2, i1, comp2, i2⟩ := G.2.1
  cases j1.symm.trans i1
  rw [j2] at i2
  injection i2 with _ q2
  exact hn q2
theorem ne_aij {n' : Nat} (F : ArI Z h a ty n f) (G : ArJ Z h b n' fJ) (hn : ty ≠ .long) : a ≠ b := by obtain ⟨-, c, A, -⟩ := F; obtain ⟨-, c', A', -⟩ := G; exact ne_arr2 A A' hn
theorem to_nat {j : Int32} {k : Nat} (hk : j.toInt = k) : j.toNatClampNeg = k := by simp only [Int32.toNatClampNeg, hk, Int.toNat_natCast]
theorem inb {cl : Cell} {j : Int32} {k : Nat} (hk : j.toInt = k) (hkn : k < n) (hs : cl.slots.size = n) : ¬ (j < 0 ∨ cl.slots.size ≤ j.toNatClampNeg) := by
  rw [to_nat hk, hs, Int32.lt_iff_toInt_lt, hk, show (0 : Int32).toInt = 0 from rfl]; omega
theorem ixadd {x d : Int32} {k j : Nat} (hx : x.toInt = k) (hd : d.toInt = j) (h : k + j < 2147483648) : (x + d).toInt = ((k + j : Nat) : Int) := by
  have h2 := c_iadd x d
  have h3 := rng32 (x + d)
  omega
theorem ArI.mk {k : ClassId} {z : Int32} (A : Arr Z h a (newA k ty z) ty) (hn : z.toInt = n) (hd : defaultValue ty = .int 0) : ArI Z h a ty n (fun _ => 0) := by
  have hz := to_nat hn
  refine ⟨?_, _, A, by rw [sz_new, hz], fun i hi => ?_⟩
  · have := Int32.toInt_lt z; omega
  · simp [newA, hz, hi, hd]
theorem ArJ.mk {k : ClassId} {z : Int32} (A : Arr Z h a (newA k .long z) .long) (hn : z.toInt = n) : ArJ Z h a n (fun _ => 0) := by
  have hz := to_nat hn
  refine ⟨?_, _, A, by rw [sz_new, hz], fun i hi => ?_⟩
  · have := Int32.toInt_lt z; omega
  · simp [newA, hz, hi, defaultValue]
theorem set_at {cl : Cell} {i k : Nat} (hk : k < cl.slots.size) : (cl.setSlot k v).slots[i]? = if i = k then some v else cl.slots[i]? := by
  simp only [Cell.setSlot, Array.getElem?_setIfInBounds]
  by_cases q : i = k
  · subst q; simp [hk]
  · simp [q, Ne.symm q]
theorem ArI.set {x : Int32} {k : Nat} (F : ArI Z h a ty n f) (W : Wr h h' a k (.int x)) (hk : k < n) : ArI Z h' a ty n (fun i => if i = k then x else f i) := by
  obtain ⟨z, c, A, r, H⟩ := F
  refine ⟨z, _, A.same W, by rw [sz_set, r], fun i hi => ?_⟩
  rw [set_at (by omega)]
  by_cases q : i = k
  · simp [q]
  · simp [q, H i hi]
theorem ArJ.set {x : Int64} {k : Nat} (F : ArJ Z h a n fJ) (W : Wr h h' a k (.long x)) (hk : k < n) : ArJ Z h' a n (fun i => if i = k then x else fJ i) := by
  obtain ⟨z, c, A, r, H⟩ := F
  refine ⟨z, _, A.same W, by rw [sz_set, r], fun i hi => ?_⟩
  rw [set_at (by omega)]
  by_cases q : i = k
  · simp [q]
  · simp [q, H i hi]
theorem Adv.ldI (A : Adv p e below D) (X : Stand p l e R s m args below meth c T locs cells slots) (hx : p.tables.exec = Jvm.exec) (hZ : Z.Warmed39 s.vm) (eT : T.heap = h) (F : ArI Z h a .int n f) {j : Int32} {k : Nat} (hk : j.toInt = k) (hkn : k < n) {g : JFrame} (hg : g.method = m) {rest : List Value} (hs : g.stack = .int j :: .ref a :: rest) (hd : decode c.code g.pc = .ok (.iaload, 1))
    (kk : D (T.setTop { g with pc := g.pc + 1, stack := .int (f k) :: rest })) : D (T.setTop g) := by
  obtain ⟨-, cl, Ar, r, H⟩ := F
  exact A (X.iaload hx (j := j) (v := .int (f k)) (by rw [eT]; exact Ar.1) (State.isArrayOf_alike hZ.alike Ar.2.1) Ar.2.2 (inb hk hkn r) (by rw [to_nat hk]; exact H k hkn) (g := g) hg hs hd _) kk
theorem Adv.ldB (A : Adv p e below D) (X : Stand p l e R s m args below meth c T locs cells slots) (hx : p.tables.exec = Jvm.exec) (hZ : Z.Warmed39 s.vm) (eT : T.heap = h) (F : ArI Z h a .byte n f) {j : Int32} {k : Nat} (hk : j.toInt = k) (hkn : k < n) {g : JFrame} (hg : g.method = m) {rest : List Value} (hs : g.stack = .int j :: .ref a :: rest) (hd : decode c.code g.pc = .ok (.baload, 1))
    (kk : D (T.setTop { g with pc := g.pc + 1, stack := .int (f k) :: rest })) : D (T.setTop g) := by
  obtain ⟨-, cl, Ar, r, H⟩ := F
  exact A (X.baloadBytes hx (j := j) (v := .int (f k)) (by rw [eT]; exact Ar.1) (State.isArrayOf_alike hZ.alike Ar.2.1) Ar.2.2 (inb hk hkn r) (by rw [to_nat hk]; exact H k hkn) (g := g) hg hs hd _) kk
theorem Adv.ldJ (A : Adv p e below D) (X : Stand p l e R s m args below meth c T locs cells slots) (hx : p.tables.exec = Jvm.exec) (hZ : Z.Warmed39 s.vm) (eT : T.heap = h) (F : ArJ Z h a n fJ) {j : Int32} {k : Nat} (hk : j.toInt = k) (hkn : k < n) {g : JFrame} (hg : g.method = m) {rest : List Value} (hs : g.stack = .int j :: .ref a :: rest) (hd : decode c.code g.pc = .ok (.laload, 1))
    (kk : D (T.setTop { g with pc := g.pc + 1, stack := .long (fJ k) :: rest })) : D (T.setTop g) := by
  obtain ⟨-, cl, Ar, r, H⟩ := F
  exact A (X.laload hx (j := j) (v := .long (fJ k)) (by rw [eT]; exact Ar.1) (State.isArrayOf_alike hZ.alike Ar.2.1) Ar.2.2 (inb hk hkn r) (by rw [to_nat hk]; exact H k hkn) (g := g) hg hs hd _) kk
theorem len32 {cl : Cell} (z : n < 2147483648) (r : cl.slots.size = n) : cl.slots.size.toInt32 = Int32.ofNat n   := by rw [r]
theorem Adv.lenI (A : Adv p e below D) (X : Stand p l e R s m args below meth c T locs cells slots) (hx : p.tables.exec = Jvm.exec) (hZ : Z.Warmed39 s.vm) (eT : T.heap = h) (F : ArI Z h a ty n f) {g : JFrame} (hg : g.method = m) {rest : List Value} (hs : g.stack = .ref a :: rest) (hd : decode c.code g.pc = .ok (.arraylength, 1))
    (kk : D (T.setTop { g with pc := g.pc + 1, stack := .int (Int32.ofNat n) :: rest })) : D (T.setTop g) := by
  obtain ⟨z, cl, Ar, r, H⟩ := F
  rw [← len32 z r] at kk
  exact A (X.arraylength hx (by rw [eT]; exact Ar.1) (State.isArrayOf_alike hZ.alike Ar.2.1) (g := g) hg hs hd _) kk
theorem Adv.lenJ (A : Adv p e below D) (X : Stand p l e R s m args below meth c T locs cells slots) (hx : p.tables.exec = Jvm.exec) (hZ : Z.Warmed39 s.vm) (eT : T.heap = h) (F : ArJ Z h a n fJ) {g : JFrame} (hg : g.method = m) {rest : List Value} (hs : g.stack = .ref a :: rest) (hd : decode c.code g.pc = .ok (.arraylength, 1))
    (kk : D (T.setTop { g with pc := g.pc + 1, stack := .int (Int32.ofNat n) :: rest })) : D (T.setTop g) := by
  obtain ⟨z, cl, Ar, r, H⟩ := F
  rw [← len32 z r] at kk
  exact A (X.arraylength hx (by rw [eT]; exact Ar.1) (State.isArrayOf_alike hZ.alike Ar.2.1) (g := g) hg hs hd _) kk
theorem Adv.stI (A : Adv p e below D) (X : Stand p l e R s m args below meth c T locs cells slots) (hx : p.tables.exec = Jvm.exec) (hZ : Z.Warmed39 s.vm) (eT : T.heap = h) (F : ArI Z h a .int n f) {j x : Int32} {k : Nat} (hk : j.toInt = k) (hkn : k < n) {g : JFrame} (hg : g.method = m) {rest : List Value} (hs : g.stack = .int x :: .int j :: .ref a :: rest) (hd : decode c.code g.pc = .ok (.iastore, 1))
    (kk : ∀ T' h', Stand p l e R s m args below meth c T' (locs ++ [⟨a, k⟩]) cells slots → T'.heap = h' → Wr h h' a k (.int x) → ArI Z h' a .int n (fun i => if i = k then x else f i) → D (T'.setTop { g with pc := g.pc + 1, stack := rest })) : D (T.setTop g) := by
  obtain ⟨cl, Ar, r, H⟩ := F.2
  obtain ⟨T', h', X', e', W, st⟩ := Jvm.RoadKit.stI X hx hZ eT Ar (j := j) (x := x) (inb hk hkn r) hg hs hd
  rw [to_nat hk] at X' W
  exact A (fun q => st _ q) (kk T' h' X' e' W (F.set W hkn))
theorem Adv.stB (A : Adv p e below D) (X : Stand p l e R s m args below meth c T locs cells slots) (hx : p.tables.exec = Jvm.exec) (hZ : Z.Warmed39 s.vm) (eT : T.heap = h) (F : ArI Z h a .byte n f) {j x : Int32} {k : Nat} (hk : j.toInt = k) (hkn : k < n) {g : JFrame} (hg : g.method = m) {rest : List Value} (hs : g.stack = .int x :: .int j :: .ref a :: rest) (hd : decode c.code g.pc = .ok (.bastore, 1))
    (kk : ∀ T' h', Stand p l e R s m args below meth c T' (locs ++ [⟨a, k⟩]) cells slots → T'.heap = h' → Wr h h' a k (.int x.toInt8.toInt32) → ArI Z h' a .byte n (fun i => if i = k then x.toInt8.toInt32 else f i) → D (T'.setTop { g with pc := g.pc + 1, stack := rest })) : D (T.setTop g) := by
  obtain ⟨cl, Ar, r, H⟩ := F.2
  obtain ⟨T', h', X', e', W, st⟩ := Jvm.RoadKit.stB X hx hZ eT Ar (j := j) (x := x) (inb hk hkn r) hg hs hd
  rw [to_nat hk] at X' W
  exact A (fun q => st _ q) (kk T' h' X' e' W (F.set W hkn))
theorem Adv.stJ (A : Adv p e below D) (X : Stand p l e R s m args below meth c T locs cells slots) (hx : p.tables.exec = Jvm.exec) (hZ : Z.Warmed39 s.vm) (eT : T.heap = h) (F : ArJ Z h a n fJ) {j : Int32} {x : Int64} {k : Nat} (hk : j.toInt = k) (hkn : k < n) {g : JFrame} (hg : g.method = m) {rest : List Value} (hs : g.stack = .long x :: .int j :: .ref a :: rest) (hd : decode c.code g.pc = .ok (.lastore, 1))
    (kk : ∀ T' h', Stand p l e R s m args below meth c T' (locs ++ [⟨a, k⟩]) cells slots → T'.heap = h' → Wr h h' a k (.long x) → ArJ Z h' a n (fun i => if i = k then x else fJ i) → D (T'.setTop { g with pc := g.pc + 1, stack := rest })) : D (T.setTop g) := by
  obtain ⟨cl, Ar, r, H⟩ := F.2
  obtain ⟨T', h', X', e', W, st⟩ := Jvm.RoadKit.stJ X hx hZ eT Ar (j := j) (x := x) (inb hk hkn r) hg hs hd
  rw [to_nat hk] at X' W
  exact A (fun q => st _ q) (kk T' h' X' e' W (F.set W hkn))
theorem Adv.newI (A : Adv p e below D) (X : Stand p l e R s m args below meth c T locs cells slots) (hx : p.tables.exec = Jvm.exec) (hZ : Z.Warmed39 s.vm) {aty : ArrayType} (w : (Cond.arrayClass (newarray.typeOf aty)).before a0 Z = true) (eT : T.heap = h) {z : Int32} (hz : z.toInt = n) (cap : Nat) (hcap : n ≤ cap) (hb : cap * 8 ≤ 536870912) (hdv : defaultValue (newarray.typeOf aty) = .int 0) {ad : String} (had : "[" ++ (newarray.typeOf aty).toString = ad) (hc : cells + 1 ≤ R.cells) (hl : slots + cap ≤ R.slots) {g : JFrame} (hg : g.method = m) {rest : List Value} (hs : g.stack = .int z :: rest) (hd : decode c.code g.pc = .ok (.newarray aty, 2))
    (kk : ∀ T' h' a, a = h.size → Stand p l e R s m args below meth c T' locs (cells + 1) (slots + cap) → T'.heap = h' → Ext h h' → ArI Z h' a (newarray.typeOf aty) n (fun _ => 0) → Exa Z h' a ad → D (T'.setTop { g with pc := g.pc + 2, stack := .ref a :: rest })) : D (T.setTop g) := by
  have q0 : ¬ z < 0 := by rw [Int32.lt_iff_toInt_lt, hz, show (0 : Int32).toInt = 0 from rfl]; omega
  obtain ⟨T', h', k, X', e', E, Ar, Ex, st⟩ := newPE X hx hZ w eT hg hd hs q0 (cap := cap) (by rw [to_nat hz]; exact hcap) hb hc hl had
  exact A (fun q => st _ q) (kk T' h' _ rfl X' e' E (ArI.mk Ar hz hdv) Ex)
theorem Adv.newJ (A : Adv p e below D) (X : Stand p l e R s m args below meth c T locs cells slots) (hx : p.tables.exec = Jvm.exec) (hZ : Z.Warmed39 s.vm) (w : (Cond.arrayClass .long).before a0 Z = true) (eT : T.heap = h) {z : Int32} (hz : z.toInt = n) (cap : Nat) (hcap : n ≤ cap) (hb : cap * 8 ≤ 536870912) (hc : cells + 1 ≤ R.cells) (hl : slots + cap ≤ R.slots) {g : JFrame} (hg : g.method = m) {rest : List Value} (hs : g.stack = .int z :: rest) (hd : decode c.code g.pc = .ok (.newarray .long, 2))
    (kk : ∀ T' h' a, a = h.size → Stand p l e R s m args below meth c T' locs (cells + 1) (slots + cap) → T'.heap = h' → Ext h h' → ArJ Z h' a n (fun _ => 0) → D (T'.setTop { g with pc := g.pc + 2, stack := .ref a :: rest })) : D (T.setTop g) := by
  have q0 : ¬ z < 0 := by rw [Int32.lt_iff_toInt_lt, hz, show (0 : Int32).toInt = 0 from rfl]; omega
  obtain ⟨T', h', k, X', e', E, Ar, st⟩   := newP (aty := .long) X hx hZ w eT hg hd hs q0 (cap := cap) (by rw [to_nat hz]; exact hcap) hb hc hl
  exact A (fun q => st _ q) (kk T' h' _ rfl X' e' E (ArJ.mk Ar hz))
theorem Adv.cloneI (A : Adv p e below D) (X : Stand p l e R s m args below meth c T locs cells slots) (hx : p.tables.exec = Jvm.exec) (hZ : Z.Warmed39 s.vm) {own ad : String} {index : Nat} (hown : s.vm.findClass own = some m.cls)
    (w1 : (Cond.methodLink own index ⟨ad, "clone", "()Ljava/lang/Object;"⟩).before a0 Z = true) (w2 : (Cond.sameMethod ad "java/lang/Object" "clone" "()Ljava/lang/Object;").before a0 Z = true) (w3 : (Cond.native ⟨"java/lang/Object", "clone", "()Ljava/lang/Object;"⟩).before a0 Z = true)
    (w4 : (Cond.instanceMethod ⟨"java/lang/Object", "clone", "()Ljava/lang/Object;"⟩).before a0 Z = true) (w5 : (Cond.selects ad ⟨ad, "clone", "()Ljava/lang/Object;"⟩ ⟨"java/lang/Object", "clone", "()Ljava/lang/Object;"⟩).before a0 Z = true) (w6 : (Cond.castable ad "java/lang/Cloneable").before a0 Z = true)
    (eT : T.heap = h) (F : ArI Z h a ty n f) (hfit : ∀ i, i < n → fits ty (.int (f i)) = true) (E : Exa Z h a ad) (W cap : Nat) (hcap : n ≤ cap) {g : JFrame} (hg : g.method = m) (hsz : g.locals.size = c.maxLocals) {rest : List Value} (hs : g.stack = .ref a :: rest) (hd : decode c.code g.pc = .ok (.invokevirtual index, 3))
    (hW : 2 * g.monitorRoom + (rest.map fun v => v.category).sum ≤ W) (hf : 1 ≤ R.frames) (hl : W + 14 ≤ R.locals) (hc : cells + 1 ≤ R.cells) (hsl : slots + cap ≤ R.slots)
    (kk : ∀ T' h' b, b = h.size → Stand p l e R s m args below meth c T' locs (cells + 1) (slots + cap) → T'.heap = h' → Ext h h' → ArI Z h' b ty n f → Exa Z h' b ad → D (T'.setTop { g with pc := g.pc + 3, stack := .ref b :: rest })) : D (T.setTop g) := by
  obtain ⟨z, cl, Ar, r, H⟩ := F
  have FC : FitC Z cl := fitC_of Ar fun i hi v hv => by rw [H i (by omega)] at hv; cases hv; exact hfit i (by omega)
  obtain ⟨T', h', X', e', Ex, Ar', E', st⟩ := cloneA X hx hZ hown w1 w2 w3 w4 w5 w6 eT Ar E FC hg hsz hs hd hf hW hl (by rw [r]; exact hcap) hc hsl
  exact A (fun q => st _ q) (kk T' h' _ rfl X' e' Ex ⟨z, _, Ar', r, H⟩ E')
end Arrays
end Jvm.JW
namespace Jvm.Pilot.@@N@@
open Jvm Jvm.ClassFile Sem Op Lib Jvm.Free Jvm.Stand Jvm.LawKit Jvm.RoadKit Bundle Jvm.JW Jvm.Pilot.@@N@@.Jvm.D
theorem d1_0 : decode prog_5_method_3_code 0 = .ok (.iload_n 1, 1) := by decide +kernel
theorem d1_1 : decode prog_5_method_3_code 1 = .ok (.ifCond .le 12, 3) := by decide +kernel
theorem d1_4 : decode prog_5_method_3_code 4 = .ok (.iload_n 0, 1) := by decide +kernel
theorem d1_5 : decode prog_5_method_3_code 5 = .ok (.iload_n 1, 1) := by decide +kernel
theorem d1_6 : decode prog_5_method_3_code 6 = .ok (.if_icmp .lt 7, 3) := by decide +kernel
theorem d1_9 : decode prog_5_method_3_code 9 = .ok (.iconst 1, 1) := by decide +kernel
theorem d1_10 : decode prog_5_method_3_code 10 = .ok (.goto 4, 3) := by decide +kernel
theorem d1_13 : decode prog_5_method_3_code 13 = .ok (.iconst 0, 1) := by decide +kernel
theorem d1_14 : decode prog_5_method_3_code 14 = .ok (.ireturn, 1) := by decide +kernel
theorem pn1 : plainFor (⟨"com/example/evenkeel/evenkeel/CallTracker", "atLimit", "(II)Z"⟩ : MethodName) = true := by decide +kernel
theorem ef1 (p1 : Int32) (p2 : Int32) (m : MethodId) : entryFrame m #[(.int p1), (.int p2)] 2 = mkF m 0 #[.val (.int p1), .val (.int p2)] [] := by first | (simp [entryFrame, mkF, argsToLocals, Value.category]; done) | rfl
def f1 (p1 : Int32) (p2 : Int32) : Int32 := if (0 : Int32) < p2 then (if p1 < p2 then ((0 : Int32)) else ((1 : Int32))) else ((0 : Int32))
set_option maxRecDepth 65536 in
set_option maxHeartbeats 40000000 in
theorem rm1 (l : Launch) (Z : State) (a0 : Array Value) (hw : ∀ d ∈ tables_1, d.before a0 Z = true) (ws : List Jvm.Cond) (p1 : Int32) (p2 : Int32) (h0 : Heap) (n0 : Nat) :
    JMet l Z (⟨"com/example/evenkeel/evenkeel/CallTracker", "atLimit", "(II)Z"⟩ : MethodName) prog_5_method_3_code 2 (some .boolean) ws ({ frames := 0, cells := 0, slots := 0, locals := 0 } : Room) #[(.int p1), (.int p2)] h0 (QP (.int (f1 p1 p2)) h0 n0) := by
  refine Jvm.JW.body #[.val (.int p1), .val (.int p2)] pn1 (ef1 p1 p2) ?_
  intro p e s m below meth c T0 D A F X0 hx hZ hby hml hown hnm hrt hlk e0
  refine A (XS.iloadN X0.here hx rfl (hb hby d1_0) rfl) ?_
  show D (T0.setTop (mkF m 1 #[.val (.int p1), .val (.int p2)] [(.int p2)]))
  by_cases c1_1 : (0 : Int32) < p2
  · refine A (XS.ifNo X0.here hx rfl (hb hby d1_1) rfl ((if0 _ _).trans (tlt c1_1).2.2.2)) ?_
    show D (T0.setTop (mkF m 4 #[.val (.int p1), .val (.int p2)] []))
    refine A (XS.iloadN X0.here hx rfl (hb hby d1_4) rfl) ?_
    show D (T0.setTop (mkF m 5 #[.val (.int p1), .val (.int p2)] [(.int p1)]))
    refine A (XS.iloadN X0.here hx rfl (hb hby d1_5) rfl) ?_
    show D (T0.setTop (mkF m 6 #[.val (.int p1), .val (.int p2)] [(.int p2), (.int p1)]))
    by_cases c6_2 : p1 < p2
    · refine A (XS.icmpYes X0.here hx rfl (pc0 := 6) (pc' := 13) rfl (hb hby d1_6) rfl (tlt c6_2).1 (by decide) (by decide)) ?_
      show D (T0.setTop (mkF m 13 #[.val (.int p1), .val (.int p2)] []))
      refine A (XS.iconst X0.here hx rfl (hb hby d1_13)) ?_
      show D (T0.setTop (mkF m 14 #[.val (.int p1), .val (.int p2)] [(.int (0 : Int32))]))
      refine F _ (Jvm.JW.ret X0 hlk (v := some (.int (0 : Int32))) (fun h => by rw [hrt] at h; cases h) (fun fs hr => retOut X0 hx hrt rfl (Or.inl ⟨rfl, Or.inr (Or.inl rfl), _, rfl⟩) (hb hby d1_14) hr) rfl ?_ (by decide) (by decide))
      exact ⟨congrArg (fun z => some (Value.int z)) (by exact ((if_pos c1_1).trans (if_pos c6_2)).symm), (Fr.nil n0), e0⟩
    · refine A (XS.icmpNo X0.here hx rfl (hb hby d1_6) rfl (flt c6_2).1) ?_
      show D (T0.setTop (mkF m 9 #[.val (.int p1), .val (.int p2)] []))
      refine A (XS.iconst X0.here hx rfl (hb hby d1_9)) ?_
      show D (T0.setTop (mkF m 10 #[.val (.int p1), .val (.int p2)] [(.int (1 : Int32))]))
      refine A (XS.goto X0.here hx rfl (pc0 := 10) (pc' := 14) rfl (hb hby d1_10) (by decide) (by decide)) ?_
      show D (T0.setTop (mkF m 14 #[.val (.int p1), .val (.int p2)] [(.int (1 : Int32))]))
      refine F _ (Jvm.JW.ret X0 hlk (v := some (.int (1 : Int32))) (fun h => by rw [hrt] at h; cases h) (fun fs hr => retOut X0 hx hrt rfl (Or.inl ⟨rfl, Or.inr (Or.inl rfl), _, rfl⟩) (hb hby d1_14) hr) rfl ?_ (by decide) (by decide))
      exact ⟨congrArg (fun z => some (Value.int z)) (by exact ((if_pos c1_1).trans (if_neg c6_2)).symm), (Fr.nil n0), e0⟩
  · refine A (XS.ifYes X0.here hx rfl (pc0 := 1) (pc' := 13) rfl (hb hby d1_1) rfl ((if0 _ _).trans (flt c1_1).2.2.2) (by decide) (by decide)) ?_
    show D (T0.setTop (mkF m 13 #[.val (.int p1), .val (.int p2)] []))
    refine A (XS.iconst X0.here hx rfl (hb hby d1_13)) ?_
    show D (T0.setTop (mkF m 14 #[.val (.int p1), .val (.int p2)] [(.int (0 : Int32))]))
    refine F _ (Jvm.JW.ret X0 hlk (v := some (.int (0 : Int32))) (fun h => by rw [hrt] at h; cases h) (fun fs hr => retOut X0 hx hrt rfl (Or.inl ⟨rfl, Or.inr (Or.inl rfl), _, rfl⟩) (hb hby d1_14) hr) rfl ?_ (by decide) (by decide))
    exact ⟨congrArg (fun z => some (Value.int z)) (by exact (if_neg c1_1).symm), (Fr.nil n0), e0⟩
theorem own_lim {k l v : Int32} (h : v = (if (k &&& (1 : Int32)) = (0 : Int32) then (l &&& (2147483647 : Int32)) else (0 : Int32))) : 0 ≤ v.toInt := by
  have h1 := c_mask l 2147483647 31 (by decide) (by decide)
  rw [h]
  split
  · omega
  · decide
theorem own_pos {v : Int32} (h0 : 0 ≤ v.toInt) (h : ¬ v = 0) : (0 : Int32) < v := by
  rw [← Int32.toInt_inj] at h
  rw [Int32.lt_iff_toInt_lt]
  have : (0 : Int32).toInt = 0 := rfl
  omega
theorem own_dec {v : Int32} (h : (0 : Int32) < v) : v - 1 < v := by
  rw [Int32.lt_iff_toInt_lt] at h ⊢
  have h2 := c_isub v 1
  have h3 := rng32 (v - 1)
  have h4 := rng32 v
  have : (0 : Int32).toInt = 0 := rfl
  have : (1 : Int32).toInt = 1 := rfl
  omega
theorem own_z (x : Int32) : f1 x 0 = 0 := by unfold f1; rw [if_neg (by decide)]
theorem own_1 (x : Int32) {v : Int32} (h : (0 : Int32) < v) : f1 x v = (if x < v then (0 : Int32) else (1 : Int32)) := by unfold f1; rw [if_pos h]
theorem own_2 {v : Int32} (h : (0 : Int32) < v) : f1 v v = 1 := by rw [own_1 _ h, if_neg (by rw [Int32.lt_iff_toInt_lt]; omega)]
theorem own_3 {v : Int32} (h : (0 : Int32) < v) : f1 (v - 1) v = 0 := by rw [own_1 _ h, if_pos (own_dec h)]
theorem pn0 : plainFor x = true := by decide +kernel
theorem pd0_0 : parseMethodDescriptor "(II)Z" = some ⟨[.int, .int], some .boolean⟩ := by decide +kernel
theorem ef0 (p1 : Int32) (p2 : Int32) (p3 : Int32) (m : MethodId) : entryFrame m #[(.int p1), (.int p2), (.int p3)] maxLocals = mkF m 0 #[.val (.int p1), .val (.int p2), .val (.int p3), .unset, .unset, .unset, .unset, .unset, .unset] [] := by first | (simp [entryFrame, mkF, argsToLocals, Value.category, maxLocals]; done) | rfl
set_option maxRecDepth 65536 in
set_option maxHeartbeats 40000000 in
theorem rm0 (l : Launch) (Z : State) (a0 : Array Value) (hw : ∀ d ∈ tables_1, d.before a0 Z = true) (ws : List Jvm.Cond) (p1 : Int32) (p2 : Int32) (p3 : Int32) (h0 : Heap) (n0 : Nat) :
    JMet l Z x code maxLocals ret ws room_1 #[(.int p1), (.int p2), (.int p3)] h0 (QL n0) := by
  refine Jvm.JW.body #[.val (.int p1), .val (.int p2), .val (.int p3), .unset, .unset, .unset, .unset, .unset, .unset] pn0 (ef0 p1 p2 p3) ?_
  intro p e s m below meth c T0 D A F X0 hx hZ hby hml hown hnm hrt hlk e0
  refine A (XS.iloadN X0.here hx rfl (hb hby at_0) rfl) ?_
  show D (T0.setTop (mkF m 1 #[.val (.int p1), .val (.int p2), .val (.int p3), .unset, .unset, .unset, .unset, .unset, .unset] [(.int p1)]))
  refine A (X0.ldcInt hx hown (mvT hZ (hw _ (List.mem_of_getElem? (i := 0) rfl))) (g := (mkF m 1 #[.val (.int p1), .val (.int p2), .val (.int p3), .unset, .unset, .unset, .unset, .unset, .unset] [(.int p1)])) rfl (hb hby at_1) _) ?_
  show D (T0.setTop (mkF m 3 #[.val (.int p1), .val (.int p2), .val (.int p3), .unset, .unset, .unset, .unset, .unset, .unset] [(.int (2147483647 : Int32)), (.int p1)]))
  refine A (XS.iand X0.here hx rfl (hb hby at_3) rfl) ?_
  show D (T0.setTop (mkF m 4 #[.val (.int p1), .val (.int p2), .val (.int p3), .unset, .unset, .unset, .unset, .unset, .unset] [(.int (p1 &&& (2147483647 : Int32)))]))
  refine A (XS.istoreN X0.here hx rfl (hb hby at_4) rfl (l' := #[.val (.int p1), .val (.int p2), .val (.int p3), .val (.int (p1 &&& (2147483647 : Int32))), .unset, .unset, .unset, .unset, .unset]) rfl) ?_
  show D (T0.setTop (mkF m 5 #[.val (.int p1), .val (.int p2), .val (.int p3), .val (.int (p1 &&& (2147483647 : Int32))), .unset, .unset, .unset, .unset, .unset] []))
  suffices Kx3_5 : ∀ x3_5 : Int32, x3_5 = (p1 &&& (2147483647 : Int32)) → D (T0.setTop (mkF m 5 #[.val (.int p1), .val (.int p2), .val (.int p3), .val (.int x3_5), .unset, .unset, .unset, .unset, .unset] [])) from Kx3_5 _ rfl
  intro x3_5 hx3_5
  refine A (XS.iloadN X0.here hx rfl (hb hby at_5) rfl) ?_
  show D (T0.setTop (mkF m 6 #[.val (.int p1), .val (.int p2), .val (.int p3), .val (.int x3_5), .unset, .unset, .unset, .unset, .unset] [(.int p3)]))
  refine A (XS.iconst X0.here hx rfl (hb hby at_6)) ?_
  show D (T0.setTop (mkF m 7 #[.val (.int p1), .val (.int p2), .val (.int p3), .val (.int x3_5), .unset, .unset, .unset, .unset, .unset] [(.int (1 : Int32)), (.int p3)]))
  refine A (XS.iand X0.here hx rfl (hb hby at_7) rfl) ?_
  show D (T0.setTop (mkF m 8 #[.val (.int p1), .val (.int p2), .val (.int p3), .val (.int x3_5), .unset, .unset, .unset, .unset, .unset] [(.int (p3 &&& (1 : Int32)))]))
  suffices Km19_1 : ∀ (v19s0 : Int32), v19s0 = (if (p3 &&& (1 : Int32)) = (0 : Int32) then (p2 &&& (2147483647 : Int32)) else (0 : Int32)) → D (T0.setTop (mkF m 19 #[.val (.int p1), .val (.int p2), .val (.int p3), .val (.int x3_5), .unset, .unset, .unset, .unset, .unset] [(.int v19s0)])) by
    by_cases c8_0 : (p3 &&& (1 : Int32)) = (0 : Int32)
    · refine A (XS.ifYes X0.here hx rfl (pc0 := 8) (pc' := 15) rfl (hb hby at_8) rfl ((if0 _ _).trans (teq c8_0).1) (by decide) (by decide)) ?_
      show D (T0.setTop (mkF m 15 #[.val (.int p1), .val (.int p2), .val (.int p3), .val (.int x3_5), .unset, .unset, .unset, .unset, .unset] []))
      refine A (XS.iloadN X0.here hx rfl (hb hby at_15) rfl) ?_
      show D (T0.setTop (mkF m 16 #[.val (.int p1), .val (.int p2), .val (.int p3), .val (.int x3_5), .unset, .unset, .unset, .unset, .unset] [(.int p2)]))
      refine A (X0.ldcInt hx hown (mvT hZ (hw _ (List.mem_of_getElem? (i := 0) rfl))) (g := (mkF m 16 #[.val (.int p1), .val (.int p2), .val (.int p3), .val (.int x3_5), .unset, .unset, .unset, .unset, .unset] [(.int p2)])) rfl (hb hby at_16) _) ?_
      show D (T0.setTop (mkF m 18 #[.val (.int p1), .val (.int p2), .val (.int p3), .val (.int x3_5), .unset, .unset, .unset, .unset, .unset] [(.int (2147483647 : Int32)), (.int p2)]))
      refine A (XS.iand X0.here hx rfl (hb hby at_18) rfl) ?_
      show D (T0.setTop (mkF m 19 #[.val (.int p1), .val (.int p2), .val (.int p3), .val (.int x3_5), .unset, .unset, .unset, .unset, .unset] [(.int (p2 &&& (2147483647 : Int32)))]))
      exact Km19_1 _ ((if_pos c8_0)).symm
    · refine A (XS.ifNo X0.here hx rfl (hb hby at_8) rfl ((if0 _ _).trans (feq c8_0).1)) ?_
      show D (T0.setTop (mkF m 11 #[.val (.int p1), .val (.int p2), .val (.int p3), .val (.int x3_5), .unset, .unset, .unset, .unset, .unset] []))
      refine A (XS.iconst X0.here hx rfl (hb hby at_11)) ?_
      show D (T0.setTop (mkF m 12 #[.val (.int p1), .val (.int p2), .val (.int p3), .val (.int x3_5), .unset, .unset, .unset, .unset, .unset] [(.int (0 : Int32))]))
      refine A (XS.goto X0.here hx rfl (pc0 := 12) (pc' := 19) rfl (hb hby at_12) (by decide) (by decide)) ?_
      show D (T0.setTop (mkF m 19 #[.val (.int p1), .val (.int p2), .val (.int p3), .val (.int x3_5), .unset, .unset, .unset, .unset, .unset] [(.int (0 : Int32))]))
      exact Km19_1 _ ((if_neg c8_0)).symm
  intro v19s0 hv19s0
  show D (T0.setTop (mkF m 19 #[.val (.int p1), .val (.int p2), .val (.int p3), .val (.int x3_5), .unset, .unset, .unset, .unset, .unset] [(.int v19s0)]))
  refine A (XS.istore X0.here hx rfl (hb hby at_19) rfl (l' := #[.val (.int p1), .val (.int p2), .val (.int p3), .val (.int x3_5), .val (.int v19s0), .unset, .unset, .unset, .unset]) rfl) ?_
  show D (T0.setTop (mkF m 21 #[.val (.int p1), .val (.int p2), .val (.int p3), .val (.int x3_5), .val (.int v19s0), .unset, .unset, .unset, .unset] []))
  refine A (XS.iloadN X0.here hx rfl (hb hby at_21) rfl) ?_
  show D (T0.setTop (mkF m 22 #[.val (.int p1), .val (.int p2), .val (.int p3), .val (.int x3_5), .val (.int v19s0), .unset, .unset, .unset, .unset] [(.int x3_5)]))
  refine A (XS.iload X0.here hx rfl (hb hby at_22) rfl) ?_
  show D (T0.setTop (mkF m 24 #[.val (.int p1), .val (.int p2), .val (.int p3), .val (.int x3_5), .val (.int v19s0), .unset, .unset, .unset, .unset] [(.int v19s0), (.int x3_5)]))
  refine Adv.callS A X0 hx hZ hown (hw _ (List.mem_of_getElem? (i := 1) rfl)) (hw _ (List.mem_of_getElem? (i := 2) rfl)) (hw _ (List.mem_of_getElem? (i := 3) rfl)) (hw _ (List.mem_of_getElem? (i := 4) rfl)) e0 (rm1 l Z a0 hw [] x3_5 v19s0 h0 n0) 0 (g := (mkF m 24 #[.val (.int p1), .val (.int p2), .val (.int p3), .val (.int x3_5), .val (.int v19s0), .unset, .unset, .unset, .unset] [(.int v19s0), (.int x3_5)])) rfl (by rw [hml]; rfl) [(.int x3_5), (.int v19s0)] [] rfl (lenOf pd0_0 rfl) rfl (by show 2 * 0 + _ ≤ _; exact Nat.le_of_eq rfl) (hb hby at_24) (by decide) (by decide) (by decide) (by decide) (by decide) ?_
  rintro T2 L2 _ X2 ⟨rfl, N2q, e2⟩
  have N2 := Fr.app (Fr.nil n0) N2q
  show D (T2.setTop (mkF m 27 #[.val (.int p1), .val (.int p2), .val (.int p3), .val (.int x3_5), .val (.int v19s0), .unset, .unset, .unset, .unset] [(.int (f1 x3_5 v19s0))]))
  refine A (XS.istore X2.here hx rfl (hb hby at_27) rfl (l' := #[.val (.int p1), .val (.int p2), .val (.int p3), .val (.int x3_5), .val (.int v19s0), .val (.int (f1 x3_5 v19s0)), .unset, .unset, .unset]) rfl) ?_
  show D (T2.setTop (mkF m 29 #[.val (.int p1), .val (.int p2), .val (.int p3), .val (.int x3_5), .val (.int v19s0), .val (.int (f1 x3_5 v19s0)), .unset, .unset, .unset] []))
  refine A (XS.iload X2.here hx rfl (hb hby at_29) rfl) ?_
  show D (T2.setTop (mkF m 31 #[.val (.int p1), .val (.int p2), .val (.int p3), .val (.int x3_5), .val (.int v19s0), .val (.int (f1 x3_5 v19s0)), .unset, .unset, .unset] [(.int v19s0)]))
  by_cases c31_3 : v19s0 = (0 : Int32)
  · refine A (XS.ifNo X2.here hx rfl (hb hby at_31) rfl ((if0 _ _).trans (teq c31_3).2)) ?_
    show D (T2.setTop (mkF m 34 #[.val (.int p1), .val (.int p2), .val (.int p3), .val (.int x3_5), .val (.int v19s0), .val (.int (f1 x3_5 v19s0)), .unset, .unset, .unset] []))
    refine A (XS.iload X2.here hx rfl (hb hby at_34) rfl) ?_
    show D (T2.setTop (mkF m 36 #[.val (.int p1), .val (.int p2), .val (.int p3), .val (.int x3_5), .val (.int v19s0), .val (.int (f1 x3_5 v19s0)), .unset, .unset, .unset] [(.int (f1 x3_5 v19s0))]))
    by_cases c36_4 : (f1 x3_5 v19s0) = (0 : Int32)
    · refine A (XS.ifNo X2.here hx rfl (hb hby at_36) rfl ((if0 _ _).trans (teq c36_4).2)) ?_
      show D (T2.setTop (mkF m 39 #[.val (.int p1), .val (.int p2), .val (.int p3), .val (.int x3_5), .val (.int v19s0), .val (.int (f1 x3_5 v19s0)), .unset, .unset, .unset] []))
      refine A (XS.iconst X2.here hx rfl (hb hby at_39)) ?_
      show D (T2.setTop (mkF m 40 #[.val (.int p1), .val (.int p2), .val (.int p3), .val (.int x3_5), .val (.int v19s0), .val (.int (f1 x3_5 v19s0)), .unset, .unset, .unset] [(.int (0 : Int32))]))
      refine A (XS.iconst X2.here hx rfl (hb hby at_40)) ?_
      show D (T2.setTop (mkF m 41 #[.val (.int p1), .val (.int p2), .val (.int p3), .val (.int x3_5), .val (.int v19s0), .val (.int (f1 x3_5 v19s0)), .unset, .unset, .unset] [(.int (0 : Int32)), (.int (0 : Int32))]))
      refine Adv.callS A X2 hx hZ hown (hw _ (List.mem_of_getElem? (i := 1) rfl)) (hw _ (List.mem_of_getElem? (i := 2) rfl)) (hw _ (List.mem_of_getElem? (i := 3) rfl)) (hw _ (List.mem_of_getElem? (i := 4) rfl)) e2 (rm1 l Z a0 hw [] (0 : Int32) (0 : Int32) h0 n0) 0 (g := (mkF m 41 #[.val (.int p1), .val (.int p2), .val (.int p3), .val (.int x3_5), .val (.int v19s0), .val (.int (f1 x3_5 v19s0)), .unset, .unset, .unset] [(.int (0 : Int32)), (.int (0 : Int32))])) rfl (by rw [hml]; rfl) [(.int (0 : Int32)), (.int (0 : Int32))] [] rfl (lenOf pd0_0 rfl) rfl (by show 2 * 0 + _ ≤ _; exact Nat.le_of_eq rfl) (hb hby at_41) (by decide) (by decide) (by decide) (by decide) (by decide) ?_
      rintro T5 L5 _ X5 ⟨rfl, N5q, e5⟩
      have N5 := Fr.app N2 N5q
      show D (T5.setTop (mkF m 44 #[.val (.int p1), .val (.int p2), .val (.int p3), .val (.int x3_5), .val (.int v19s0), .val (.int (f1 x3_5 v19s0)), .unset, .unset, .unset] [(.int (f1 (0 : Int32) (0 : Int32)))]))
      by_cases c44_6 : (f1 (0 : Int32) (0 : Int32)) = (0 : Int32)
      · refine A (XS.ifNo X5.here hx rfl (hb hby at_44) rfl ((if0 _ _).trans (teq c44_6).2)) ?_
        show D (T5.setTop (mkF m 47 #[.val (.int p1), .val (.int p2), .val (.int p3), .val (.int x3_5), .val (.int v19s0), .val (.int (f1 x3_5 v19s0)), .unset, .unset, .unset] []))
        refine A (X5.ldcInt hx hown (mvT hZ (hw _ (List.mem_of_getElem? (i := 0) rfl))) (g := (mkF m 47 #[.val (.int p1), .val (.int p2), .val (.int p3), .val (.int x3_5), .val (.int v19s0), .val (.int (f1 x3_5 v19s0)), .unset, .unset, .unset] [])) rfl (hb hby at_47) _) ?_
        show D (T5.setTop (mkF m 49 #[.val (.int p1), .val (.int p2), .val (.int p3), .val (.int x3_5), .val (.int v19s0), .val (.int (f1 x3_5 v19s0)), .unset, .unset, .unset] [(.int (2147483647 : Int32))]))
        refine A (XS.iconst X5.here hx rfl (hb hby at_49)) ?_
        show D (T5.setTop (mkF m 50 #[.val (.int p1), .val (.int p2), .val (.int p3), .val (.int x3_5), .val (.int v19s0), .val (.int (f1 x3_5 v19s0)), .unset, .unset, .unset] [(.int (0 : Int32)), (.int (2147483647 : Int32))]))
        refine Adv.callS A X5 hx hZ hown (hw _ (List.mem_of_getElem? (i := 1) rfl)) (hw _ (List.mem_of_getElem? (i := 2) rfl)) (hw _ (List.mem_of_getElem? (i := 3) rfl)) (hw _ (List.mem_of_getElem? (i := 4) rfl)) e5 (rm1 l Z a0 hw [] (2147483647 : Int32) (0 : Int32) h0 n0) 0 (g := (mkF m 50 #[.val (.int p1), .val (.int p2), .val (.int p3), .val (.int x3_5), .val (.int v19s0), .val (.int (f1 x3_5 v19s0)), .unset, .unset, .unset] [(.int (0 : Int32)), (.int (2147483647 : Int32))])) rfl (by rw [hml]; rfl) [(.int (2147483647 : Int32)), (.int (0 : Int32))] [] rfl (lenOf pd0_0 rfl) rfl (by show 2 * 0 + _ ≤ _; exact Nat.le_of_eq rfl) (hb hby at_50) (by decide) (by decide) (by decide) (by decide) (by decide) ?_
        rintro T7 L7 _ X7 ⟨rfl, N7q, e7⟩
        have N7 := Fr.app N5 N7q
        show D (T7.setTop (mkF m 53 #[.val (.int p1), .val (.int p2), .val (.int p3), .val (.int x3_5), .val (.int v19s0), .val (.int (f1 x3_5 v19s0)), .unset, .unset, .unset] [(.int (f1 (2147483647 : Int32) (0 : Int32)))]))
        suffices Km61_8 : ∀ (v61s0 : Int32), v61s0 = (if (f1 (2147483647 : Int32) (0 : Int32)) = (0 : Int32) then (1 : Int32) else (0 : Int32)) → D (T7.setTop (mkF m 61 #[.val (.int p1), .val (.int p2), .val (.int p3), .val (.int x3_5), .val (.int v19s0), .val (.int (f1 x3_5 v19s0)), .unset, .unset, .unset] [(.int v61s0)])) by
          by_cases c53_3 : (f1 (2147483647 : Int32) (0 : Int32)) = (0 : Int32)
          · refine A (XS.ifNo X7.here hx rfl (hb hby at_53) rfl ((if0 _ _).trans (teq c53_3).2)) ?_
            show D (T7.setTop (mkF m 56 #[.val (.int p1), .val (.int p2), .val (.int p3), .val (.int x3_5), .val (.int v19s0), .val (.int (f1 x3_5 v19s0)), .unset, .unset, .unset] []))
            refine A (XS.iconst X7.here hx rfl (hb hby at_56)) ?_
            show D (T7.setTop (mkF m 57 #[.val (.int p1), .val (.int p2), .val (.int p3), .val (.int x3_5), .val (.int v19s0), .val (.int (f1 x3_5 v19s0)), .unset, .unset, .unset] [(.int (1 : Int32))]))
            refine A (XS.goto X7.here hx rfl (pc0 := 57) (pc' := 61) rfl (hb hby at_57) (by decide) (by decide)) ?_
            show D (T7.setTop (mkF m 61 #[.val (.int p1), .val (.int p2), .val (.int p3), .val (.int x3_5), .val (.int v19s0), .val (.int (f1 x3_5 v19s0)), .unset, .unset, .unset] [(.int (1 : Int32))]))
            exact Km61_8 _ ((if_pos c53_3)).symm
          · refine A (XS.ifYes X7.here hx rfl (pc0 := 53) (pc' := 60) rfl (hb hby at_53) rfl ((if0 _ _).trans (feq c53_3).2) (by decide) (by decide)) ?_
            show D (T7.setTop (mkF m 60 #[.val (.int p1), .val (.int p2), .val (.int p3), .val (.int x3_5), .val (.int v19s0), .val (.int (f1 x3_5 v19s0)), .unset, .unset, .unset] []))
            refine A (XS.iconst X7.here hx rfl (hb hby at_60)) ?_
            show D (T7.setTop (mkF m 61 #[.val (.int p1), .val (.int p2), .val (.int p3), .val (.int x3_5), .val (.int v19s0), .val (.int (f1 x3_5 v19s0)), .unset, .unset, .unset] [(.int (0 : Int32))]))
            exact Km61_8 _ ((if_neg c53_3)).symm
        intro v61s0 hv61s0
        show D (T7.setTop (mkF m 61 #[.val (.int p1), .val (.int p2), .val (.int p3), .val (.int x3_5), .val (.int v19s0), .val (.int (f1 x3_5 v19s0)), .unset, .unset, .unset] [(.int v61s0)]))
        obtain rfl : v61s0 = (1 : Int32) := by
          rw [hv61s0, if_pos (own_z _)]
        show D (T7.setTop (mkF m 61 #[.val (.int p1), .val (.int p2), .val (.int p3), .val (.int x3_5), .val (.int v19s0), .val (.int (f1 x3_5 v19s0)), .unset, .unset, .unset] [(.int (1 : Int32))]))
        exact F _ (Jvm.JW.ret X7 hlk (v := some (.int (1 : Int32))) (fun h => by rw [hrt] at h; cases h) (fun fs hr => retOut X7 hx hrt rfl (Or.inl ⟨rfl, Or.inr (Or.inl rfl), _, rfl⟩) (hb hby at_61) hr) rfl ⟨rfl, N7⟩ (by decide) (by decide))
      · refine A (XS.ifYes X5.here hx rfl (pc0 := 44) (pc' := 60) rfl (hb hby at_44) rfl ((if0 _ _).trans (feq c44_6).2) (by decide) (by decide)) ?_
        show D (T5.setTop (mkF m 60 #[.val (.int p1), .val (.int p2), .val (.int p3), .val (.int x3_5), .val (.int v19s0), .val (.int (f1 x3_5 v19s0)), .unset, .unset, .unset] []))
        refine A (XS.iconst X5.here hx rfl (hb hby at_60)) ?_
        show D (T5.setTop (mkF m 61 #[.val (.int p1), .val (.int p2), .val (.int p3), .val (.int x3_5), .val (.int v19s0), .val (.int (f1 x3_5 v19s0)), .unset, .unset, .unset] [(.int (0 : Int32))]))
        exfalso
        first | exact absurd (own_z _) (by assumption) | (rename_i h1 h2; rw [h1] at h2; exact absurd (own_z _) h2) | (subst_vars; simp_all [own_z])
    · refine A (XS.ifYes X2.here hx rfl (pc0 := 36) (pc' := 60) rfl (hb hby at_36) rfl ((if0 _ _).trans (feq c36_4).2) (by decide) (by decide)) ?_
      show D (T2.setTop (mkF m 60 #[.val (.int p1), .val (.int p2), .val (.int p3), .val (.int x3_5), .val (.int v19s0), .val (.int (f1 x3_5 v19s0)), .unset, .unset, .unset] []))
      refine A (XS.iconst X2.here hx rfl (hb hby at_60)) ?_
      show D (T2.setTop (mkF m 61 #[.val (.int p1), .val (.int p2), .val (.int p3), .val (.int x3_5), .val (.int v19s0), .val (.int (f1 x3_5 v19s0)), .unset, .unset, .unset] [(.int (0 : Int32))]))
      exfalso
      first | exact absurd (own_z _) (by assumption) | (rename_i h1 h2; rw [h1] at h2; exact absurd (own_z _) h2) | (subst_vars; simp_all [own_z])
  · refine A (XS.ifYes X2.here hx rfl (pc0 := 31) (pc' := 62) rfl (hb hby at_31) rfl ((if0 _ _).trans (feq c31_3).2) (by decide) (by decide)) ?_
    show D (T2.setTop (mkF m 62 #[.val (.int p1), .val (.int p2), .val (.int p3), .val (.int x3_5), .val (.int v19s0), .val (.int (f1 x3_5 v19s0)), .unset, .unset, .unset] []))
    refine A (XS.iloadN X2.here hx rfl (hb hby at_62) rfl) ?_
    show D (T2.setTop (mkF m 63 #[.val (.int p1), .val (.int p2), .val (.int p3), .val (.int x3_5), .val (.int v19s0), .val (.int (f1 x3_5 v19s0)), .unset, .unset, .unset] [(.int x3_5)]))
    refine A (XS.iload X2.here hx rfl (hb hby at_63) rfl) ?_
    show D (T2.setTop (mkF m 65 #[.val (.int p1), .val (.int p2), .val (.int p3), .val (.int x3_5), .val (.int v19s0), .val (.int (f1 x3_5 v19s0)), .unset, .unset, .unset] [(.int v19s0), (.int x3_5)]))
    suffices Km73_9 : ∀ (v73s0 : Int32), v73s0 = (if x3_5 < v19s0 then (0 : Int32) else (1 : Int32)) → D (T2.setTop (mkF m 73 #[.val (.int p1), .val (.int p2), .val (.int p3), .val (.int x3_5), .val (.int v19s0), .val (.int (f1 x3_5 v19s0)), .unset, .unset, .unset] [(.int v73s0)])) by
      by_cases c65_1 : x3_5 < v19s0
      · refine A (XS.icmpYes X2.here hx rfl (pc0 := 65) (pc' := 72) rfl (hb hby at_65) rfl (tlt c65_1).1 (by decide) (by decide)) ?_
        show D (T2.setTop (mkF m 72 #[.val (.int p1), .val (.int p2), .val (.int p3), .val (.int x3_5), .val (.int v19s0), .val (.int (f1 x3_5 v19s0)), .unset, .unset, .unset] []))
        refine A (XS.iconst X2.here hx rfl (hb hby at_72)) ?_
        show D (T2.setTop (mkF m 73 #[.val (.int p1), .val (.int p2), .val (.int p3), .val (.int x3_5), .val (.int v19s0), .val (.int (f1 x3_5 v19s0)), .unset, .unset, .unset] [(.int (0 : Int32))]))
        exact Km73_9 _ ((if_pos c65_1)).symm
      · refine A (XS.icmpNo X2.here hx rfl (hb hby at_65) rfl (flt c65_1).1) ?_
        show D (T2.setTop (mkF m 68 #[.val (.int p1), .val (.int p2), .val (.int p3), .val (.int x3_5), .val (.int v19s0), .val (.int (f1 x3_5 v19s0)), .unset, .unset, .unset] []))
        refine A (XS.iconst X2.here hx rfl (hb hby at_68)) ?_
        show D (T2.setTop (mkF m 69 #[.val (.int p1), .val (.int p2), .val (.int p3), .val (.int x3_5), .val (.int v19s0), .val (.int (f1 x3_5 v19s0)), .unset, .unset, .unset] [(.int (1 : Int32))]))
        refine A (XS.goto X2.here hx rfl (pc0 := 69) (pc' := 73) rfl (hb hby at_69) (by decide) (by decide)) ?_
        show D (T2.setTop (mkF m 73 #[.val (.int p1), .val (.int p2), .val (.int p3), .val (.int x3_5), .val (.int v19s0), .val (.int (f1 x3_5 v19s0)), .unset, .unset, .unset] [(.int (1 : Int32))]))
        exact Km73_9 _ ((if_neg c65_1)).symm
    intro v73s0 hv73s0
    show D (T2.setTop (mkF m 73 #[.val (.int p1), .val (.int p2), .val (.int p3), .val (.int x3_5), .val (.int v19s0), .val (.int (f1 x3_5 v19s0)), .unset, .unset, .unset] [(.int v73s0)]))
    refine A (XS.istore X2.here hx rfl (hb hby at_73) rfl (l' := #[.val (.int p1), .val (.int p2), .val (.int p3), .val (.int x3_5), .val (.int v19s0), .val (.int (f1 x3_5 v19s0)), .val (.int v73s0), .unset, .unset]) rfl) ?_
    show D (T2.setTop (mkF m 75 #[.val (.int p1), .val (.int p2), .val (.int p3), .val (.int x3_5), .val (.int v19s0), .val (.int (f1 x3_5 v19s0)), .val (.int v73s0), .unset, .unset] []))
    refine A (XS.iload X2.here hx rfl (hb hby at_75) rfl) ?_
    show D (T2.setTop (mkF m 77 #[.val (.int p1), .val (.int p2), .val (.int p3), .val (.int x3_5), .val (.int v19s0), .val (.int (f1 x3_5 v19s0)), .val (.int v73s0), .unset, .unset] [(.int v19s0)]))
    refine A (XS.iload X2.here hx rfl (hb hby at_77) rfl) ?_
    show D (T2.setTop (mkF m 79 #[.val (.int p1), .val (.int p2), .val (.int p3), .val (.int x3_5), .val (.int v19s0), .val (.int (f1 x3_5 v19s0)), .val (.int v73s0), .unset, .unset] [(.int v19s0), (.int v19s0)]))
    refine Adv.callS A X2 hx hZ hown (hw _ (List.mem_of_getElem? (i := 1) rfl)) (hw _ (List.mem_of_getElem? (i := 2) rfl)) (hw _ (List.mem_of_getElem? (i := 3) rfl)) (hw _ (List.mem_of_getElem? (i := 4) rfl)) e2 (rm1 l Z a0 hw [] v19s0 v19s0 h0 n0) 0 (g := (mkF m 79 #[.val (.int p1), .val (.int p2), .val (.int p3), .val (.int x3_5), .val (.int v19s0), .val (.int (f1 x3_5 v19s0)), .val (.int v73s0), .unset, .unset] [(.int v19s0), (.int v19s0)])) rfl (by rw [hml]; rfl) [(.int v19s0), (.int v19s0)] [] rfl (lenOf pd0_0 rfl) rfl (by show 2 * 0 + _ ≤ _; exact Nat.le_of_eq rfl) (hb hby at_79) (by decide) (by decide) (by decide) (by decide) (by decide) ?_
    rintro T10 L10 _ X10 ⟨rfl, N10q, e10⟩
    have N10 := Fr.app N2 N10q
    show D (T10.setTop (mkF m 82 #[.val (.int p1), .val (.int p2), .val (.int p3), .val (.int x3_5), .val (.int v19s0), .val (.int (f1 x3_5 v19s0)), .val (.int v73s0), .unset, .unset] [(.int (f1 v19s0 v19s0))]))
    refine A (XS.istore X10.here hx rfl (hb hby at_82) rfl (l' := #[.val (.int p1), .val (.int p2), .val (.int p3), .val (.int x3_5), .val (.int v19s0), .val (.int (f1 x3_5 v19s0)), .val (.int v73s0), .val (.int (f1 v19s0 v19s0)), .unset]) rfl) ?_
    show D (T10.setTop (mkF m 84 #[.val (.int p1), .val (.int p2), .val (.int p3), .val (.int x3_5), .val (.int v19s0), .val (.int (f1 x3_5 v19s0)), .val (.int v73s0), .val (.int (f1 v19s0 v19s0)), .unset] []))
    refine A (XS.iload X10.here hx rfl (hb hby at_84) rfl) ?_
    show D (T10.setTop (mkF m 86 #[.val (.int p1), .val (.int p2), .val (.int p3), .val (.int x3_5), .val (.int v19s0), .val (.int (f1 x3_5 v19s0)), .val (.int v73s0), .val (.int (f1 v19s0 v19s0)), .unset] [(.int v19s0)]))
    refine A (XS.iconst X10.here hx rfl (hb hby at_86)) ?_
    show D (T10.setTop (mkF m 87 #[.val (.int p1), .val (.int p2), .val (.int p3), .val (.int x3_5), .val (.int v19s0), .val (.int (f1 x3_5 v19s0)), .val (.int v73s0), .val (.int (f1 v19s0 v19s0)), .unset] [(.int (1 : Int32)), (.int v19s0)]))
    refine A (XS.isub X10.here hx rfl (hb hby at_87) rfl) ?_
    show D (T10.setTop (mkF m 88 #[.val (.int p1), .val (.int p2), .val (.int p3), .val (.int x3_5), .val (.int v19s0), .val (.int (f1 x3_5 v19s0)), .val (.int v73s0), .val (.int (f1 v19s0 v19s0)), .unset] [(.int (v19s0 - (1 : Int32)))]))
    refine A (XS.iload X10.here hx rfl (hb hby at_88) rfl) ?_
    show D (T10.setTop (mkF m 90 #[.val (.int p1), .val (.int p2), .val (.int p3), .val (.int x3_5), .val (.int v19s0), .val (.int (f1 x3_5 v19s0)), .val (.int v73s0), .val (.int (f1 v19s0 v19s0)), .unset] [(.int v19s0), (.int (v19s0 - (1 : Int32)))]))
    refine Adv.callS A X10 hx hZ hown (hw _ (List.mem_of_getElem? (i := 1) rfl)) (hw _ (List.mem_of_getElem? (i := 2) rfl)) (hw _ (List.mem_of_getElem? (i := 3) rfl)) (hw _ (List.mem_of_getElem? (i := 4) rfl)) e10 (rm1 l Z a0 hw [] (v19s0 - (1 : Int32)) v19s0 h0 n0) 0 (g := (mkF m 90 #[.val (.int p1), .val (.int p2), .val (.int p3), .val (.int x3_5), .val (.int v19s0), .val (.int (f1 x3_5 v19s0)), .val (.int v73s0), .val (.int (f1 v19s0 v19s0)), .unset] [(.int v19s0), (.int (v19s0 - (1 : Int32)))])) rfl (by rw [hml]; rfl) [(.int (v19s0 - (1 : Int32))), (.int v19s0)] [] rfl (lenOf pd0_0 rfl) rfl (by show 2 * 0 + _ ≤ _; exact Nat.le_of_eq rfl) (hb hby at_90) (by decide) (by decide) (by decide) (by decide) (by decide) ?_
    rintro T11 L11 _ X11 ⟨rfl, N11q, e11⟩
    have N11 := Fr.app N10 N11q
    show D (T11.setTop (mkF m 93 #[.val (.int p1), .val (.int p2), .val (.int p3), .val (.int x3_5), .val (.int v19s0), .val (.int (f1 x3_5 v19s0)), .val (.int v73s0), .val (.int (f1 v19s0 v19s0)), .unset] [(.int (f1 (v19s0 - (1 : Int32)) v19s0))]))
    refine A (XS.istore X11.here hx rfl (hb hby at_93) rfl (l' := #[.val (.int p1), .val (.int p2), .val (.int p3), .val (.int x3_5), .val (.int v19s0), .val (.int (f1 x3_5 v19s0)), .val (.int v73s0), .val (.int (f1 v19s0 v19s0)), .val (.int (f1 (v19s0 - (1 : Int32)) v19s0))]) rfl) ?_
    show D (T11.setTop (mkF m 95 #[.val (.int p1), .val (.int p2), .val (.int p3), .val (.int x3_5), .val (.int v19s0), .val (.int (f1 x3_5 v19s0)), .val (.int v73s0), .val (.int (f1 v19s0 v19s0)), .val (.int (f1 (v19s0 - (1 : Int32)) v19s0))] []))
    suffices Kx8_95 : ∀ x8_95 : Int32, x8_95 = (f1 (v19s0 - (1 : Int32)) v19s0) → D (T11.setTop (mkF m 95 #[.val (.int p1), .val (.int p2), .val (.int p3), .val (.int x3_5), .val (.int v19s0), .val (.int (f1 x3_5 v19s0)), .val (.int v73s0), .val (.int (f1 v19s0 v19s0)), .val (.int x8_95)] [])) from Kx8_95 _ rfl
    intro x8_95 hx8_95
    refine A (XS.iload X11.here hx rfl (hb hby at_95) rfl) ?_
    show D (T11.setTop (mkF m 97 #[.val (.int p1), .val (.int p2), .val (.int p3), .val (.int x3_5), .val (.int v19s0), .val (.int (f1 x3_5 v19s0)), .val (.int v73s0), .val (.int (f1 v19s0 v19s0)), .val (.int x8_95)] [(.int (f1 x3_5 v19s0))]))
    refine A (XS.iload X11.here hx rfl (hb hby at_97) rfl) ?_
    show D (T11.setTop (mkF m 99 #[.val (.int p1), .val (.int p2), .val (.int p3), .val (.int x3_5), .val (.int v19s0), .val (.int (f1 x3_5 v19s0)), .val (.int v73s0), .val (.int (f1 v19s0 v19s0)), .val (.int x8_95)] [(.int v73s0), (.int (f1 x3_5 v19s0))]))
    suffices Km117_12 : ∀ (v117s0 : Int32), v117s0 = (if (f1 x3_5 v19s0) = v73s0 then (if (f1 v19s0 v19s0) = (0 : Int32) then (0 : Int32) else (if x8_95 = (0 : Int32) then (1 : Int32) else (0 : Int32))) else (0 : Int32)) → D (T11.setTop (mkF m 117 #[.val (.int p1), .val (.int p2), .val (.int p3), .val (.int x3_5), .val (.int v19s0), .val (.int (f1 x3_5 v19s0)), .val (.int v73s0), .val (.int (f1 v19s0 v19s0)), .val (.int x8_95)] [(.int v117s0)])) by
      by_cases c99_1 : (f1 x3_5 v19s0) = v73s0
      · refine A (XS.icmpNo X11.here hx rfl (hb hby at_99) rfl (teq c99_1).2) ?_
        show D (T11.setTop (mkF m 102 #[.val (.int p1), .val (.int p2), .val (.int p3), .val (.int x3_5), .val (.int v19s0), .val (.int (f1 x3_5 v19s0)), .val (.int v73s0), .val (.int (f1 v19s0 v19s0)), .val (.int x8_95)] []))
        refine A (XS.iload X11.here hx rfl (hb hby at_102) rfl) ?_
        show D (T11.setTop (mkF m 104 #[.val (.int p1), .val (.int p2), .val (.int p3), .val (.int x3_5), .val (.int v19s0), .val (.int (f1 x3_5 v19s0)), .val (.int v73s0), .val (.int (f1 v19s0 v19s0)), .val (.int x8_95)] [(.int (f1 v19s0 v19s0))]))
        by_cases c104_2 : (f1 v19s0 v19s0) = (0 : Int32)
        · refine A (XS.ifYes X11.here hx rfl (pc0 := 104) (pc' := 116) rfl (hb hby at_104) rfl ((if0 _ _).trans (teq c104_2).1) (by decide) (by decide)) ?_
          show D (T11.setTop (mkF m 116 #[.val (.int p1), .val (.int p2), .val (.int p3), .val (.int x3_5), .val (.int v19s0), .val (.int (f1 x3_5 v19s0)), .val (.int v73s0), .val (.int (f1 v19s0 v19s0)), .val (.int x8_95)] []))
          refine A (XS.iconst X11.here hx rfl (hb hby at_116)) ?_
          show D (T11.setTop (mkF m 117 #[.val (.int p1), .val (.int p2), .val (.int p3), .val (.int x3_5), .val (.int v19s0), .val (.int (f1 x3_5 v19s0)), .val (.int v73s0), .val (.int (f1 v19s0 v19s0)), .val (.int x8_95)] [(.int (0 : Int32))]))
          exact Km117_12 _ (((if_pos c99_1)).trans (if_pos c104_2)).symm
        · refine A (XS.ifNo X11.here hx rfl (hb hby at_104) rfl ((if0 _ _).trans (feq c104_2).1)) ?_
          show D (T11.setTop (mkF m 107 #[.val (.int p1), .val (.int p2), .val (.int p3), .val (.int x3_5), .val (.int v19s0), .val (.int (f1 x3_5 v19s0)), .val (.int v73s0), .val (.int (f1 v19s0 v19s0)), .val (.int x8_95)] []))
          refine A (XS.iload X11.here hx rfl (hb hby at_107) rfl) ?_
          show D (T11.setTop (mkF m 109 #[.val (.int p1), .val (.int p2), .val (.int p3), .val (.int x3_5), .val (.int v19s0), .val (.int (f1 x3_5 v19s0)), .val (.int v73s0), .val (.int (f1 v19s0 v19s0)), .val (.int x8_95)] [(.int x8_95)]))
          by_cases c109_3 : x8_95 = (0 : Int32)
          · refine A (XS.ifNo X11.here hx rfl (hb hby at_109) rfl ((if0 _ _).trans (teq c109_3).2)) ?_
            show D (T11.setTop (mkF m 112 #[.val (.int p1), .val (.int p2), .val (.int p3), .val (.int x3_5), .val (.int v19s0), .val (.int (f1 x3_5 v19s0)), .val (.int v73s0), .val (.int (f1 v19s0 v19s0)), .val (.int x8_95)] []))
            refine A (XS.iconst X11.here hx rfl (hb hby at_112)) ?_
            show D (T11.setTop (mkF m 113 #[.val (.int p1), .val (.int p2), .val (.int p3), .val (.int x3_5), .val (.int v19s0), .val (.int (f1 x3_5 v19s0)), .val (.int v73s0), .val (.int (f1 v19s0 v19s0)), .val (.int x8_95)] [(.int (1 : Int32))]))
            refine A (XS.goto X11.here hx rfl (pc0 := 113) (pc' := 117) rfl (hb hby at_113) (by decide) (by decide)) ?_
            show D (T11.setTop (mkF m 117 #[.val (.int p1), .val (.int p2), .val (.int p3), .val (.int x3_5), .val (.int v19s0), .val (.int (f1 x3_5 v19s0)), .val (.int v73s0), .val (.int (f1 v19s0 v19s0)), .val (.int x8_95)] [(.int (1 : Int32))]))
            exact Km117_12 _ ((((if_pos c99_1)).trans (if_neg c104_2)).trans (if_pos c109_3)).symm
          · refine A (XS.ifYes X11.here hx rfl (pc0 := 109) (pc' := 116) rfl (hb hby at_109) rfl ((if0 _ _).trans (feq c109_3).2) (by decide) (by decide)) ?_
            show D (T11.setTop (mkF m 116 #[.val (.int p1), .val (.int p2), .val (.int p3), .val (.int x3_5), .val (.int v19s0), .val (.int (f1 x3_5 v19s0)), .val (.int v73s0), .val (.int (f1 v19s0 v19s0)), .val (.int x8_95)] []))
            refine A (XS.iconst X11.here hx rfl (hb hby at_116)) ?_
            show D (T11.setTop (mkF m 117 #[.val (.int p1), .val (.int p2), .val (.int p3), .val (.int x3_5), .val (.int v19s0), .val (.int (f1 x3_5 v19s0)), .val (.int v73s0), .val (.int (f1 v19s0 v19s0)), .val (.int x8_95)] [(.int (0 : Int32))]))
            exact Km117_12 _ ((((if_pos c99_1)).trans (if_neg c104_2)).trans (if_neg c109_3)).symm
      · refine A (XS.icmpYes X11.here hx rfl (pc0 := 99) (pc' := 116) rfl (hb hby at_99) rfl (feq c99_1).2 (by decide) (by decide)) ?_
        show D (T11.setTop (mkF m 116 #[.val (.int p1), .val (.int p2), .val (.int p3), .val (.int x3_5), .val (.int v19s0), .val (.int (f1 x3_5 v19s0)), .val (.int v73s0), .val (.int (f1 v19s0 v19s0)), .val (.int x8_95)] []))
        refine A (XS.iconst X11.here hx rfl (hb hby at_116)) ?_
        show D (T11.setTop (mkF m 117 #[.val (.int p1), .val (.int p2), .val (.int p3), .val (.int x3_5), .val (.int v19s0), .val (.int (f1 x3_5 v19s0)), .val (.int v73s0), .val (.int (f1 v19s0 v19s0)), .val (.int x8_95)] [(.int (0 : Int32))]))
        exact Km117_12 _ ((if_neg c99_1)).symm
    intro v117s0 hv117s0
    show D (T11.setTop (mkF m 117 #[.val (.int p1), .val (.int p2), .val (.int p3), .val (.int x3_5), .val (.int v19s0), .val (.int (f1 x3_5 v19s0)), .val (.int v73s0), .val (.int (f1 v19s0 v19s0)), .val (.int x8_95)] [(.int v117s0)]))
    obtain rfl : v117s0 = (1 : Int32) := by
      have hq := own_pos (own_lim hv19s0) (by assumption)
      rw [hv117s0, if_pos (by rw [own_1 _ hq, hv73s0]), own_2 hq, hx8_95, own_3 hq]
      decide
    show D (T11.setTop (mkF m 117 #[.val (.int p1), .val (.int p2), .val (.int p3), .val (.int x3_5), .val (.int v19s0), .val (.int (f1 x3_5 v19s0)), .val (.int v73s0), .val (.int (f1 v19s0 v19s0)), .val (.int x8_95)] [(.int (1 : Int32))]))
    exact F _ (Jvm.JW.ret X11 hlk (v := some (.int (1 : Int32))) (fun h => by rw [hrt] at h; cases h) (fun fs hr => retOut X11 hx hrt rfl (Or.inl ⟨rfl, Or.inr (Or.inl rfl), _, rfl⟩) (hb hby at_117) hr) rfl ⟨rfl, N11⟩ (by decide) (by decide))
set_option maxRecDepth 65536 in
set_option maxHeartbeats 40000000 in
theorem comes_1 {Post : Tables → Env → Array Value → State → Outcome → State → Prop} (hpost : ∀ tb e args s v u, (limb_1_1.after args s (.returned v) u = true ∧ limb_1_2.after args s (.returned v) u = true ∧ True) → FrameEnd s (.returned v) u (Jvm.fieldLocs frame_1_writes args s ++ Jvm.arrayLocs frame_1_arrays args s ++ Jvm.staticLocs frame_1_statics s) 0 0 → Post tb e args s (.returned v) u) :
    ArmFor flags0 classFile x code maxLocals ret World_1 tables_1 room_1 Calls_1 rest_1 Pre_1 Post := by
  intro l hfl _ _ p e ha hc hk s m args below hf hA hF happ hP
  obtain ⟨hcalls, hrest, hpre⟩ := hP
  obtain ⟨-, -, -, hnamed, -, -, -, hat⟩ := (Spec.applies_iff hf).mp happ
  obtain ⟨hg, hn⟩ := and_e (Cond.before_iff.mp (show (Jvm.Cond.and given_1 narrow_1).before args s = true from hpre))
  obtain ⟨g0, g1⟩ := and_e hg
  obtain ⟨t1, g2⟩ := and_e g1
  obtain ⟨t2, g3⟩ := and_e g2
  obtain ⟨w0, w1, w2, rfl⟩ : ∃ w0 w1 w2 : Value, args = #[w0, w1, w2] := by
    have hs : args.size = 3 := by simpa [Cond.value, given_1] using g0
    obtain ⟨L⟩ := args
    match L, hs with
    | [w0, w1, w2], _ => exact ⟨w0, w1, w2, rfl⟩
  have hw := fun d (hd : d ∈ tables_1) => atoms_spec (ws := Jvm.Cond.code x code maxLocals ret :: tables_1) hat d (List.mem_cons_of_mem _ hd)
  obtain ⟨i0, q0⟩ := is_v t1
  obtain rfl : w0 = (.int i0) := Option.some.inj q0
  obtain ⟨i1, q1⟩ := is_v t2
  obtain rfl : w1 = (.int i1) := Option.some.inj q1
  obtain ⟨i2, q2⟩ := is_v g3
  obtain rfl : w2 = (.int i2) := Option.some.inj q2
  obtain ⟨n, o, h1, h2, h3, _, L, rfl, ⟨rfl, N⟩, hq⟩ := rm0 l s _ hw tables_1 i0 i1 i2 s.heap s.heap.size p e ha hc hk s m _ below hf ((Spec.applies_iff_loose hf).mp happ).1 ⟨rfl, State.Warmed39.refl s, rfl⟩ trivial
  refine ⟨n, _, h1, h2, h3, hpost _ _ _ _ _ _ ⟨Cond.after_iff.mpr rfl, Cond.after_iff.mpr (eq_i res_at (Term.int_eval (1)) rfl), trivial⟩ ⟨hq.1, hq.2.1, (hq.2.2.sift fun y hy => Or.inr (N y hy)).mono (by decide) (by decide)⟩⟩
theorem main_1_1 : Claimed_1_1 := comes_1 fun _ _ _ _ _ _ h hF => ⟨h.1, hF⟩
theorem main_1_2 : Claimed_1_2 := comes_1 fun _ _ _ _ _ _ h hF => ⟨h.2.1, hF⟩
end Jvm.Pilot.@@N@@
namespace Jvm.Pilot.@@N@@
open Jvm Jvm.ClassFile Sem Op Lib Jvm.Free Jvm.Stand Jvm.Pilot.@@N@@.Jvm.D
/-! MADE BY PROGRAM (witnessworld.py) out of the Statement's table words and the real class files: 9 classes; the members and pool entries that the words name. The judged class is class 1, her method 1. -/
namespace start1
open Jvm.ClassFile
def u (s : String) : CpInfo := .utf8 (stringToUtf16 s)
/-- a pool by its gaps: so many unusable entries, then the entry; so many at the end -/
def gap : Nat → List CpInfo → List CpInfo
  | 0, r => r
  | n + 1, r => .unusable :: gap n r
def poolList (es : List (Nat × CpInfo)) (last : Nat) : List CpInfo := es.foldr (fun e r => gap e.1 (e.2 :: r)) (gap last [])
def pool (es : List (Nat × CpInfo)) (last : Nat) : Array CpInfo := ⟨poolList es last⟩
def fileOf (pool : Array CpInfo) (this : Nat) (attrs : Array Attribute := #[]) (ms : Array MethodInfo := #[]) (fl : Nat := 33) (sup : Nat := 0) (ifs : Array Nat := #[]) (fds : Array FieldInfo := #[]) : ClassFile where
  minorVersion := 0
  majorVersion := 65
  constantPool := pool
  accessFlags := fl
  thisClass := this
  superClass := sup
  interfaces := ifs
  fields := fds
  methods := ms
  attributes := attrs
def plain (name : String) (sup : Option ClassId) : Class where
  name := name
  kind := .ordinary
  loader := none
  accessFlags := 33
  super := sup
  interfaces := #[]
  cf := none
  fields := #[]
  methods := #[]
  instanceTypes := #[]
  staticTypes := #[]
  resolved := #[]
  callSites := []
  init := .initialized
  statics := none
  mirror := none

def pool0 : Array CpInfo := pool [(5, u "<init>"), (0, u "()V"), (1, .class_ 10), (1, u "java/lang/Object")] 113

def k0m0 : Method := { name := "<init>", desc := "()V", sig := { parameters := [], returnType := none }, accessFlags := 1, code := none }
/-- java/lang/Object -/
def k0 : Class := { plain "java/lang/Object" none with
  accessFlags := 33
  interfaces := #[]
  cf := some (fileOf pool0 8 #[] #[{ accessFlags := 1, nameIndex := 5, descriptorIndex := 6, attributes := #[] }] 33 0 #[] #[])
  fields := #[]
  methods := #[k0m0]
  instanceTypes := #[]
  staticTypes := #[]
  resolved := Array.replicate 124 none
  statics := none }

def pool1 : Array CpInfo := pool [(2, .class_ 4), (1, u "java/lang/Object"), (0, u "<init>"), (0, u "()V"), (0, .integer 2147483647), (0, .methodref 9 10), (0, .class_ 11), (0, .nameAndType 12 13), (0, u "com/example/evenkeel/evenkeel/CallTracker"), (0, u "atLimit"), (0, u "(II)Z"), (2, .class_ 17), (0, u "com/example/evenkeel/evenkeel/CallTrackerAtLimitPinLaw"), (2, u "law"), (0, u "(III)Z")] 3

def k1m0 : Method := { name := "<init>", desc := "()V", sig := { parameters := [], returnType := none }, accessFlags := 2, code := none }
def k1c1 : Code := { maxStack := 2, maxLocals := 9, code := code, exceptionTable := #[], attributes := #[] }
def k1m1 : Method := { name := "law", desc := "(III)Z", sig := { parameters := [.int, .int, .int], returnType := some .boolean }, accessFlags := 9, code := some k1c1 }
/-- com/example/evenkeel/evenkeel/CallTrackerAtLimitPinLaw -/
def k1 : Class := { plain "com/example/evenkeel/evenkeel/CallTrackerAtLimitPinLaw" (some 0) with
  accessFlags := 49
  interfaces := #[]
  cf := some (fileOf pool1 16 #[] #[{ accessFlags := 2, nameIndex := 5, descriptorIndex := 6, attributes := #[] }, { accessFlags := 9, nameIndex := 20, descriptorIndex := 21, attributes := #[] }] 49 2 #[] #[])
  fields := #[]
  methods := #[k1m0, k1m1]
  instanceTypes := #[]
  staticTypes := #[]
  resolved := Array.replicate 25 none
  statics := none }

def pool2 : Array CpInfo := pool [(2, .class_ 4), (1, u "java/lang/Object"), (0, u "<init>"), (0, u "()V"), (1, .class_ 10), (1, u "com/example/evenkeel/evenkeel/CallTracker"), (0, u "active"), (0, u "I"), (2, u "atLimit"), (0, u "(II)Z"), (2, u "ACTIVE"), (0, u "Ljava/lang/invoke/VarHandle;"), (28, u "ended"), (0, u "J"), (2, u "succeededElapsedNanos"), (2, u "longestSucceededNanos"), (8, u "failed"), (2, u "lastSucceededEndNanos"), (10, u "latencyEstimateNanos"), (0, u "D"), (2, u "failuresInARow"), (2, u "isolationNanos"), (2, u "isolationLeftNanos"), (2, u "failedElapsedNanos"), (2, u "longestFailedNanos"), (9, u "isolationSeenAtNanos")] 48

def k2m0 : Method := { name := "<init>", desc := "()V", sig := { parameters := [], returnType := none }, accessFlags := 0, code := none }
def k2c1 : Code := { maxStack := 2, maxLocals := 2, code := prog_5_method_3_code, exceptionTable := #[], attributes := #[] }
def k2m1 : Method := { name := "atLimit", desc := "(II)Z", sig := { parameters := [.int, .int], returnType := some .boolean }, accessFlags := 8, code := some k2c1 }
/-- com/example/evenkeel/evenkeel/CallTracker -/
def k2 : Class := { plain "com/example/evenkeel/evenkeel/CallTracker" (some 0) with
  accessFlags := 48
  interfaces := #[]
  cf := some (fileOf pool2 8 #[] #[{ accessFlags := 0, nameIndex := 5, descriptorIndex := 6, attributes := #[] }, { accessFlags := 8, nameIndex := 15, descriptorIndex := 16, attributes := #[] }] 48 2 #[] #[{ accessFlags := 26, nameIndex := 19, descriptorIndex := 20, attributes := #[] }, { accessFlags := 66, nameIndex := 11, descriptorIndex := 12, attributes := #[] }, { accessFlags := 66, nameIndex := 79, descriptorIndex := 80, attributes := #[] }, { accessFlags := 2, nameIndex := 49, descriptorIndex := 50, attributes := #[] }, { accessFlags := 2, nameIndex := 65, descriptorIndex := 50, attributes := #[] }, { accessFlags := 2, nameIndex := 53, descriptorIndex := 50, attributes := #[] }, { accessFlags := 2, nameIndex := 92, descriptorIndex := 50, attributes := #[] }, { accessFlags := 2, nameIndex := 56, descriptorIndex := 50, attributes := #[] }, { accessFlags := 2, nameIndex := 95, descriptorIndex := 50, attributes := #[] }, { accessFlags := 2, nameIndex := 68, descriptorIndex := 50, attributes := #[] }, { accessFlags := 2, nameIndex := 83, descriptorIndex := 50, attributes := #[] }, { accessFlags := 2, nameIndex := 86, descriptorIndex := 50, attributes := #[] }, { accessFlags := 2, nameIndex := 89, descriptorIndex := 50, attributes := #[] }, { accessFlags := 2, nameIndex := 105, descriptorIndex := 50, attributes := #[] }])
  fields := #[{ name := "ACTIVE", type := (.object "java/lang/invoke/VarHandle"), accessFlags := 26, slot := 0, constantValue := 0 }, { name := "active", type := .int, accessFlags := 66, slot := 0, constantValue := 0 }, { name := "latencyEstimateNanos", type := .double, accessFlags := 66, slot := 1, constantValue := 0 }, { name := "ended", type := .long, accessFlags := 2, slot := 2, constantValue := 0 }, { name := "failed", type := .long, accessFlags := 2, slot := 3, constantValue := 0 }, { name := "succeededElapsedNanos", type := .long, accessFlags := 2, slot := 4, constantValue := 0 }, { name := "failedElapsedNanos", type := .long, accessFlags := 2, slot := 5, constantValue := 0 }, { name := "longestSucceededNanos", type := .long, accessFlags := 2, slot := 6, constantValue := 0 }, { name := "longestFailedNanos", type := .long, accessFlags := 2, slot := 7, constantValue := 0 }, { name := "lastSucceededEndNanos", type := .long, accessFlags := 2, slot := 8, constantValue := 0 }, { name := "failuresInARow", type := .long, accessFlags := 2, slot := 9, constantValue := 0 }, { name := "isolationNanos", type := .long, accessFlags := 2, slot := 10, constantValue := 0 }, { name := "isolationLeftNanos", type := .long, accessFlags := 2, slot := 11, constantValue := 0 }, { name := "isolationSeenAtNanos", type := .long, accessFlags := 2, slot := 12, constantValue := 0 }]
  methods := #[k2m0, k2m1]
  instanceTypes := #[.int, .double, .long, .long, .long, .long, .long, .long, .long, .long, .long, .long, .long]
  staticTypes := #[(.object "java/lang/invoke/VarHandle")]
  resolved := Array.replicate 154 none
  statics := none }

def pool3 : Array CpInfo := pool [(1, u "java/lang/Cloneable"), (0, .class_ 1), (0, u "java/lang/Object"), (0, .class_ 3)] 3

/-- java/lang/Cloneable -/
def k3 : Class := { plain "java/lang/Cloneable" (some 0) with
  accessFlags := 1537
  interfaces := #[]
  cf := some (fileOf pool3 2 #[] #[] 1537 4 #[] #[])
  fields := #[]
  methods := #[]
  instanceTypes := #[]
  staticTypes := #[]
  resolved := Array.replicate 8 none
  statics := none }

def pool4 : Array CpInfo := pool [(1, u "java/io/Serializable"), (0, .class_ 1), (0, u "java/lang/Object"), (0, .class_ 3)] 3

/-- java/io/Serializable -/
def k4 : Class := { plain "java/io/Serializable" (some 0) with
  accessFlags := 1537
  interfaces := #[]
  cf := some (fileOf pool4 2 #[] #[] 1537 4 #[] #[])
  fields := #[]
  methods := #[]
  instanceTypes := #[]
  staticTypes := #[]
  resolved := Array.replicate 8 none
  statics := none }

/-- the primitive byte -/
def k5 : Class := { plain "byte" none with kind := .primitive 'B', accessFlags := 0x411 }
/-- [B -/
def k6 : Class := { plain "[B" (some 0) with kind := .array 5 .byte, interfaces := #[3, 4], accessFlags := 1041 }

/-- the primitive int -/
def k7 : Class := { plain "int" none with kind := .primitive 'I', accessFlags := 0x411 }
/-- [I -/
def k8 : Class := { plain "[I" (some 0) with kind := .array 7 .int, interfaces := #[3, 4], accessFlags := 1041 }

def heap : Heap := #[]
def classes : Array Class := #[k0, k1, k2, k3, k4, k5, k6, k7, k8]
def interned : List (Array UInt16 × Addr) := []
def slotsUsed : Nat := 0
def theMethod : MethodId := ⟨1, 1⟩
def args0 : Array Value := #[.int 3, .int 4, .int 5]
def aboutOver (below : List Frame) : State where
  vm := { classes := classes, interned := interned.toArray }
  heap := heap
  slotsUsed := slotsUsed
  threads := #[{ frames := .invoking theMethod args0 :: below }]
def below0 : List Frame := [.native { method := ⟨0, 0⟩, args := #[] }]
def about1 : State := aboutOver below0
def p0 : Program := .bare "" "" ""
def e0 : Env := launch0.env 0 0 0
theorem w_frames : about1.frames = Frame.invoking theMethod args0 :: below0 := rfl
set_option maxRecDepth 65536 in
theorem w_args : argsFit about1.vm theMethod args0 = true := by decide +kernel
set_option maxRecDepth 65536 in
theorem w_heap : heapFits about1 = true := by decide +kernel
set_option maxRecDepth 65536 in
theorem w_runnable : about1.curStatus? = some .runnable := by decide +kernel
set_option maxRecDepth 65536 in
theorem w_alone : about1.alone = true := by decide +kernel
set_option maxRecDepth 65536 in
theorem w_named : about1.methodNamed? x = some theMethod := by decide +kernel
set_option maxRecDepth 65536 in
theorem w_hears : about1.hears theMethod below0 = true := by decide +kernel
set_option maxRecDepth 65536 in
theorem w_ripe : about1.ripe theMethod args0 below0 = true := by decide +kernel
theorem w_running : about1.status = .running := rfl
set_option maxRecDepth 65536 in
theorem w_room : about1.hasRoom e0.platform room_1 = true :=
  launch0.hasRoom_least _ room_1 (by decide +kernel) (by decide +kernel) (by decide +kernel) (by decide +kernel) (by decide +kernel) (by decide +kernel)
theorem allAtoms_all (ts : List Jvm.Cond) (a : Array Jvm.Value) (st : Jvm.State) : (allAtoms ts).before a st = ts.all (fun c => c.before a st) := by
  induction ts with
  | nil => rfl
  | cons c t ih =>
    show (Jvm.Cond.and c (allAtoms t)).before a st = _
    rw [Jvm.Cond.before_and, ih, List.all_cons]
def words1 : List Jvm.Cond := Jvm.Cond.code x code maxLocals ret :: tables_1
/-- a 'code' word, met by the world's own term for the bytes: nothing is compared byte by byte -/
theorem code_word {y : MethodName} {bytes : ByteArray} {mx : Nat} {rt : Option FieldType} {a : Array Value} {s : State} {m : MethodId} {meth : Method} {c : Code} (h1 : s.methodNamed? y = some m) (h2 : s.vm.method? m = some meth) (h3 : meth.code = some c) (h4 : c.code = bytes)
    (h5 : (c.maxLocals == mx && c.exceptionTable.isEmpty && decide (c.maxStack ≤ mostOperands) && decide (meth.sig.returnType = rt) && !meth.locks && decide (parseMethodDescriptor y.desc = some meth.sig)) = true) : (Jvm.Cond.code y bytes mx rt).before a s = true := by
  simp only [Bool.and_eq_true, beq_iff_eq, Bool.not_eq_true', decide_eq_true_eq] at h5
  obtain ⟨⟨⟨⟨⟨g1, g2⟩, g3⟩, g4⟩, g5⟩, g6⟩ := h5
  simp [Cond.before, Cond.holds, Cond.value, h1, h2, h3, h4, g1, g2, g3, g4, g5, g6]
def isCode : Jvm.Cond → Bool
  | .code _ _ _ _ => true
  | _ => false
theorem all_split {L : List Jvm.Cond} {P : Jvm.Cond → Bool} (h1 : L.all (fun c => isCode c || P c) = true) (h2 : ∀ c ∈ L.filter isCode, P c = true) : L.all P = true := by
  refine List.all_eq_true.mpr fun c hc => ?_
  have h := List.all_eq_true.mp h1 c hc
  rcases Bool.eq_false_or_eq_true (isCode c) with hi | hi
  · exact h2 c (List.mem_filter.mpr ⟨hc, hi⟩)
  · simpa [hi] using h
set_option maxRecDepth 65536 in
theorem w_c0 : (Jvm.Cond.code x code maxLocals ret).before args0 about1 = true := code_word (m := ⟨1, 1⟩) (meth := k1m1) (c := k1c1) (by decide +kernel) rfl rfl rfl (by decide +kernel)
set_option maxRecDepth 65536 in
theorem w_c1 : (Jvm.Cond.code ({ cls := "com/example/evenkeel/evenkeel/CallTracker", name := "atLimit", desc := "(II)Z" } : Jvm.MethodName) prog_5_method_3_code (2 : Nat) (Option.some Jvm.ClassFile.FieldType.boolean)).before args0 about1 = true := code_word (m := ⟨2, 1⟩) (meth := k2m1) (c := k2c1) (by decide +kernel) rfl rfl rfl (by decide +kernel)
def codes1 : List Jvm.Cond := [Jvm.Cond.code x code maxLocals ret, Jvm.Cond.code ({ cls := "com/example/evenkeel/evenkeel/CallTracker", name := "atLimit", desc := "(II)Z" } : Jvm.MethodName) prog_5_method_3_code (2 : Nat) (Option.some Jvm.ClassFile.FieldType.boolean)]
set_option maxRecDepth 65536 in
theorem codes_eq : words1.filter isCode = codes1 := rfl
theorem w_codes : ∀ c ∈ words1.filter isCode, c.before args0 about1 = true := by
  rw [codes_eq]
  intro c hc
  simp only [codes1, List.mem_cons, List.not_mem_nil, or_false] at hc
  rcases hc with rfl | rfl
  · exact w_c0
  · exact w_c1
set_option maxRecDepth 65536 in
theorem w_t1 : words1.all (fun c => isCode c || c.before args0 about1) = true := by decide +kernel
theorem w_tables : (allAtoms (Jvm.Cond.code x code maxLocals ret :: tables_1)).before args0 about1 = true := by
  rw [allAtoms_all]
  show words1.all (fun c => c.before args0 about1) = true
  refine all_split ?_ w_codes
  rw [w_t1]
set_option maxRecDepth 65536 in
theorem w_case : (Jvm.Cond.and given_1 narrow_1).before args0 about1 = true := by decide +kernel
theorem w_applies : (headSpec (Jvm.Cond.code x code maxLocals ret :: tables_1) room_1).applies x e0.platform about1 = true :=
  (Spec.applies_iff w_frames).mpr ⟨w_running, w_runnable, w_alone, w_named, w_hears, w_ripe, w_room, w_tables⟩
theorem atStart : AtStart classFile x code maxLocals ret World_1 tables_1 room_1 Calls_1 rest_1 Pre_1 launch0 p0 e0 about1 theMethod args0 below0 :=
  ⟨lists_1, trivial, launch0.admits_env _ _ _, launch0.least_env, fairChoices_fair.cas, fairChoices_fair.clock, w_frames, w_args, w_heap, w_applies, trivial, trivial, w_case⟩
end start1
theorem witness_1 : WitnessClaimed_1 := ⟨start1.p0, start1.e0, start1.about1, start1.theMethod, start1.args0, start1.below0, start1.atStart⟩
end Jvm.Pilot.@@N@@
