import JvmDerived
import JvmDerived.Pilot.@@N@@Statement
import JvmDerived.Pilot.@@N@@Code
set_option linter.unusedVariables false
set_option linter.unusedSimpArgs false
namespace Jvm.Pilot.@@N@@
open Jvm Jvm.ClassFile Sem Op Lib Jvm.Free Jvm.Stand Jvm.LawKit Jvm.RoadKit Bundle Jvm.Pilot.@@N@@.Jvm.D
/-! own: the walk in continuation form: 'from the state A the body ends, and then Q' -/
def OwnWk (p : Program) (e : Env) (below : List Frame) (P : Option Value → State → List Loc → Prop) (A : State) : Prop :=
  ∃ s₂ v L, Steps p.tables e below A s₂ ∧ s₂.status = .running ∧ Ended s₂ below (.returned v) ∧ P v s₂ L
abbrev OwnP (s : State) (Q : Option Value → Heap → List Loc → Prop) (k n : Nat) : Option Value → State → List Loc → Prop := fun v t L => Q v t.heap L ∧ FrameEnd s (.returned v) t L k n
def OwnMet (l : Launch) (y : MethodName) (bytes : ByteArray) (maxL : Nat) (ret : Option FieldType) (ws : List Jvm.Cond) (rm : Room) (Z : State) (as' : Array Value) (h0 : Heap) (Q : Option Value → Heap → List Loc → Prop) : Prop :=
  MetFree l y (head1 (Jvm.Cond.code y bytes maxL ret :: ws) rm) (fun a U => a = as' ∧ Z.Warmed39 U.vm ∧ U.heap = h0) (fun _ _ _ _ _ => True)
    (fun _ U o U' => ∃ v L, o = .returned v ∧ Q v U'.heap L ∧ FrameEnd U o U' L rm.cells rm.slots)
def OAr (Z : State) (h : Heap) (a : Addr) (ty : FieldType) (vs : List Value) : Prop := ∃ c : Cell, Arr Z h a c ty ∧ c.slots = vs.toArray
theorem OAr.ext {Z : State} {h h' : Heap} {a : Addr} {ty : FieldType} {vs : List Value} (A : OAr Z h a ty vs) (E : Ext h h') : OAr Z h' a ty vs := by
  obtain ⟨c, A, e⟩ := A; exact ⟨c, A.ext E, e⟩
theorem OAr.other {Z : State} {h h' : Heap} {a b : Addr} {ty : FieldType} {vs : List Value} {sl : Nat} {v : Value} (A : OAr Z h b ty vs) (W : Wr h h' a sl v) (q : b ≠ a) : OAr Z h' b ty vs := by
  obtain ⟨c, A, e⟩ := A; exact ⟨c, A.other W q, e⟩
theorem OAr.keep {Z : State} {h h' : Heap} {a : Addr} {ty : FieldType} {vs : List Value} {ws : List Addr} (A : OAr Z h a ty vs) (K : Keep h h' ws) (q : a ∉ ws) : OAr Z h' a ty vs := by
  obtain ⟨c, A, e⟩ := A; exact ⟨c, ⟨K.2.1 a c A.1 q, A.2⟩, e⟩
theorem OAr.lt {Z : State} {h : Heap} {a : Addr} {ty : FieldType} {vs : List Value} (A : OAr Z h a ty vs) : a < h.size := by
  obtain ⟨c, A, e⟩ := A; exact A.lt
theorem OAr.set {Z : State} {h h' : Heap} {a : Addr} {ty : FieldType} {vs : List Value} {sl : Nat} {v : Value} (A : OAr Z h a ty vs) (W : Wr h h' a sl v) : OAr Z h' a ty (vs.set sl v) := by
  obtain ⟨c, A, e⟩ := A
  refine ⟨_, A.same W, ?_⟩
  show c.slots.setIfInBounds sl v = _
  rw [e]; simp
theorem own_plE {Z : State} {h : Heap} {a : Addr} {C : String} (E : Exa Z h a C) : ∀ c : Cell, h[a]? = some c → c.vm.isStatics = false := fun c hc => by
  obtain ⟨c', k, h1, -, -, h4, -⟩ := E; cases h1.symm.trans hc; exact h4
theorem own_plV {Z : State} {h : Heap} {a : Addr} {ty : FieldType} {vs : List Value} (A : OAr Z h a ty vs) : ∀ c : Cell, h[a]? = some c → c.vm.isStatics = false := fun c hc => by
  obtain ⟨c', A, -⟩ := A; cases A.1.symm.trans hc; exact A.plain
theorem own_sta_keep {Z : State} {h h' : Heap} {ws : List Addr} {O f d : String} {v : Value} (F : Sta Z h O f d v) (K : Keep h h' ws) (q : ∀ x ∈ ws, ∀ c : Cell, h[x]? = some c → c.vm.isStatics = false) : Sta Z h' O f d v := by
  obtain ⟨cf, i, k, f, st, cell, h1, h2, h3, h4, h5, h6, h7⟩ := F
  refine ⟨cf, i, k, f, st, cell, h1, h2, h3, h4, K.2.1 st cell h5 (fun m => ?_), h6, h7⟩
  have := q st m cell h5
  rw [h6] at this; cases this
theorem own_ins_keep {Z : State} {h h' : Heap} {ws : List Addr} {a : Addr} {C : String} {b : Bool} (F : Ins Z h a C b) (K : Keep h h' ws) : Ins Z h' a C b := by
  obtain ⟨cell, cT, h1, h2, h3⟩ := F
  obtain ⟨c', q, r1, r2, -⟩ := K.2.2 a cell h1
  exact ⟨c', cT, q, h2, by rw [r1, r2]; exact h3⟩
section Own
variable {p : Program} {l : Launch} {e : Env} {R : Room} {s : State} {m : MethodId} {args : Array Value} {below : List Frame} {meth : Method} {c : Code} {T : State} {locs : List Loc} {cells slots : Nat}
  {P : Option Value → State → List Loc → Prop} {Q : Option Value → Heap → List Loc → Prop} {k n : Nat} {Z : State} {a0 : Array Value} {h : Heap} {g : JFrame} {rest : List Value}
theorem own_go {A B : State} (st : ∀ t, Steps p.tables e below B t → Steps p.tables e below A t) (h : OwnWk p e below P B) : OwnWk p e below P A := by
  obtain ⟨s₂, v, L, h1, r⟩ := h; exact ⟨s₂, v, L, st _ h1, r⟩
theorem own_met {y : MethodName} {bytes : ByteArray} {maxL : Nat} {ret : Option FieldType} {ws : List Jvm.Cond} {rm : Room} {as' : Array Value} {h0 : Heap} (hpl : plainFor y = true)
    (body : ∀ (p : Program) (e : Env) (s : State) (m : MethodId) (below : List Frame) (meth : Method) (c : Code) (s₁ : State), p.tables.exec = Jvm.exec → c.code = bytes → c.maxLocals = maxL → s.vm.findClass y.cls = some m.cls → meth.name = y.name → meth.sig.returnType = ret → meth.locks = false → Z.Warmed39 s.vm →
      Stand p l e rm s m as' below meth c s₁ [] 0 0 → s₁.heap = h0 → OwnWk p e below (OwnP s Q rm.cells rm.slots) (s₁.setTop (entryFrame m as' maxL))) : OwnMet l y bytes maxL ret ws rm Z as' h0 Q := by
  refine MetFree.of_bodySF hpl hisR ?_
  intro p e s m args below meth c s₁ Bd hml0 hP hK
  obtain ⟨rfl, hZ, hh⟩ := hP
  obtain ⟨s₂, v, L, h1, h2, h3, h4, h5⟩ := body p e s m below meth c s₁ Bd.exec Bd.bytes hml0 (findClass_of_methodNamed Bd.named) (name_of_methodNamed Bd.named Bd.method).1 Bd.returns (BodyLoose.notSynchronized Bd) hZ (Stand.of_body Bd) (by rw [← hh, Bd.state]; rfl)
  exact ⟨s₂, _, h1, h2, h3, v, L, rfl, h4, h5⟩
theorem own_out0 {A : State} {v : Option Value} (X : Stand p l e R s m args below meth c T locs cells slots) (hlk : meth.locks = false) (hv : meth.sig.returnType = none → v = none)
    (st : ∀ fs, (∀ (f : JFrame) (acts : List Action), f.method = m → f.locked = none → f.entered = [] → (doReturn e (T.setTop f) acts v).1 = T.setFrames fs) → Steps p.tables e below A (T.setFrames fs))
    (hq : ∀ t : State, t.heap = T.heap → FrameEnd s (.returned v) t locs cells slots → P v t locs) : OwnWk p e below P A := by
  obtain ⟨fs, hr, hrun, hended, hW, hsame⟩ := X.leave (v := v) hv hlk
  exact ⟨_, v, locs, st fs hr, hrun, hended, hq _ rfl ⟨⟨v, rfl⟩, hW, hsame⟩⟩
theorem own_out {A : State} {v : Option Value} (X : Stand p l e R s m args below meth c T locs cells slots) (hlk : meth.locks = false) (hv : meth.sig.returnType = none → v = none)
    (st : ∀ fs, (∀ (f : JFrame) (acts : List Action), f.method = m → f.locked = none → f.entered = [] → (doReturn e (T.setTop f) acts v).1 = T.setFrames fs) → Steps p.tables e below A (T.setFrames fs))
    (hc : cells ≤ k) (hs : slots ≤ n) (hq : Q v T.heap locs) : OwnWk p e below (OwnP s Q k n) A :=
  own_out0 X hlk hv st fun t ht hF => ⟨by rw [ht]; exact hq, hF.1, hF.2.1, hF.2.2.mono hc hs⟩
theorem own_retI (X : Stand p l e R s m args below meth c T locs cells slots) (hx : p.tables.exec = Jvm.exec) (hlk : meth.locks = false) (hret : meth.sig.returnType = some .int) {pc : Nat} {Ls : Array Slot} {z : Int32} (hd : decode c.code pc = .ok (.ireturn, 1)) (hc : cells ≤ k) (hs : slots ≤ n)
    (hq : Q (some (.int z)) T.heap locs) : OwnWk p e below (OwnP s Q k n) (T.setTop (mkF m pc Ls (.int z :: rest))) :=
  own_out X hlk (fun q => by rw [hret] at q; cases q) (fun fs hr => retOut X hx hret rfl (Or.inl ⟨rfl, Or.inl rfl, z, rfl⟩) hd hr) hc hs hq
theorem own_retZ (X : Stand p l e R s m args below meth c T locs cells slots) (hx : p.tables.exec = Jvm.exec) (hlk : meth.locks = false) {t : FieldType} (hret : meth.sig.returnType = some t) (ht : t = .boolean ∨ t = .byte ∨ t = .char ∨ t = .short) {pc : Nat} {Ls : Array Slot} {z z' : Int32} (hz : nar t z = z') (hd : decode c.code pc = .ok (.ireturn, 1)) (hc : cells ≤ k) (hs : slots ≤ n)
    (hq : Q (some (.int z')) T.heap locs) : OwnWk p e below (OwnP s Q k n) (T.setTop (mkF m pc Ls (.int z :: rest))) := by
  subst hz
  exact own_out X hlk (fun q => by rw [hret] at q; cases q) (fun fs hr => retN X hx hret ht hd hr) hc hs hq
theorem own_retJ (X : Stand p l e R s m args below meth c T locs cells slots) (hx : p.tables.exec = Jvm.exec) (hlk : meth.locks = false) (hret : meth.sig.returnType = some .long) {pc : Nat} {Ls : Array Slot} {z : Int64} (hd : decode c.code pc = .ok (.lreturn, 1)) (hc : cells ≤ k) (hs : slots ≤ n)
    (hq : Q (some (.long z)) T.heap locs) : OwnWk p e below (OwnP s Q k n) (T.setTop (mkF m pc Ls (.long z :: rest))) :=
  own_out X hlk (fun q => by rw [hret] at q; cases q) (fun fs hr => retOut X hx hret rfl (Or.inr (Or.inl ⟨rfl, rfl, z, rfl⟩)) hd hr) hc hs hq
theorem own_retA (X : Stand p l e R s m args below meth c T locs cells slots) (hx : p.tables.exec = Jvm.exec) (hlk : meth.locks = false) {t : FieldType} (hret : meth.sig.returnType = some t) (ht : t.isReference = true) {pc : Nat} {Ls : Array Slot} {v : Value} (hv : v.isRef = true) (hn : narrow t v = v) (hd : decode c.code pc = .ok (.areturn, 1)) (hc : cells ≤ k) (hs : slots ≤ n)
    (hq : Q (some v) T.heap locs) : OwnWk p e below (OwnP s Q k n) (T.setTop (mkF m pc Ls (v :: rest))) :=
  own_out X hlk (fun q => by rw [hret] at q; cases q) (fun fs hr => retOut X hx hret hn (Or.inr (Or.inr (Or.inr (Or.inr ⟨rfl, ht, hv⟩)))) hd hr) hc hs hq
theorem own_retV (X : Stand p l e R s m args below meth c T locs cells slots) (hx : p.tables.exec = Jvm.exec) (hlk : meth.locks = false) (hret : meth.sig.returnType = none) {pc : Nat} {Ls : Array Slot} (hd : decode c.code pc = .ok (.return_, 1)) (hc : cells ≤ k) (hs : slots ≤ n)
    (hq : Q none T.heap locs) : OwnWk p e below (OwnP s Q k n) (T.setTop (mkF m pc Ls [])) :=
  own_out X hlk (fun _ => rfl) (fun fs hr => X.returnOut hx hret hd hr) hc hs hq
/-! calls by a contract -/
variable {own C : String} {idx cnt : Nat} {y z : MethodName} {bytes : ByteArray} {maxL : Nat} {ret : Option FieldType} {rm : Room} {Q' : Option Value → Heap → List Loc → Prop} {W : Nat} {argsL : List Value} {a b : Addr}
theorem OwnMet.back {len : Nat} {as' : Array Value} (hM : OwnMet l y bytes maxL ret [] rm Z as' h Q') (hZ : Z.Warmed39 s.vm) (wc : (Jvm.Cond.code y bytes maxL ret).before a0 Z = true) (wz : (Jvm.Cond.initialized y.cls).before a0 Z = true) (hf : rm.frames + 1 ≤ R.frames) (hl : W + (maxL + 11) + rm.locals ≤ R.locals) :
    Back l R p e below s args y len W (fun A a => a = as' ∧ A.U.heap = h ∧ A.cells + rm.cells ≤ R.cells ∧ A.slots + rm.slots ≤ R.slots)
      (fun A _ v B => ∃ L, Q' v B.U.heap L ∧ B.locs = A.locs ++ L ∧ B.cells = A.cells + rm.cells ∧ B.slots = A.slots + rm.slots) := backOf (Q := Q') hM hZ wc wz hf hl
theorem own_callS (X : Stand p l e R s m args below meth c T locs cells slots) (hx : p.tables.exec = Jvm.exec) (hZ : Z.Warmed39 s.vm) (hown : s.vm.findClass own = some m.cls)
    (w1 : (Jvm.Cond.methodLink own idx y).before a0 Z = true) (w2 : (Jvm.Cond.static y).before a0 Z = true) (w3 : (Jvm.Cond.initialized y.cls).before a0 Z = true) (w4 : (Jvm.Cond.code y bytes maxL ret).before a0 Z = true)
    (hy : y.cls ≠ "java/lang/invoke/MethodHandle" ∧ y.cls ≠ "java/lang/invoke/VarHandle") (hM : OwnMet l y bytes maxL ret [] rm Z argsL.toArray h Q') (eT : T.heap = h)
    (hf : rm.frames + 1 ≤ R.frames) (hl : W + (maxL + 11) + rm.locals ≤ R.locals) (hc : cells + rm.cells ≤ R.cells) (hs : slots + rm.slots ≤ R.slots)
    (hg : g.method = m) (hsize : g.locals.size = c.maxLocals) (hlen : ∀ sig, parseMethodDescriptor y.desc = some sig → argsL.length = sig.parameters.length) (hstack : g.stack = argsL.reverse ++ rest)
    (hW : 2 * g.monitorRoom + (rest.map fun v => v.category).sum ≤ W) (hd : decode c.code g.pc = .ok (.invokestatic idx, 3))
    (K : ∀ v T' h' L, Stand p l e R s m args below meth c T' (locs ++ L) (cells + rm.cells) (slots + rm.slots) → T'.heap = h' → Q' v h' L → OwnWk p e below P (T'.setTop { g with pc := g.pc + 3, stack := v.toList ++ rest })) :
    OwnWk p e below P (T.setTop g) := by
  obtain ⟨v, vm₁, ⟨T', L', k', n'⟩, -, X', ⟨L, hQ, e1, e2, e3⟩, st⟩ := Jvm.LawKit.callS X hx hown (mvT hZ w1) (mvT hZ w2) (mvT hZ w3) (mvT hZ w4) hy (hM.back hZ w4 w3 hf hl) hg hsize hlen hstack hW hd (fun _ _ => ⟨rfl, eT, hc, hs⟩)
  dsimp only [Pt.U, Pt.locs, Pt.cells, Pt.slots] at X' e1 e2 e3 st hQ
  subst e1 e2 e3
  exact own_go st (K v T' _ L X' rfl hQ)
theorem own_callC (X : Stand p l e R s m args below meth c T locs cells slots) (hx : p.tables.exec = Jvm.exec) (hZ : Z.Warmed39 s.vm) (hown : s.vm.findClass own = some m.cls) (hy1 : y.name = "<init>")
    (w1 : (Jvm.Cond.methodLink own idx y).before a0 Z = true) (w2 : (Jvm.Cond.instanceMethod y).before a0 Z = true) (w3 : (Jvm.Cond.initialized y.cls).before a0 Z = true) (w4 : (Jvm.Cond.code y bytes maxL none).before a0 Z = true)
    (hy : y.cls ≠ "java/lang/invoke/MethodHandle" ∧ y.cls ≠ "java/lang/invoke/VarHandle") (hM : OwnMet l y bytes maxL none [] rm Z (.ref a :: argsL).toArray h Q') (eT : T.heap = h)
    (hf : rm.frames + 1 ≤ R.frames) (hl : W + (maxL + 11) + rm.locals ≤ R.locals) (hc : cells + rm.cells ≤ R.cells) (hs : slots + rm.slots ≤ R.slots)
    (hg : g.method = m) (hsize : g.locals.size = c.maxLocals) (hlen : ∀ sig, parseMethodDescriptor y.desc = some sig → argsL.length = sig.parameters.length) (hstack : g.stack = argsL.reverse ++ .ref a :: rest)
    (hW : 2 * g.monitorRoom + (rest.map fun v => v.category).sum ≤ W) (hd : decode c.code g.pc = .ok (.invokespecial idx, 3))
    (K : ∀ v T' h' L, Stand p l e R s m args below meth c T' (locs ++ L) (cells + rm.cells) (slots + rm.slots) → T'.heap = h' → Q' v h' L → OwnWk p e below P (T'.setTop { g with pc := g.pc + 3, stack := v.toList ++ rest })) :
    OwnWk p e below P (T.setTop g) := by
  obtain ⟨v, vm₁, ⟨T', L', k', n'⟩, -, X', ⟨L, hQ, e1, e2, e3⟩, st⟩ := X.specialBack hx hy1 hown (mvT hZ w1) (mvT hZ w2) (mvT hZ w4) hy (hM.back hZ w4 w3 hf hl) hg hsize (Steps.refl _) hlen hstack hW hd (fun _ _ => ⟨rfl, eT, hc, hs⟩)
  dsimp only [Pt.U, Pt.locs, Pt.cells, Pt.slots] at X' e1 e2 e3 st hQ
  subst e1 e2 e3
  exact own_go (fun t q => st.trans q) (K v T' _ L X' rfl hQ)
theorem own_callV (X : Stand p l e R s m args below meth c T locs cells slots) (hx : p.tables.exec = Jvm.exec) (hZ : Z.Warmed39 s.vm) (hown : s.vm.findClass own = some m.cls)
    (w1 : (Jvm.Cond.methodLink own idx y).before a0 Z = true) (w2 : (Jvm.Cond.declares y).before a0 Z = true) (nf : NotFace s y) (w5 : (Jvm.Cond.selects C y z).before a0 Z = true) (w6 : (Jvm.Cond.instanceMethod z).before a0 Z = true) (w3 : (Jvm.Cond.initialized z.cls).before a0 Z = true) (w4 : (Jvm.Cond.code z bytes maxL ret).before a0 Z = true)
    (hy : y.cls ≠ "java/lang/invoke/MethodHandle" ∧ y.cls ≠ "java/lang/invoke/VarHandle") (E : Exa Z h a C) (hM : OwnMet l z bytes maxL ret [] rm Z (.ref a :: argsL).toArray h Q') (eT : T.heap = h)
    (hf : rm.frames + 1 ≤ R.frames) (hl : W + (maxL + 11) + rm.locals ≤ R.locals) (hc : cells + rm.cells ≤ R.cells) (hs : slots + rm.slots ≤ R.slots)
    (hg : g.method = m) (hsize : g.locals.size = c.maxLocals) (hlen : ∀ sig, parseMethodDescriptor y.desc = some sig → argsL.length = sig.parameters.length) (hstack : g.stack = argsL.reverse ++ .ref a :: rest)
    (hW : 2 * g.monitorRoom + (rest.map fun v => v.category).sum ≤ W) (hd : decode c.code g.pc = .ok (.invokevirtual idx, 3))
    (K : ∀ v T' h' L, Stand p l e R s m args below meth c T' (locs ++ L) (cells + rm.cells) (slots + rm.slots) → T'.heap = h' → Q' v h' L → OwnWk p e below P (T'.setTop { g with pc := g.pc + 3, stack := v.toList ++ rest })) :
    OwnWk p e below P (T.setTop g) := by
  obtain ⟨cq, kq, q1, q2, q3⟩ := isOf hZ eT E
  obtain ⟨v, vm₁, ⟨T', L', k', n'⟩, -, X', ⟨L, hQ, e1, e2, e3⟩, st⟩ := X.virtualBack hx hown (mvT hZ w1) (mvT hZ w2) nf (mvT hZ w5) (mvT hZ w6) hy (hM.back hZ w4 w3 hf hl) q1 q3 hg hsize (Steps.refl _) hlen hstack hW hd (fun _ _ => ⟨rfl, eT, hc, hs⟩)
  dsimp only [Pt.U, Pt.locs, Pt.cells, Pt.slots] at X' e1 e2 e3 st hQ
  subst e1 e2 e3
  exact own_go (fun t q => st.trans q) (K v T' _ L X' rfl hQ)
theorem own_callI (X : Stand p l e R s m args below meth c T locs cells slots) (hx : p.tables.exec = Jvm.exec) (hZ : Z.Warmed39 s.vm) (hown : s.vm.findClass own = some m.cls)
    (w1 : (Jvm.Cond.methodLink own idx y).before a0 Z = true) (w2 : (Jvm.Cond.declares y).before a0 Z = true) (w7 : (Jvm.Cond.interfaceMethod y.cls y.cls y.name y.desc).before args s = true) (w5 : (Jvm.Cond.selects C y z).before a0 Z = true) (w6 : (Jvm.Cond.instanceMethod z).before a0 Z = true)
    (w8 : (Jvm.Cond.publicMethod z).before a0 Z = true) (w9 : (Jvm.Cond.unhidden C y.name y.desc).before a0 Z = true) (w10 : (Jvm.Cond.castable C y.cls).before a0 Z = true) (w3 : (Jvm.Cond.initialized z.cls).before a0 Z = true) (w4 : (Jvm.Cond.code z bytes maxL ret).before a0 Z = true)
    (hy : y.cls ≠ "java/lang/invoke/MethodHandle" ∧ y.cls ≠ "java/lang/invoke/VarHandle") (E : Exa Z h a C) (hM : OwnMet l z bytes maxL ret [] rm Z (.ref a :: argsL).toArray h Q') (eT : T.heap = h)
    (hf : rm.frames + 1 ≤ R.frames) (hl : W + (maxL + 11) + rm.locals ≤ R.locals) (hc : cells + rm.cells ≤ R.cells) (hs : slots + rm.slots ≤ R.slots)
    (hg : g.method = m) (hsize : g.locals.size = c.maxLocals) (hlen : ∀ sig, parseMethodDescriptor y.desc = some sig → argsL.length = sig.parameters.length) (hstack : g.stack = argsL.reverse ++ .ref a :: rest)
    (hW : 2 * g.monitorRoom + (rest.map fun v => v.category).sum ≤ W) (hd : decode c.code g.pc = .ok (.invokeinterface idx cnt, 5))
    (K : ∀ v T' h' L, Stand p l e R s m args below meth c T' (locs ++ L) (cells + rm.cells) (slots + rm.slots) → T'.heap = h' → Q' v h' L → OwnWk p e below P (T'.setTop { g with pc := g.pc + 5, stack := v.toList ++ rest })) :
    OwnWk p e below P (T.setTop g) := by
  obtain ⟨cq, kq, q1, q2, q3⟩ := isOf hZ eT E
  obtain ⟨v, vm₁, ⟨T', L', k', n'⟩, -, X', ⟨L, hQ, e1, e2, e3⟩, st⟩ := X.interfaceBack hx hown (mvT hZ w1) (mvT hZ w2) w7 (mvT hZ w5) (mvT hZ w6) (mvT hZ w8) (mvT hZ w9) (mvT hZ w10) hy (hM.back hZ w4 w3 hf hl) q1 q2 q3 hg hsize (Steps.refl _) hlen hstack hW hd (fun _ _ => ⟨rfl, eT, hc, hs⟩)
  dsimp only [Pt.U, Pt.locs, Pt.cells, Pt.slots] at X' e1 e2 e3 st hQ
  subst e1 e2 e3
  exact own_go (fun t q => st.trans q) (K v T' _ L X' rfl hQ)
theorem own_callP (X : Stand p l e R s m args below meth c T locs cells slots) (hx : p.tables.exec = Jvm.exec) (hZ : Z.Warmed39 s.vm) (hown : s.vm.findClass own = some m.cls)
    (w1 : (Jvm.Cond.methodLink own idx y).before a0 Z = true) (w2 : (Jvm.Cond.instanceMethod y).before a0 Z = true) (w5 : (Jvm.Cond.selects y.cls y y).before a0 Z = true) (w6 : (Jvm.Cond.privateMethod y).before a0 Z = true) (w3 : (Jvm.Cond.initialized y.cls).before a0 Z = true) (w4 : (Jvm.Cond.code y bytes maxL ret).before a0 Z = true)
    (hy : y.cls ≠ "java/lang/invoke/MethodHandle" ∧ y.cls ≠ "java/lang/invoke/VarHandle") (E : Exa Z h a C) (hM : OwnMet l y bytes maxL ret [] rm Z (.ref a :: argsL).toArray h Q') (eT : T.heap = h)
    (hf : rm.frames + 1 ≤ R.frames) (hl : W + (maxL + 11) + rm.locals ≤ R.locals) (hc : cells + rm.cells ≤ R.cells) (hs : slots + rm.slots ≤ R.slots)
    (hg : g.method = m) (hsize : g.locals.size = c.maxLocals) (hlen : ∀ sig, parseMethodDescriptor y.desc = some sig → argsL.length = sig.parameters.length) (hstack : g.stack = argsL.reverse ++ .ref a :: rest)
    (hW : 2 * g.monitorRoom + (rest.map fun v => v.category).sum ≤ W) (hd : decode c.code g.pc = .ok (.invokevirtual idx, 3))
    (K : ∀ v T' h' L, Stand p l e R s m args below meth c T' (locs ++ L) (cells + rm.cells) (slots + rm.slots) → T'.heap = h' → Q' v h' L → OwnWk p e below P (T'.setTop { g with pc := g.pc + 3, stack := v.toList ++ rest })) :
    OwnWk p e below P (T.setTop g) := by
  obtain ⟨cq, q, q'⟩ := E.cell
  obtain ⟨v, vm₁, ⟨T', L', k', n'⟩, -, X', ⟨L, hQ, e1, e2, e3⟩, st⟩ := X.privateBack hx hown (mvT hZ w1) (mvT hZ w2) (mvT hZ w5) (Cond.privateMethod_at (mvP hZ w6 (args := #[]))) (mvT hZ w4) hy (hM.back hZ w4 w3 hf hl) hg hsize (Steps.refl _) (by rw [eT]; exact q) q' hlen hstack hW hd (fun _ _ => ⟨rfl, eT, hc, hs⟩)
  dsimp only [Pt.U, Pt.locs, Pt.cells, Pt.slots] at X' e1 e2 e3 st hQ
  subst e1 e2 e3
  exact own_go (fun t q => st.trans q) (K v T' _ L X' rfl hQ)
/-! arrays by their lists -/
variable {vs : List Value} {ty : FieldType} {j : Int32} {v : Value}
theorem own_in (c : Cell) (e : c.slots = vs.toArray) (h0 : ¬ j < 0) (hj : j.toNatClampNeg < vs.length) : ¬ (j < 0 ∨ c.slots.size ≤ j.toNatClampNeg) := by
  rw [e]; simp only [List.size_toArray]
  rintro (q | q)
  · exact h0 q
  · omega
theorem own_len (X : Stand p l e R s m args below meth c T locs cells slots) (hx : p.tables.exec = Jvm.exec) (hZ : Z.Warmed39 s.vm) (eT : T.heap = h) (A : OAr Z h a ty vs) (hg : g.method = m) (hs : g.stack = .ref a :: rest) (hd : decode c.code g.pc = .ok (.arraylength, 1)) {N : Int32} (hN : vs.length.toInt32 = N)
    (K : OwnWk p e below P (T.setTop { g with pc := g.pc + 1, stack := .int N :: rest })) : OwnWk p e below P (T.setTop g) := by
  obtain ⟨cl, A, ec⟩ := A
  refine own_go (fun t q => X.arraylength hx (by rw [eT]; exact A.1) (State.isArrayOf_alike hZ.alike A.2.1) hg hs hd _ q) ?_
  rw [ec, List.size_toArray, hN]; exact K
theorem own_ldI (X : Stand p l e R s m args below meth c T locs cells slots) (hx : p.tables.exec = Jvm.exec) (hZ : Z.Warmed39 s.vm) (eT : T.heap = h) (A : OAr Z h a .int vs) (hg : g.method = m) (hs : g.stack = .int j :: .ref a :: rest) (hd : decode c.code g.pc = .ok (.iaload, 1)) (h0 : ¬ j < 0) (hj : vs[j.toNatClampNeg]? = some v)
    (K : OwnWk p e below P (T.setTop { g with pc := g.pc + 1, stack := v :: rest })) : OwnWk p e below P (T.setTop g) := by
  obtain ⟨cl, A, ec⟩ := A
  exact own_go (fun t q => X.iaload hx (by rw [eT]; exact A.1) (State.isArrayOf_alike hZ.alike A.2.1) A.2.2 (own_in cl ec h0 (List.getElem?_eq_some_iff.mp hj).1) (by rw [ec]; simpa using hj) hg hs hd _ q) K
theorem own_ldJ (X : Stand p l e R s m args below meth c T locs cells slots) (hx : p.tables.exec = Jvm.exec) (hZ : Z.Warmed39 s.vm) (eT : T.heap = h) (A : OAr Z h a .long vs) (hg : g.method = m) (hs : g.stack = .int j :: .ref a :: rest) (hd : decode c.code g.pc = .ok (.laload, 1)) (h0 : ¬ j < 0) (hj : vs[j.toNatClampNeg]? = some v)
    (K : OwnWk p e below P (T.setTop { g with pc := g.pc + 1, stack := v :: rest })) : OwnWk p e below P (T.setTop g) := by
  obtain ⟨cl, A, ec⟩ := A
  exact own_go (fun t q => X.laload hx (by rw [eT]; exact A.1) (State.isArrayOf_alike hZ.alike A.2.1) A.2.2 (own_in cl ec h0 (List.getElem?_eq_some_iff.mp hj).1) (by rw [ec]; simpa using hj) hg hs hd _ q) K
theorem own_ldA (X : Stand p l e R s m args below meth c T locs cells slots) (hx : p.tables.exec = Jvm.exec) (hZ : Z.Warmed39 s.vm) (eT : T.heap = h) (A : OAr Z h a ty vs) (hty : ty.isReference = true) (hg : g.method = m) (hs : g.stack = .int j :: .ref a :: rest) (hd : decode c.code g.pc = .ok (.aaload, 1)) (h0 : ¬ j < 0) (hj : vs[j.toNatClampNeg]? = some v)
    (K : OwnWk p e below P (T.setTop { g with pc := g.pc + 1, stack := v :: rest })) : OwnWk p e below P (T.setTop g) := by
  obtain ⟨cl, A, ec⟩ := A
  exact own_go (fun t q => X.aaload hx (by rw [eT]; exact A.1) (State.isArrayOf_alike hZ.alike A.2.1) hty A.2.2 (own_in cl ec h0 (List.getElem?_eq_some_iff.mp hj).1) (by rw [ec]; simpa using hj) hg hs hd _ q) K
theorem own_stI (X : Stand p l e R s m args below meth c T locs cells slots) (hx : p.tables.exec = Jvm.exec) (hZ : Z.Warmed39 s.vm) (eT : T.heap = h) (A : OAr Z h a .int vs) {x : Int32} (hg : g.method = m) (hs : g.stack = .int x :: .int j :: .ref a :: rest) (hd : decode c.code g.pc = .ok (.iastore, 1)) (h0 : ¬ j < 0) (hj : j.toNatClampNeg < vs.length)
    (K : ∀ T' h', Stand p l e R s m args below meth c T' (locs ++ [⟨a, j.toNatClampNeg⟩]) cells slots → T'.heap = h' → Wr h h' a j.toNatClampNeg (.int x) → OAr Z h' a .int (vs.set j.toNatClampNeg (.int x)) → OwnWk p e below P (T'.setTop { g with pc := g.pc + 1, stack := rest })) : OwnWk p e below P (T.setTop g) := by
  obtain ⟨cl, A', ec⟩ := A
  obtain ⟨T', h', X', e', W', st⟩ := stI X hx hZ eT A' (j := j) (own_in cl ec h0 hj) hg hs hd
  exact own_go st (K T' h' X' e' W' (OAr.set ⟨cl, A', ec⟩ W'))
theorem own_stJ (X : Stand p l e R s m args below meth c T locs cells slots) (hx : p.tables.exec = Jvm.exec) (hZ : Z.Warmed39 s.vm) (eT : T.heap = h) (A : OAr Z h a .long vs) {x : Int64} (hg : g.method = m) (hs : g.stack = .long x :: .int j :: .ref a :: rest) (hd : decode c.code g.pc = .ok (.lastore, 1)) (h0 : ¬ j < 0) (hj : j.toNatClampNeg < vs.length)
    (K : ∀ T' h', Stand p l e R s m args below meth c T' (locs ++ [⟨a, j.toNatClampNeg⟩]) cells slots → T'.heap = h' → Wr h h' a j.toNatClampNeg (.long x) → OAr Z h' a .long (vs.set j.toNatClampNeg (.long x)) → OwnWk p e below P (T'.setTop { g with pc := g.pc + 1, stack := rest })) : OwnWk p e below P (T.setTop g) := by
  obtain ⟨cl, A', ec⟩ := A
  obtain ⟨T', h', X', e', W', st⟩ := stJ X hx hZ eT A' (j := j) (own_in cl ec h0 hj) hg hs hd
  exact own_go st (K T' h' X' e' W' (OAr.set ⟨cl, A', ec⟩ W'))
theorem own_newP {aty : ArrayType} (X : Stand p l e R s m args below meth c T locs cells slots) (hx : p.tables.exec = Jvm.exec) (hZ : Z.Warmed39 s.vm) (w : (Jvm.Cond.arrayClass (newarray.typeOf aty)).before a0 Z = true) (eT : T.heap = h) (hg : g.method = m) (hd : decode c.code g.pc = .ok (.newarray aty, 2)) {N : Int32} (hs : g.stack = .int N :: rest)
    (hn : ¬ N < 0) {cap : Nat} (hcap : N.toNatClampNeg ≤ cap) (hb : cap * 8 ≤ 536870912) (hc : cells + 1 ≤ R.cells) (hl : slots + cap ≤ R.slots)
    (K : ∀ T' h' b, Stand p l e R s m args below meth c T' locs (cells + 1) (slots + cap) → T'.heap = h' → b = h.size → Ext h h' → OAr Z h' b (newarray.typeOf aty) (List.replicate N.toNatClampNeg (defaultValue (newarray.typeOf aty))) → OwnWk p e below P (T'.setTop { g with pc := g.pc + 2, stack := .ref b :: rest })) : OwnWk p e below P (T.setTop g) := by
  obtain ⟨T', h', cA, X', e', E', A', st⟩ := newP X hx hZ w eT hg hd hs hn hcap hb hc hl
  exact own_go st (K T' h' _ X' e' rfl E' ⟨_, A', by simp [newA]⟩)
theorem own_newPE {aty : ArrayType} {ad : String} (X : Stand p l e R s m args below meth c T locs cells slots) (hx : p.tables.exec = Jvm.exec) (hZ : Z.Warmed39 s.vm) (w : (Jvm.Cond.arrayClass (newarray.typeOf aty)).before a0 Z = true) (eT : T.heap = h) (hg : g.method = m) (hd : decode c.code g.pc = .ok (.newarray aty, 2)) {N : Int32} (hs : g.stack = .int N :: rest)
    (hn : ¬ N < 0) {cap : Nat} (hcap : N.toNatClampNeg ≤ cap) (hb : cap * 8 ≤ 536870912) (hc : cells + 1 ≤ R.cells) (hl : slots + cap ≤ R.slots) (had : "[" ++ (newarray.typeOf aty).toString = ad)
    (K : ∀ T' h' b, Stand p l e R s m args below meth c T' locs (cells + 1) (slots + cap) → T'.heap = h' → b = h.size → Ext h h' → OAr Z h' b (newarray.typeOf aty) (List.replicate N.toNatClampNeg (defaultValue (newarray.typeOf aty))) → Exa Z h' b ad → OwnWk p e below P (T'.setTop { g with pc := g.pc + 2, stack := .ref b :: rest })) : OwnWk p e below P (T.setTop g) := by
  obtain ⟨T', h', cA, X', e', E', A', Ex, st⟩ := newPE X hx hZ w eT hg hd hs hn hcap hb hc hl had
  exact own_go st (K T' h' _ X' e' rfl E' ⟨_, A', by simp [newA]⟩ Ex)
theorem own_clone {ad : String} (X : Stand p l e R s m args below meth c T locs cells slots) (hx : p.tables.exec = Jvm.exec) (hZ : Z.Warmed39 s.vm) (hown : s.vm.findClass own = some m.cls)
    (w1 : (Jvm.Cond.methodLink own idx ⟨ad, "clone", "()Ljava/lang/Object;"⟩).before a0 Z = true) (w2 : (Jvm.Cond.sameMethod ad "java/lang/Object" "clone" "()Ljava/lang/Object;").before a0 Z = true) (w3 : (Jvm.Cond.native ⟨"java/lang/Object", "clone", "()Ljava/lang/Object;"⟩).before a0 Z = true)
    (w4 : (Jvm.Cond.instanceMethod ⟨"java/lang/Object", "clone", "()Ljava/lang/Object;"⟩).before a0 Z = true) (w5 : (Jvm.Cond.selects ad ⟨ad, "clone", "()Ljava/lang/Object;"⟩ ⟨"java/lang/Object", "clone", "()Ljava/lang/Object;"⟩).before a0 Z = true) (w6 : (Jvm.Cond.castable ad "java/lang/Cloneable").before a0 Z = true)
    (eT : T.heap = h) (A : OAr Z h a ty vs) (E : Exa Z h a ad) (F : ∀ v ∈ vs, fits ty v = true) (hg : g.method = m) (hsize : g.locals.size = c.maxLocals) (hs : g.stack = .ref a :: rest) (hd : decode c.code g.pc = .ok (.invokevirtual idx, 3))
    (hf : 1 ≤ R.frames) {cap : Nat} (hW : 2 * g.monitorRoom + (rest.map fun v => v.category).sum ≤ W) (hl : W + 14 ≤ R.locals) (hcap : vs.length ≤ cap) (hc : cells + 1 ≤ R.cells) (hsl : slots + cap ≤ R.slots)
    (K : ∀ T' h' b, Stand p l e R s m args below meth c T' locs (cells + 1) (slots + cap) → T'.heap = h' → b = h.size → Ext h h' → OAr Z h' b ty vs → Exa Z h' b ad → OwnWk p e below P (T'.setTop { g with pc := g.pc + 3, stack := .ref b :: rest })) : OwnWk p e below P (T.setTop g) := by
  obtain ⟨cl, A, ec⟩ := A
  have FC : FitC Z cl := fitC_of A fun i hi v hv => by
    rw [ec] at hv
    exact F v (List.mem_of_getElem? (by simpa using hv))
  obtain ⟨T', h', X', e', E', A', Ex, st⟩ := cloneA X hx hZ hown w1 w2 w3 w4 w5 w6 eT A E FC hg hsize hs hd hf hW hl (by rw [ec]; simpa using hcap) hc hsl
  exact own_go st (K T' h' _ X' e' rfl E' ⟨_, A', ec⟩ Ex)
end Own
/-! comparisons of longs -/
theorem own_tri (x y : Int64) : x < y ∨ x = y ∨ y < x := by
  rcases Int.lt_trichotomy x.toInt y.toInt with h | h | h
  · exact Or.inl (Int64.lt_iff_toInt_lt.mpr h)
  · exact Or.inr (Or.inl (Int64.toInt_inj.mp h))
  · exact Or.inr (Or.inr (Int64.lt_iff_toInt_lt.mpr h))
theorem own_lc_lt {x y : Int64} : (lcmpW x y < 0) ↔ x < y := by
  unfold lcmpW
  rcases own_tri x y with h | h | h
  · have h1 : ¬ x > y := Int64.lt_asymm h
    have h2 : ¬ x = y := Int64.ne_of_lt h
    simp [h1, h2, h]
  · subst h; simp
  · have h1 : ¬ x < y := Int64.lt_asymm h
    simp [h, h1]
theorem own_lc_gt {x y : Int64} : (0 < lcmpW x y) ↔ y < x := by
  unfold lcmpW
  rcases own_tri x y with h | h | h
  · have h1 : ¬ x > y := Int64.lt_asymm h
    have h2 : ¬ x = y := Int64.ne_of_lt h
    have h3 : ¬ y < x := h1
    simp [h1, h2, h3]
  · subst h; simp
  · simp [h]
theorem own_lc_eq {x y : Int64} : (lcmpW x y = 0) ↔ x = y := by
  unfold lcmpW
  rcases own_tri x y with h | h | h
  · have h1 : ¬ x > y := Int64.lt_asymm h
    have h2 : ¬ x = y := Int64.ne_of_lt h
    simp [h1, h2]
  · subst h; simp
  · have h2 : ¬ x = y := (Int64.ne_of_lt h).symm
    simp [h, h2]
/-! own: a walk that interns Strings: the end said of the true start, in the wide sense -/
abbrev OwnPW (s : State) (Q : Option Value → Heap → List Loc → Prop) (k n : Nat) : Option Value → State → List Loc → Prop := fun v t L => Q v t.heap L ∧ ReturnedEndW s (.returned v) t L k n
def OwnMetW (l : Launch) (y : MethodName) (bytes : ByteArray) (maxL : Nat) (ret : Option FieldType) (ws : List Jvm.Cond) (rm : Room) (Z : State) (as' : Array Value) (h0 : Heap) (Q : Option Value → Heap → List Loc → Prop) : Prop :=
  MetFree l y (head1 (Jvm.Cond.code y bytes maxL ret :: ws) rm) (fun a U => a = as' ∧ Z.Warmed39 U.vm ∧ U.heap = h0) (fun _ _ _ _ _ => True)
    (fun _ U o U' => ∃ v L, o = .returned v ∧ Q v U'.heap L ∧ ReturnedEndW U o U' L rm.cells rm.slots)
theorem own_metW {l : Launch} {y : MethodName} {bytes : ByteArray} {maxL : Nat} {ret : Option FieldType} {ws : List Jvm.Cond} {rm : Room} {Z : State} {as' : Array Value} {h0 : Heap} {Q : Option Value → Heap → List Loc → Prop} (hpl : plainFor y = true)
    (body : ∀ (p : Program) (e : Env) (s : State) (m : MethodId) (below : List Frame) (meth : Method) (c : Code) (s₁ : State), p.tables.exec = Jvm.exec → c.code = bytes → c.maxLocals = maxL → s.vm.findClass y.cls = some m.cls → meth.name = y.name → meth.sig.returnType = ret → meth.locks = false → Z.Warmed39 s.vm →
      Stand p l e rm s m as' below meth c s₁ [] 0 0 → s₁.heap = h0 → OwnWk p e below (OwnPW s Q rm.cells rm.slots) (s₁.setTop (entryFrame m as' maxL))) : OwnMetW l y bytes maxL ret ws rm Z as' h0 Q := by
  refine MetFree.of_bodySF hpl hisR ?_
  intro p e s m args below meth c s₁ Bd hml0 hP hK
  obtain ⟨rfl, hZ, hh⟩ := hP
  obtain ⟨s₂, v, L, h1, h2, h3, h4, h5⟩ := body p e s m below meth c s₁ Bd.exec Bd.bytes hml0 (findClass_of_methodNamed Bd.named) (name_of_methodNamed Bd.named Bd.method).1 Bd.returns (BodyLoose.notSynchronized Bd) hZ (Stand.of_body Bd) (by rw [← hh, Bd.state]; rfl)
  exact ⟨s₂, _, h1, h2, h3, v, L, rfl, h4, h5⟩
theorem own_retZW {p : Program} {l : Launch} {e : Env} {R : Room} {s : State} {m : MethodId} {args : Array Value} {below : List Frame} {meth : Method} {c : Code} {T : State} {locs : List Loc} {cells slots : Nat} {Q : Option Value → Heap → List Loc → Prop} {k n k1 : Nat} {vm1 : Vm} {rest : List Value}
    (X : Stand p l e R (s.setVm vm1) m args below meth c T locs cells slots) (hx : p.tables.exec = Jvm.exec) (hlk : meth.locks = false) (hret : meth.sig.returnType = some .boolean) (hS : s.Since vm1 k1) (hk : k1 ≤ T.heap.size) {pc : Nat} {Ls : Array Slot} {z z' : Int32} (hz : nar .boolean z = z') (hd : decode c.code pc = .ok (.ireturn, 1)) (hc : cells ≤ k) (hs : slots ≤ n)
    (hq : Q (some (.int z')) T.heap locs) : OwnWk p e below (OwnPW s Q k n) (T.setTop (mkF m pc Ls (.int z :: rest))) := by
  subst hz
  refine own_out0 X hlk (fun q => by rw [hret] at q; cases q) (fun fs hr => retN X hx hret (Or.inl rfl) hd hr) (fun t ht hF => ⟨by rw [ht]; exact hq, ?_⟩)
  obtain ⟨g1, g2, g3⟩ := hS.ended hF.2.1 (by rw [ht]; exact hk) hF.2.2
  exact ⟨hF.1, g1, g2, g3.mono hc hs⟩
theorem own_n_int {i : Nat} (h : i < 2 ^ 31) : (Int32.ofNat i).toInt = (i : Int) := by
  rw [Int32.toInt_ofNat']
  simp only [Int32.size, Int.bmod]
  omega
theorem own_n_nat {i : Nat} (h : i < 2 ^ 31) : (Int32.ofNat i).toNatClampNeg = i := by
  simp only [Int32.toNatClampNeg, own_n_int h]; omega
theorem own_n_nn {i : Nat} (h : i < 2 ^ 31) : ¬ Int32.ofNat i < 0 := by
  rw [Int32.lt_iff_toInt_lt, own_n_int h]; have : (0 : Int32).toInt = 0 := rfl
  omega
theorem own_n_lt {i j : Nat} (hi : i < 2 ^ 31) (hj : j < 2 ^ 31) : Int32.ofNat i < Int32.ofNat j ↔ i < j := by
  rw [Int32.lt_iff_toInt_lt, own_n_int hi, own_n_int hj]; omega
theorem own_n_succ {i : Nat} : Int32.ofNat i + (1 : Int32) = Int32.ofNat (i + 1) := by
  rw [Int32.ofNat_add]; rfl
theorem own_n_len (xs : List Int32) : (xs.map Value.int).length.toInt32 = Int32.ofNat xs.length := by rw [List.length_map]
theorem own_n_at {xs : List Int32} {i : Nat} {x : Int32} (h : i < 2 ^ 31) (hx : xs[i]? = some x) : (xs.map Value.int)[(Int32.ofNat i).toNatClampNeg]? = some (.int x) := by
  rw [own_n_nat h, List.getElem?_map, hx]; rfl
theorem own_drop {α : Type} {xs : List α} {i : Nat} {x : α} (h : xs[i]? = some x) : xs.drop i = x :: xs.drop (i + 1) := by
  obtain ⟨hi, rfl⟩ := List.getElem?_eq_some_iff.mp h
  exact List.drop_eq_getElem_cons hi
theorem own_get {α : Type} {xs : List α} {i : Nat} (h : i < xs.length) : ∃ x, xs[i]? = some x := ⟨xs[i], List.getElem?_eq_getElem h⟩
theorem own_and3 (u : Int32) : (u &&& 3) = 0 ∨ (u &&& 3) = 1 ∨ (u &&& 3) = 2 ∨ (u &&& 3) = 3 := by
  have h : (u &&& 3).toBitVec.toNat < 4 := by
    simp only [Int32.toBitVec_and, BitVec.toNat_and]
    exact Nat.lt_of_le_of_lt Nat.and_le_right (by decide)
  have e : ∀ k : Nat, k < 4 → (u &&& 3).toBitVec.toNat = k → (u &&& 3) = Int32.ofNat k := fun k hk q => by
    apply Int32.toBitVec_inj.mp; apply BitVec.eq_of_toNat_eq; rw [q]; simp [Int32.toBitVec, Int32.ofNat]; omega
  have c : (u &&& 3).toBitVec.toNat = 0 ∨ (u &&& 3).toBitVec.toNat = 1 ∨ (u &&& 3).toBitVec.toNat = 2 ∨ (u &&& 3).toBitVec.toNat = 3 := by omega
  rcases c with c | c | c | c
  · exact Or.inl (e 0 (by decide) c)
  · exact Or.inr (Or.inl (e 1 (by decide) c))
  · exact Or.inr (Or.inr (Or.inl (e 2 (by decide) c)))
  · exact Or.inr (Or.inr (Or.inr (e 3 (by decide) c)))
theorem own_three {u n : Int32} (h : n = (u &&& (3 : Int32))) (h0 : ¬ n = 0) (h1 : ¬ n = 1) (h2 : ¬ n = 2) : n = 3 := by
  subst h
  rcases own_and3 u with q | q | q | q
  · exact absurd q h0
  · exact absurd q h1
  · exact absurd q h2
  · exact q
def own_iv (ns : List Nat) : List Value := ns.map fun n => .int (Int32.ofNat n)
theorem own_getD {α : Type} {xs : List α} {i : Nat} {d : α} (h : i < xs.length) : xs[i]? = some (xs.getD i d) := by
  rw [List.getD_eq_getElem?_getD, List.getElem?_eq_getElem h]; rfl
theorem own_and_nat (u : Int32) (k : Nat) (hk : k < 2 ^ 31) : ∃ n, n ≤ k ∧ (u &&& Int32.ofNat k) = Int32.ofNat n := by
  obtain ⟨n, hn⟩ : ∃ n, n = (u &&& Int32.ofNat k).toBitVec.toNat := ⟨_, rfl⟩
  have h0 : n ≤ k := by
    rw [hn, Int32.toBitVec_and, BitVec.toNat_and]
    refine Nat.le_trans Nat.and_le_right ?_
    show (BitVec.ofNat 32 k).toNat ≤ k
    simp; omega
  refine ⟨n, h0, ?_⟩
  apply Int32.toBitVec_inj.mp; apply BitVec.eq_of_toNat_eq; rw [← hn]
  show n = (BitVec.ofNat 32 n).toNat
  simp; omega
theorem own_rem_nat {n k : Nat} (hn : n < 2 ^ 31) (hk : 0 < k) (hk2 : k < 2 ^ 31) : Int32.ofNat n % Int32.ofNat k = Int32.ofNat (n % k) := by
  apply Int32.toInt_inj.mp
  have := Nat.mod_lt n hk
  rw [Int32.toInt_mod, own_n_int hn, own_n_int hk2, own_n_int (by omega), Int.tmod_eq_emod_of_nonneg (by omega)]
  norm_cast
theorem own_draw (u : Int32) (k m : Nat) (hk : k < 2 ^ 31) (hm : 0 < m) (hm2 : m < 2 ^ 31) : ∃ n, n < m ∧ (u &&& Int32.ofNat k) % Int32.ofNat m = Int32.ofNat n := by
  obtain ⟨n, h1, h2⟩ := own_and_nat u k hk
  exact ⟨n % m, Nat.mod_lt n hm, by rw [h2, own_rem_nat (by omega) hm hm2]⟩
theorem own_cast {Z : State} {h : Heap} {a : Addr} {ty : FieldType} {vs ws : List Value} (e : vs = ws) (V : OAr Z h a ty vs) : OAr Z h a ty ws := e ▸ V
def own_dec : List Nat → List Int32 → List Int32
  | [], c => c
  | q :: qs, c => own_dec qs (c.set q (c.getD q 0 - 1))
def own_inc : List Nat → List Int32 → List Int32
  | [], c => c
  | q :: qs, c => own_inc qs (c.set q (c.getD q 0 + 1))
def own_eff (H : Nat) (xs ys : List Nat) : List Int32 := own_inc ys (own_dec xs (List.replicate H 0))
def own_cnt (P : Nat) : List Nat → Int32 → Int32
  | [], k => k
  | q :: qs, k => own_cnt P qs (if Int32.ofNat q = Int32.ofNat P then k + 1 else k)
def own_okc (c : List Int32) (xs ys : List Nat) (P : Nat) : Int32 := if Int32.ofNat P < Int32.ofNat c.length then (if c.getD P 0 = own_cnt P ys 0 - own_cnt P xs 0 then 1 else 0) else 1
theorem own_dec_len (xs : List Nat) : ∀ c : List Int32, (own_dec xs c).length = c.length := by
  induction xs with
  | nil => intro c; rfl
  | cons q qs ih => intro c; show (own_dec qs _).length = _; rw [ih, List.length_set]
theorem own_inc_len (xs : List Nat) : ∀ c : List Int32, (own_inc xs c).length = c.length := by
  induction xs with
  | nil => intro c; rfl
  | cons q qs ih => intro c; show (own_inc qs _).length = _; rw [ih, List.length_set]
theorem own_eff_len (H : Nat) (xs ys : List Nat) : (own_eff H xs ys).length = H := by
  unfold own_eff; rw [own_inc_len, own_dec_len, List.length_replicate]
theorem own_ofNat_inj {a b : Nat} (ha : a < 2 ^ 31) (hb : b < 2 ^ 31) : Int32.ofNat a = Int32.ofNat b ↔ a = b := by
  constructor
  · intro h; have := congrArg Int32.toInt h; rw [own_n_int ha, own_n_int hb] at this; omega
  · intro h; rw [h]
theorem own_setD {c : List Int32} {q P : Nat} {x : Int32} (hq : q < c.length) : (c.set q x).getD P 0 = if q = P then x else c.getD P 0 := by
  rw [List.getD_eq_getElem?_getD, List.getElem?_set, List.getD_eq_getElem?_getD]
  by_cases e : q = P
  · subst e; simp [hq]
  · simp [e]
theorem own_cnt_add (P : Nat) : ∀ (qs : List Nat) (k : Int32), own_cnt P qs k = k + own_cnt P qs 0 := by
  intro qs
  induction qs with
  | nil => intro k; show k = k + 0; rw [Int32.add_zero]
  | cons q qs ih =>
    intro k
    show own_cnt P qs _ = k + own_cnt P qs _
    split
    · rw [ih (k + 1), ih (0 + 1), Int32.add_assoc, Int32.zero_add]
    · rw [ih k]
theorem own_inc_at {H P : Nat} (hP : P < 2 ^ 31) (hH : H < 2 ^ 31) : ∀ (qs : List Nat) (c : List Int32), c.length = H → (∀ q ∈ qs, q < H) → (own_inc qs c).getD P 0 = c.getD P 0 + own_cnt P qs 0 := by
  intro qs
  induction qs with
  | nil => intro c _ _; show c.getD P 0 = c.getD P 0 + 0; rw [Int32.add_zero]
  | cons q qs ih =>
    intro c hc hq
    have hqH : q < H := hq q (List.mem_cons_self ..)
    show (own_inc qs _).getD P 0 = c.getD P 0 + own_cnt P qs _
    rw [ih _ (by rw [List.length_set]; exact hc) (fun r hr => hq r (List.mem_cons_of_mem _ hr)), own_setD (by omega)]
    by_cases e : q = P
    · subst e; rw [if_pos rfl, if_pos rfl, own_cnt_add q qs (0 + 1), Int32.zero_add, Int32.add_assoc]
    · rw [if_neg e, if_neg (fun z => e ((own_ofNat_inj (by omega) hP).mp z))]
theorem own_dec_at {H P : Nat} (hP : P < 2 ^ 31) (hH : H < 2 ^ 31) : ∀ (qs : List Nat) (c : List Int32), c.length = H → (∀ q ∈ qs, q < H) → (own_dec qs c).getD P 0 = c.getD P 0 - own_cnt P qs 0 := by
  intro qs
  induction qs with
  | nil => intro c _ _; show c.getD P 0 = c.getD P 0 - 0; rw [Int32.sub_zero]
  | cons q qs ih =>
    intro c hc hq
    have hqH : q < H := hq q (List.mem_cons_self ..)
    show (own_dec qs _).getD P 0 = c.getD P 0 - own_cnt P qs _
    rw [ih _ (by rw [List.length_set]; exact hc) (fun r hr => hq r (List.mem_cons_of_mem _ hr)), own_setD (by omega)]
    by_cases e : q = P
    · subst e; rw [if_pos rfl, if_pos rfl, own_cnt_add q qs (0 + 1), Int32.zero_add, Int32.sub_sub]
    · rw [if_neg e, if_neg (fun z => e ((own_ofNat_inj (by omega) hP).mp z))]
theorem own_finok {H P : Nat} (hH : H ≤ 7) (hP : P ≤ 7) {xs ys : List Nat} (hx : ∀ q ∈ xs, q < H) (hy : ∀ q ∈ ys, q < H) : own_okc (own_eff H xs ys) xs ys P = 1 := by
  unfold own_okc
  rw [own_eff_len]
  split
  · rename_i h
    rw [own_n_lt (by omega) (by omega)] at h
    refine if_pos ?_
    unfold own_eff
    rw [own_inc_at (H := H) (by omega) (by omega) ys _ (by rw [own_dec_len, List.length_replicate]) hy, own_dec_at (H := H) (by omega) (by omega) xs _ (by rw [List.length_replicate]) hx]
    have z : (List.replicate H (0 : Int32)).getD P 0 = 0 := by
      rw [List.getD_eq_getElem?_getD, List.getElem?_replicate]; split <;> rfl
    rw [z, Int32.sub_eq_add_neg, Int32.zero_add, Int32.add_comm, ← Int32.sub_eq_add_neg]
  · rfl
theorem own_shape {xs : List Nat} (h : xs.length ≤ 3) : xs = [] ∨ (∃ a, xs = [a]) ∨ (∃ a b, xs = [a, b]) ∨ ∃ a b c, xs = [a, b, c] := by
  match xs, h with
  | [], _ => exact Or.inl rfl
  | [a], _ => exact Or.inr (Or.inl ⟨a, rfl⟩)
  | [a, b], _ => exact Or.inr (Or.inr (Or.inl ⟨a, b, rfl⟩))
  | [a, b, c], _ => exact Or.inr (Or.inr (Or.inr ⟨a, b, c, rfl⟩))
theorem own_ivat {xs : List Nat} {i q : Nat} (h : i < 2 ^ 31) (hx : xs[i]? = some q) : (own_iv xs)[(Int32.ofNat i).toNatClampNeg]? = some (.int (Int32.ofNat q)) := by
  rw [own_n_nat h]; unfold own_iv; rw [List.getElem?_map, hx]; rfl
theorem own_ivlen (xs : List Nat) : (own_iv xs).length.toInt32 = Int32.ofNat xs.length := by unfold own_iv; rw [List.length_map]
theorem own_mpat {c : List Int32} {q : Nat} (h : q < 2 ^ 31) (hq : q < c.length) : (c.map Value.int)[(Int32.ofNat q).toNatClampNeg]? = some (.int (c.getD q 0)) := by
  rw [own_n_nat h, List.getElem?_map, own_getD (d := 0) hq]; rfl
theorem own_mpset {c : List Int32} {q : Nat} {x : Int32} (h : q < 2 ^ 31) : (c.map Value.int).set (Int32.ofNat q).toNatClampNeg (.int x) = (c.set q x).map Value.int := by
  rw [own_n_nat h, List.map_set]
theorem own_st6 {z0 z1 z2 z3 z4 z5 : Value} {s6 : Slot} {v : Int32} (h : One s6) : storeLocals #[.val z0, .val z1, .val z2, .val z3, .val z4, .val z5, s6] 6 (.int v) = some #[.val z0, .val z1, .val z2, .val z3, .val z4, .val z5, .val (.int v)] := by
  rcases h with rfl | ⟨w, rfl, hw⟩
  · rfl
  · cases w <;> first | rfl | (simp [Value.category] at hw)
theorem pn_pn_1 : plainName "com/example/antipode/antipode/net/TransitionEffectPinLaw" = true := by first | (simp [plainName, overriddenIn]; done) | decide +kernel
theorem pn_1 : plainFor (⟨"com/example/antipode/antipode/net/TransitionEffectPinLaw", "mk", "(II)[I"⟩ : MethodName) = true := plainFor_of_name pn_pn_1
theorem d1_0 : decode method_2_code 0 = .ok (.iload_n 0, 1) := by decide +kernel
theorem d1_1 : decode method_2_code 1 = .ok (.iconst 3, 1) := by decide +kernel
theorem d1_2 : decode method_2_code 2 = .ok (.iand, 1) := by decide +kernel
theorem d1_3 : decode method_2_code 3 = .ok (.istore_n 2, 1) := by decide +kernel
theorem d1_4 : decode method_2_code 4 = .ok (.iload_n 2, 1) := by decide +kernel
theorem d1_5 : decode method_2_code 5 = .ok (.ifCond .eq 7, 3) := by decide +kernel
theorem d1_12 : decode method_2_code 12 = .ok (.iconst 0, 1) := by decide +kernel
theorem d1_13 : decode method_2_code 13 = .ok (.newarray .int, 2) := by decide +kernel
theorem d1_15 : decode method_2_code 15 = .ok (.areturn, 1) := by decide +kernel
theorem d1_8 : decode method_2_code 8 = .ok (.iload_n 1, 1) := by decide +kernel
theorem d1_9 : decode method_2_code 9 = .ok (.ifCond .ne 7, 3) := by decide +kernel
theorem d1_16 : decode method_2_code 16 = .ok (.iload_n 0, 1) := by decide +kernel
theorem d1_17 : decode method_2_code 17 = .ok (.iconst 2, 1) := by decide +kernel
theorem d1_18 : decode method_2_code 18 = .ok (.iushr, 1) := by decide +kernel
theorem d1_19 : decode method_2_code 19 = .ok (.bipush 7, 2) := by decide +kernel
theorem d1_21 : decode method_2_code 21 = .ok (.iand, 1) := by decide +kernel
theorem d1_22 : decode method_2_code 22 = .ok (.iload_n 1, 1) := by decide +kernel
theorem d1_23 : decode method_2_code 23 = .ok (.irem, 1) := by decide +kernel
theorem d1_24 : decode method_2_code 24 = .ok (.istore_n 3, 1) := by decide +kernel
theorem d1_25 : decode method_2_code 25 = .ok (.iload_n 0, 1) := by decide +kernel
theorem d1_26 : decode method_2_code 26 = .ok (.iconst 5, 1) := by decide +kernel
theorem d1_27 : decode method_2_code 27 = .ok (.iushr, 1) := by decide +kernel
theorem d1_28 : decode method_2_code 28 = .ok (.bipush 7, 2) := by decide +kernel
theorem d1_30 : decode method_2_code 30 = .ok (.iand, 1) := by decide +kernel
theorem d1_31 : decode method_2_code 31 = .ok (.iload_n 1, 1) := by decide +kernel
theorem d1_32 : decode method_2_code 32 = .ok (.irem, 1) := by decide +kernel
theorem d1_33 : decode method_2_code 33 = .ok (.istore 4, 2) := by decide +kernel
theorem d1_35 : decode method_2_code 35 = .ok (.iload_n 0, 1) := by decide +kernel
theorem d1_36 : decode method_2_code 36 = .ok (.bipush 8, 2) := by decide +kernel
theorem d1_38 : decode method_2_code 38 = .ok (.iushr, 1) := by decide +kernel
theorem d1_39 : decode method_2_code 39 = .ok (.bipush 7, 2) := by decide +kernel
theorem d1_41 : decode method_2_code 41 = .ok (.iand, 1) := by decide +kernel
theorem d1_42 : decode method_2_code 42 = .ok (.iload_n 1, 1) := by decide +kernel
theorem d1_43 : decode method_2_code 43 = .ok (.irem, 1) := by decide +kernel
theorem d1_44 : decode method_2_code 44 = .ok (.istore 5, 2) := by decide +kernel
theorem d1_46 : decode method_2_code 46 = .ok (.iload_n 2, 1) := by decide +kernel
theorem d1_47 : decode method_2_code 47 = .ok (.iconst 1, 1) := by decide +kernel
theorem d1_48 : decode method_2_code 48 = .ok (.if_icmp .ne 11, 3) := by decide +kernel
theorem d1_51 : decode method_2_code 51 = .ok (.iconst 1, 1) := by decide +kernel
theorem d1_52 : decode method_2_code 52 = .ok (.newarray .int, 2) := by decide +kernel
theorem d1_54 : decode method_2_code 54 = .ok (.dup, 1) := by decide +kernel
theorem d1_55 : decode method_2_code 55 = .ok (.iconst 0, 1) := by decide +kernel
theorem d1_56 : decode method_2_code 56 = .ok (.iload_n 3, 1) := by decide +kernel
theorem d1_57 : decode method_2_code 57 = .ok (.iastore, 1) := by decide +kernel
theorem d1_58 : decode method_2_code 58 = .ok (.areturn, 1) := by decide +kernel
theorem d1_59 : decode method_2_code 59 = .ok (.iload_n 2, 1) := by decide +kernel
theorem d1_60 : decode method_2_code 60 = .ok (.iconst 2, 1) := by decide +kernel
theorem d1_61 : decode method_2_code 61 = .ok (.if_icmp .ne 16, 3) := by decide +kernel
theorem d1_64 : decode method_2_code 64 = .ok (.iconst 2, 1) := by decide +kernel
theorem d1_65 : decode method_2_code 65 = .ok (.newarray .int, 2) := by decide +kernel
theorem d1_67 : decode method_2_code 67 = .ok (.dup, 1) := by decide +kernel
theorem d1_68 : decode method_2_code 68 = .ok (.iconst 0, 1) := by decide +kernel
theorem d1_69 : decode method_2_code 69 = .ok (.iload_n 3, 1) := by decide +kernel
theorem d1_70 : decode method_2_code 70 = .ok (.iastore, 1) := by decide +kernel
theorem d1_71 : decode method_2_code 71 = .ok (.dup, 1) := by decide +kernel
theorem d1_72 : decode method_2_code 72 = .ok (.iconst 1, 1) := by decide +kernel
theorem d1_73 : decode method_2_code 73 = .ok (.iload 4, 2) := by decide +kernel
theorem d1_75 : decode method_2_code 75 = .ok (.iastore, 1) := by decide +kernel
theorem d1_76 : decode method_2_code 76 = .ok (.areturn, 1) := by decide +kernel
theorem d1_77 : decode method_2_code 77 = .ok (.iconst 3, 1) := by decide +kernel
theorem d1_78 : decode method_2_code 78 = .ok (.newarray .int, 2) := by decide +kernel
theorem d1_80 : decode method_2_code 80 = .ok (.dup, 1) := by decide +kernel
theorem d1_81 : decode method_2_code 81 = .ok (.iconst 0, 1) := by decide +kernel
theorem d1_82 : decode method_2_code 82 = .ok (.iload_n 3, 1) := by decide +kernel
theorem d1_83 : decode method_2_code 83 = .ok (.iastore, 1) := by decide +kernel
theorem d1_84 : decode method_2_code 84 = .ok (.dup, 1) := by decide +kernel
theorem d1_85 : decode method_2_code 85 = .ok (.iconst 1, 1) := by decide +kernel
theorem d1_86 : decode method_2_code 86 = .ok (.iload 4, 2) := by decide +kernel
theorem d1_88 : decode method_2_code 88 = .ok (.iastore, 1) := by decide +kernel
theorem d1_89 : decode method_2_code 89 = .ok (.dup, 1) := by decide +kernel
theorem d1_90 : decode method_2_code 90 = .ok (.iconst 2, 1) := by decide +kernel
theorem d1_91 : decode method_2_code 91 = .ok (.iload 5, 2) := by decide +kernel
theorem d1_93 : decode method_2_code 93 = .ok (.iastore, 1) := by decide +kernel
theorem d1_94 : decode method_2_code 94 = .ok (.areturn, 1) := by decide +kernel
theorem ef_rm1 (m : MethodId) (x0 : Int32) (x1 : Int32) : entryFrame m #[(.int x0), (.int x1)] 6 = mkF m 0 #[.val (.int x0), .val (.int x1), .unset, .unset, .unset, .unset] [] := by first | (simp [entryFrame, mkF, argsToLocals, Value.category]; done) | rfl
def Q_rm1 (Z : State) (u : Int32) (H : Nat) (h0 : Heap) (n0 : Nat) (v : Option Value) (h : Heap) (L : List Loc) : Prop := ∃ (b : Addr) (xs : List Nat), v = some (.ref b) ∧ Fr n0 L ∧ Keep h0 h [] ∧ h0.size ≤ b ∧ n0 ≤ b ∧ OAr Z h b .int (own_iv xs) ∧ xs.length ≤ 3 ∧ ∀ q ∈ xs, q < H
set_option maxRecDepth 65536 in
set_option maxHeartbeats 40000000 in
theorem rm1 (l : Launch) (Z : State) (a0 : Array Value) (hw : ∀ d ∈ tables_1, d.before a0 Z = true) (u : Int32) (H : Nat) (h0 : Heap) (n0 : Nat) (Z0 : n0 ≤ h0.size) (hH : H ≤ 7) :
    OwnMet l (⟨"com/example/antipode/antipode/net/TransitionEffectPinLaw", "mk", "(II)[I"⟩ : MethodName) method_2_code 6 (some (.array .int)) [] ({ frames := 0, cells := 1, slots := 3, locals := 0 } : Room) Z #[(.int u), (.int (Int32.ofNat H))] h0 (Q_rm1 Z u H h0 n0) := by
  refine own_met pn_1 (fun p e s m below meth c s₁ hx hby hml hown hnm hret hlk hZ X0 e0 => ?_)
  have hown : s.vm.findClass "com/example/antipode/antipode/net/TransitionEffectPinLaw" = some m.cls := hown
  have N0 := Fr.nil n0
  have K0 := Keep.refl h0 []
  rw [ef_rm1]
  show OwnWk _ _ _ _ (s₁.setTop (mkF m 0 #[.val (.int u), .val (.int (Int32.ofNat H)), .unset, .unset, .unset, .unset] []))
  refine own_go (fun tgt kst => XS.iloadN X0.here hx rfl (hb hby d1_0) rfl  kst) ?_
  show OwnWk _ _ _ _ (s₁.setTop (mkF m 1 #[.val (.int u), .val (.int (Int32.ofNat H)), .unset, .unset, .unset, .unset] [(.int u)]))
  refine own_go (fun tgt kst => XS.iconst X0.here hx rfl (hb hby d1_1) kst) ?_
  show OwnWk _ _ _ _ (s₁.setTop (mkF m 2 #[.val (.int u), .val (.int (Int32.ofNat H)), .unset, .unset, .unset, .unset] [(.int (3 : Int32)), (.int u)]))
  refine own_go (fun tgt kst => XS.iand X0.here hx rfl (hb hby d1_2) rfl kst) ?_
  show OwnWk _ _ _ _ (s₁.setTop (mkF m 3 #[.val (.int u), .val (.int (Int32.ofNat H)), .unset, .unset, .unset, .unset] [(.int (u &&& (3 : Int32)))]))
  obtain ⟨n1, h_n1⟩ : ∃ z : Int32, z = (u &&& (3 : Int32)) := ⟨_, rfl⟩
  rw [← h_n1]
  refine own_go (fun tgt kst => XS.istoreN X0.here hx rfl (hb hby d1_3) rfl (l' := #[.val (.int u), .val (.int (Int32.ofNat H)), .val (.int n1), .unset, .unset, .unset]) rfl kst) ?_
  show OwnWk _ _ _ _ (s₁.setTop (mkF m 4 #[.val (.int u), .val (.int (Int32.ofNat H)), .val (.int n1), .unset, .unset, .unset] []))
  refine own_go (fun tgt kst => XS.iloadN X0.here hx rfl (hb hby d1_4) rfl  kst) ?_
  show OwnWk _ _ _ _ (s₁.setTop (mkF m 5 #[.val (.int u), .val (.int (Int32.ofNat H)), .val (.int n1), .unset, .unset, .unset] [(.int n1)]))
  by_cases hc1 : n1 = (0 : Int32)
  ·
    refine own_go (fun tgt kst => XS.ifYes X0.here hx rfl (pc0 := 5) (pc' := 12) rfl (hb hby d1_5) rfl ((if0 _ _).trans (teq hc1).1) (by decide) (by decide) kst) ?_
    show OwnWk _ _ _ _ (s₁.setTop (mkF m 12 #[.val (.int u), .val (.int (Int32.ofNat H)), .val (.int n1), .unset, .unset, .unset] []))
    refine own_go (fun tgt kst => XS.iconst X0.here hx rfl (hb hby d1_12) kst) ?_
    show OwnWk _ _ _ _ (s₁.setTop (mkF m 13 #[.val (.int u), .val (.int (Int32.ofNat H)), .val (.int n1), .unset, .unset, .unset] [(.int (0 : Int32))]))
    refine own_newP X0 hx hZ (aty := .int) (hw _ (List.mem_of_getElem? (i := 4) rfl)) e0 (g := (mkF m 13 #[.val (.int u), .val (.int (Int32.ofNat H)), .val (.int n1), .unset, .unset, .unset] [(.int (0 : Int32))])) rfl (hb hby d1_13) rfl (by decide) (cap := 0) (by decide) (by decide) (by decide) (by decide) (fun T2 h2 b2 X2 e2 g2 E2 V2 => ?_)
    have ge3 : n0 ≤ b2 := Nat.le_trans Z0 (Nat.le_of_eq g2.symm)
    have sz4 : h0.size ≤ b2 := Nat.le_trans K0.1 (Nat.le_of_eq g2.symm)
    have Z5 := Nat.le_trans Z0 E2.1
    have K6 := Keep.ext K0 E2
    have V2b : OAr Z h2 b2 .int [] := V2
    show OwnWk _ _ _ _ (T2.setTop (mkF m 15 #[.val (.int u), .val (.int (Int32.ofNat H)), .val (.int n1), .unset, .unset, .unset] [(.ref b2)]))
    exact own_retA X2 hx hlk hret rfl rfl rfl (hb hby d1_15) (by decide) (by decide) (by rw [e2]; exact ⟨b2, [], rfl, N0, K6, sz4, ge3, V2b, by simp, by simp⟩)
  ·
    refine own_go (fun tgt kst => XS.ifNo X0.here hx rfl (hb hby d1_5) rfl ((if0 _ _).trans (feq hc1).1) kst) ?_
    show OwnWk _ _ _ _ (s₁.setTop (mkF m 8 #[.val (.int u), .val (.int (Int32.ofNat H)), .val (.int n1), .unset, .unset, .unset] []))
    refine own_go (fun tgt kst => XS.iloadN X0.here hx rfl (hb hby d1_8) rfl  kst) ?_
    show OwnWk _ _ _ _ (s₁.setTop (mkF m 9 #[.val (.int u), .val (.int (Int32.ofNat H)), .val (.int n1), .unset, .unset, .unset] [(.int (Int32.ofNat H))]))
    by_cases hc7 : (Int32.ofNat H) = (0 : Int32)
    ·
      refine own_go (fun tgt kst => XS.ifNo X0.here hx rfl (hb hby d1_9) rfl ((if0 _ _).trans (teq hc7).2) kst) ?_
      show OwnWk _ _ _ _ (s₁.setTop (mkF m 12 #[.val (.int u), .val (.int (Int32.ofNat H)), .val (.int n1), .unset, .unset, .unset] []))
      refine own_go (fun tgt kst => XS.iconst X0.here hx rfl (hb hby d1_12) kst) ?_
      show OwnWk _ _ _ _ (s₁.setTop (mkF m 13 #[.val (.int u), .val (.int (Int32.ofNat H)), .val (.int n1), .unset, .unset, .unset] [(.int (0 : Int32))]))
      refine own_newP X0 hx hZ (aty := .int) (hw _ (List.mem_of_getElem? (i := 4) rfl)) e0 (g := (mkF m 13 #[.val (.int u), .val (.int (Int32.ofNat H)), .val (.int n1), .unset, .unset, .unset] [(.int (0 : Int32))])) rfl (hb hby d1_13) rfl (by decide) (cap := 0) (by decide) (by decide) (by decide) (by decide) (fun T8 h8 b8 X8 e8 g8 E8 V8 => ?_)
      have ge9 : n0 ≤ b8 := Nat.le_trans Z0 (Nat.le_of_eq g8.symm)
      have sz10 : h0.size ≤ b8 := Nat.le_trans K0.1 (Nat.le_of_eq g8.symm)
      have Z11 := Nat.le_trans Z0 E8.1
      have K12 := Keep.ext K0 E8
      have V8b : OAr Z h8 b8 .int [] := V8
      show OwnWk _ _ _ _ (T8.setTop (mkF m 15 #[.val (.int u), .val (.int (Int32.ofNat H)), .val (.int n1), .unset, .unset, .unset] [(.ref b8)]))
      exact own_retA X8 hx hlk hret rfl rfl rfl (hb hby d1_15) (by decide) (by decide) (by rw [e8]; exact ⟨b8, [], rfl, N0, K12, sz10, ge9, V8b, by simp, by simp⟩)
    ·
      refine own_go (fun tgt kst => XS.ifYes X0.here hx rfl (pc0 := 9) (pc' := 16) rfl (hb hby d1_9) rfl ((if0 _ _).trans (feq hc7).2) (by decide) (by decide) kst) ?_
      show OwnWk _ _ _ _ (s₁.setTop (mkF m 16 #[.val (.int u), .val (.int (Int32.ofNat H)), .val (.int n1), .unset, .unset, .unset] []))
      have hHp : 0 < H := Nat.pos_of_ne_zero (fun q => hc7 (by rw [q]; rfl))
      refine own_go (fun tgt kst => XS.iloadN X0.here hx rfl (hb hby d1_16) rfl  kst) ?_
      show OwnWk _ _ _ _ (s₁.setTop (mkF m 17 #[.val (.int u), .val (.int (Int32.ofNat H)), .val (.int n1), .unset, .unset, .unset] [(.int u)]))
      refine own_go (fun tgt kst => XS.iconst X0.here hx rfl (hb hby d1_17) kst) ?_
      show OwnWk _ _ _ _ (s₁.setTop (mkF m 18 #[.val (.int u), .val (.int (Int32.ofNat H)), .val (.int n1), .unset, .unset, .unset] [(.int (2 : Int32)), (.int u)]))
      refine own_go (fun tgt kst => XS.iushr X0.here hx rfl (hb hby d1_18) rfl kst) ?_
      show OwnWk _ _ _ _ (s₁.setTop (mkF m 19 #[.val (.int u), .val (.int (Int32.ofNat H)), .val (.int n1), .unset, .unset, .unset] [(.int ((u.toUInt32 >>> ((2 : Int32) &&& 31).toUInt32).toInt32))]))
      refine own_go (fun tgt kst => XS.bipush X0.here hx rfl (hb hby d1_19) kst) ?_
      show OwnWk _ _ _ _ (s₁.setTop (mkF m 21 #[.val (.int u), .val (.int (Int32.ofNat H)), .val (.int n1), .unset, .unset, .unset] [(.int (7 : Int32)), (.int ((u.toUInt32 >>> ((2 : Int32) &&& 31).toUInt32).toInt32))]))
      refine own_go (fun tgt kst => XS.iand X0.here hx rfl (hb hby d1_21) rfl kst) ?_
      show OwnWk _ _ _ _ (s₁.setTop (mkF m 22 #[.val (.int u), .val (.int (Int32.ofNat H)), .val (.int n1), .unset, .unset, .unset] [(.int (((u.toUInt32 >>> ((2 : Int32) &&& 31).toUInt32).toInt32) &&& (7 : Int32)))]))
      refine own_go (fun tgt kst => XS.iloadN X0.here hx rfl (hb hby d1_22) rfl  kst) ?_
      show OwnWk _ _ _ _ (s₁.setTop (mkF m 23 #[.val (.int u), .val (.int (Int32.ofNat H)), .val (.int n1), .unset, .unset, .unset] [(.int (Int32.ofNat H)), (.int (((u.toUInt32 >>> ((2 : Int32) &&& 31).toUInt32).toInt32) &&& (7 : Int32)))]))
      refine own_go (fun tgt kst => Jvm.RoadKit.iremM X0 hx rfl (hb hby d1_23) rfl hc7 kst) ?_
      show OwnWk _ _ _ _ (s₁.setTop (mkF m 24 #[.val (.int u), .val (.int (Int32.ofNat H)), .val (.int n1), .unset, .unset, .unset] [(.int ((((u.toUInt32 >>> ((2 : Int32) &&& 31).toUInt32).toInt32) &&& (7 : Int32)) % (Int32.ofNat H)))]))
      obtain ⟨A, lA, eA⟩ := own_draw ((u.toUInt32 >>> ((2 : Int32) &&& 31).toUInt32).toInt32) 7 H (by decide) hHp (by omega)
      rw [show ((((u.toUInt32 >>> ((2 : Int32) &&& 31).toUInt32).toInt32) &&& (7 : Int32)) % (Int32.ofNat H)) = Int32.ofNat A from eA]
      show OwnWk _ _ _ _ (s₁.setTop (mkF m 24 #[.val (.int u), .val (.int (Int32.ofNat H)), .val (.int n1), .unset, .unset, .unset] [(.int (Int32.ofNat A))]))
      refine own_go (fun tgt kst => XS.istoreN X0.here hx rfl (hb hby d1_24) rfl (l' := #[.val (.int u), .val (.int (Int32.ofNat H)), .val (.int n1), .val (.int (Int32.ofNat A)), .unset, .unset]) rfl kst) ?_
      show OwnWk _ _ _ _ (s₁.setTop (mkF m 25 #[.val (.int u), .val (.int (Int32.ofNat H)), .val (.int n1), .val (.int (Int32.ofNat A)), .unset, .unset] []))
      refine own_go (fun tgt kst => XS.iloadN X0.here hx rfl (hb hby d1_25) rfl  kst) ?_
      show OwnWk _ _ _ _ (s₁.setTop (mkF m 26 #[.val (.int u), .val (.int (Int32.ofNat H)), .val (.int n1), .val (.int (Int32.ofNat A)), .unset, .unset] [(.int u)]))
      refine own_go (fun tgt kst => XS.iconst X0.here hx rfl (hb hby d1_26) kst) ?_
      show OwnWk _ _ _ _ (s₁.setTop (mkF m 27 #[.val (.int u), .val (.int (Int32.ofNat H)), .val (.int n1), .val (.int (Int32.ofNat A)), .unset, .unset] [(.int (5 : Int32)), (.int u)]))
      refine own_go (fun tgt kst => XS.iushr X0.here hx rfl (hb hby d1_27) rfl kst) ?_
      show OwnWk _ _ _ _ (s₁.setTop (mkF m 28 #[.val (.int u), .val (.int (Int32.ofNat H)), .val (.int n1), .val (.int (Int32.ofNat A)), .unset, .unset] [(.int ((u.toUInt32 >>> ((5 : Int32) &&& 31).toUInt32).toInt32))]))
      refine own_go (fun tgt kst => XS.bipush X0.here hx rfl (hb hby d1_28) kst) ?_
      show OwnWk _ _ _ _ (s₁.setTop (mkF m 30 #[.val (.int u), .val (.int (Int32.ofNat H)), .val (.int n1), .val (.int (Int32.ofNat A)), .unset, .unset] [(.int (7 : Int32)), (.int ((u.toUInt32 >>> ((5 : Int32) &&& 31).toUInt32).toInt32))]))
      refine own_go (fun tgt kst => XS.iand X0.here hx rfl (hb hby d1_30) rfl kst) ?_
      show OwnWk _ _ _ _ (s₁.setTop (mkF m 31 #[.val (.int u), .val (.int (Int32.ofNat H)), .val (.int n1), .val (.int (Int32.ofNat A)), .unset, .unset] [(.int (((u.toUInt32 >>> ((5 : Int32) &&& 31).toUInt32).toInt32) &&& (7 : Int32)))]))
      refine own_go (fun tgt kst => XS.iloadN X0.here hx rfl (hb hby d1_31) rfl  kst) ?_
      show OwnWk _ _ _ _ (s₁.setTop (mkF m 32 #[.val (.int u), .val (.int (Int32.ofNat H)), .val (.int n1), .val (.int (Int32.ofNat A)), .unset, .unset] [(.int (Int32.ofNat H)), (.int (((u.toUInt32 >>> ((5 : Int32) &&& 31).toUInt32).toInt32) &&& (7 : Int32)))]))
      refine own_go (fun tgt kst => Jvm.RoadKit.iremM X0 hx rfl (hb hby d1_32) rfl hc7 kst) ?_
      show OwnWk _ _ _ _ (s₁.setTop (mkF m 33 #[.val (.int u), .val (.int (Int32.ofNat H)), .val (.int n1), .val (.int (Int32.ofNat A)), .unset, .unset] [(.int ((((u.toUInt32 >>> ((5 : Int32) &&& 31).toUInt32).toInt32) &&& (7 : Int32)) % (Int32.ofNat H)))]))
      obtain ⟨B, lB, eB⟩ := own_draw ((u.toUInt32 >>> ((5 : Int32) &&& 31).toUInt32).toInt32) 7 H (by decide) hHp (by omega)
      rw [show ((((u.toUInt32 >>> ((5 : Int32) &&& 31).toUInt32).toInt32) &&& (7 : Int32)) % (Int32.ofNat H)) = Int32.ofNat B from eB]
      show OwnWk _ _ _ _ (s₁.setTop (mkF m 33 #[.val (.int u), .val (.int (Int32.ofNat H)), .val (.int n1), .val (.int (Int32.ofNat A)), .unset, .unset] [(.int (Int32.ofNat B))]))
      refine own_go (fun tgt kst => XS.istore X0.here hx rfl (hb hby d1_33) rfl (l' := #[.val (.int u), .val (.int (Int32.ofNat H)), .val (.int n1), .val (.int (Int32.ofNat A)), .val (.int (Int32.ofNat B)), .unset]) rfl kst) ?_
      show OwnWk _ _ _ _ (s₁.setTop (mkF m 35 #[.val (.int u), .val (.int (Int32.ofNat H)), .val (.int n1), .val (.int (Int32.ofNat A)), .val (.int (Int32.ofNat B)), .unset] []))
      refine own_go (fun tgt kst => XS.iloadN X0.here hx rfl (hb hby d1_35) rfl  kst) ?_
      show OwnWk _ _ _ _ (s₁.setTop (mkF m 36 #[.val (.int u), .val (.int (Int32.ofNat H)), .val (.int n1), .val (.int (Int32.ofNat A)), .val (.int (Int32.ofNat B)), .unset] [(.int u)]))
      refine own_go (fun tgt kst => XS.bipush X0.here hx rfl (hb hby d1_36) kst) ?_
      show OwnWk _ _ _ _ (s₁.setTop (mkF m 38 #[.val (.int u), .val (.int (Int32.ofNat H)), .val (.int n1), .val (.int (Int32.ofNat A)), .val (.int (Int32.ofNat B)), .unset] [(.int (8 : Int32)), (.int u)]))
      refine own_go (fun tgt kst => XS.iushr X0.here hx rfl (hb hby d1_38) rfl kst) ?_
      show OwnWk _ _ _ _ (s₁.setTop (mkF m 39 #[.val (.int u), .val (.int (Int32.ofNat H)), .val (.int n1), .val (.int (Int32.ofNat A)), .val (.int (Int32.ofNat B)), .unset] [(.int ((u.toUInt32 >>> ((8 : Int32) &&& 31).toUInt32).toInt32))]))
      refine own_go (fun tgt kst => XS.bipush X0.here hx rfl (hb hby d1_39) kst) ?_
      show OwnWk _ _ _ _ (s₁.setTop (mkF m 41 #[.val (.int u), .val (.int (Int32.ofNat H)), .val (.int n1), .val (.int (Int32.ofNat A)), .val (.int (Int32.ofNat B)), .unset] [(.int (7 : Int32)), (.int ((u.toUInt32 >>> ((8 : Int32) &&& 31).toUInt32).toInt32))]))
      refine own_go (fun tgt kst => XS.iand X0.here hx rfl (hb hby d1_41) rfl kst) ?_
      show OwnWk _ _ _ _ (s₁.setTop (mkF m 42 #[.val (.int u), .val (.int (Int32.ofNat H)), .val (.int n1), .val (.int (Int32.ofNat A)), .val (.int (Int32.ofNat B)), .unset] [(.int (((u.toUInt32 >>> ((8 : Int32) &&& 31).toUInt32).toInt32) &&& (7 : Int32)))]))
      refine own_go (fun tgt kst => XS.iloadN X0.here hx rfl (hb hby d1_42) rfl  kst) ?_
      show OwnWk _ _ _ _ (s₁.setTop (mkF m 43 #[.val (.int u), .val (.int (Int32.ofNat H)), .val (.int n1), .val (.int (Int32.ofNat A)), .val (.int (Int32.ofNat B)), .unset] [(.int (Int32.ofNat H)), (.int (((u.toUInt32 >>> ((8 : Int32) &&& 31).toUInt32).toInt32) &&& (7 : Int32)))]))
      refine own_go (fun tgt kst => Jvm.RoadKit.iremM X0 hx rfl (hb hby d1_43) rfl hc7 kst) ?_
      show OwnWk _ _ _ _ (s₁.setTop (mkF m 44 #[.val (.int u), .val (.int (Int32.ofNat H)), .val (.int n1), .val (.int (Int32.ofNat A)), .val (.int (Int32.ofNat B)), .unset] [(.int ((((u.toUInt32 >>> ((8 : Int32) &&& 31).toUInt32).toInt32) &&& (7 : Int32)) % (Int32.ofNat H)))]))
      obtain ⟨D, lD, eD⟩ := own_draw ((u.toUInt32 >>> ((8 : Int32) &&& 31).toUInt32).toInt32) 7 H (by decide) hHp (by omega)
      rw [show ((((u.toUInt32 >>> ((8 : Int32) &&& 31).toUInt32).toInt32) &&& (7 : Int32)) % (Int32.ofNat H)) = Int32.ofNat D from eD]
      show OwnWk _ _ _ _ (s₁.setTop (mkF m 44 #[.val (.int u), .val (.int (Int32.ofNat H)), .val (.int n1), .val (.int (Int32.ofNat A)), .val (.int (Int32.ofNat B)), .unset] [(.int (Int32.ofNat D))]))
      refine own_go (fun tgt kst => XS.istore X0.here hx rfl (hb hby d1_44) rfl (l' := #[.val (.int u), .val (.int (Int32.ofNat H)), .val (.int n1), .val (.int (Int32.ofNat A)), .val (.int (Int32.ofNat B)), .val (.int (Int32.ofNat D))]) rfl kst) ?_
      show OwnWk _ _ _ _ (s₁.setTop (mkF m 46 #[.val (.int u), .val (.int (Int32.ofNat H)), .val (.int n1), .val (.int (Int32.ofNat A)), .val (.int (Int32.ofNat B)), .val (.int (Int32.ofNat D))] []))
      refine own_go (fun tgt kst => XS.iloadN X0.here hx rfl (hb hby d1_46) rfl  kst) ?_
      show OwnWk _ _ _ _ (s₁.setTop (mkF m 47 #[.val (.int u), .val (.int (Int32.ofNat H)), .val (.int n1), .val (.int (Int32.ofNat A)), .val (.int (Int32.ofNat B)), .val (.int (Int32.ofNat D))] [(.int n1)]))
      refine own_go (fun tgt kst => XS.iconst X0.here hx rfl (hb hby d1_47) kst) ?_
      show OwnWk _ _ _ _ (s₁.setTop (mkF m 48 #[.val (.int u), .val (.int (Int32.ofNat H)), .val (.int n1), .val (.int (Int32.ofNat A)), .val (.int (Int32.ofNat B)), .val (.int (Int32.ofNat D))] [(.int (1 : Int32)), (.int n1)]))
      by_cases hc13 : n1 = (1 : Int32)
      ·
        refine own_go (fun tgt kst => XS.icmpNo X0.here hx rfl (hb hby d1_48) rfl (teq hc13).2 kst) ?_
        show OwnWk _ _ _ _ (s₁.setTop (mkF m 51 #[.val (.int u), .val (.int (Int32.ofNat H)), .val (.int n1), .val (.int (Int32.ofNat A)), .val (.int (Int32.ofNat B)), .val (.int (Int32.ofNat D))] []))
        refine own_go (fun tgt kst => XS.iconst X0.here hx rfl (hb hby d1_51) kst) ?_
        show OwnWk _ _ _ _ (s₁.setTop (mkF m 52 #[.val (.int u), .val (.int (Int32.ofNat H)), .val (.int n1), .val (.int (Int32.ofNat A)), .val (.int (Int32.ofNat B)), .val (.int (Int32.ofNat D))] [(.int (1 : Int32))]))
        refine own_newP X0 hx hZ (aty := .int) (hw _ (List.mem_of_getElem? (i := 4) rfl)) e0 (g := (mkF m 52 #[.val (.int u), .val (.int (Int32.ofNat H)), .val (.int n1), .val (.int (Int32.ofNat A)), .val (.int (Int32.ofNat B)), .val (.int (Int32.ofNat D))] [(.int (1 : Int32))])) rfl (hb hby d1_52) rfl (by decide) (cap := 1) (by decide) (by decide) (by decide) (by decide) (fun T14 h14 b14 X14 e14 g14 E14 V14 => ?_)
        have ge15 : n0 ≤ b14 := Nat.le_trans Z0 (Nat.le_of_eq g14.symm)
        have sz16 : h0.size ≤ b14 := Nat.le_trans K0.1 (Nat.le_of_eq g14.symm)
        have Z17 := Nat.le_trans Z0 E14.1
        have K18 := Keep.ext K0 E14
        have V14b : OAr Z h14 b14 .int [(.int (0 : Int32))] := V14
        show OwnWk _ _ _ _ (T14.setTop (mkF m 54 #[.val (.int u), .val (.int (Int32.ofNat H)), .val (.int n1), .val (.int (Int32.ofNat A)), .val (.int (Int32.ofNat B)), .val (.int (Int32.ofNat D))] [(.ref b14)]))
        refine own_go (fun tgt kst => XS.dup X14.here hx rfl (hb hby d1_54) rfl rfl kst) ?_
        show OwnWk _ _ _ _ (T14.setTop (mkF m 55 #[.val (.int u), .val (.int (Int32.ofNat H)), .val (.int n1), .val (.int (Int32.ofNat A)), .val (.int (Int32.ofNat B)), .val (.int (Int32.ofNat D))] [(.ref b14), (.ref b14)]))
        refine own_go (fun tgt kst => XS.iconst X14.here hx rfl (hb hby d1_55) kst) ?_
        show OwnWk _ _ _ _ (T14.setTop (mkF m 56 #[.val (.int u), .val (.int (Int32.ofNat H)), .val (.int n1), .val (.int (Int32.ofNat A)), .val (.int (Int32.ofNat B)), .val (.int (Int32.ofNat D))] [(.int (0 : Int32)), (.ref b14), (.ref b14)]))
        refine own_go (fun tgt kst => XS.iloadN X14.here hx rfl (hb hby d1_56) rfl  kst) ?_
        show OwnWk _ _ _ _ (T14.setTop (mkF m 57 #[.val (.int u), .val (.int (Int32.ofNat H)), .val (.int n1), .val (.int (Int32.ofNat A)), .val (.int (Int32.ofNat B)), .val (.int (Int32.ofNat D))] [(.int (Int32.ofNat A)), (.int (0 : Int32)), (.ref b14), (.ref b14)]))
        refine own_stI X14 hx hZ e14 V14b (g := (mkF m 57 #[.val (.int u), .val (.int (Int32.ofNat H)), .val (.int n1), .val (.int (Int32.ofNat A)), .val (.int (Int32.ofNat B)), .val (.int (Int32.ofNat D))] [(.int (Int32.ofNat A)), (.int (0 : Int32)), (.ref b14), (.ref b14)])) rfl rfl (hb hby d1_57) (by decide) (Nat.le_of_ble_eq_true rfl) (fun T19 h19 X19 e19 W19 V19 => ?_)
        have N19 := Fr.snoc X19 N0 ge15
        have Z20 := Nat.le_trans Z17 (Keep.of_wr W19).1
        have K21 := Keep.wr K18 W19 (Or.inr sz16)
        show OwnWk _ _ _ _ (T19.setTop (mkF m 58 #[.val (.int u), .val (.int (Int32.ofNat H)), .val (.int n1), .val (.int (Int32.ofNat A)), .val (.int (Int32.ofNat B)), .val (.int (Int32.ofNat D))] [(.ref b14)]))
        exact own_retA X19 hx hlk hret rfl rfl rfl (hb hby d1_58) (by decide) (by decide) (by rw [e19]; exact ⟨b14, [A], rfl, N19, K21, sz16, ge15, V19, by simp, by simp [lA]⟩)
      ·
        refine own_go (fun tgt kst => XS.icmpYes X0.here hx rfl (pc0 := 48) (pc' := 59) rfl (hb hby d1_48) rfl (feq hc13).2 (by decide) (by decide) kst) ?_
        show OwnWk _ _ _ _ (s₁.setTop (mkF m 59 #[.val (.int u), .val (.int (Int32.ofNat H)), .val (.int n1), .val (.int (Int32.ofNat A)), .val (.int (Int32.ofNat B)), .val (.int (Int32.ofNat D))] []))
        refine own_go (fun tgt kst => XS.iloadN X0.here hx rfl (hb hby d1_59) rfl  kst) ?_
        show OwnWk _ _ _ _ (s₁.setTop (mkF m 60 #[.val (.int u), .val (.int (Int32.ofNat H)), .val (.int n1), .val (.int (Int32.ofNat A)), .val (.int (Int32.ofNat B)), .val (.int (Int32.ofNat D))] [(.int n1)]))
        refine own_go (fun tgt kst => XS.iconst X0.here hx rfl (hb hby d1_60) kst) ?_
        show OwnWk _ _ _ _ (s₁.setTop (mkF m 61 #[.val (.int u), .val (.int (Int32.ofNat H)), .val (.int n1), .val (.int (Int32.ofNat A)), .val (.int (Int32.ofNat B)), .val (.int (Int32.ofNat D))] [(.int (2 : Int32)), (.int n1)]))
        by_cases hc22 : n1 = (2 : Int32)
        ·
          refine own_go (fun tgt kst => XS.icmpNo X0.here hx rfl (hb hby d1_61) rfl (teq hc22).2 kst) ?_
          show OwnWk _ _ _ _ (s₁.setTop (mkF m 64 #[.val (.int u), .val (.int (Int32.ofNat H)), .val (.int n1), .val (.int (Int32.ofNat A)), .val (.int (Int32.ofNat B)), .val (.int (Int32.ofNat D))] []))
          refine own_go (fun tgt kst => XS.iconst X0.here hx rfl (hb hby d1_64) kst) ?_
          show OwnWk _ _ _ _ (s₁.setTop (mkF m 65 #[.val (.int u), .val (.int (Int32.ofNat H)), .val (.int n1), .val (.int (Int32.ofNat A)), .val (.int (Int32.ofNat B)), .val (.int (Int32.ofNat D))] [(.int (2 : Int32))]))
          refine own_newP X0 hx hZ (aty := .int) (hw _ (List.mem_of_getElem? (i := 4) rfl)) e0 (g := (mkF m 65 #[.val (.int u), .val (.int (Int32.ofNat H)), .val (.int n1), .val (.int (Int32.ofNat A)), .val (.int (Int32.ofNat B)), .val (.int (Int32.ofNat D))] [(.int (2 : Int32))])) rfl (hb hby d1_65) rfl (by decide) (cap := 2) (by decide) (by decide) (by decide) (by decide) (fun T23 h23 b23 X23 e23 g23 E23 V23 => ?_)
          have ge24 : n0 ≤ b23 := Nat.le_trans Z0 (Nat.le_of_eq g23.symm)
          have sz25 : h0.size ≤ b23 := Nat.le_trans K0.1 (Nat.le_of_eq g23.symm)
          have Z26 := Nat.le_trans Z0 E23.1
          have K27 := Keep.ext K0 E23
          have V23b : OAr Z h23 b23 .int [(.int (0 : Int32)), (.int (0 : Int32))] := V23
          show OwnWk _ _ _ _ (T23.setTop (mkF m 67 #[.val (.int u), .val (.int (Int32.ofNat H)), .val (.int n1), .val (.int (Int32.ofNat A)), .val (.int (Int32.ofNat B)), .val (.int (Int32.ofNat D))] [(.ref b23)]))
          refine own_go (fun tgt kst => XS.dup X23.here hx rfl (hb hby d1_67) rfl rfl kst) ?_
          show OwnWk _ _ _ _ (T23.setTop (mkF m 68 #[.val (.int u), .val (.int (Int32.ofNat H)), .val (.int n1), .val (.int (Int32.ofNat A)), .val (.int (Int32.ofNat B)), .val (.int (Int32.ofNat D))] [(.ref b23), (.ref b23)]))
          refine own_go (fun tgt kst => XS.iconst X23.here hx rfl (hb hby d1_68) kst) ?_
          show OwnWk _ _ _ _ (T23.setTop (mkF m 69 #[.val (.int u), .val (.int (Int32.ofNat H)), .val (.int n1), .val (.int (Int32.ofNat A)), .val (.int (Int32.ofNat B)), .val (.int (Int32.ofNat D))] [(.int (0 : Int32)), (.ref b23), (.ref b23)]))
          refine own_go (fun tgt kst => XS.iloadN X23.here hx rfl (hb hby d1_69) rfl  kst) ?_
          show OwnWk _ _ _ _ (T23.setTop (mkF m 70 #[.val (.int u), .val (.int (Int32.ofNat H)), .val (.int n1), .val (.int (Int32.ofNat A)), .val (.int (Int32.ofNat B)), .val (.int (Int32.ofNat D))] [(.int (Int32.ofNat A)), (.int (0 : Int32)), (.ref b23), (.ref b23)]))
          refine own_stI X23 hx hZ e23 V23b (g := (mkF m 70 #[.val (.int u), .val (.int (Int32.ofNat H)), .val (.int n1), .val (.int (Int32.ofNat A)), .val (.int (Int32.ofNat B)), .val (.int (Int32.ofNat D))] [(.int (Int32.ofNat A)), (.int (0 : Int32)), (.ref b23), (.ref b23)])) rfl rfl (hb hby d1_70) (by decide) (Nat.le_of_ble_eq_true rfl) (fun T28 h28 X28 e28 W28 V28 => ?_)
          have N28 := Fr.snoc X28 N0 ge24
          have Z29 := Nat.le_trans Z26 (Keep.of_wr W28).1
          have K30 := Keep.wr K27 W28 (Or.inr sz25)
          show OwnWk _ _ _ _ (T28.setTop (mkF m 71 #[.val (.int u), .val (.int (Int32.ofNat H)), .val (.int n1), .val (.int (Int32.ofNat A)), .val (.int (Int32.ofNat B)), .val (.int (Int32.ofNat D))] [(.ref b23)]))
          refine own_go (fun tgt kst => XS.dup X28.here hx rfl (hb hby d1_71) rfl rfl kst) ?_
          show OwnWk _ _ _ _ (T28.setTop (mkF m 72 #[.val (.int u), .val (.int (Int32.ofNat H)), .val (.int n1), .val (.int (Int32.ofNat A)), .val (.int (Int32.ofNat B)), .val (.int (Int32.ofNat D))] [(.ref b23), (.ref b23)]))
          refine own_go (fun tgt kst => XS.iconst X28.here hx rfl (hb hby d1_72) kst) ?_
          show OwnWk _ _ _ _ (T28.setTop (mkF m 73 #[.val (.int u), .val (.int (Int32.ofNat H)), .val (.int n1), .val (.int (Int32.ofNat A)), .val (.int (Int32.ofNat B)), .val (.int (Int32.ofNat D))] [(.int (1 : Int32)), (.ref b23), (.ref b23)]))
          refine own_go (fun tgt kst => XS.iload X28.here hx rfl (hb hby d1_73) rfl  kst) ?_
          show OwnWk _ _ _ _ (T28.setTop (mkF m 75 #[.val (.int u), .val (.int (Int32.ofNat H)), .val (.int n1), .val (.int (Int32.ofNat A)), .val (.int (Int32.ofNat B)), .val (.int (Int32.ofNat D))] [(.int (Int32.ofNat B)), (.int (1 : Int32)), (.ref b23), (.ref b23)]))
          refine own_stI X28 hx hZ e28 V28 (g := (mkF m 75 #[.val (.int u), .val (.int (Int32.ofNat H)), .val (.int n1), .val (.int (Int32.ofNat A)), .val (.int (Int32.ofNat B)), .val (.int (Int32.ofNat D))] [(.int (Int32.ofNat B)), (.int (1 : Int32)), (.ref b23), (.ref b23)])) rfl rfl (hb hby d1_75) (by decide) (Nat.le_of_ble_eq_true rfl) (fun T31 h31 X31 e31 W31 V31 => ?_)
          have N31 := Fr.snoc X31 N28 ge24
          have Z32 := Nat.le_trans Z29 (Keep.of_wr W31).1
          have K33 := Keep.wr K30 W31 (Or.inr sz25)
          show OwnWk _ _ _ _ (T31.setTop (mkF m 76 #[.val (.int u), .val (.int (Int32.ofNat H)), .val (.int n1), .val (.int (Int32.ofNat A)), .val (.int (Int32.ofNat B)), .val (.int (Int32.ofNat D))] [(.ref b23)]))
          exact own_retA X31 hx hlk hret rfl rfl rfl (hb hby d1_76) (by decide) (by decide) (by rw [e31]; exact ⟨b23, [A, B], rfl, N31, K33, sz25, ge24, V31, by simp, by simp [lA, lB]⟩)
        ·
          refine own_go (fun tgt kst => XS.icmpYes X0.here hx rfl (pc0 := 61) (pc' := 77) rfl (hb hby d1_61) rfl (feq hc22).2 (by decide) (by decide) kst) ?_
          show OwnWk _ _ _ _ (s₁.setTop (mkF m 77 #[.val (.int u), .val (.int (Int32.ofNat H)), .val (.int n1), .val (.int (Int32.ofNat A)), .val (.int (Int32.ofNat B)), .val (.int (Int32.ofNat D))] []))
          refine own_go (fun tgt kst => XS.iconst X0.here hx rfl (hb hby d1_77) kst) ?_
          show OwnWk _ _ _ _ (s₁.setTop (mkF m 78 #[.val (.int u), .val (.int (Int32.ofNat H)), .val (.int n1), .val (.int (Int32.ofNat A)), .val (.int (Int32.ofNat B)), .val (.int (Int32.ofNat D))] [(.int (3 : Int32))]))
          refine own_newP X0 hx hZ (aty := .int) (hw _ (List.mem_of_getElem? (i := 4) rfl)) e0 (g := (mkF m 78 #[.val (.int u), .val (.int (Int32.ofNat H)), .val (.int n1), .val (.int (Int32.ofNat A)), .val (.int (Int32.ofNat B)), .val (.int (Int32.ofNat D))] [(.int (3 : Int32))])) rfl (hb hby d1_78) rfl (by decide) (cap := 3) (by decide) (by decide) (by decide) (by decide) (fun T34 h34 b34 X34 e34 g34 E34 V34 => ?_)
          have ge35 : n0 ≤ b34 := Nat.le_trans Z0 (Nat.le_of_eq g34.symm)
          have sz36 : h0.size ≤ b34 := Nat.le_trans K0.1 (Nat.le_of_eq g34.symm)
          have Z37 := Nat.le_trans Z0 E34.1
          have K38 := Keep.ext K0 E34
          have V34b : OAr Z h34 b34 .int [(.int (0 : Int32)), (.int (0 : Int32)), (.int (0 : Int32))] := V34
          show OwnWk _ _ _ _ (T34.setTop (mkF m 80 #[.val (.int u), .val (.int (Int32.ofNat H)), .val (.int n1), .val (.int (Int32.ofNat A)), .val (.int (Int32.ofNat B)), .val (.int (Int32.ofNat D))] [(.ref b34)]))
          refine own_go (fun tgt kst => XS.dup X34.here hx rfl (hb hby d1_80) rfl rfl kst) ?_
          show OwnWk _ _ _ _ (T34.setTop (mkF m 81 #[.val (.int u), .val (.int (Int32.ofNat H)), .val (.int n1), .val (.int (Int32.ofNat A)), .val (.int (Int32.ofNat B)), .val (.int (Int32.ofNat D))] [(.ref b34), (.ref b34)]))
          refine own_go (fun tgt kst => XS.iconst X34.here hx rfl (hb hby d1_81) kst) ?_
          show OwnWk _ _ _ _ (T34.setTop (mkF m 82 #[.val (.int u), .val (.int (Int32.ofNat H)), .val (.int n1), .val (.int (Int32.ofNat A)), .val (.int (Int32.ofNat B)), .val (.int (Int32.ofNat D))] [(.int (0 : Int32)), (.ref b34), (.ref b34)]))
          refine own_go (fun tgt kst => XS.iloadN X34.here hx rfl (hb hby d1_82) rfl  kst) ?_
          show OwnWk _ _ _ _ (T34.setTop (mkF m 83 #[.val (.int u), .val (.int (Int32.ofNat H)), .val (.int n1), .val (.int (Int32.ofNat A)), .val (.int (Int32.ofNat B)), .val (.int (Int32.ofNat D))] [(.int (Int32.ofNat A)), (.int (0 : Int32)), (.ref b34), (.ref b34)]))
          refine own_stI X34 hx hZ e34 V34b (g := (mkF m 83 #[.val (.int u), .val (.int (Int32.ofNat H)), .val (.int n1), .val (.int (Int32.ofNat A)), .val (.int (Int32.ofNat B)), .val (.int (Int32.ofNat D))] [(.int (Int32.ofNat A)), (.int (0 : Int32)), (.ref b34), (.ref b34)])) rfl rfl (hb hby d1_83) (by decide) (Nat.le_of_ble_eq_true rfl) (fun T39 h39 X39 e39 W39 V39 => ?_)
          have N39 := Fr.snoc X39 N0 ge35
          have Z40 := Nat.le_trans Z37 (Keep.of_wr W39).1
          have K41 := Keep.wr K38 W39 (Or.inr sz36)
          show OwnWk _ _ _ _ (T39.setTop (mkF m 84 #[.val (.int u), .val (.int (Int32.ofNat H)), .val (.int n1), .val (.int (Int32.ofNat A)), .val (.int (Int32.ofNat B)), .val (.int (Int32.ofNat D))] [(.ref b34)]))
          refine own_go (fun tgt kst => XS.dup X39.here hx rfl (hb hby d1_84) rfl rfl kst) ?_
          show OwnWk _ _ _ _ (T39.setTop (mkF m 85 #[.val (.int u), .val (.int (Int32.ofNat H)), .val (.int n1), .val (.int (Int32.ofNat A)), .val (.int (Int32.ofNat B)), .val (.int (Int32.ofNat D))] [(.ref b34), (.ref b34)]))
          refine own_go (fun tgt kst => XS.iconst X39.here hx rfl (hb hby d1_85) kst) ?_
          show OwnWk _ _ _ _ (T39.setTop (mkF m 86 #[.val (.int u), .val (.int (Int32.ofNat H)), .val (.int n1), .val (.int (Int32.ofNat A)), .val (.int (Int32.ofNat B)), .val (.int (Int32.ofNat D))] [(.int (1 : Int32)), (.ref b34), (.ref b34)]))
          refine own_go (fun tgt kst => XS.iload X39.here hx rfl (hb hby d1_86) rfl  kst) ?_
          show OwnWk _ _ _ _ (T39.setTop (mkF m 88 #[.val (.int u), .val (.int (Int32.ofNat H)), .val (.int n1), .val (.int (Int32.ofNat A)), .val (.int (Int32.ofNat B)), .val (.int (Int32.ofNat D))] [(.int (Int32.ofNat B)), (.int (1 : Int32)), (.ref b34), (.ref b34)]))
          refine own_stI X39 hx hZ e39 V39 (g := (mkF m 88 #[.val (.int u), .val (.int (Int32.ofNat H)), .val (.int n1), .val (.int (Int32.ofNat A)), .val (.int (Int32.ofNat B)), .val (.int (Int32.ofNat D))] [(.int (Int32.ofNat B)), (.int (1 : Int32)), (.ref b34), (.ref b34)])) rfl rfl (hb hby d1_88) (by decide) (Nat.le_of_ble_eq_true rfl) (fun T42 h42 X42 e42 W42 V42 => ?_)
          have N42 := Fr.snoc X42 N39 ge35
          have Z43 := Nat.le_trans Z40 (Keep.of_wr W42).1
          have K44 := Keep.wr K41 W42 (Or.inr sz36)
          show OwnWk _ _ _ _ (T42.setTop (mkF m 89 #[.val (.int u), .val (.int (Int32.ofNat H)), .val (.int n1), .val (.int (Int32.ofNat A)), .val (.int (Int32.ofNat B)), .val (.int (Int32.ofNat D))] [(.ref b34)]))
          refine own_go (fun tgt kst => XS.dup X42.here hx rfl (hb hby d1_89) rfl rfl kst) ?_
          show OwnWk _ _ _ _ (T42.setTop (mkF m 90 #[.val (.int u), .val (.int (Int32.ofNat H)), .val (.int n1), .val (.int (Int32.ofNat A)), .val (.int (Int32.ofNat B)), .val (.int (Int32.ofNat D))] [(.ref b34), (.ref b34)]))
          refine own_go (fun tgt kst => XS.iconst X42.here hx rfl (hb hby d1_90) kst) ?_
          show OwnWk _ _ _ _ (T42.setTop (mkF m 91 #[.val (.int u), .val (.int (Int32.ofNat H)), .val (.int n1), .val (.int (Int32.ofNat A)), .val (.int (Int32.ofNat B)), .val (.int (Int32.ofNat D))] [(.int (2 : Int32)), (.ref b34), (.ref b34)]))
          refine own_go (fun tgt kst => XS.iload X42.here hx rfl (hb hby d1_91) rfl  kst) ?_
          show OwnWk _ _ _ _ (T42.setTop (mkF m 93 #[.val (.int u), .val (.int (Int32.ofNat H)), .val (.int n1), .val (.int (Int32.ofNat A)), .val (.int (Int32.ofNat B)), .val (.int (Int32.ofNat D))] [(.int (Int32.ofNat D)), (.int (2 : Int32)), (.ref b34), (.ref b34)]))
          refine own_stI X42 hx hZ e42 V42 (g := (mkF m 93 #[.val (.int u), .val (.int (Int32.ofNat H)), .val (.int n1), .val (.int (Int32.ofNat A)), .val (.int (Int32.ofNat B)), .val (.int (Int32.ofNat D))] [(.int (Int32.ofNat D)), (.int (2 : Int32)), (.ref b34), (.ref b34)])) rfl rfl (hb hby d1_93) (by decide) (Nat.le_of_ble_eq_true rfl) (fun T45 h45 X45 e45 W45 V45 => ?_)
          have N45 := Fr.snoc X45 N42 ge35
          have Z46 := Nat.le_trans Z43 (Keep.of_wr W45).1
          have K47 := Keep.wr K44 W45 (Or.inr sz36)
          show OwnWk _ _ _ _ (T45.setTop (mkF m 94 #[.val (.int u), .val (.int (Int32.ofNat H)), .val (.int n1), .val (.int (Int32.ofNat A)), .val (.int (Int32.ofNat B)), .val (.int (Int32.ofNat D))] [(.ref b34)]))
          exact own_retA X45 hx hlk hret rfl rfl rfl (hb hby d1_94) (by decide) (by decide) (by rw [e45]; exact ⟨b34, [A, B, D], rfl, N45, K47, sz36, ge35, V45, by simp, by simp [lA, lB, lD]⟩)
theorem pn_pn_2 : plainName "com/example/antipode/antipode/net/Transition" = true := by first | (simp [plainName, overriddenIn]; done) | decide +kernel
theorem pn_2 : plainFor (⟨"com/example/antipode/antipode/net/Transition", "<init>", "(Ljava/lang/String;Ljava/lang/String;[I[I)V"⟩ : MethodName) = true := plainFor_of_name pn_pn_2
theorem d2_0 : decode prog_123_method_1_code 0 = .ok (.aload_n 0, 1) := by decide +kernel
theorem d2_1 : decode prog_123_method_1_code 1 = .ok (.invokespecial 1, 3) := by decide +kernel
theorem d2_4 : decode prog_123_method_1_code 4 = .ok (.aload_n 0, 1) := by decide +kernel
theorem d2_5 : decode prog_123_method_1_code 5 = .ok (.aload_n 1, 1) := by decide +kernel
theorem d2_6 : decode prog_123_method_1_code 6 = .ok (.putfield 7, 3) := by decide +kernel
theorem d2_9 : decode prog_123_method_1_code 9 = .ok (.aload_n 0, 1) := by decide +kernel
theorem d2_10 : decode prog_123_method_1_code 10 = .ok (.aload_n 2, 1) := by decide +kernel
theorem d2_11 : decode prog_123_method_1_code 11 = .ok (.putfield 13, 3) := by decide +kernel
theorem d2_14 : decode prog_123_method_1_code 14 = .ok (.aload_n 0, 1) := by decide +kernel
theorem d2_15 : decode prog_123_method_1_code 15 = .ok (.aload_n 3, 1) := by decide +kernel
theorem d2_16 : decode prog_123_method_1_code 16 = .ok (.putfield 16, 3) := by decide +kernel
theorem d2_19 : decode prog_123_method_1_code 19 = .ok (.aload_n 0, 1) := by decide +kernel
theorem d2_20 : decode prog_123_method_1_code 20 = .ok (.aload 4, 2) := by decide +kernel
theorem d2_22 : decode prog_123_method_1_code 22 = .ok (.putfield 20, 3) := by decide +kernel
theorem d2_25 : decode prog_123_method_1_code 25 = .ok (.return_, 1) := by decide +kernel
theorem ef_rm2 (m : MethodId) (x0 : Addr) (x1 : Addr) (x2 : Addr) (x3 : Addr) (x4 : Addr) : entryFrame m #[(.ref x0), (.ref x1), (.ref x2), (.ref x3), (.ref x4)] 5 = mkF m 0 #[.val (.ref x0), .val (.ref x1), .val (.ref x2), .val (.ref x3), .val (.ref x4)] [] := by first | (simp [entryFrame, mkF, argsToLocals, Value.category]; done) | rfl
def Q_rm2 (Z : State) (a c1 c2 t1 t2 : Addr) (h0 : Heap) (n0 : Nat) (v : Option Value) (h : Heap) (L : List Loc) : Prop := v = none ∧ Fr n0 L ∧ Keep h0 h [a] ∧ Fld Z h a "com/example/antipode/antipode/net/Transition" "inputs" "[I" (.ref t1) ∧ Fld Z h a "com/example/antipode/antipode/net/Transition" "outputs" "[I" (.ref t2)
set_option maxRecDepth 65536 in
set_option maxHeartbeats 40000000 in
theorem rm2 (l : Launch) (Z : State) (a0 : Array Value) (hw : ∀ d ∈ tables_1, d.before a0 Z = true) (a c1 c2 t1 t2 : Addr) (h0 : Heap) (n0 : Nat) (Z0 : n0 ≤ h0.size) (E_a : Exa Z h0 a "com/example/antipode/antipode/net/Transition") (g_a : n0 ≤ a) (F_id : Fld Z h0 a "com/example/antipode/antipode/net/Transition" "id" "Ljava/lang/String;" .null) (F_label : Fld Z h0 a "com/example/antipode/antipode/net/Transition" "label" "Ljava/lang/String;" .null) (F_inputs : Fld Z h0 a "com/example/antipode/antipode/net/Transition" "inputs" "[I" .null) (F_outputs : Fld Z h0 a "com/example/antipode/antipode/net/Transition" "outputs" "[I" .null) :
    OwnMet l (⟨"com/example/antipode/antipode/net/Transition", "<init>", "(Ljava/lang/String;Ljava/lang/String;[I[I)V"⟩ : MethodName) prog_123_method_1_code 5 none [] ({ frames := 1, cells := 0, slots := 0, locals := 12 } : Room) Z #[(.ref a), (.ref c1), (.ref c2), (.ref t1), (.ref t2)] h0 (Q_rm2 Z a c1 c2 t1 t2 h0 n0) := by
  refine own_met pn_2 (fun p e s m below meth c s₁ hx hby hml hown hnm hret hlk hZ X0 e0 => ?_)
  have hown : s.vm.findClass "com/example/antipode/antipode/net/Transition" = some m.cls := hown
  have N0 := Fr.nil n0
  have K0 := Keep.refl h0 [a]
  rw [ef_rm2]
  show OwnWk _ _ _ _ (s₁.setTop (mkF m 0 #[.val (.ref a), .val (.ref c1), .val (.ref c2), .val (.ref t1), .val (.ref t2)] []))
  refine own_go (fun tgt kst => XS.aloadN X0.here hx rfl (hb hby d2_0) rfl rfl  kst) ?_
  show OwnWk _ _ _ _ (s₁.setTop (mkF m 1 #[.val (.ref a), .val (.ref c1), .val (.ref c2), .val (.ref t1), .val (.ref t2)] [(.ref a)]))
  obtain ⟨T1, X1, e1, st1⟩ := initO X0 hx hZ hown (hw _ (List.mem_of_getElem? (i := 20) rfl)) (hw _ (List.mem_of_getElem? (i := 21) rfl)) (hw _ (List.mem_of_getElem? (i := 22) rfl)) e0 (g := (mkF m 1 #[.val (.ref a), .val (.ref c1), .val (.ref c2), .val (.ref t1), .val (.ref t2)] [(.ref a)])) rfl (by rw [hml]; rfl) rfl (hb hby d2_1) (by decide) (W := 0) (by show 2 * 0 + _ ≤ _; exact Nat.le_of_eq rfl) (by decide)
  refine own_go st1 ?_
  show OwnWk _ _ _ _ (T1.setTop (mkF m 4 #[.val (.ref a), .val (.ref c1), .val (.ref c2), .val (.ref t1), .val (.ref t2)] []))
  refine own_go (fun tgt kst => XS.aloadN X1.here hx rfl (hb hby d2_4) rfl rfl  kst) ?_
  show OwnWk _ _ _ _ (T1.setTop (mkF m 5 #[.val (.ref a), .val (.ref c1), .val (.ref c2), .val (.ref t1), .val (.ref t2)] [(.ref a)]))
  refine own_go (fun tgt kst => XS.aloadN X1.here hx rfl (hb hby d2_5) rfl rfl  kst) ?_
  show OwnWk _ _ _ _ (T1.setTop (mkF m 6 #[.val (.ref a), .val (.ref c1), .val (.ref c2), .val (.ref t1), .val (.ref t2)] [(.ref c1), (.ref a)]))
  obtain ⟨T2, h2, X2, e2, W2, st2⟩ := putF X1 hx hZ hown (host := "") (Or.inl (hw _ (List.mem_of_getElem? (i := 23) rfl))) Via.refl e1 F_id E_a (Or.inr ⟨(hw _ (List.mem_of_getElem? (i := 24) rfl)), rfl, hnm⟩) (hw _ (List.mem_of_getElem? (i := 6) rfl)) (v := (.ref c1)) (ty := (.object "java/lang/String")) (by decide) rfl rfl (g := (mkF m 6 #[.val (.ref a), .val (.ref c1), .val (.ref c2), .val (.ref t1), .val (.ref t2)] [(.ref c1), (.ref a)])) rfl rfl (hb hby d2_6)
  refine own_go st2 ?_
  have N2 := Fr.snoc X2 N0 g_a
  have Fw2 := Fld.same W2 F_id
  have F3 := Exa.wr W2 E_a
  have F4 := Fld.other W2 F_label (Or.inr (slot_ne (Or.inr (hw _ (List.mem_of_getElem? (i := 26) rfl))) (Or.inr (hw _ (List.mem_of_getElem? (i := 24) rfl))) (by decide) (t := (.object "java/lang/String")) (t' := (.object "java/lang/String")) (by decide) (by decide)))
  have F5 := Fld.other W2 F_inputs (Or.inr (slot_ne (Or.inr (hw _ (List.mem_of_getElem? (i := 28) rfl))) (Or.inr (hw _ (List.mem_of_getElem? (i := 24) rfl))) (by decide) (t := (.array .int)) (t' := (.object "java/lang/String")) (by decide) (by decide)))
  have F6 := Fld.other W2 F_outputs (Or.inr (slot_ne (Or.inr (hw _ (List.mem_of_getElem? (i := 30) rfl))) (Or.inr (hw _ (List.mem_of_getElem? (i := 24) rfl))) (by decide) (t := (.array .int)) (t' := (.object "java/lang/String")) (by decide) (by decide)))
  have Z7 := Nat.le_trans Z0 (Keep.of_wr W2).1
  have K8 := Keep.wr K0 W2 (Or.inl (List.mem_of_getElem? (i := 0) rfl))
  show OwnWk _ _ _ _ (T2.setTop (mkF m 9 #[.val (.ref a), .val (.ref c1), .val (.ref c2), .val (.ref t1), .val (.ref t2)] []))
  refine own_go (fun tgt kst => XS.aloadN X2.here hx rfl (hb hby d2_9) rfl rfl  kst) ?_
  show OwnWk _ _ _ _ (T2.setTop (mkF m 10 #[.val (.ref a), .val (.ref c1), .val (.ref c2), .val (.ref t1), .val (.ref t2)] [(.ref a)]))
  refine own_go (fun tgt kst => XS.aloadN X2.here hx rfl (hb hby d2_10) rfl rfl  kst) ?_
  show OwnWk _ _ _ _ (T2.setTop (mkF m 11 #[.val (.ref a), .val (.ref c1), .val (.ref c2), .val (.ref t1), .val (.ref t2)] [(.ref c2), (.ref a)]))
  obtain ⟨T9, h9, X9, e9, W9, st9⟩ := putF X2 hx hZ hown (host := "") (Or.inl (hw _ (List.mem_of_getElem? (i := 25) rfl))) Via.refl e2 F4 F3 (Or.inr ⟨(hw _ (List.mem_of_getElem? (i := 26) rfl)), rfl, hnm⟩) (hw _ (List.mem_of_getElem? (i := 6) rfl)) (v := (.ref c2)) (ty := (.object "java/lang/String")) (by decide) rfl rfl (g := (mkF m 11 #[.val (.ref a), .val (.ref c1), .val (.ref c2), .val (.ref t1), .val (.ref t2)] [(.ref c2), (.ref a)])) rfl rfl (hb hby d2_11)
  refine own_go st9 ?_
  have N9 := Fr.snoc X9 N2 g_a
  have Fw9 := Fld.same W9 F4
  have F10 := Exa.wr W9 F3
  have F11 := Fld.other W9 F5 (Or.inr (slot_ne (Or.inr (hw _ (List.mem_of_getElem? (i := 28) rfl))) (Or.inr (hw _ (List.mem_of_getElem? (i := 26) rfl))) (by decide) (t := (.array .int)) (t' := (.object "java/lang/String")) (by decide) (by decide)))
  have F12 := Fld.other W9 F6 (Or.inr (slot_ne (Or.inr (hw _ (List.mem_of_getElem? (i := 30) rfl))) (Or.inr (hw _ (List.mem_of_getElem? (i := 26) rfl))) (by decide) (t := (.array .int)) (t' := (.object "java/lang/String")) (by decide) (by decide)))
  have F13 := Fld.other W9 Fw2 (Or.inr (slot_ne (Or.inr (hw _ (List.mem_of_getElem? (i := 24) rfl))) (Or.inr (hw _ (List.mem_of_getElem? (i := 26) rfl))) (by decide) (t := (.object "java/lang/String")) (t' := (.object "java/lang/String")) (by decide) (by decide)))
  have Z14 := Nat.le_trans Z7 (Keep.of_wr W9).1
  have K15 := Keep.wr K8 W9 (Or.inl (List.mem_of_getElem? (i := 0) rfl))
  show OwnWk _ _ _ _ (T9.setTop (mkF m 14 #[.val (.ref a), .val (.ref c1), .val (.ref c2), .val (.ref t1), .val (.ref t2)] []))
  refine own_go (fun tgt kst => XS.aloadN X9.here hx rfl (hb hby d2_14) rfl rfl  kst) ?_
  show OwnWk _ _ _ _ (T9.setTop (mkF m 15 #[.val (.ref a), .val (.ref c1), .val (.ref c2), .val (.ref t1), .val (.ref t2)] [(.ref a)]))
  refine own_go (fun tgt kst => XS.aloadN X9.here hx rfl (hb hby d2_15) rfl rfl  kst) ?_
  show OwnWk _ _ _ _ (T9.setTop (mkF m 16 #[.val (.ref a), .val (.ref c1), .val (.ref c2), .val (.ref t1), .val (.ref t2)] [(.ref t1), (.ref a)]))
  obtain ⟨T16, h16, X16, e16, W16, st16⟩ := putF X9 hx hZ hown (host := "") (Or.inl (hw _ (List.mem_of_getElem? (i := 27) rfl))) Via.refl e9 F11 F10 (Or.inr ⟨(hw _ (List.mem_of_getElem? (i := 28) rfl)), rfl, hnm⟩) (hw _ (List.mem_of_getElem? (i := 6) rfl)) (v := (.ref t1)) (ty := (.array .int)) (by decide) rfl rfl (g := (mkF m 16 #[.val (.ref a), .val (.ref c1), .val (.ref c2), .val (.ref t1), .val (.ref t2)] [(.ref t1), (.ref a)])) rfl rfl (hb hby d2_16)
  refine own_go st16 ?_
  have N16 := Fr.snoc X16 N9 g_a
  have Fw16 := Fld.same W16 F11
  have F17 := Exa.wr W16 F10
  have F18 := Fld.other W16 F12 (Or.inr (slot_ne (Or.inr (hw _ (List.mem_of_getElem? (i := 30) rfl))) (Or.inr (hw _ (List.mem_of_getElem? (i := 28) rfl))) (by decide) (t := (.array .int)) (t' := (.array .int)) (by decide) (by decide)))
  have F19 := Fld.other W16 F13 (Or.inr (slot_ne (Or.inr (hw _ (List.mem_of_getElem? (i := 24) rfl))) (Or.inr (hw _ (List.mem_of_getElem? (i := 28) rfl))) (by decide) (t := (.object "java/lang/String")) (t' := (.array .int)) (by decide) (by decide)))
  have F20 := Fld.other W16 Fw9 (Or.inr (slot_ne (Or.inr (hw _ (List.mem_of_getElem? (i := 26) rfl))) (Or.inr (hw _ (List.mem_of_getElem? (i := 28) rfl))) (by decide) (t := (.object "java/lang/String")) (t' := (.array .int)) (by decide) (by decide)))
  have Z21 := Nat.le_trans Z14 (Keep.of_wr W16).1
  have K22 := Keep.wr K15 W16 (Or.inl (List.mem_of_getElem? (i := 0) rfl))
  show OwnWk _ _ _ _ (T16.setTop (mkF m 19 #[.val (.ref a), .val (.ref c1), .val (.ref c2), .val (.ref t1), .val (.ref t2)] []))
  refine own_go (fun tgt kst => XS.aloadN X16.here hx rfl (hb hby d2_19) rfl rfl  kst) ?_
  show OwnWk _ _ _ _ (T16.setTop (mkF m 20 #[.val (.ref a), .val (.ref c1), .val (.ref c2), .val (.ref t1), .val (.ref t2)] [(.ref a)]))
  refine own_go (fun tgt kst => XS.aload X16.here hx rfl (hb hby d2_20) rfl rfl  kst) ?_
  show OwnWk _ _ _ _ (T16.setTop (mkF m 22 #[.val (.ref a), .val (.ref c1), .val (.ref c2), .val (.ref t1), .val (.ref t2)] [(.ref t2), (.ref a)]))
  obtain ⟨T23, h23, X23, e23, W23, st23⟩ := putF X16 hx hZ hown (host := "") (Or.inl (hw _ (List.mem_of_getElem? (i := 29) rfl))) Via.refl e16 F18 F17 (Or.inr ⟨(hw _ (List.mem_of_getElem? (i := 30) rfl)), rfl, hnm⟩) (hw _ (List.mem_of_getElem? (i := 6) rfl)) (v := (.ref t2)) (ty := (.array .int)) (by decide) rfl rfl (g := (mkF m 22 #[.val (.ref a), .val (.ref c1), .val (.ref c2), .val (.ref t1), .val (.ref t2)] [(.ref t2), (.ref a)])) rfl rfl (hb hby d2_22)
  refine own_go st23 ?_
  have N23 := Fr.snoc X23 N16 g_a
  have Fw23 := Fld.same W23 F18
  have F24 := Exa.wr W23 F17
  have F25 := Fld.other W23 F19 (Or.inr (slot_ne (Or.inr (hw _ (List.mem_of_getElem? (i := 24) rfl))) (Or.inr (hw _ (List.mem_of_getElem? (i := 30) rfl))) (by decide) (t := (.object "java/lang/String")) (t' := (.array .int)) (by decide) (by decide)))
  have F26 := Fld.other W23 F20 (Or.inr (slot_ne (Or.inr (hw _ (List.mem_of_getElem? (i := 26) rfl))) (Or.inr (hw _ (List.mem_of_getElem? (i := 30) rfl))) (by decide) (t := (.object "java/lang/String")) (t' := (.array .int)) (by decide) (by decide)))
  have F27 := Fld.other W23 Fw16 (Or.inr (slot_ne (Or.inr (hw _ (List.mem_of_getElem? (i := 28) rfl))) (Or.inr (hw _ (List.mem_of_getElem? (i := 30) rfl))) (by decide) (t := (.array .int)) (t' := (.array .int)) (by decide) (by decide)))
  have Z28 := Nat.le_trans Z21 (Keep.of_wr W23).1
  have K29 := Keep.wr K22 W23 (Or.inl (List.mem_of_getElem? (i := 0) rfl))
  show OwnWk _ _ _ _ (T23.setTop (mkF m 25 #[.val (.ref a), .val (.ref c1), .val (.ref c2), .val (.ref t1), .val (.ref t2)] []))
  exact own_retV X23 hx hlk hret (hb hby d2_25) (by decide) (by decide) (by rw [e23]; exact ⟨rfl, N23, K29, F27, Fw23⟩)
theorem pn_pn_4 : plainName "com/example/antipode/antipode/net/Transition" = true := by first | (simp [plainName, overriddenIn]; done) | decide +kernel
theorem pn_4 : plainFor (⟨"com/example/antipode/antipode/net/Transition", "effect", "(I)[I"⟩ : MethodName) = true := plainFor_of_name pn_pn_4
theorem d4_0 : decode prog_123_method_7_code 0 = .ok (.iload_n 1, 1) := by decide +kernel
theorem d4_1 : decode prog_123_method_7_code 1 = .ok (.newarray .int, 2) := by decide +kernel
theorem d4_3 : decode prog_123_method_7_code 3 = .ok (.astore_n 2, 1) := by decide +kernel
theorem d4_4 : decode prog_123_method_7_code 4 = .ok (.aload_n 0, 1) := by decide +kernel
theorem d4_5 : decode prog_123_method_7_code 5 = .ok (.getfield 16, 3) := by decide +kernel
theorem d4_8 : decode prog_123_method_7_code 8 = .ok (.astore_n 3, 1) := by decide +kernel
theorem d4_9 : decode prog_123_method_7_code 9 = .ok (.aload_n 3, 1) := by decide +kernel
theorem d4_10 : decode prog_123_method_7_code 10 = .ok (.arraylength, 1) := by decide +kernel
theorem d4_11 : decode prog_123_method_7_code 11 = .ok (.istore 4, 2) := by decide +kernel
theorem d4_13 : decode prog_123_method_7_code 13 = .ok (.iconst 0, 1) := by decide +kernel
theorem d4_14 : decode prog_123_method_7_code 14 = .ok (.istore 5, 2) := by decide +kernel
theorem d4_16 : decode prog_123_method_7_code 16 = .ok (.iload 5, 2) := by decide +kernel
theorem d4_18 : decode prog_123_method_7_code 18 = .ok (.iload 4, 2) := by decide +kernel
theorem d4_20 : decode prog_123_method_7_code 20 = .ok (.if_icmp .ge 23, 3) := by decide +kernel
theorem d4_43 : decode prog_123_method_7_code 43 = .ok (.aload_n 0, 1) := by decide +kernel
theorem d4_44 : decode prog_123_method_7_code 44 = .ok (.getfield 20, 3) := by decide +kernel
theorem d4_47 : decode prog_123_method_7_code 47 = .ok (.astore_n 3, 1) := by decide +kernel
theorem d4_48 : decode prog_123_method_7_code 48 = .ok (.aload_n 3, 1) := by decide +kernel
theorem d4_49 : decode prog_123_method_7_code 49 = .ok (.arraylength, 1) := by decide +kernel
theorem d4_50 : decode prog_123_method_7_code 50 = .ok (.istore 4, 2) := by decide +kernel
theorem d4_52 : decode prog_123_method_7_code 52 = .ok (.iconst 0, 1) := by decide +kernel
theorem d4_53 : decode prog_123_method_7_code 53 = .ok (.istore 5, 2) := by decide +kernel
theorem d4_55 : decode prog_123_method_7_code 55 = .ok (.iload 5, 2) := by decide +kernel
theorem d4_57 : decode prog_123_method_7_code 57 = .ok (.iload 4, 2) := by decide +kernel
theorem d4_59 : decode prog_123_method_7_code 59 = .ok (.if_icmp .ge 23, 3) := by decide +kernel
theorem d4_82 : decode prog_123_method_7_code 82 = .ok (.aload_n 2, 1) := by decide +kernel
theorem d4_83 : decode prog_123_method_7_code 83 = .ok (.areturn, 1) := by decide +kernel
theorem d4_62 : decode prog_123_method_7_code 62 = .ok (.aload_n 3, 1) := by decide +kernel
theorem d4_63 : decode prog_123_method_7_code 63 = .ok (.iload 5, 2) := by decide +kernel
theorem d4_65 : decode prog_123_method_7_code 65 = .ok (.iaload, 1) := by decide +kernel
theorem d4_66 : decode prog_123_method_7_code 66 = .ok (.istore 6, 2) := by decide +kernel
theorem d4_68 : decode prog_123_method_7_code 68 = .ok (.aload_n 2, 1) := by decide +kernel
theorem d4_69 : decode prog_123_method_7_code 69 = .ok (.iload 6, 2) := by decide +kernel
theorem d4_71 : decode prog_123_method_7_code 71 = .ok (.dup2, 1) := by decide +kernel
theorem d4_72 : decode prog_123_method_7_code 72 = .ok (.iaload, 1) := by decide +kernel
theorem d4_73 : decode prog_123_method_7_code 73 = .ok (.iconst 1, 1) := by decide +kernel
theorem d4_74 : decode prog_123_method_7_code 74 = .ok (.iadd, 1) := by decide +kernel
theorem d4_75 : decode prog_123_method_7_code 75 = .ok (.iastore, 1) := by decide +kernel
theorem d4_76 : decode prog_123_method_7_code 76 = .ok (.iinc 5 1, 3) := by decide +kernel
theorem d4_79 : decode prog_123_method_7_code 79 = .ok (.goto (-24), 3) := by decide +kernel
theorem d4_23 : decode prog_123_method_7_code 23 = .ok (.aload_n 3, 1) := by decide +kernel
theorem d4_24 : decode prog_123_method_7_code 24 = .ok (.iload 5, 2) := by decide +kernel
theorem d4_26 : decode prog_123_method_7_code 26 = .ok (.iaload, 1) := by decide +kernel
theorem d4_27 : decode prog_123_method_7_code 27 = .ok (.istore 6, 2) := by decide +kernel
theorem d4_29 : decode prog_123_method_7_code 29 = .ok (.aload_n 2, 1) := by decide +kernel
theorem d4_30 : decode prog_123_method_7_code 30 = .ok (.iload 6, 2) := by decide +kernel
theorem d4_32 : decode prog_123_method_7_code 32 = .ok (.dup2, 1) := by decide +kernel
theorem d4_33 : decode prog_123_method_7_code 33 = .ok (.iaload, 1) := by decide +kernel
theorem d4_34 : decode prog_123_method_7_code 34 = .ok (.iconst 1, 1) := by decide +kernel
theorem d4_35 : decode prog_123_method_7_code 35 = .ok (.isub, 1) := by decide +kernel
theorem d4_36 : decode prog_123_method_7_code 36 = .ok (.iastore, 1) := by decide +kernel
theorem d4_37 : decode prog_123_method_7_code 37 = .ok (.iinc 5 1, 3) := by decide +kernel
theorem d4_40 : decode prog_123_method_7_code 40 = .ok (.goto (-24), 3) := by decide +kernel
theorem ef_rm4 (m : MethodId) (x0 : Addr) (x1 : Int32) : entryFrame m #[(.ref x0), (.int x1)] 7 = mkF m 0 #[.val (.ref x0), .val (.int x1), .unset, .unset, .unset, .unset, .unset] [] := by first | (simp [entryFrame, mkF, argsToLocals, Value.category]; done) | rfl
def Q_rm4 (Z : State) (a t1 t2 : Addr) (H : Nat) (xs ys : List Nat) (h0 : Heap) (n0 : Nat) (v : Option Value) (h : Heap) (L : List Loc) : Prop := ∃ b : Addr, v = some (.ref b) ∧ Fr n0 L ∧ Keep h0 h [] ∧ h0.size ≤ b ∧ OAr Z h b .int ((own_eff H xs ys).map .int)
set_option maxRecDepth 65536 in
set_option maxHeartbeats 40000000 in
theorem rm4 (l : Launch) (Z : State) (a0 : Array Value) (hw : ∀ d ∈ tables_1, d.before a0 Z = true) (a t1 t2 : Addr) (H : Nat) (xs ys : List Nat) (h0 : Heap) (n0 : Nat) (Z0 : n0 ≤ h0.size) (F_i : Fld Z h0 a "com/example/antipode/antipode/net/Transition" "inputs" "[I" (.ref t1)) (F_o : Fld Z h0 a "com/example/antipode/antipode/net/Transition" "outputs" "[I" (.ref t2)) (V_1 : OAr Z h0 t1 .int (own_iv xs)) (V_2 : OAr Z h0 t2 .int (own_iv ys)) (hH : H ≤ 7) (hx3 : xs.length ≤ 3) (hy3 : ys.length ≤ 3) (hxs : ∀ q ∈ xs, q < H) (hys : ∀ q ∈ ys, q < H) :
    OwnMet l (⟨"com/example/antipode/antipode/net/Transition", "effect", "(I)[I"⟩ : MethodName) prog_123_method_7_code 7 (some (.array .int)) [] ({ frames := 0, cells := 1, slots := 7, locals := 0 } : Room) Z #[(.ref a), (.int (Int32.ofNat H))] h0 (Q_rm4 Z a t1 t2 H xs ys h0 n0) := by
  refine own_met pn_4 (fun p e s m below meth c s₁ hx hby hml hown hnm hret hlk hZ X0 e0 => ?_)
  have hown : s.vm.findClass "com/example/antipode/antipode/net/Transition" = some m.cls := hown
  have N0 := Fr.nil n0
  have K0 := Keep.refl h0 []
  rw [ef_rm4]
  show OwnWk _ _ _ _ (s₁.setTop (mkF m 0 #[.val (.ref a), .val (.int (Int32.ofNat H)), .unset, .unset, .unset, .unset, .unset] []))
  refine own_go (fun tgt kst => XS.iloadN X0.here hx rfl (hb hby d4_0) rfl  kst) ?_
  show OwnWk _ _ _ _ (s₁.setTop (mkF m 1 #[.val (.ref a), .val (.int (Int32.ofNat H)), .unset, .unset, .unset, .unset, .unset] [(.int (Int32.ofNat H))]))
  refine own_newP X0 hx hZ (aty := .int) (hw _ (List.mem_of_getElem? (i := 4) rfl)) e0 (g := (mkF m 1 #[.val (.ref a), .val (.int (Int32.ofNat H)), .unset, .unset, .unset, .unset, .unset] [(.int (Int32.ofNat H))])) rfl (hb hby d4_1) rfl (own_n_nn (by omega)) (cap := 7) (by rw [own_n_nat (by omega)]; exact hH) (by decide) (by decide) (by decide) (fun T1 h1 b1 X1 e1 g1 E1 V1 => ?_)
  have ne2 : a ≠ b1 := Nat.ne_of_lt (Nat.lt_of_lt_of_le F_i.lt (Nat.le_of_eq g1.symm))
  have ne3 : t1 ≠ b1 := Nat.ne_of_lt (Nat.lt_of_lt_of_le V_1.lt (Nat.le_of_eq g1.symm))
  have ne4 : t2 ≠ b1 := Nat.ne_of_lt (Nat.lt_of_lt_of_le V_2.lt (Nat.le_of_eq g1.symm))
  have ge5 : n0 ≤ b1 := Nat.le_trans Z0 (Nat.le_of_eq g1.symm)
  have sz6 : h0.size ≤ b1 := Nat.le_trans K0.1 (Nat.le_of_eq g1.symm)
  have F7 := Fld.ext E1 F_i
  have F8 := Fld.ext E1 F_o
  have F9 := OAr.ext V_1 E1
  have F10 := OAr.ext V_2 E1
  have Z11 := Nat.le_trans Z0 E1.1
  have K12 := Keep.ext K0 E1
  have V1b : OAr Z h1 b1 .int ((List.replicate H (0 : Int32)).map .int) := (own_cast (by rw [own_n_nat (by omega), List.map_replicate]; rfl) V1)
  show OwnWk _ _ _ _ (T1.setTop (mkF m 3 #[.val (.ref a), .val (.int (Int32.ofNat H)), .unset, .unset, .unset, .unset, .unset] [(.ref b1)]))
  refine own_go (fun tgt kst => XS.astoreN X1.here hx rfl (hb hby d4_3) rfl rfl (l' := #[.val (.ref a), .val (.int (Int32.ofNat H)), .val (.ref b1), .unset, .unset, .unset, .unset]) rfl kst) ?_
  show OwnWk _ _ _ _ (T1.setTop (mkF m 4 #[.val (.ref a), .val (.int (Int32.ofNat H)), .val (.ref b1), .unset, .unset, .unset, .unset] []))
  refine own_go (fun tgt kst => XS.aloadN X1.here hx rfl (hb hby d4_4) rfl rfl  kst) ?_
  show OwnWk _ _ _ _ (T1.setTop (mkF m 5 #[.val (.ref a), .val (.int (Int32.ofNat H)), .val (.ref b1), .unset, .unset, .unset, .unset] [(.ref a)]))
  obtain ⟨T13, X13, e13, st13⟩ := getF X1 hx hZ hown (host := "") (Or.inl (hw _ (List.mem_of_getElem? (i := 27) rfl))) Via.refl e1 F7 (g := (mkF m 5 #[.val (.ref a), .val (.int (Int32.ofNat H)), .val (.ref b1), .unset, .unset, .unset, .unset] [(.ref a)])) rfl rfl (hb hby d4_5)
  refine own_go st13 ?_
  show OwnWk _ _ _ _ (T13.setTop (mkF m 8 #[.val (.ref a), .val (.int (Int32.ofNat H)), .val (.ref b1), .unset, .unset, .unset, .unset] [(.ref t1)]))
  refine own_go (fun tgt kst => XS.astoreN X13.here hx rfl (hb hby d4_8) rfl rfl (l' := #[.val (.ref a), .val (.int (Int32.ofNat H)), .val (.ref b1), .val (.ref t1), .unset, .unset, .unset]) rfl kst) ?_
  show OwnWk _ _ _ _ (T13.setTop (mkF m 9 #[.val (.ref a), .val (.int (Int32.ofNat H)), .val (.ref b1), .val (.ref t1), .unset, .unset, .unset] []))
  refine own_go (fun tgt kst => XS.aloadN X13.here hx rfl (hb hby d4_9) rfl rfl  kst) ?_
  show OwnWk _ _ _ _ (T13.setTop (mkF m 10 #[.val (.ref a), .val (.int (Int32.ofNat H)), .val (.ref b1), .val (.ref t1), .unset, .unset, .unset] [(.ref t1)]))
  refine own_len X13 hx hZ e13 F9 (g := (mkF m 10 #[.val (.ref a), .val (.int (Int32.ofNat H)), .val (.ref b1), .val (.ref t1), .unset, .unset, .unset] [(.ref t1)])) rfl rfl (hb hby d4_10) (N := (Int32.ofNat xs.length)) (own_ivlen _) ?_
  show OwnWk _ _ _ _ (T13.setTop (mkF m 11 #[.val (.ref a), .val (.int (Int32.ofNat H)), .val (.ref b1), .val (.ref t1), .unset, .unset, .unset] [(.int (Int32.ofNat xs.length))]))
  refine own_go (fun tgt kst => XS.istore X13.here hx rfl (hb hby d4_11) rfl (l' := #[.val (.ref a), .val (.int (Int32.ofNat H)), .val (.ref b1), .val (.ref t1), .val (.int (Int32.ofNat xs.length)), .unset, .unset]) rfl kst) ?_
  show OwnWk _ _ _ _ (T13.setTop (mkF m 13 #[.val (.ref a), .val (.int (Int32.ofNat H)), .val (.ref b1), .val (.ref t1), .val (.int (Int32.ofNat xs.length)), .unset, .unset] []))
  refine own_go (fun tgt kst => XS.iconst X13.here hx rfl (hb hby d4_13) kst) ?_
  show OwnWk _ _ _ _ (T13.setTop (mkF m 14 #[.val (.ref a), .val (.int (Int32.ofNat H)), .val (.ref b1), .val (.ref t1), .val (.int (Int32.ofNat xs.length)), .unset, .unset] [(.int (0 : Int32))]))
  refine own_go (fun tgt kst => XS.istore X13.here hx rfl (hb hby d4_14) rfl (l' := #[.val (.ref a), .val (.int (Int32.ofNat H)), .val (.ref b1), .val (.ref t1), .val (.int (Int32.ofNat xs.length)), .val (.int (0 : Int32)), .unset]) rfl kst) ?_
  show OwnWk _ _ _ _ (T13.setTop (mkF m 16 #[.val (.ref a), .val (.int (Int32.ofNat H)), .val (.ref b1), .val (.ref t1), .val (.int (Int32.ofNat xs.length)), .val (.int (0 : Int32)), .unset] []))
  have LPdec : ∀ (k i : Nat) (c0 : List Int32) (s6 : Slot) (T : State) (h : Heap) (Lc : List Loc), i + k = xs.length → One s6 → c0.length = H → Stand p l e ({ frames := 0, cells := 1, slots := 7, locals := 0 } : Room) s m #[.ref a, .int (Int32.ofNat H)] below meth c T Lc 1 7 → T.heap = h → Fr n0 Lc → n0 ≤ h.size → Keep h0 h [] → Fld Z h a "com/example/antipode/antipode/net/Transition" "inputs" "[I" (.ref t1) → Fld Z h a "com/example/antipode/antipode/net/Transition" "outputs" "[I" (.ref t2) → OAr Z h t1 .int (own_iv xs) → OAr Z h t2 .int (own_iv ys) → OAr Z h b1 .int (c0.map .int) → own_dec (xs.drop i) c0 = own_dec xs (List.replicate H 0) →
      OwnWk p e below (OwnP s (Q_rm4 Z a t1 t2 H xs ys h0 n0) ({ frames := 0, cells := 1, slots := 7, locals := 0 } : Room).cells ({ frames := 0, cells := 1, slots := 7, locals := 0 } : Room).slots) (T.setTop (mkF m 16 #[.val (.ref a), .val (.int (Int32.ofNat H)), .val (.ref b1), .val (.ref t1), .val (.int (Int32.ofNat xs.length)), .val (.int (Int32.ofNat i)), s6] [])) := by
    intro k
    induction k with
    | zero =>
      intro i c0 s6 T h Lc hi h6 hcl X eT NL ZL KL FF0 FF1 FF2 FF3 VB hcc
      show OwnWk _ _ _ _ (T.setTop (mkF m 16 #[.val (.ref a), .val (.int (Int32.ofNat H)), .val (.ref b1), .val (.ref t1), .val (.int (Int32.ofNat xs.length)), .val (.int (Int32.ofNat i)), s6] []))
      refine own_go (fun tgt kst => XS.iload X.here hx rfl (hb hby d4_16) rfl  kst) ?_
      show OwnWk _ _ _ _ (T.setTop (mkF m 18 #[.val (.ref a), .val (.int (Int32.ofNat H)), .val (.ref b1), .val (.ref t1), .val (.int (Int32.ofNat xs.length)), .val (.int (Int32.ofNat i)), s6] [(.int (Int32.ofNat i))]))
      refine own_go (fun tgt kst => XS.iload X.here hx rfl (hb hby d4_18) rfl  kst) ?_
      show OwnWk _ _ _ _ (T.setTop (mkF m 20 #[.val (.ref a), .val (.int (Int32.ofNat H)), .val (.ref b1), .val (.ref t1), .val (.int (Int32.ofNat xs.length)), .val (.int (Int32.ofNat i)), s6] [(.int (Int32.ofNat xs.length)), (.int (Int32.ofNat i))]))
      refine own_go (fun tgt kst => XS.icmpYes X.here hx rfl (pc0 := 20) (pc' := 43) rfl (hb hby d4_20) rfl (flt (fun q => by have := (own_n_lt (by omega) (by omega)).mp q; omega)).2.1 (by decide) (by decide) kst) ?_
      show OwnWk _ _ _ _ (T.setTop (mkF m 43 #[.val (.ref a), .val (.int (Int32.ofNat H)), .val (.ref b1), .val (.ref t1), .val (.int (Int32.ofNat xs.length)), .val (.int (Int32.ofNat i)), s6] []))
      rw [List.drop_of_length_le (by omega)] at hcc
      refine own_go (fun tgt kst => XS.aloadN X.here hx rfl (hb hby d4_43) rfl rfl  kst) ?_
      show OwnWk _ _ _ _ (T.setTop (mkF m 44 #[.val (.ref a), .val (.int (Int32.ofNat H)), .val (.ref b1), .val (.ref t1), .val (.int (Int32.ofNat xs.length)), .val (.int (Int32.ofNat i)), s6] [(.ref a)]))
      obtain ⟨T14, X14, e14, st14⟩ := getF X hx hZ hown (host := "") (Or.inl (hw _ (List.mem_of_getElem? (i := 29) rfl))) Via.refl eT FF1 (g := (mkF m 44 #[.val (.ref a), .val (.int (Int32.ofNat H)), .val (.ref b1), .val (.ref t1), .val (.int (Int32.ofNat xs.length)), .val (.int (Int32.ofNat i)), s6] [(.ref a)])) rfl rfl (hb hby d4_44)
      refine own_go st14 ?_
      show OwnWk _ _ _ _ (T14.setTop (mkF m 47 #[.val (.ref a), .val (.int (Int32.ofNat H)), .val (.ref b1), .val (.ref t1), .val (.int (Int32.ofNat xs.length)), .val (.int (Int32.ofNat i)), s6] [(.ref t2)]))
      refine own_go (fun tgt kst => XS.astoreN X14.here hx rfl (hb hby d4_47) rfl rfl (l' := #[.val (.ref a), .val (.int (Int32.ofNat H)), .val (.ref b1), .val (.ref t2), .val (.int (Int32.ofNat xs.length)), .val (.int (Int32.ofNat i)), s6]) rfl kst) ?_
      show OwnWk _ _ _ _ (T14.setTop (mkF m 48 #[.val (.ref a), .val (.int (Int32.ofNat H)), .val (.ref b1), .val (.ref t2), .val (.int (Int32.ofNat xs.length)), .val (.int (Int32.ofNat i)), s6] []))
      refine own_go (fun tgt kst => XS.aloadN X14.here hx rfl (hb hby d4_48) rfl rfl  kst) ?_
      show OwnWk _ _ _ _ (T14.setTop (mkF m 49 #[.val (.ref a), .val (.int (Int32.ofNat H)), .val (.ref b1), .val (.ref t2), .val (.int (Int32.ofNat xs.length)), .val (.int (Int32.ofNat i)), s6] [(.ref t2)]))
      refine own_len X14 hx hZ e14 FF3 (g := (mkF m 49 #[.val (.ref a), .val (.int (Int32.ofNat H)), .val (.ref b1), .val (.ref t2), .val (.int (Int32.ofNat xs.length)), .val (.int (Int32.ofNat i)), s6] [(.ref t2)])) rfl rfl (hb hby d4_49) (N := (Int32.ofNat ys.length)) (own_ivlen _) ?_
      show OwnWk _ _ _ _ (T14.setTop (mkF m 50 #[.val (.ref a), .val (.int (Int32.ofNat H)), .val (.ref b1), .val (.ref t2), .val (.int (Int32.ofNat xs.length)), .val (.int (Int32.ofNat i)), s6] [(.int (Int32.ofNat ys.length))]))
      refine own_go (fun tgt kst => XS.istore X14.here hx rfl (hb hby d4_50) rfl (l' := #[.val (.ref a), .val (.int (Int32.ofNat H)), .val (.ref b1), .val (.ref t2), .val (.int (Int32.ofNat ys.length)), .val (.int (Int32.ofNat i)), s6]) rfl kst) ?_
      show OwnWk _ _ _ _ (T14.setTop (mkF m 52 #[.val (.ref a), .val (.int (Int32.ofNat H)), .val (.ref b1), .val (.ref t2), .val (.int (Int32.ofNat ys.length)), .val (.int (Int32.ofNat i)), s6] []))
      refine own_go (fun tgt kst => XS.iconst X14.here hx rfl (hb hby d4_52) kst) ?_
      show OwnWk _ _ _ _ (T14.setTop (mkF m 53 #[.val (.ref a), .val (.int (Int32.ofNat H)), .val (.ref b1), .val (.ref t2), .val (.int (Int32.ofNat ys.length)), .val (.int (Int32.ofNat i)), s6] [(.int (0 : Int32))]))
      refine own_go (fun tgt kst => XS.istore X14.here hx rfl (hb hby d4_53) rfl (l' := #[.val (.ref a), .val (.int (Int32.ofNat H)), .val (.ref b1), .val (.ref t2), .val (.int (Int32.ofNat ys.length)), .val (.int (0 : Int32)), s6]) rfl kst) ?_
      show OwnWk _ _ _ _ (T14.setTop (mkF m 55 #[.val (.ref a), .val (.int (Int32.ofNat H)), .val (.ref b1), .val (.ref t2), .val (.int (Int32.ofNat ys.length)), .val (.int (0 : Int32)), s6] []))
      have LPinc : ∀ (k i : Nat) (c0 : List Int32) (s6 : Slot) (T : State) (h : Heap) (Lc : List Loc), i + k = ys.length → One s6 → c0.length = H → Stand p l e ({ frames := 0, cells := 1, slots := 7, locals := 0 } : Room) s m #[.ref a, .int (Int32.ofNat H)] below meth c T Lc 1 7 → T.heap = h → Fr n0 Lc → n0 ≤ h.size → Keep h0 h [] → Fld Z h a "com/example/antipode/antipode/net/Transition" "inputs" "[I" (.ref t1) → Fld Z h a "com/example/antipode/antipode/net/Transition" "outputs" "[I" (.ref t2) → OAr Z h t1 .int (own_iv xs) → OAr Z h t2 .int (own_iv ys) → OAr Z h b1 .int (c0.map .int) → own_inc (ys.drop i) c0 = own_inc ys (own_dec xs (List.replicate H 0)) →
          OwnWk p e below (OwnP s (Q_rm4 Z a t1 t2 H xs ys h0 n0) ({ frames := 0, cells := 1, slots := 7, locals := 0 } : Room).cells ({ frames := 0, cells := 1, slots := 7, locals := 0 } : Room).slots) (T.setTop (mkF m 55 #[.val (.ref a), .val (.int (Int32.ofNat H)), .val (.ref b1), .val (.ref t2), .val (.int (Int32.ofNat ys.length)), .val (.int (Int32.ofNat i)), s6] [])) := by
        intro k
        induction k with
        | zero =>
          intro i c0 s6 T h Lc hi h6 hcl X eT NL ZL KL FF0 FF1 FF2 FF3 VB hcc
          show OwnWk _ _ _ _ (T.setTop (mkF m 55 #[.val (.ref a), .val (.int (Int32.ofNat H)), .val (.ref b1), .val (.ref t2), .val (.int (Int32.ofNat ys.length)), .val (.int (Int32.ofNat i)), s6] []))
          refine own_go (fun tgt kst => XS.iload X.here hx rfl (hb hby d4_55) rfl  kst) ?_
          show OwnWk _ _ _ _ (T.setTop (mkF m 57 #[.val (.ref a), .val (.int (Int32.ofNat H)), .val (.ref b1), .val (.ref t2), .val (.int (Int32.ofNat ys.length)), .val (.int (Int32.ofNat i)), s6] [(.int (Int32.ofNat i))]))
          refine own_go (fun tgt kst => XS.iload X.here hx rfl (hb hby d4_57) rfl  kst) ?_
          show OwnWk _ _ _ _ (T.setTop (mkF m 59 #[.val (.ref a), .val (.int (Int32.ofNat H)), .val (.ref b1), .val (.ref t2), .val (.int (Int32.ofNat ys.length)), .val (.int (Int32.ofNat i)), s6] [(.int (Int32.ofNat ys.length)), (.int (Int32.ofNat i))]))
          refine own_go (fun tgt kst => XS.icmpYes X.here hx rfl (pc0 := 59) (pc' := 82) rfl (hb hby d4_59) rfl (flt (fun q => by have := (own_n_lt (by omega) (by omega)).mp q; omega)).2.1 (by decide) (by decide) kst) ?_
          show OwnWk _ _ _ _ (T.setTop (mkF m 82 #[.val (.ref a), .val (.int (Int32.ofNat H)), .val (.ref b1), .val (.ref t2), .val (.int (Int32.ofNat ys.length)), .val (.int (Int32.ofNat i)), s6] []))
          rw [List.drop_of_length_le (by omega)] at hcc
          refine own_go (fun tgt kst => XS.aloadN X.here hx rfl (hb hby d4_82) rfl rfl  kst) ?_
          show OwnWk _ _ _ _ (T.setTop (mkF m 83 #[.val (.ref a), .val (.int (Int32.ofNat H)), .val (.ref b1), .val (.ref t2), .val (.int (Int32.ofNat ys.length)), .val (.int (Int32.ofNat i)), s6] [(.ref b1)]))
          exact own_retA X hx hlk hret rfl rfl rfl (hb hby d4_83) (by decide) (by decide) (by rw [eT]; exact ⟨b1, rfl, NL, KL, sz6, own_cast (by rw [show c0 = own_eff H xs ys from hcc]) VB⟩)
        | succ k ih =>
          intro i c0 s6 T h Lc hi h6 hcl X eT NL ZL KL FF0 FF1 FF2 FF3 VB hcc
          show OwnWk _ _ _ _ (T.setTop (mkF m 55 #[.val (.ref a), .val (.int (Int32.ofNat H)), .val (.ref b1), .val (.ref t2), .val (.int (Int32.ofNat ys.length)), .val (.int (Int32.ofNat i)), s6] []))
          obtain ⟨q, hqi⟩ := own_get (xs := ys) (i := i) (by omega)
          have hqH : q < H := hys q (List.mem_of_getElem? hqi)
          rw [own_drop hqi] at hcc
          refine own_go (fun tgt kst => XS.iload X.here hx rfl (hb hby d4_55) rfl  kst) ?_
          show OwnWk _ _ _ _ (T.setTop (mkF m 57 #[.val (.ref a), .val (.int (Int32.ofNat H)), .val (.ref b1), .val (.ref t2), .val (.int (Int32.ofNat ys.length)), .val (.int (Int32.ofNat i)), s6] [(.int (Int32.ofNat i))]))
          refine own_go (fun tgt kst => XS.iload X.here hx rfl (hb hby d4_57) rfl  kst) ?_
          show OwnWk _ _ _ _ (T.setTop (mkF m 59 #[.val (.ref a), .val (.int (Int32.ofNat H)), .val (.ref b1), .val (.ref t2), .val (.int (Int32.ofNat ys.length)), .val (.int (Int32.ofNat i)), s6] [(.int (Int32.ofNat ys.length)), (.int (Int32.ofNat i))]))
          refine own_go (fun tgt kst => XS.icmpNo X.here hx rfl (hb hby d4_59) rfl (tlt ((own_n_lt (by omega) (by omega)).mpr (by omega))).2.1 kst) ?_
          show OwnWk _ _ _ _ (T.setTop (mkF m 62 #[.val (.ref a), .val (.int (Int32.ofNat H)), .val (.ref b1), .val (.ref t2), .val (.int (Int32.ofNat ys.length)), .val (.int (Int32.ofNat i)), s6] []))
          refine own_go (fun tgt kst => XS.aloadN X.here hx rfl (hb hby d4_62) rfl rfl  kst) ?_
          show OwnWk _ _ _ _ (T.setTop (mkF m 63 #[.val (.ref a), .val (.int (Int32.ofNat H)), .val (.ref b1), .val (.ref t2), .val (.int (Int32.ofNat ys.length)), .val (.int (Int32.ofNat i)), s6] [(.ref t2)]))
          refine own_go (fun tgt kst => XS.iload X.here hx rfl (hb hby d4_63) rfl  kst) ?_
          show OwnWk _ _ _ _ (T.setTop (mkF m 65 #[.val (.ref a), .val (.int (Int32.ofNat H)), .val (.ref b1), .val (.ref t2), .val (.int (Int32.ofNat ys.length)), .val (.int (Int32.ofNat i)), s6] [(.int (Int32.ofNat i)), (.ref t2)]))
          refine own_ldI X hx hZ eT FF3 (g := (mkF m 65 #[.val (.ref a), .val (.int (Int32.ofNat H)), .val (.ref b1), .val (.ref t2), .val (.int (Int32.ofNat ys.length)), .val (.int (Int32.ofNat i)), s6] [(.int (Int32.ofNat i)), (.ref t2)])) rfl rfl (hb hby d4_65) (v := (.int (Int32.ofNat q))) (own_n_nn (by omega)) (own_ivat (by omega) hqi) ?_
          show OwnWk _ _ _ _ (T.setTop (mkF m 66 #[.val (.ref a), .val (.int (Int32.ofNat H)), .val (.ref b1), .val (.ref t2), .val (.int (Int32.ofNat ys.length)), .val (.int (Int32.ofNat i)), s6] [(.int (Int32.ofNat q))]))
          refine own_go (fun tgt kst => XS.istore X.here hx rfl (hb hby d4_66) rfl (l' := #[.val (.ref a), .val (.int (Int32.ofNat H)), .val (.ref b1), .val (.ref t2), .val (.int (Int32.ofNat ys.length)), .val (.int (Int32.ofNat i)), .val (.int (Int32.ofNat q))]) (own_st6 h6) kst) ?_
          show OwnWk _ _ _ _ (T.setTop (mkF m 68 #[.val (.ref a), .val (.int (Int32.ofNat H)), .val (.ref b1), .val (.ref t2), .val (.int (Int32.ofNat ys.length)), .val (.int (Int32.ofNat i)), .val (.int (Int32.ofNat q))] []))
          refine own_go (fun tgt kst => XS.aloadN X.here hx rfl (hb hby d4_68) rfl rfl  kst) ?_
          show OwnWk _ _ _ _ (T.setTop (mkF m 69 #[.val (.ref a), .val (.int (Int32.ofNat H)), .val (.ref b1), .val (.ref t2), .val (.int (Int32.ofNat ys.length)), .val (.int (Int32.ofNat i)), .val (.int (Int32.ofNat q))] [(.ref b1)]))
          refine own_go (fun tgt kst => XS.iload X.here hx rfl (hb hby d4_69) rfl  kst) ?_
          show OwnWk _ _ _ _ (T.setTop (mkF m 71 #[.val (.ref a), .val (.int (Int32.ofNat H)), .val (.ref b1), .val (.ref t2), .val (.int (Int32.ofNat ys.length)), .val (.int (Int32.ofNat i)), .val (.int (Int32.ofNat q))] [(.int (Int32.ofNat q)), (.ref b1)]))
          refine own_go (fun tgt kst => Jvm.Free.XT.dup2 X.here hx rfl (hb hby d4_71) rfl rfl rfl kst) ?_
          show OwnWk _ _ _ _ (T.setTop (mkF m 72 #[.val (.ref a), .val (.int (Int32.ofNat H)), .val (.ref b1), .val (.ref t2), .val (.int (Int32.ofNat ys.length)), .val (.int (Int32.ofNat i)), .val (.int (Int32.ofNat q))] [(.int (Int32.ofNat q)), (.ref b1), (.int (Int32.ofNat q)), (.ref b1)]))
          refine own_ldI X hx hZ eT VB (g := (mkF m 72 #[.val (.ref a), .val (.int (Int32.ofNat H)), .val (.ref b1), .val (.ref t2), .val (.int (Int32.ofNat ys.length)), .val (.int (Int32.ofNat i)), .val (.int (Int32.ofNat q))] [(.int (Int32.ofNat q)), (.ref b1), (.int (Int32.ofNat q)), (.ref b1)])) rfl rfl (hb hby d4_72) (v := (.int (c0.getD q 0))) (own_n_nn (by omega)) (own_mpat (by omega) (by omega)) ?_
          show OwnWk _ _ _ _ (T.setTop (mkF m 73 #[.val (.ref a), .val (.int (Int32.ofNat H)), .val (.ref b1), .val (.ref t2), .val (.int (Int32.ofNat ys.length)), .val (.int (Int32.ofNat i)), .val (.int (Int32.ofNat q))] [(.int (c0.getD q 0)), (.int (Int32.ofNat q)), (.ref b1)]))
          refine own_go (fun tgt kst => XS.iconst X.here hx rfl (hb hby d4_73) kst) ?_
          show OwnWk _ _ _ _ (T.setTop (mkF m 74 #[.val (.ref a), .val (.int (Int32.ofNat H)), .val (.ref b1), .val (.ref t2), .val (.int (Int32.ofNat ys.length)), .val (.int (Int32.ofNat i)), .val (.int (Int32.ofNat q))] [(.int (1 : Int32)), (.int (c0.getD q 0)), (.int (Int32.ofNat q)), (.ref b1)]))
          refine own_go (fun tgt kst => XS.iadd X.here hx rfl (hb hby d4_74) rfl kst) ?_
          show OwnWk _ _ _ _ (T.setTop (mkF m 75 #[.val (.ref a), .val (.int (Int32.ofNat H)), .val (.ref b1), .val (.ref t2), .val (.int (Int32.ofNat ys.length)), .val (.int (Int32.ofNat i)), .val (.int (Int32.ofNat q))] [(.int ((c0.getD q 0) + (1 : Int32))), (.int (Int32.ofNat q)), (.ref b1)]))
          refine own_stI X hx hZ eT VB (g := (mkF m 75 #[.val (.ref a), .val (.int (Int32.ofNat H)), .val (.ref b1), .val (.ref t2), .val (.int (Int32.ofNat ys.length)), .val (.int (Int32.ofNat i)), .val (.int (Int32.ofNat q))] [(.int ((c0.getD q 0) + (1 : Int32))), (.int (Int32.ofNat q)), (.ref b1)])) rfl rfl (hb hby d4_75) (own_n_nn (by omega)) (by rw [own_n_nat (by omega), List.length_map]; omega) (fun T15 h15 X15 e15 W15 V15 => ?_)
          have V15b : OAr Z h15 b1 .int ((c0.set q ((c0.getD q 0) + (1 : Int32))).map .int) := by exact own_cast (own_mpset (by omega)) V15
          have N15 := Fr.snoc X15 NL ge5
          have F16 := Fld.other W15 FF0 (Or.inl ne2)
          have F17 := Fld.other W15 FF1 (Or.inl ne2)
          have F18 := OAr.other FF2 W15 ne3
          have F19 := OAr.other FF3 W15 ne4
          have Z20 := Nat.le_trans ZL (Keep.of_wr W15).1
          have K21 := Keep.wr KL W15 (Or.inr sz6)
          show OwnWk _ _ _ _ (T15.setTop (mkF m 76 #[.val (.ref a), .val (.int (Int32.ofNat H)), .val (.ref b1), .val (.ref t2), .val (.int (Int32.ofNat ys.length)), .val (.int (Int32.ofNat i)), .val (.int (Int32.ofNat q))] []))
          refine own_go (fun tgt kst => XS.iinc X15.here hx rfl (hb hby d4_76) rfl (l' := #[.val (.ref a), .val (.int (Int32.ofNat H)), .val (.ref b1), .val (.ref t2), .val (.int (Int32.ofNat ys.length)), .val (.int ((Int32.ofNat i) + (1 : Int32))), .val (.int (Int32.ofNat q))]) rfl kst) ?_
          show OwnWk _ _ _ _ (T15.setTop (mkF m 79 #[.val (.ref a), .val (.int (Int32.ofNat H)), .val (.ref b1), .val (.ref t2), .val (.int (Int32.ofNat ys.length)), .val (.int ((Int32.ofNat i) + (1 : Int32))), .val (.int (Int32.ofNat q))] []))
          refine own_go (fun tgt kst => XS.goto X15.here hx rfl (pc0 := 79) (pc' := 55) rfl (hb hby d4_79) (by decide) (by decide) kst) ?_
          show OwnWk _ _ _ _ (T15.setTop (mkF m 55 #[.val (.ref a), .val (.int (Int32.ofNat H)), .val (.ref b1), .val (.ref t2), .val (.int (Int32.ofNat ys.length)), .val (.int ((Int32.ofNat i) + (1 : Int32))), .val (.int (Int32.ofNat q))] []))
          rw [own_n_succ]
          exact ih (i + 1) _ _ _ _ _ (by omega) (One.val rfl) (by rw [List.length_set]; exact hcl) X15 e15 N15 Z20 K21 F16 F17 F18 F19 V15b hcc
      exact LPinc ys.length 0 _ _ _ _ _ (by omega) h6 hcl X14 e14 NL ZL KL FF0 FF1 FF2 FF3 VB (by rw [← hcc]; rfl)
    | succ k ih =>
      intro i c0 s6 T h Lc hi h6 hcl X eT NL ZL KL FF0 FF1 FF2 FF3 VB hcc
      show OwnWk _ _ _ _ (T.setTop (mkF m 16 #[.val (.ref a), .val (.int (Int32.ofNat H)), .val (.ref b1), .val (.ref t1), .val (.int (Int32.ofNat xs.length)), .val (.int (Int32.ofNat i)), s6] []))
      obtain ⟨q, hqi⟩ := own_get (xs := xs) (i := i) (by omega)
      have hqH : q < H := hxs q (List.mem_of_getElem? hqi)
      rw [own_drop hqi] at hcc
      refine own_go (fun tgt kst => XS.iload X.here hx rfl (hb hby d4_16) rfl  kst) ?_
      show OwnWk _ _ _ _ (T.setTop (mkF m 18 #[.val (.ref a), .val (.int (Int32.ofNat H)), .val (.ref b1), .val (.ref t1), .val (.int (Int32.ofNat xs.length)), .val (.int (Int32.ofNat i)), s6] [(.int (Int32.ofNat i))]))
      refine own_go (fun tgt kst => XS.iload X.here hx rfl (hb hby d4_18) rfl  kst) ?_
      show OwnWk _ _ _ _ (T.setTop (mkF m 20 #[.val (.ref a), .val (.int (Int32.ofNat H)), .val (.ref b1), .val (.ref t1), .val (.int (Int32.ofNat xs.length)), .val (.int (Int32.ofNat i)), s6] [(.int (Int32.ofNat xs.length)), (.int (Int32.ofNat i))]))
      refine own_go (fun tgt kst => XS.icmpNo X.here hx rfl (hb hby d4_20) rfl (tlt ((own_n_lt (by omega) (by omega)).mpr (by omega))).2.1 kst) ?_
      show OwnWk _ _ _ _ (T.setTop (mkF m 23 #[.val (.ref a), .val (.int (Int32.ofNat H)), .val (.ref b1), .val (.ref t1), .val (.int (Int32.ofNat xs.length)), .val (.int (Int32.ofNat i)), s6] []))
      refine own_go (fun tgt kst => XS.aloadN X.here hx rfl (hb hby d4_23) rfl rfl  kst) ?_
      show OwnWk _ _ _ _ (T.setTop (mkF m 24 #[.val (.ref a), .val (.int (Int32.ofNat H)), .val (.ref b1), .val (.ref t1), .val (.int (Int32.ofNat xs.length)), .val (.int (Int32.ofNat i)), s6] [(.ref t1)]))
      refine own_go (fun tgt kst => XS.iload X.here hx rfl (hb hby d4_24) rfl  kst) ?_
      show OwnWk _ _ _ _ (T.setTop (mkF m 26 #[.val (.ref a), .val (.int (Int32.ofNat H)), .val (.ref b1), .val (.ref t1), .val (.int (Int32.ofNat xs.length)), .val (.int (Int32.ofNat i)), s6] [(.int (Int32.ofNat i)), (.ref t1)]))
      refine own_ldI X hx hZ eT FF2 (g := (mkF m 26 #[.val (.ref a), .val (.int (Int32.ofNat H)), .val (.ref b1), .val (.ref t1), .val (.int (Int32.ofNat xs.length)), .val (.int (Int32.ofNat i)), s6] [(.int (Int32.ofNat i)), (.ref t1)])) rfl rfl (hb hby d4_26) (v := (.int (Int32.ofNat q))) (own_n_nn (by omega)) (own_ivat (by omega) hqi) ?_
      show OwnWk _ _ _ _ (T.setTop (mkF m 27 #[.val (.ref a), .val (.int (Int32.ofNat H)), .val (.ref b1), .val (.ref t1), .val (.int (Int32.ofNat xs.length)), .val (.int (Int32.ofNat i)), s6] [(.int (Int32.ofNat q))]))
      refine own_go (fun tgt kst => XS.istore X.here hx rfl (hb hby d4_27) rfl (l' := #[.val (.ref a), .val (.int (Int32.ofNat H)), .val (.ref b1), .val (.ref t1), .val (.int (Int32.ofNat xs.length)), .val (.int (Int32.ofNat i)), .val (.int (Int32.ofNat q))]) (own_st6 h6) kst) ?_
      show OwnWk _ _ _ _ (T.setTop (mkF m 29 #[.val (.ref a), .val (.int (Int32.ofNat H)), .val (.ref b1), .val (.ref t1), .val (.int (Int32.ofNat xs.length)), .val (.int (Int32.ofNat i)), .val (.int (Int32.ofNat q))] []))
      refine own_go (fun tgt kst => XS.aloadN X.here hx rfl (hb hby d4_29) rfl rfl  kst) ?_
      show OwnWk _ _ _ _ (T.setTop (mkF m 30 #[.val (.ref a), .val (.int (Int32.ofNat H)), .val (.ref b1), .val (.ref t1), .val (.int (Int32.ofNat xs.length)), .val (.int (Int32.ofNat i)), .val (.int (Int32.ofNat q))] [(.ref b1)]))
      refine own_go (fun tgt kst => XS.iload X.here hx rfl (hb hby d4_30) rfl  kst) ?_
      show OwnWk _ _ _ _ (T.setTop (mkF m 32 #[.val (.ref a), .val (.int (Int32.ofNat H)), .val (.ref b1), .val (.ref t1), .val (.int (Int32.ofNat xs.length)), .val (.int (Int32.ofNat i)), .val (.int (Int32.ofNat q))] [(.int (Int32.ofNat q)), (.ref b1)]))
      refine own_go (fun tgt kst => Jvm.Free.XT.dup2 X.here hx rfl (hb hby d4_32) rfl rfl rfl kst) ?_
      show OwnWk _ _ _ _ (T.setTop (mkF m 33 #[.val (.ref a), .val (.int (Int32.ofNat H)), .val (.ref b1), .val (.ref t1), .val (.int (Int32.ofNat xs.length)), .val (.int (Int32.ofNat i)), .val (.int (Int32.ofNat q))] [(.int (Int32.ofNat q)), (.ref b1), (.int (Int32.ofNat q)), (.ref b1)]))
      refine own_ldI X hx hZ eT VB (g := (mkF m 33 #[.val (.ref a), .val (.int (Int32.ofNat H)), .val (.ref b1), .val (.ref t1), .val (.int (Int32.ofNat xs.length)), .val (.int (Int32.ofNat i)), .val (.int (Int32.ofNat q))] [(.int (Int32.ofNat q)), (.ref b1), (.int (Int32.ofNat q)), (.ref b1)])) rfl rfl (hb hby d4_33) (v := (.int (c0.getD q 0))) (own_n_nn (by omega)) (own_mpat (by omega) (by omega)) ?_
      show OwnWk _ _ _ _ (T.setTop (mkF m 34 #[.val (.ref a), .val (.int (Int32.ofNat H)), .val (.ref b1), .val (.ref t1), .val (.int (Int32.ofNat xs.length)), .val (.int (Int32.ofNat i)), .val (.int (Int32.ofNat q))] [(.int (c0.getD q 0)), (.int (Int32.ofNat q)), (.ref b1)]))
      refine own_go (fun tgt kst => XS.iconst X.here hx rfl (hb hby d4_34) kst) ?_
      show OwnWk _ _ _ _ (T.setTop (mkF m 35 #[.val (.ref a), .val (.int (Int32.ofNat H)), .val (.ref b1), .val (.ref t1), .val (.int (Int32.ofNat xs.length)), .val (.int (Int32.ofNat i)), .val (.int (Int32.ofNat q))] [(.int (1 : Int32)), (.int (c0.getD q 0)), (.int (Int32.ofNat q)), (.ref b1)]))
      refine own_go (fun tgt kst => XS.isub X.here hx rfl (hb hby d4_35) rfl kst) ?_
      show OwnWk _ _ _ _ (T.setTop (mkF m 36 #[.val (.ref a), .val (.int (Int32.ofNat H)), .val (.ref b1), .val (.ref t1), .val (.int (Int32.ofNat xs.length)), .val (.int (Int32.ofNat i)), .val (.int (Int32.ofNat q))] [(.int ((c0.getD q 0) - (1 : Int32))), (.int (Int32.ofNat q)), (.ref b1)]))
      refine own_stI X hx hZ eT VB (g := (mkF m 36 #[.val (.ref a), .val (.int (Int32.ofNat H)), .val (.ref b1), .val (.ref t1), .val (.int (Int32.ofNat xs.length)), .val (.int (Int32.ofNat i)), .val (.int (Int32.ofNat q))] [(.int ((c0.getD q 0) - (1 : Int32))), (.int (Int32.ofNat q)), (.ref b1)])) rfl rfl (hb hby d4_36) (own_n_nn (by omega)) (by rw [own_n_nat (by omega), List.length_map]; omega) (fun T22 h22 X22 e22 W22 V22 => ?_)
      have V22b : OAr Z h22 b1 .int ((c0.set q ((c0.getD q 0) - (1 : Int32))).map .int) := by exact own_cast (own_mpset (by omega)) V22
      have N22 := Fr.snoc X22 NL ge5
      have F23 := Fld.other W22 FF0 (Or.inl ne2)
      have F24 := Fld.other W22 FF1 (Or.inl ne2)
      have F25 := OAr.other FF2 W22 ne3
      have F26 := OAr.other FF3 W22 ne4
      have Z27 := Nat.le_trans ZL (Keep.of_wr W22).1
      have K28 := Keep.wr KL W22 (Or.inr sz6)
      show OwnWk _ _ _ _ (T22.setTop (mkF m 37 #[.val (.ref a), .val (.int (Int32.ofNat H)), .val (.ref b1), .val (.ref t1), .val (.int (Int32.ofNat xs.length)), .val (.int (Int32.ofNat i)), .val (.int (Int32.ofNat q))] []))
      refine own_go (fun tgt kst => XS.iinc X22.here hx rfl (hb hby d4_37) rfl (l' := #[.val (.ref a), .val (.int (Int32.ofNat H)), .val (.ref b1), .val (.ref t1), .val (.int (Int32.ofNat xs.length)), .val (.int ((Int32.ofNat i) + (1 : Int32))), .val (.int (Int32.ofNat q))]) rfl kst) ?_
      show OwnWk _ _ _ _ (T22.setTop (mkF m 40 #[.val (.ref a), .val (.int (Int32.ofNat H)), .val (.ref b1), .val (.ref t1), .val (.int (Int32.ofNat xs.length)), .val (.int ((Int32.ofNat i) + (1 : Int32))), .val (.int (Int32.ofNat q))] []))
      refine own_go (fun tgt kst => XS.goto X22.here hx rfl (pc0 := 40) (pc' := 16) rfl (hb hby d4_40) (by decide) (by decide) kst) ?_
      show OwnWk _ _ _ _ (T22.setTop (mkF m 16 #[.val (.ref a), .val (.int (Int32.ofNat H)), .val (.ref b1), .val (.ref t1), .val (.int (Int32.ofNat xs.length)), .val (.int ((Int32.ofNat i) + (1 : Int32))), .val (.int (Int32.ofNat q))] []))
      rw [own_n_succ]
      exact ih (i + 1) _ _ _ _ _ (by omega) (One.val rfl) (by rw [List.length_set]; exact hcl) X22 e22 N22 Z27 K28 F23 F24 F25 F26 V22b hcc
  exact LPdec xs.length 0 _ _ _ _ _ (by omega) One.u List.length_replicate X13 e13 N0 Z11 K12 F7 F8 F9 F10 V1b rfl
theorem pn_pn_6 : plainName "com/example/antipode/antipode/net/TransitionEffectPinLaw" = true := by first | (simp [plainName, overriddenIn]; done) | decide +kernel
theorem pn_6 : plainFor (⟨"com/example/antipode/antipode/net/TransitionEffectPinLaw", "cnt", "([II)I"⟩ : MethodName) = true := plainFor_of_name pn_pn_6
theorem d6_0 : decode method_3_code 0 = .ok (.iconst 0, 1) := by decide +kernel
theorem d6_1 : decode method_3_code 1 = .ok (.istore_n 2, 1) := by decide +kernel
theorem d6_2 : decode method_3_code 2 = .ok (.aload_n 0, 1) := by decide +kernel
theorem d6_3 : decode method_3_code 3 = .ok (.arraylength, 1) := by decide +kernel
theorem d6_4 : decode method_3_code 4 = .ok (.ifCond .le 13, 3) := by decide +kernel
theorem d6_17 : decode method_3_code 17 = .ok (.aload_n 0, 1) := by decide +kernel
theorem d6_18 : decode method_3_code 18 = .ok (.arraylength, 1) := by decide +kernel
theorem d6_19 : decode method_3_code 19 = .ok (.iconst 1, 1) := by decide +kernel
theorem d6_20 : decode method_3_code 20 = .ok (.if_icmp .le 13, 3) := by decide +kernel
theorem d6_33 : decode method_3_code 33 = .ok (.aload_n 0, 1) := by decide +kernel
theorem d6_34 : decode method_3_code 34 = .ok (.arraylength, 1) := by decide +kernel
theorem d6_35 : decode method_3_code 35 = .ok (.iconst 2, 1) := by decide +kernel
theorem d6_36 : decode method_3_code 36 = .ok (.if_icmp .le 13, 3) := by decide +kernel
theorem d6_49 : decode method_3_code 49 = .ok (.iload_n 2, 1) := by decide +kernel
theorem d6_50 : decode method_3_code 50 = .ok (.ireturn, 1) := by decide +kernel
theorem d6_7 : decode method_3_code 7 = .ok (.aload_n 0, 1) := by decide +kernel
theorem d6_8 : decode method_3_code 8 = .ok (.iconst 0, 1) := by decide +kernel
theorem d6_9 : decode method_3_code 9 = .ok (.iaload, 1) := by decide +kernel
theorem d6_10 : decode method_3_code 10 = .ok (.iload_n 1, 1) := by decide +kernel
theorem d6_11 : decode method_3_code 11 = .ok (.if_icmp .ne 6, 3) := by decide +kernel
theorem d6_14 : decode method_3_code 14 = .ok (.iinc 2 1, 3) := by decide +kernel
theorem d6_23 : decode method_3_code 23 = .ok (.aload_n 0, 1) := by decide +kernel
theorem d6_24 : decode method_3_code 24 = .ok (.iconst 1, 1) := by decide +kernel
theorem d6_25 : decode method_3_code 25 = .ok (.iaload, 1) := by decide +kernel
theorem d6_26 : decode method_3_code 26 = .ok (.iload_n 1, 1) := by decide +kernel
theorem d6_27 : decode method_3_code 27 = .ok (.if_icmp .ne 6, 3) := by decide +kernel
theorem d6_30 : decode method_3_code 30 = .ok (.iinc 2 1, 3) := by decide +kernel
theorem d6_39 : decode method_3_code 39 = .ok (.aload_n 0, 1) := by decide +kernel
theorem d6_40 : decode method_3_code 40 = .ok (.iconst 2, 1) := by decide +kernel
theorem d6_41 : decode method_3_code 41 = .ok (.iaload, 1) := by decide +kernel
theorem d6_42 : decode method_3_code 42 = .ok (.iload_n 1, 1) := by decide +kernel
theorem d6_43 : decode method_3_code 43 = .ok (.if_icmp .ne 6, 3) := by decide +kernel
theorem d6_46 : decode method_3_code 46 = .ok (.iinc 2 1, 3) := by decide +kernel
theorem ef_rm6 (m : MethodId) (x0 : Addr) (x1 : Int32) : entryFrame m #[(.ref x0), (.int x1)] 3 = mkF m 0 #[.val (.ref x0), .val (.int x1), .unset] [] := by first | (simp [entryFrame, mkF, argsToLocals, Value.category]; done) | rfl
def Q_rm6 (Z : State) (t : Addr) (xs : List Nat) (P1 : Nat) (h0 : Heap) (n0 : Nat) (v : Option Value) (h : Heap) (L : List Loc) : Prop := v = some (.int (own_cnt P1 xs 0)) ∧ Fr n0 L ∧ h = h0
set_option maxRecDepth 65536 in
set_option maxHeartbeats 40000000 in
theorem rm6 (l : Launch) (Z : State) (a0 : Array Value) (hw : ∀ d ∈ tables_1, d.before a0 Z = true) (t : Addr) (xs : List Nat) (P1 : Nat) (h0 : Heap) (n0 : Nat) (Z0 : n0 ≤ h0.size) (V_t : OAr Z h0 t .int (own_iv xs)) (hx3 : xs.length ≤ 3) :
    OwnMet l (⟨"com/example/antipode/antipode/net/TransitionEffectPinLaw", "cnt", "([II)I"⟩ : MethodName) method_3_code 3 (some .int) [] ({ frames := 0, cells := 0, slots := 0, locals := 0 } : Room) Z #[(.ref t), (.int (Int32.ofNat P1))] h0 (Q_rm6 Z t xs P1 h0 n0) := by
  refine own_met pn_6 (fun p e s m below meth c s₁ hx hby hml hown hnm hret hlk hZ X0 e0 => ?_)
  have hown : s.vm.findClass "com/example/antipode/antipode/net/TransitionEffectPinLaw" = some m.cls := hown
  have N0 := Fr.nil n0
  rw [ef_rm6]
  rcases own_shape hx3 with rfl | ⟨q0, rfl⟩ | ⟨q0, q1, rfl⟩ | ⟨q0, q1, q2, rfl⟩
  ·
    show OwnWk _ _ _ _ (s₁.setTop (mkF m 0 #[.val (.ref t), .val (.int (Int32.ofNat P1)), .unset] []))
    refine own_go (fun tgt kst => XS.iconst X0.here hx rfl (hb hby d6_0) kst) ?_
    show OwnWk _ _ _ _ (s₁.setTop (mkF m 1 #[.val (.ref t), .val (.int (Int32.ofNat P1)), .unset] [(.int (0 : Int32))]))
    refine own_go (fun tgt kst => XS.istoreN X0.here hx rfl (hb hby d6_1) rfl (l' := #[.val (.ref t), .val (.int (Int32.ofNat P1)), .val (.int (0 : Int32))]) rfl kst) ?_
    show OwnWk _ _ _ _ (s₁.setTop (mkF m 2 #[.val (.ref t), .val (.int (Int32.ofNat P1)), .val (.int (0 : Int32))] []))
    refine own_go (fun tgt kst => XS.aloadN X0.here hx rfl (hb hby d6_2) rfl rfl  kst) ?_
    show OwnWk _ _ _ _ (s₁.setTop (mkF m 3 #[.val (.ref t), .val (.int (Int32.ofNat P1)), .val (.int (0 : Int32))] [(.ref t)]))
    refine own_len X0 hx hZ e0 V_t (g := (mkF m 3 #[.val (.ref t), .val (.int (Int32.ofNat P1)), .val (.int (0 : Int32))] [(.ref t)])) rfl rfl (hb hby d6_3) (N := (0 : Int32)) rfl ?_
    show OwnWk _ _ _ _ (s₁.setTop (mkF m 4 #[.val (.ref t), .val (.int (Int32.ofNat P1)), .val (.int (0 : Int32))] [(.int (0 : Int32))]))
    refine own_go (fun tgt kst => XS.ifYes X0.here hx rfl (pc0 := 4) (pc' := 17) rfl (hb hby d6_4) rfl ((if0 _ _).trans (flt (by decide : ¬ ((0 : Int32) < (0 : Int32)))).2.2.2) (by decide) (by decide) kst) ?_
    show OwnWk _ _ _ _ (s₁.setTop (mkF m 17 #[.val (.ref t), .val (.int (Int32.ofNat P1)), .val (.int (0 : Int32))] []))
    refine own_go (fun tgt kst => XS.aloadN X0.here hx rfl (hb hby d6_17) rfl rfl  kst) ?_
    show OwnWk _ _ _ _ (s₁.setTop (mkF m 18 #[.val (.ref t), .val (.int (Int32.ofNat P1)), .val (.int (0 : Int32))] [(.ref t)]))
    refine own_len X0 hx hZ e0 V_t (g := (mkF m 18 #[.val (.ref t), .val (.int (Int32.ofNat P1)), .val (.int (0 : Int32))] [(.ref t)])) rfl rfl (hb hby d6_18) (N := (0 : Int32)) rfl ?_
    show OwnWk _ _ _ _ (s₁.setTop (mkF m 19 #[.val (.ref t), .val (.int (Int32.ofNat P1)), .val (.int (0 : Int32))] [(.int (0 : Int32))]))
    refine own_go (fun tgt kst => XS.iconst X0.here hx rfl (hb hby d6_19) kst) ?_
    show OwnWk _ _ _ _ (s₁.setTop (mkF m 20 #[.val (.ref t), .val (.int (Int32.ofNat P1)), .val (.int (0 : Int32))] [(.int (1 : Int32)), (.int (0 : Int32))]))
    refine own_go (fun tgt kst => XS.icmpYes X0.here hx rfl (pc0 := 20) (pc' := 33) rfl (hb hby d6_20) rfl (flt (by decide : ¬ ((1 : Int32) < (0 : Int32)))).2.2.2 (by decide) (by decide) kst) ?_
    show OwnWk _ _ _ _ (s₁.setTop (mkF m 33 #[.val (.ref t), .val (.int (Int32.ofNat P1)), .val (.int (0 : Int32))] []))
    refine own_go (fun tgt kst => XS.aloadN X0.here hx rfl (hb hby d6_33) rfl rfl  kst) ?_
    show OwnWk _ _ _ _ (s₁.setTop (mkF m 34 #[.val (.ref t), .val (.int (Int32.ofNat P1)), .val (.int (0 : Int32))] [(.ref t)]))
    refine own_len X0 hx hZ e0 V_t (g := (mkF m 34 #[.val (.ref t), .val (.int (Int32.ofNat P1)), .val (.int (0 : Int32))] [(.ref t)])) rfl rfl (hb hby d6_34) (N := (0 : Int32)) rfl ?_
    show OwnWk _ _ _ _ (s₁.setTop (mkF m 35 #[.val (.ref t), .val (.int (Int32.ofNat P1)), .val (.int (0 : Int32))] [(.int (0 : Int32))]))
    refine own_go (fun tgt kst => XS.iconst X0.here hx rfl (hb hby d6_35) kst) ?_
    show OwnWk _ _ _ _ (s₁.setTop (mkF m 36 #[.val (.ref t), .val (.int (Int32.ofNat P1)), .val (.int (0 : Int32))] [(.int (2 : Int32)), (.int (0 : Int32))]))
    refine own_go (fun tgt kst => XS.icmpYes X0.here hx rfl (pc0 := 36) (pc' := 49) rfl (hb hby d6_36) rfl (flt (by decide : ¬ ((2 : Int32) < (0 : Int32)))).2.2.2 (by decide) (by decide) kst) ?_
    show OwnWk _ _ _ _ (s₁.setTop (mkF m 49 #[.val (.ref t), .val (.int (Int32.ofNat P1)), .val (.int (0 : Int32))] []))
    refine own_go (fun tgt kst => XS.iloadN X0.here hx rfl (hb hby d6_49) rfl  kst) ?_
    show OwnWk _ _ _ _ (s₁.setTop (mkF m 50 #[.val (.ref t), .val (.int (Int32.ofNat P1)), .val (.int (0 : Int32))] [(.int (0 : Int32))]))
    exact own_retI X0 hx hlk hret (hb hby d6_50) (by decide) (by decide) (by rw [e0]; exact ⟨by simp only [own_cnt] <;> rfl, N0, rfl⟩)
  ·
    show OwnWk _ _ _ _ (s₁.setTop (mkF m 0 #[.val (.ref t), .val (.int (Int32.ofNat P1)), .unset] []))
    refine own_go (fun tgt kst => XS.iconst X0.here hx rfl (hb hby d6_0) kst) ?_
    show OwnWk _ _ _ _ (s₁.setTop (mkF m 1 #[.val (.ref t), .val (.int (Int32.ofNat P1)), .unset] [(.int (0 : Int32))]))
    refine own_go (fun tgt kst => XS.istoreN X0.here hx rfl (hb hby d6_1) rfl (l' := #[.val (.ref t), .val (.int (Int32.ofNat P1)), .val (.int (0 : Int32))]) rfl kst) ?_
    show OwnWk _ _ _ _ (s₁.setTop (mkF m 2 #[.val (.ref t), .val (.int (Int32.ofNat P1)), .val (.int (0 : Int32))] []))
    refine own_go (fun tgt kst => XS.aloadN X0.here hx rfl (hb hby d6_2) rfl rfl  kst) ?_
    show OwnWk _ _ _ _ (s₁.setTop (mkF m 3 #[.val (.ref t), .val (.int (Int32.ofNat P1)), .val (.int (0 : Int32))] [(.ref t)]))
    refine own_len X0 hx hZ e0 V_t (g := (mkF m 3 #[.val (.ref t), .val (.int (Int32.ofNat P1)), .val (.int (0 : Int32))] [(.ref t)])) rfl rfl (hb hby d6_3) (N := (1 : Int32)) rfl ?_
    show OwnWk _ _ _ _ (s₁.setTop (mkF m 4 #[.val (.ref t), .val (.int (Int32.ofNat P1)), .val (.int (0 : Int32))] [(.int (1 : Int32))]))
    refine own_go (fun tgt kst => XS.ifNo X0.here hx rfl (hb hby d6_4) rfl ((if0 _ _).trans (tlt (by decide : (0 : Int32) < (1 : Int32))).2.2.2) kst) ?_
    show OwnWk _ _ _ _ (s₁.setTop (mkF m 7 #[.val (.ref t), .val (.int (Int32.ofNat P1)), .val (.int (0 : Int32))] []))
    refine own_go (fun tgt kst => XS.aloadN X0.here hx rfl (hb hby d6_7) rfl rfl  kst) ?_
    show OwnWk _ _ _ _ (s₁.setTop (mkF m 8 #[.val (.ref t), .val (.int (Int32.ofNat P1)), .val (.int (0 : Int32))] [(.ref t)]))
    refine own_go (fun tgt kst => XS.iconst X0.here hx rfl (hb hby d6_8) kst) ?_
    show OwnWk _ _ _ _ (s₁.setTop (mkF m 9 #[.val (.ref t), .val (.int (Int32.ofNat P1)), .val (.int (0 : Int32))] [(.int (0 : Int32)), (.ref t)]))
    refine own_ldI X0 hx hZ e0 V_t (g := (mkF m 9 #[.val (.ref t), .val (.int (Int32.ofNat P1)), .val (.int (0 : Int32))] [(.int (0 : Int32)), (.ref t)])) rfl rfl (hb hby d6_9) (v := (.int (Int32.ofNat q0))) (by decide) rfl ?_
    show OwnWk _ _ _ _ (s₁.setTop (mkF m 10 #[.val (.ref t), .val (.int (Int32.ofNat P1)), .val (.int (0 : Int32))] [(.int (Int32.ofNat q0))]))
    refine own_go (fun tgt kst => XS.iloadN X0.here hx rfl (hb hby d6_10) rfl  kst) ?_
    show OwnWk _ _ _ _ (s₁.setTop (mkF m 11 #[.val (.ref t), .val (.int (Int32.ofNat P1)), .val (.int (0 : Int32))] [(.int (Int32.ofNat P1)), (.int (Int32.ofNat q0))]))
    by_cases hc1 : (Int32.ofNat q0) = (Int32.ofNat P1)
    ·
      refine own_go (fun tgt kst => XS.icmpNo X0.here hx rfl (hb hby d6_11) rfl (teq hc1).2 kst) ?_
      show OwnWk _ _ _ _ (s₁.setTop (mkF m 14 #[.val (.ref t), .val (.int (Int32.ofNat P1)), .val (.int (0 : Int32))] []))
      refine own_go (fun tgt kst => XS.iinc X0.here hx rfl (hb hby d6_14) rfl (l' := #[.val (.ref t), .val (.int (Int32.ofNat P1)), .val (.int (1 : Int32))]) rfl kst) ?_
      show OwnWk _ _ _ _ (s₁.setTop (mkF m 17 #[.val (.ref t), .val (.int (Int32.ofNat P1)), .val (.int (1 : Int32))] []))
      refine own_go (fun tgt kst => XS.aloadN X0.here hx rfl (hb hby d6_17) rfl rfl  kst) ?_
      show OwnWk _ _ _ _ (s₁.setTop (mkF m 18 #[.val (.ref t), .val (.int (Int32.ofNat P1)), .val (.int (1 : Int32))] [(.ref t)]))
      refine own_len X0 hx hZ e0 V_t (g := (mkF m 18 #[.val (.ref t), .val (.int (Int32.ofNat P1)), .val (.int (1 : Int32))] [(.ref t)])) rfl rfl (hb hby d6_18) (N := (1 : Int32)) rfl ?_
      show OwnWk _ _ _ _ (s₁.setTop (mkF m 19 #[.val (.ref t), .val (.int (Int32.ofNat P1)), .val (.int (1 : Int32))] [(.int (1 : Int32))]))
      refine own_go (fun tgt kst => XS.iconst X0.here hx rfl (hb hby d6_19) kst) ?_
      show OwnWk _ _ _ _ (s₁.setTop (mkF m 20 #[.val (.ref t), .val (.int (Int32.ofNat P1)), .val (.int (1 : Int32))] [(.int (1 : Int32)), (.int (1 : Int32))]))
      refine own_go (fun tgt kst => XS.icmpYes X0.here hx rfl (pc0 := 20) (pc' := 33) rfl (hb hby d6_20) rfl (flt (by decide : ¬ ((1 : Int32) < (1 : Int32)))).2.2.2 (by decide) (by decide) kst) ?_
      show OwnWk _ _ _ _ (s₁.setTop (mkF m 33 #[.val (.ref t), .val (.int (Int32.ofNat P1)), .val (.int (1 : Int32))] []))
      refine own_go (fun tgt kst => XS.aloadN X0.here hx rfl (hb hby d6_33) rfl rfl  kst) ?_
      show OwnWk _ _ _ _ (s₁.setTop (mkF m 34 #[.val (.ref t), .val (.int (Int32.ofNat P1)), .val (.int (1 : Int32))] [(.ref t)]))
      refine own_len X0 hx hZ e0 V_t (g := (mkF m 34 #[.val (.ref t), .val (.int (Int32.ofNat P1)), .val (.int (1 : Int32))] [(.ref t)])) rfl rfl (hb hby d6_34) (N := (1 : Int32)) rfl ?_
      show OwnWk _ _ _ _ (s₁.setTop (mkF m 35 #[.val (.ref t), .val (.int (Int32.ofNat P1)), .val (.int (1 : Int32))] [(.int (1 : Int32))]))
      refine own_go (fun tgt kst => XS.iconst X0.here hx rfl (hb hby d6_35) kst) ?_
      show OwnWk _ _ _ _ (s₁.setTop (mkF m 36 #[.val (.ref t), .val (.int (Int32.ofNat P1)), .val (.int (1 : Int32))] [(.int (2 : Int32)), (.int (1 : Int32))]))
      refine own_go (fun tgt kst => XS.icmpYes X0.here hx rfl (pc0 := 36) (pc' := 49) rfl (hb hby d6_36) rfl (flt (by decide : ¬ ((2 : Int32) < (1 : Int32)))).2.2.2 (by decide) (by decide) kst) ?_
      show OwnWk _ _ _ _ (s₁.setTop (mkF m 49 #[.val (.ref t), .val (.int (Int32.ofNat P1)), .val (.int (1 : Int32))] []))
      refine own_go (fun tgt kst => XS.iloadN X0.here hx rfl (hb hby d6_49) rfl  kst) ?_
      show OwnWk _ _ _ _ (s₁.setTop (mkF m 50 #[.val (.ref t), .val (.int (Int32.ofNat P1)), .val (.int (1 : Int32))] [(.int (1 : Int32))]))
      exact own_retI X0 hx hlk hret (hb hby d6_50) (by decide) (by decide) (by rw [e0]; exact ⟨by simp only [own_cnt, if_pos hc1] <;> rfl, N0, rfl⟩)
    ·
      refine own_go (fun tgt kst => XS.icmpYes X0.here hx rfl (pc0 := 11) (pc' := 17) rfl (hb hby d6_11) rfl (feq hc1).2 (by decide) (by decide) kst) ?_
      show OwnWk _ _ _ _ (s₁.setTop (mkF m 17 #[.val (.ref t), .val (.int (Int32.ofNat P1)), .val (.int (0 : Int32))] []))
      refine own_go (fun tgt kst => XS.aloadN X0.here hx rfl (hb hby d6_17) rfl rfl  kst) ?_
      show OwnWk _ _ _ _ (s₁.setTop (mkF m 18 #[.val (.ref t), .val (.int (Int32.ofNat P1)), .val (.int (0 : Int32))] [(.ref t)]))
      refine own_len X0 hx hZ e0 V_t (g := (mkF m 18 #[.val (.ref t), .val (.int (Int32.ofNat P1)), .val (.int (0 : Int32))] [(.ref t)])) rfl rfl (hb hby d6_18) (N := (1 : Int32)) rfl ?_
      show OwnWk _ _ _ _ (s₁.setTop (mkF m 19 #[.val (.ref t), .val (.int (Int32.ofNat P1)), .val (.int (0 : Int32))] [(.int (1 : Int32))]))
      refine own_go (fun tgt kst => XS.iconst X0.here hx rfl (hb hby d6_19) kst) ?_
      show OwnWk _ _ _ _ (s₁.setTop (mkF m 20 #[.val (.ref t), .val (.int (Int32.ofNat P1)), .val (.int (0 : Int32))] [(.int (1 : Int32)), (.int (1 : Int32))]))
      refine own_go (fun tgt kst => XS.icmpYes X0.here hx rfl (pc0 := 20) (pc' := 33) rfl (hb hby d6_20) rfl (flt (by decide : ¬ ((1 : Int32) < (1 : Int32)))).2.2.2 (by decide) (by decide) kst) ?_
      show OwnWk _ _ _ _ (s₁.setTop (mkF m 33 #[.val (.ref t), .val (.int (Int32.ofNat P1)), .val (.int (0 : Int32))] []))
      refine own_go (fun tgt kst => XS.aloadN X0.here hx rfl (hb hby d6_33) rfl rfl  kst) ?_
      show OwnWk _ _ _ _ (s₁.setTop (mkF m 34 #[.val (.ref t), .val (.int (Int32.ofNat P1)), .val (.int (0 : Int32))] [(.ref t)]))
      refine own_len X0 hx hZ e0 V_t (g := (mkF m 34 #[.val (.ref t), .val (.int (Int32.ofNat P1)), .val (.int (0 : Int32))] [(.ref t)])) rfl rfl (hb hby d6_34) (N := (1 : Int32)) rfl ?_
      show OwnWk _ _ _ _ (s₁.setTop (mkF m 35 #[.val (.ref t), .val (.int (Int32.ofNat P1)), .val (.int (0 : Int32))] [(.int (1 : Int32))]))
      refine own_go (fun tgt kst => XS.iconst X0.here hx rfl (hb hby d6_35) kst) ?_
      show OwnWk _ _ _ _ (s₁.setTop (mkF m 36 #[.val (.ref t), .val (.int (Int32.ofNat P1)), .val (.int (0 : Int32))] [(.int (2 : Int32)), (.int (1 : Int32))]))
      refine own_go (fun tgt kst => XS.icmpYes X0.here hx rfl (pc0 := 36) (pc' := 49) rfl (hb hby d6_36) rfl (flt (by decide : ¬ ((2 : Int32) < (1 : Int32)))).2.2.2 (by decide) (by decide) kst) ?_
      show OwnWk _ _ _ _ (s₁.setTop (mkF m 49 #[.val (.ref t), .val (.int (Int32.ofNat P1)), .val (.int (0 : Int32))] []))
      refine own_go (fun tgt kst => XS.iloadN X0.here hx rfl (hb hby d6_49) rfl  kst) ?_
      show OwnWk _ _ _ _ (s₁.setTop (mkF m 50 #[.val (.ref t), .val (.int (Int32.ofNat P1)), .val (.int (0 : Int32))] [(.int (0 : Int32))]))
      exact own_retI X0 hx hlk hret (hb hby d6_50) (by decide) (by decide) (by rw [e0]; exact ⟨by simp only [own_cnt, if_neg hc1] <;> rfl, N0, rfl⟩)
  ·
    show OwnWk _ _ _ _ (s₁.setTop (mkF m 0 #[.val (.ref t), .val (.int (Int32.ofNat P1)), .unset] []))
    refine own_go (fun tgt kst => XS.iconst X0.here hx rfl (hb hby d6_0) kst) ?_
    show OwnWk _ _ _ _ (s₁.setTop (mkF m 1 #[.val (.ref t), .val (.int (Int32.ofNat P1)), .unset] [(.int (0 : Int32))]))
    refine own_go (fun tgt kst => XS.istoreN X0.here hx rfl (hb hby d6_1) rfl (l' := #[.val (.ref t), .val (.int (Int32.ofNat P1)), .val (.int (0 : Int32))]) rfl kst) ?_
    show OwnWk _ _ _ _ (s₁.setTop (mkF m 2 #[.val (.ref t), .val (.int (Int32.ofNat P1)), .val (.int (0 : Int32))] []))
    refine own_go (fun tgt kst => XS.aloadN X0.here hx rfl (hb hby d6_2) rfl rfl  kst) ?_
    show OwnWk _ _ _ _ (s₁.setTop (mkF m 3 #[.val (.ref t), .val (.int (Int32.ofNat P1)), .val (.int (0 : Int32))] [(.ref t)]))
    refine own_len X0 hx hZ e0 V_t (g := (mkF m 3 #[.val (.ref t), .val (.int (Int32.ofNat P1)), .val (.int (0 : Int32))] [(.ref t)])) rfl rfl (hb hby d6_3) (N := (2 : Int32)) rfl ?_
    show OwnWk _ _ _ _ (s₁.setTop (mkF m 4 #[.val (.ref t), .val (.int (Int32.ofNat P1)), .val (.int (0 : Int32))] [(.int (2 : Int32))]))
    refine own_go (fun tgt kst => XS.ifNo X0.here hx rfl (hb hby d6_4) rfl ((if0 _ _).trans (tlt (by decide : (0 : Int32) < (2 : Int32))).2.2.2) kst) ?_
    show OwnWk _ _ _ _ (s₁.setTop (mkF m 7 #[.val (.ref t), .val (.int (Int32.ofNat P1)), .val (.int (0 : Int32))] []))
    refine own_go (fun tgt kst => XS.aloadN X0.here hx rfl (hb hby d6_7) rfl rfl  kst) ?_
    show OwnWk _ _ _ _ (s₁.setTop (mkF m 8 #[.val (.ref t), .val (.int (Int32.ofNat P1)), .val (.int (0 : Int32))] [(.ref t)]))
    refine own_go (fun tgt kst => XS.iconst X0.here hx rfl (hb hby d6_8) kst) ?_
    show OwnWk _ _ _ _ (s₁.setTop (mkF m 9 #[.val (.ref t), .val (.int (Int32.ofNat P1)), .val (.int (0 : Int32))] [(.int (0 : Int32)), (.ref t)]))
    refine own_ldI X0 hx hZ e0 V_t (g := (mkF m 9 #[.val (.ref t), .val (.int (Int32.ofNat P1)), .val (.int (0 : Int32))] [(.int (0 : Int32)), (.ref t)])) rfl rfl (hb hby d6_9) (v := (.int (Int32.ofNat q0))) (by decide) rfl ?_
    show OwnWk _ _ _ _ (s₁.setTop (mkF m 10 #[.val (.ref t), .val (.int (Int32.ofNat P1)), .val (.int (0 : Int32))] [(.int (Int32.ofNat q0))]))
    refine own_go (fun tgt kst => XS.iloadN X0.here hx rfl (hb hby d6_10) rfl  kst) ?_
    show OwnWk _ _ _ _ (s₁.setTop (mkF m 11 #[.val (.ref t), .val (.int (Int32.ofNat P1)), .val (.int (0 : Int32))] [(.int (Int32.ofNat P1)), (.int (Int32.ofNat q0))]))
    by_cases hc2 : (Int32.ofNat q0) = (Int32.ofNat P1)
    ·
      refine own_go (fun tgt kst => XS.icmpNo X0.here hx rfl (hb hby d6_11) rfl (teq hc2).2 kst) ?_
      show OwnWk _ _ _ _ (s₁.setTop (mkF m 14 #[.val (.ref t), .val (.int (Int32.ofNat P1)), .val (.int (0 : Int32))] []))
      refine own_go (fun tgt kst => XS.iinc X0.here hx rfl (hb hby d6_14) rfl (l' := #[.val (.ref t), .val (.int (Int32.ofNat P1)), .val (.int (1 : Int32))]) rfl kst) ?_
      show OwnWk _ _ _ _ (s₁.setTop (mkF m 17 #[.val (.ref t), .val (.int (Int32.ofNat P1)), .val (.int (1 : Int32))] []))
      refine own_go (fun tgt kst => XS.aloadN X0.here hx rfl (hb hby d6_17) rfl rfl  kst) ?_
      show OwnWk _ _ _ _ (s₁.setTop (mkF m 18 #[.val (.ref t), .val (.int (Int32.ofNat P1)), .val (.int (1 : Int32))] [(.ref t)]))
      refine own_len X0 hx hZ e0 V_t (g := (mkF m 18 #[.val (.ref t), .val (.int (Int32.ofNat P1)), .val (.int (1 : Int32))] [(.ref t)])) rfl rfl (hb hby d6_18) (N := (2 : Int32)) rfl ?_
      show OwnWk _ _ _ _ (s₁.setTop (mkF m 19 #[.val (.ref t), .val (.int (Int32.ofNat P1)), .val (.int (1 : Int32))] [(.int (2 : Int32))]))
      refine own_go (fun tgt kst => XS.iconst X0.here hx rfl (hb hby d6_19) kst) ?_
      show OwnWk _ _ _ _ (s₁.setTop (mkF m 20 #[.val (.ref t), .val (.int (Int32.ofNat P1)), .val (.int (1 : Int32))] [(.int (1 : Int32)), (.int (2 : Int32))]))
      refine own_go (fun tgt kst => XS.icmpNo X0.here hx rfl (hb hby d6_20) rfl (tlt (by decide : (1 : Int32) < (2 : Int32))).2.2.2 kst) ?_
      show OwnWk _ _ _ _ (s₁.setTop (mkF m 23 #[.val (.ref t), .val (.int (Int32.ofNat P1)), .val (.int (1 : Int32))] []))
      refine own_go (fun tgt kst => XS.aloadN X0.here hx rfl (hb hby d6_23) rfl rfl  kst) ?_
      show OwnWk _ _ _ _ (s₁.setTop (mkF m 24 #[.val (.ref t), .val (.int (Int32.ofNat P1)), .val (.int (1 : Int32))] [(.ref t)]))
      refine own_go (fun tgt kst => XS.iconst X0.here hx rfl (hb hby d6_24) kst) ?_
      show OwnWk _ _ _ _ (s₁.setTop (mkF m 25 #[.val (.ref t), .val (.int (Int32.ofNat P1)), .val (.int (1 : Int32))] [(.int (1 : Int32)), (.ref t)]))
      refine own_ldI X0 hx hZ e0 V_t (g := (mkF m 25 #[.val (.ref t), .val (.int (Int32.ofNat P1)), .val (.int (1 : Int32))] [(.int (1 : Int32)), (.ref t)])) rfl rfl (hb hby d6_25) (v := (.int (Int32.ofNat q1))) (by decide) rfl ?_
      show OwnWk _ _ _ _ (s₁.setTop (mkF m 26 #[.val (.ref t), .val (.int (Int32.ofNat P1)), .val (.int (1 : Int32))] [(.int (Int32.ofNat q1))]))
      refine own_go (fun tgt kst => XS.iloadN X0.here hx rfl (hb hby d6_26) rfl  kst) ?_
      show OwnWk _ _ _ _ (s₁.setTop (mkF m 27 #[.val (.ref t), .val (.int (Int32.ofNat P1)), .val (.int (1 : Int32))] [(.int (Int32.ofNat P1)), (.int (Int32.ofNat q1))]))
      by_cases hc3 : (Int32.ofNat q1) = (Int32.ofNat P1)
      ·
        refine own_go (fun tgt kst => XS.icmpNo X0.here hx rfl (hb hby d6_27) rfl (teq hc3).2 kst) ?_
        show OwnWk _ _ _ _ (s₁.setTop (mkF m 30 #[.val (.ref t), .val (.int (Int32.ofNat P1)), .val (.int (1 : Int32))] []))
        refine own_go (fun tgt kst => XS.iinc X0.here hx rfl (hb hby d6_30) rfl (l' := #[.val (.ref t), .val (.int (Int32.ofNat P1)), .val (.int (2 : Int32))]) rfl kst) ?_
        show OwnWk _ _ _ _ (s₁.setTop (mkF m 33 #[.val (.ref t), .val (.int (Int32.ofNat P1)), .val (.int (2 : Int32))] []))
        refine own_go (fun tgt kst => XS.aloadN X0.here hx rfl (hb hby d6_33) rfl rfl  kst) ?_
        show OwnWk _ _ _ _ (s₁.setTop (mkF m 34 #[.val (.ref t), .val (.int (Int32.ofNat P1)), .val (.int (2 : Int32))] [(.ref t)]))
        refine own_len X0 hx hZ e0 V_t (g := (mkF m 34 #[.val (.ref t), .val (.int (Int32.ofNat P1)), .val (.int (2 : Int32))] [(.ref t)])) rfl rfl (hb hby d6_34) (N := (2 : Int32)) rfl ?_
        show OwnWk _ _ _ _ (s₁.setTop (mkF m 35 #[.val (.ref t), .val (.int (Int32.ofNat P1)), .val (.int (2 : Int32))] [(.int (2 : Int32))]))
        refine own_go (fun tgt kst => XS.iconst X0.here hx rfl (hb hby d6_35) kst) ?_
        show OwnWk _ _ _ _ (s₁.setTop (mkF m 36 #[.val (.ref t), .val (.int (Int32.ofNat P1)), .val (.int (2 : Int32))] [(.int (2 : Int32)), (.int (2 : Int32))]))
        refine own_go (fun tgt kst => XS.icmpYes X0.here hx rfl (pc0 := 36) (pc' := 49) rfl (hb hby d6_36) rfl (flt (by decide : ¬ ((2 : Int32) < (2 : Int32)))).2.2.2 (by decide) (by decide) kst) ?_
        show OwnWk _ _ _ _ (s₁.setTop (mkF m 49 #[.val (.ref t), .val (.int (Int32.ofNat P1)), .val (.int (2 : Int32))] []))
        refine own_go (fun tgt kst => XS.iloadN X0.here hx rfl (hb hby d6_49) rfl  kst) ?_
        show OwnWk _ _ _ _ (s₁.setTop (mkF m 50 #[.val (.ref t), .val (.int (Int32.ofNat P1)), .val (.int (2 : Int32))] [(.int (2 : Int32))]))
        exact own_retI X0 hx hlk hret (hb hby d6_50) (by decide) (by decide) (by rw [e0]; exact ⟨by simp only [own_cnt, if_pos hc2, if_pos hc3] <;> rfl, N0, rfl⟩)
      ·
        refine own_go (fun tgt kst => XS.icmpYes X0.here hx rfl (pc0 := 27) (pc' := 33) rfl (hb hby d6_27) rfl (feq hc3).2 (by decide) (by decide) kst) ?_
        show OwnWk _ _ _ _ (s₁.setTop (mkF m 33 #[.val (.ref t), .val (.int (Int32.ofNat P1)), .val (.int (1 : Int32))] []))
        refine own_go (fun tgt kst => XS.aloadN X0.here hx rfl (hb hby d6_33) rfl rfl  kst) ?_
        show OwnWk _ _ _ _ (s₁.setTop (mkF m 34 #[.val (.ref t), .val (.int (Int32.ofNat P1)), .val (.int (1 : Int32))] [(.ref t)]))
        refine own_len X0 hx hZ e0 V_t (g := (mkF m 34 #[.val (.ref t), .val (.int (Int32.ofNat P1)), .val (.int (1 : Int32))] [(.ref t)])) rfl rfl (hb hby d6_34) (N := (2 : Int32)) rfl ?_
        show OwnWk _ _ _ _ (s₁.setTop (mkF m 35 #[.val (.ref t), .val (.int (Int32.ofNat P1)), .val (.int (1 : Int32))] [(.int (2 : Int32))]))
        refine own_go (fun tgt kst => XS.iconst X0.here hx rfl (hb hby d6_35) kst) ?_
        show OwnWk _ _ _ _ (s₁.setTop (mkF m 36 #[.val (.ref t), .val (.int (Int32.ofNat P1)), .val (.int (1 : Int32))] [(.int (2 : Int32)), (.int (2 : Int32))]))
        refine own_go (fun tgt kst => XS.icmpYes X0.here hx rfl (pc0 := 36) (pc' := 49) rfl (hb hby d6_36) rfl (flt (by decide : ¬ ((2 : Int32) < (2 : Int32)))).2.2.2 (by decide) (by decide) kst) ?_
        show OwnWk _ _ _ _ (s₁.setTop (mkF m 49 #[.val (.ref t), .val (.int (Int32.ofNat P1)), .val (.int (1 : Int32))] []))
        refine own_go (fun tgt kst => XS.iloadN X0.here hx rfl (hb hby d6_49) rfl  kst) ?_
        show OwnWk _ _ _ _ (s₁.setTop (mkF m 50 #[.val (.ref t), .val (.int (Int32.ofNat P1)), .val (.int (1 : Int32))] [(.int (1 : Int32))]))
        exact own_retI X0 hx hlk hret (hb hby d6_50) (by decide) (by decide) (by rw [e0]; exact ⟨by simp only [own_cnt, if_pos hc2, if_neg hc3] <;> rfl, N0, rfl⟩)
    ·
      refine own_go (fun tgt kst => XS.icmpYes X0.here hx rfl (pc0 := 11) (pc' := 17) rfl (hb hby d6_11) rfl (feq hc2).2 (by decide) (by decide) kst) ?_
      show OwnWk _ _ _ _ (s₁.setTop (mkF m 17 #[.val (.ref t), .val (.int (Int32.ofNat P1)), .val (.int (0 : Int32))] []))
      refine own_go (fun tgt kst => XS.aloadN X0.here hx rfl (hb hby d6_17) rfl rfl  kst) ?_
      show OwnWk _ _ _ _ (s₁.setTop (mkF m 18 #[.val (.ref t), .val (.int (Int32.ofNat P1)), .val (.int (0 : Int32))] [(.ref t)]))
      refine own_len X0 hx hZ e0 V_t (g := (mkF m 18 #[.val (.ref t), .val (.int (Int32.ofNat P1)), .val (.int (0 : Int32))] [(.ref t)])) rfl rfl (hb hby d6_18) (N := (2 : Int32)) rfl ?_
      show OwnWk _ _ _ _ (s₁.setTop (mkF m 19 #[.val (.ref t), .val (.int (Int32.ofNat P1)), .val (.int (0 : Int32))] [(.int (2 : Int32))]))
      refine own_go (fun tgt kst => XS.iconst X0.here hx rfl (hb hby d6_19) kst) ?_
      show OwnWk _ _ _ _ (s₁.setTop (mkF m 20 #[.val (.ref t), .val (.int (Int32.ofNat P1)), .val (.int (0 : Int32))] [(.int (1 : Int32)), (.int (2 : Int32))]))
      refine own_go (fun tgt kst => XS.icmpNo X0.here hx rfl (hb hby d6_20) rfl (tlt (by decide : (1 : Int32) < (2 : Int32))).2.2.2 kst) ?_
      show OwnWk _ _ _ _ (s₁.setTop (mkF m 23 #[.val (.ref t), .val (.int (Int32.ofNat P1)), .val (.int (0 : Int32))] []))
      refine own_go (fun tgt kst => XS.aloadN X0.here hx rfl (hb hby d6_23) rfl rfl  kst) ?_
      show OwnWk _ _ _ _ (s₁.setTop (mkF m 24 #[.val (.ref t), .val (.int (Int32.ofNat P1)), .val (.int (0 : Int32))] [(.ref t)]))
      refine own_go (fun tgt kst => XS.iconst X0.here hx rfl (hb hby d6_24) kst) ?_
      show OwnWk _ _ _ _ (s₁.setTop (mkF m 25 #[.val (.ref t), .val (.int (Int32.ofNat P1)), .val (.int (0 : Int32))] [(.int (1 : Int32)), (.ref t)]))
      refine own_ldI X0 hx hZ e0 V_t (g := (mkF m 25 #[.val (.ref t), .val (.int (Int32.ofNat P1)), .val (.int (0 : Int32))] [(.int (1 : Int32)), (.ref t)])) rfl rfl (hb hby d6_25) (v := (.int (Int32.ofNat q1))) (by decide) rfl ?_
      show OwnWk _ _ _ _ (s₁.setTop (mkF m 26 #[.val (.ref t), .val (.int (Int32.ofNat P1)), .val (.int (0 : Int32))] [(.int (Int32.ofNat q1))]))
      refine own_go (fun tgt kst => XS.iloadN X0.here hx rfl (hb hby d6_26) rfl  kst) ?_
      show OwnWk _ _ _ _ (s₁.setTop (mkF m 27 #[.val (.ref t), .val (.int (Int32.ofNat P1)), .val (.int (0 : Int32))] [(.int (Int32.ofNat P1)), (.int (Int32.ofNat q1))]))
      by_cases hc4 : (Int32.ofNat q1) = (Int32.ofNat P1)
      ·
        refine own_go (fun tgt kst => XS.icmpNo X0.here hx rfl (hb hby d6_27) rfl (teq hc4).2 kst) ?_
        show OwnWk _ _ _ _ (s₁.setTop (mkF m 30 #[.val (.ref t), .val (.int (Int32.ofNat P1)), .val (.int (0 : Int32))] []))
        refine own_go (fun tgt kst => XS.iinc X0.here hx rfl (hb hby d6_30) rfl (l' := #[.val (.ref t), .val (.int (Int32.ofNat P1)), .val (.int (1 : Int32))]) rfl kst) ?_
        show OwnWk _ _ _ _ (s₁.setTop (mkF m 33 #[.val (.ref t), .val (.int (Int32.ofNat P1)), .val (.int (1 : Int32))] []))
        refine own_go (fun tgt kst => XS.aloadN X0.here hx rfl (hb hby d6_33) rfl rfl  kst) ?_
        show OwnWk _ _ _ _ (s₁.setTop (mkF m 34 #[.val (.ref t), .val (.int (Int32.ofNat P1)), .val (.int (1 : Int32))] [(.ref t)]))
        refine own_len X0 hx hZ e0 V_t (g := (mkF m 34 #[.val (.ref t), .val (.int (Int32.ofNat P1)), .val (.int (1 : Int32))] [(.ref t)])) rfl rfl (hb hby d6_34) (N := (2 : Int32)) rfl ?_
        show OwnWk _ _ _ _ (s₁.setTop (mkF m 35 #[.val (.ref t), .val (.int (Int32.ofNat P1)), .val (.int (1 : Int32))] [(.int (2 : Int32))]))
        refine own_go (fun tgt kst => XS.iconst X0.here hx rfl (hb hby d6_35) kst) ?_
        show OwnWk _ _ _ _ (s₁.setTop (mkF m 36 #[.val (.ref t), .val (.int (Int32.ofNat P1)), .val (.int (1 : Int32))] [(.int (2 : Int32)), (.int (2 : Int32))]))
        refine own_go (fun tgt kst => XS.icmpYes X0.here hx rfl (pc0 := 36) (pc' := 49) rfl (hb hby d6_36) rfl (flt (by decide : ¬ ((2 : Int32) < (2 : Int32)))).2.2.2 (by decide) (by decide) kst) ?_
        show OwnWk _ _ _ _ (s₁.setTop (mkF m 49 #[.val (.ref t), .val (.int (Int32.ofNat P1)), .val (.int (1 : Int32))] []))
        refine own_go (fun tgt kst => XS.iloadN X0.here hx rfl (hb hby d6_49) rfl  kst) ?_
        show OwnWk _ _ _ _ (s₁.setTop (mkF m 50 #[.val (.ref t), .val (.int (Int32.ofNat P1)), .val (.int (1 : Int32))] [(.int (1 : Int32))]))
        exact own_retI X0 hx hlk hret (hb hby d6_50) (by decide) (by decide) (by rw [e0]; exact ⟨by simp only [own_cnt, if_neg hc2, if_pos hc4] <;> rfl, N0, rfl⟩)
      ·
        refine own_go (fun tgt kst => XS.icmpYes X0.here hx rfl (pc0 := 27) (pc' := 33) rfl (hb hby d6_27) rfl (feq hc4).2 (by decide) (by decide) kst) ?_
        show OwnWk _ _ _ _ (s₁.setTop (mkF m 33 #[.val (.ref t), .val (.int (Int32.ofNat P1)), .val (.int (0 : Int32))] []))
        refine own_go (fun tgt kst => XS.aloadN X0.here hx rfl (hb hby d6_33) rfl rfl  kst) ?_
        show OwnWk _ _ _ _ (s₁.setTop (mkF m 34 #[.val (.ref t), .val (.int (Int32.ofNat P1)), .val (.int (0 : Int32))] [(.ref t)]))
        refine own_len X0 hx hZ e0 V_t (g := (mkF m 34 #[.val (.ref t), .val (.int (Int32.ofNat P1)), .val (.int (0 : Int32))] [(.ref t)])) rfl rfl (hb hby d6_34) (N := (2 : Int32)) rfl ?_
        show OwnWk _ _ _ _ (s₁.setTop (mkF m 35 #[.val (.ref t), .val (.int (Int32.ofNat P1)), .val (.int (0 : Int32))] [(.int (2 : Int32))]))
        refine own_go (fun tgt kst => XS.iconst X0.here hx rfl (hb hby d6_35) kst) ?_
        show OwnWk _ _ _ _ (s₁.setTop (mkF m 36 #[.val (.ref t), .val (.int (Int32.ofNat P1)), .val (.int (0 : Int32))] [(.int (2 : Int32)), (.int (2 : Int32))]))
        refine own_go (fun tgt kst => XS.icmpYes X0.here hx rfl (pc0 := 36) (pc' := 49) rfl (hb hby d6_36) rfl (flt (by decide : ¬ ((2 : Int32) < (2 : Int32)))).2.2.2 (by decide) (by decide) kst) ?_
        show OwnWk _ _ _ _ (s₁.setTop (mkF m 49 #[.val (.ref t), .val (.int (Int32.ofNat P1)), .val (.int (0 : Int32))] []))
        refine own_go (fun tgt kst => XS.iloadN X0.here hx rfl (hb hby d6_49) rfl  kst) ?_
        show OwnWk _ _ _ _ (s₁.setTop (mkF m 50 #[.val (.ref t), .val (.int (Int32.ofNat P1)), .val (.int (0 : Int32))] [(.int (0 : Int32))]))
        exact own_retI X0 hx hlk hret (hb hby d6_50) (by decide) (by decide) (by rw [e0]; exact ⟨by simp only [own_cnt, if_neg hc2, if_neg hc4] <;> rfl, N0, rfl⟩)
  ·
    show OwnWk _ _ _ _ (s₁.setTop (mkF m 0 #[.val (.ref t), .val (.int (Int32.ofNat P1)), .unset] []))
    refine own_go (fun tgt kst => XS.iconst X0.here hx rfl (hb hby d6_0) kst) ?_
    show OwnWk _ _ _ _ (s₁.setTop (mkF m 1 #[.val (.ref t), .val (.int (Int32.ofNat P1)), .unset] [(.int (0 : Int32))]))
    refine own_go (fun tgt kst => XS.istoreN X0.here hx rfl (hb hby d6_1) rfl (l' := #[.val (.ref t), .val (.int (Int32.ofNat P1)), .val (.int (0 : Int32))]) rfl kst) ?_
    show OwnWk _ _ _ _ (s₁.setTop (mkF m 2 #[.val (.ref t), .val (.int (Int32.ofNat P1)), .val (.int (0 : Int32))] []))
    refine own_go (fun tgt kst => XS.aloadN X0.here hx rfl (hb hby d6_2) rfl rfl  kst) ?_
    show OwnWk _ _ _ _ (s₁.setTop (mkF m 3 #[.val (.ref t), .val (.int (Int32.ofNat P1)), .val (.int (0 : Int32))] [(.ref t)]))
    refine own_len X0 hx hZ e0 V_t (g := (mkF m 3 #[.val (.ref t), .val (.int (Int32.ofNat P1)), .val (.int (0 : Int32))] [(.ref t)])) rfl rfl (hb hby d6_3) (N := (3 : Int32)) rfl ?_
    show OwnWk _ _ _ _ (s₁.setTop (mkF m 4 #[.val (.ref t), .val (.int (Int32.ofNat P1)), .val (.int (0 : Int32))] [(.int (3 : Int32))]))
    refine own_go (fun tgt kst => XS.ifNo X0.here hx rfl (hb hby d6_4) rfl ((if0 _ _).trans (tlt (by decide : (0 : Int32) < (3 : Int32))).2.2.2) kst) ?_
    show OwnWk _ _ _ _ (s₁.setTop (mkF m 7 #[.val (.ref t), .val (.int (Int32.ofNat P1)), .val (.int (0 : Int32))] []))
    refine own_go (fun tgt kst => XS.aloadN X0.here hx rfl (hb hby d6_7) rfl rfl  kst) ?_
    show OwnWk _ _ _ _ (s₁.setTop (mkF m 8 #[.val (.ref t), .val (.int (Int32.ofNat P1)), .val (.int (0 : Int32))] [(.ref t)]))
    refine own_go (fun tgt kst => XS.iconst X0.here hx rfl (hb hby d6_8) kst) ?_
    show OwnWk _ _ _ _ (s₁.setTop (mkF m 9 #[.val (.ref t), .val (.int (Int32.ofNat P1)), .val (.int (0 : Int32))] [(.int (0 : Int32)), (.ref t)]))
    refine own_ldI X0 hx hZ e0 V_t (g := (mkF m 9 #[.val (.ref t), .val (.int (Int32.ofNat P1)), .val (.int (0 : Int32))] [(.int (0 : Int32)), (.ref t)])) rfl rfl (hb hby d6_9) (v := (.int (Int32.ofNat q0))) (by decide) rfl ?_
    show OwnWk _ _ _ _ (s₁.setTop (mkF m 10 #[.val (.ref t), .val (.int (Int32.ofNat P1)), .val (.int (0 : Int32))] [(.int (Int32.ofNat q0))]))
    refine own_go (fun tgt kst => XS.iloadN X0.here hx rfl (hb hby d6_10) rfl  kst) ?_
    show OwnWk _ _ _ _ (s₁.setTop (mkF m 11 #[.val (.ref t), .val (.int (Int32.ofNat P1)), .val (.int (0 : Int32))] [(.int (Int32.ofNat P1)), (.int (Int32.ofNat q0))]))
    by_cases hc5 : (Int32.ofNat q0) = (Int32.ofNat P1)
    ·
      refine own_go (fun tgt kst => XS.icmpNo X0.here hx rfl (hb hby d6_11) rfl (teq hc5).2 kst) ?_
      show OwnWk _ _ _ _ (s₁.setTop (mkF m 14 #[.val (.ref t), .val (.int (Int32.ofNat P1)), .val (.int (0 : Int32))] []))
      refine own_go (fun tgt kst => XS.iinc X0.here hx rfl (hb hby d6_14) rfl (l' := #[.val (.ref t), .val (.int (Int32.ofNat P1)), .val (.int (1 : Int32))]) rfl kst) ?_
      show OwnWk _ _ _ _ (s₁.setTop (mkF m 17 #[.val (.ref t), .val (.int (Int32.ofNat P1)), .val (.int (1 : Int32))] []))
      refine own_go (fun tgt kst => XS.aloadN X0.here hx rfl (hb hby d6_17) rfl rfl  kst) ?_
      show OwnWk _ _ _ _ (s₁.setTop (mkF m 18 #[.val (.ref t), .val (.int (Int32.ofNat P1)), .val (.int (1 : Int32))] [(.ref t)]))
      refine own_len X0 hx hZ e0 V_t (g := (mkF m 18 #[.val (.ref t), .val (.int (Int32.ofNat P1)), .val (.int (1 : Int32))] [(.ref t)])) rfl rfl (hb hby d6_18) (N := (3 : Int32)) rfl ?_
      show OwnWk _ _ _ _ (s₁.setTop (mkF m 19 #[.val (.ref t), .val (.int (Int32.ofNat P1)), .val (.int (1 : Int32))] [(.int (3 : Int32))]))
      refine own_go (fun tgt kst => XS.iconst X0.here hx rfl (hb hby d6_19) kst) ?_
      show OwnWk _ _ _ _ (s₁.setTop (mkF m 20 #[.val (.ref t), .val (.int (Int32.ofNat P1)), .val (.int (1 : Int32))] [(.int (1 : Int32)), (.int (3 : Int32))]))
      refine own_go (fun tgt kst => XS.icmpNo X0.here hx rfl (hb hby d6_20) rfl (tlt (by decide : (1 : Int32) < (3 : Int32))).2.2.2 kst) ?_
      show OwnWk _ _ _ _ (s₁.setTop (mkF m 23 #[.val (.ref t), .val (.int (Int32.ofNat P1)), .val (.int (1 : Int32))] []))
      refine own_go (fun tgt kst => XS.aloadN X0.here hx rfl (hb hby d6_23) rfl rfl  kst) ?_
      show OwnWk _ _ _ _ (s₁.setTop (mkF m 24 #[.val (.ref t), .val (.int (Int32.ofNat P1)), .val (.int (1 : Int32))] [(.ref t)]))
      refine own_go (fun tgt kst => XS.iconst X0.here hx rfl (hb hby d6_24) kst) ?_
      show OwnWk _ _ _ _ (s₁.setTop (mkF m 25 #[.val (.ref t), .val (.int (Int32.ofNat P1)), .val (.int (1 : Int32))] [(.int (1 : Int32)), (.ref t)]))
      refine own_ldI X0 hx hZ e0 V_t (g := (mkF m 25 #[.val (.ref t), .val (.int (Int32.ofNat P1)), .val (.int (1 : Int32))] [(.int (1 : Int32)), (.ref t)])) rfl rfl (hb hby d6_25) (v := (.int (Int32.ofNat q1))) (by decide) rfl ?_
      show OwnWk _ _ _ _ (s₁.setTop (mkF m 26 #[.val (.ref t), .val (.int (Int32.ofNat P1)), .val (.int (1 : Int32))] [(.int (Int32.ofNat q1))]))
      refine own_go (fun tgt kst => XS.iloadN X0.here hx rfl (hb hby d6_26) rfl  kst) ?_
      show OwnWk _ _ _ _ (s₁.setTop (mkF m 27 #[.val (.ref t), .val (.int (Int32.ofNat P1)), .val (.int (1 : Int32))] [(.int (Int32.ofNat P1)), (.int (Int32.ofNat q1))]))
      by_cases hc6 : (Int32.ofNat q1) = (Int32.ofNat P1)
      ·
        refine own_go (fun tgt kst => XS.icmpNo X0.here hx rfl (hb hby d6_27) rfl (teq hc6).2 kst) ?_
        show OwnWk _ _ _ _ (s₁.setTop (mkF m 30 #[.val (.ref t), .val (.int (Int32.ofNat P1)), .val (.int (1 : Int32))] []))
        refine own_go (fun tgt kst => XS.iinc X0.here hx rfl (hb hby d6_30) rfl (l' := #[.val (.ref t), .val (.int (Int32.ofNat P1)), .val (.int (2 : Int32))]) rfl kst) ?_
        show OwnWk _ _ _ _ (s₁.setTop (mkF m 33 #[.val (.ref t), .val (.int (Int32.ofNat P1)), .val (.int (2 : Int32))] []))
        refine own_go (fun tgt kst => XS.aloadN X0.here hx rfl (hb hby d6_33) rfl rfl  kst) ?_
        show OwnWk _ _ _ _ (s₁.setTop (mkF m 34 #[.val (.ref t), .val (.int (Int32.ofNat P1)), .val (.int (2 : Int32))] [(.ref t)]))
        refine own_len X0 hx hZ e0 V_t (g := (mkF m 34 #[.val (.ref t), .val (.int (Int32.ofNat P1)), .val (.int (2 : Int32))] [(.ref t)])) rfl rfl (hb hby d6_34) (N := (3 : Int32)) rfl ?_
        show OwnWk _ _ _ _ (s₁.setTop (mkF m 35 #[.val (.ref t), .val (.int (Int32.ofNat P1)), .val (.int (2 : Int32))] [(.int (3 : Int32))]))
        refine own_go (fun tgt kst => XS.iconst X0.here hx rfl (hb hby d6_35) kst) ?_
        show OwnWk _ _ _ _ (s₁.setTop (mkF m 36 #[.val (.ref t), .val (.int (Int32.ofNat P1)), .val (.int (2 : Int32))] [(.int (2 : Int32)), (.int (3 : Int32))]))
        refine own_go (fun tgt kst => XS.icmpNo X0.here hx rfl (hb hby d6_36) rfl (tlt (by decide : (2 : Int32) < (3 : Int32))).2.2.2 kst) ?_
        show OwnWk _ _ _ _ (s₁.setTop (mkF m 39 #[.val (.ref t), .val (.int (Int32.ofNat P1)), .val (.int (2 : Int32))] []))
        refine own_go (fun tgt kst => XS.aloadN X0.here hx rfl (hb hby d6_39) rfl rfl  kst) ?_
        show OwnWk _ _ _ _ (s₁.setTop (mkF m 40 #[.val (.ref t), .val (.int (Int32.ofNat P1)), .val (.int (2 : Int32))] [(.ref t)]))
        refine own_go (fun tgt kst => XS.iconst X0.here hx rfl (hb hby d6_40) kst) ?_
        show OwnWk _ _ _ _ (s₁.setTop (mkF m 41 #[.val (.ref t), .val (.int (Int32.ofNat P1)), .val (.int (2 : Int32))] [(.int (2 : Int32)), (.ref t)]))
        refine own_ldI X0 hx hZ e0 V_t (g := (mkF m 41 #[.val (.ref t), .val (.int (Int32.ofNat P1)), .val (.int (2 : Int32))] [(.int (2 : Int32)), (.ref t)])) rfl rfl (hb hby d6_41) (v := (.int (Int32.ofNat q2))) (by decide) rfl ?_
        show OwnWk _ _ _ _ (s₁.setTop (mkF m 42 #[.val (.ref t), .val (.int (Int32.ofNat P1)), .val (.int (2 : Int32))] [(.int (Int32.ofNat q2))]))
        refine own_go (fun tgt kst => XS.iloadN X0.here hx rfl (hb hby d6_42) rfl  kst) ?_
        show OwnWk _ _ _ _ (s₁.setTop (mkF m 43 #[.val (.ref t), .val (.int (Int32.ofNat P1)), .val (.int (2 : Int32))] [(.int (Int32.ofNat P1)), (.int (Int32.ofNat q2))]))
        by_cases hc7 : (Int32.ofNat q2) = (Int32.ofNat P1)
        ·
          refine own_go (fun tgt kst => XS.icmpNo X0.here hx rfl (hb hby d6_43) rfl (teq hc7).2 kst) ?_
          show OwnWk _ _ _ _ (s₁.setTop (mkF m 46 #[.val (.ref t), .val (.int (Int32.ofNat P1)), .val (.int (2 : Int32))] []))
          refine own_go (fun tgt kst => XS.iinc X0.here hx rfl (hb hby d6_46) rfl (l' := #[.val (.ref t), .val (.int (Int32.ofNat P1)), .val (.int (3 : Int32))]) rfl kst) ?_
          show OwnWk _ _ _ _ (s₁.setTop (mkF m 49 #[.val (.ref t), .val (.int (Int32.ofNat P1)), .val (.int (3 : Int32))] []))
          refine own_go (fun tgt kst => XS.iloadN X0.here hx rfl (hb hby d6_49) rfl  kst) ?_
          show OwnWk _ _ _ _ (s₁.setTop (mkF m 50 #[.val (.ref t), .val (.int (Int32.ofNat P1)), .val (.int (3 : Int32))] [(.int (3 : Int32))]))
          exact own_retI X0 hx hlk hret (hb hby d6_50) (by decide) (by decide) (by rw [e0]; exact ⟨by simp only [own_cnt, if_pos hc5, if_pos hc6, if_pos hc7] <;> rfl, N0, rfl⟩)
        ·
          refine own_go (fun tgt kst => XS.icmpYes X0.here hx rfl (pc0 := 43) (pc' := 49) rfl (hb hby d6_43) rfl (feq hc7).2 (by decide) (by decide) kst) ?_
          show OwnWk _ _ _ _ (s₁.setTop (mkF m 49 #[.val (.ref t), .val (.int (Int32.ofNat P1)), .val (.int (2 : Int32))] []))
          refine own_go (fun tgt kst => XS.iloadN X0.here hx rfl (hb hby d6_49) rfl  kst) ?_
          show OwnWk _ _ _ _ (s₁.setTop (mkF m 50 #[.val (.ref t), .val (.int (Int32.ofNat P1)), .val (.int (2 : Int32))] [(.int (2 : Int32))]))
          exact own_retI X0 hx hlk hret (hb hby d6_50) (by decide) (by decide) (by rw [e0]; exact ⟨by simp only [own_cnt, if_pos hc5, if_pos hc6, if_neg hc7] <;> rfl, N0, rfl⟩)
      ·
        refine own_go (fun tgt kst => XS.icmpYes X0.here hx rfl (pc0 := 27) (pc' := 33) rfl (hb hby d6_27) rfl (feq hc6).2 (by decide) (by decide) kst) ?_
        show OwnWk _ _ _ _ (s₁.setTop (mkF m 33 #[.val (.ref t), .val (.int (Int32.ofNat P1)), .val (.int (1 : Int32))] []))
        refine own_go (fun tgt kst => XS.aloadN X0.here hx rfl (hb hby d6_33) rfl rfl  kst) ?_
        show OwnWk _ _ _ _ (s₁.setTop (mkF m 34 #[.val (.ref t), .val (.int (Int32.ofNat P1)), .val (.int (1 : Int32))] [(.ref t)]))
        refine own_len X0 hx hZ e0 V_t (g := (mkF m 34 #[.val (.ref t), .val (.int (Int32.ofNat P1)), .val (.int (1 : Int32))] [(.ref t)])) rfl rfl (hb hby d6_34) (N := (3 : Int32)) rfl ?_
        show OwnWk _ _ _ _ (s₁.setTop (mkF m 35 #[.val (.ref t), .val (.int (Int32.ofNat P1)), .val (.int (1 : Int32))] [(.int (3 : Int32))]))
        refine own_go (fun tgt kst => XS.iconst X0.here hx rfl (hb hby d6_35) kst) ?_
        show OwnWk _ _ _ _ (s₁.setTop (mkF m 36 #[.val (.ref t), .val (.int (Int32.ofNat P1)), .val (.int (1 : Int32))] [(.int (2 : Int32)), (.int (3 : Int32))]))
        refine own_go (fun tgt kst => XS.icmpNo X0.here hx rfl (hb hby d6_36) rfl (tlt (by decide : (2 : Int32) < (3 : Int32))).2.2.2 kst) ?_
        show OwnWk _ _ _ _ (s₁.setTop (mkF m 39 #[.val (.ref t), .val (.int (Int32.ofNat P1)), .val (.int (1 : Int32))] []))
        refine own_go (fun tgt kst => XS.aloadN X0.here hx rfl (hb hby d6_39) rfl rfl  kst) ?_
        show OwnWk _ _ _ _ (s₁.setTop (mkF m 40 #[.val (.ref t), .val (.int (Int32.ofNat P1)), .val (.int (1 : Int32))] [(.ref t)]))
        refine own_go (fun tgt kst => XS.iconst X0.here hx rfl (hb hby d6_40) kst) ?_
        show OwnWk _ _ _ _ (s₁.setTop (mkF m 41 #[.val (.ref t), .val (.int (Int32.ofNat P1)), .val (.int (1 : Int32))] [(.int (2 : Int32)), (.ref t)]))
        refine own_ldI X0 hx hZ e0 V_t (g := (mkF m 41 #[.val (.ref t), .val (.int (Int32.ofNat P1)), .val (.int (1 : Int32))] [(.int (2 : Int32)), (.ref t)])) rfl rfl (hb hby d6_41) (v := (.int (Int32.ofNat q2))) (by decide) rfl ?_
        show OwnWk _ _ _ _ (s₁.setTop (mkF m 42 #[.val (.ref t), .val (.int (Int32.ofNat P1)), .val (.int (1 : Int32))] [(.int (Int32.ofNat q2))]))
        refine own_go (fun tgt kst => XS.iloadN X0.here hx rfl (hb hby d6_42) rfl  kst) ?_
        show OwnWk _ _ _ _ (s₁.setTop (mkF m 43 #[.val (.ref t), .val (.int (Int32.ofNat P1)), .val (.int (1 : Int32))] [(.int (Int32.ofNat P1)), (.int (Int32.ofNat q2))]))
        by_cases hc8 : (Int32.ofNat q2) = (Int32.ofNat P1)
        ·
          refine own_go (fun tgt kst => XS.icmpNo X0.here hx rfl (hb hby d6_43) rfl (teq hc8).2 kst) ?_
          show OwnWk _ _ _ _ (s₁.setTop (mkF m 46 #[.val (.ref t), .val (.int (Int32.ofNat P1)), .val (.int (1 : Int32))] []))
          refine own_go (fun tgt kst => XS.iinc X0.here hx rfl (hb hby d6_46) rfl (l' := #[.val (.ref t), .val (.int (Int32.ofNat P1)), .val (.int (2 : Int32))]) rfl kst) ?_
          show OwnWk _ _ _ _ (s₁.setTop (mkF m 49 #[.val (.ref t), .val (.int (Int32.ofNat P1)), .val (.int (2 : Int32))] []))
          refine own_go (fun tgt kst => XS.iloadN X0.here hx rfl (hb hby d6_49) rfl  kst) ?_
          show OwnWk _ _ _ _ (s₁.setTop (mkF m 50 #[.val (.ref t), .val (.int (Int32.ofNat P1)), .val (.int (2 : Int32))] [(.int (2 : Int32))]))
          exact own_retI X0 hx hlk hret (hb hby d6_50) (by decide) (by decide) (by rw [e0]; exact ⟨by simp only [own_cnt, if_pos hc5, if_neg hc6, if_pos hc8] <;> rfl, N0, rfl⟩)
        ·
          refine own_go (fun tgt kst => XS.icmpYes X0.here hx rfl (pc0 := 43) (pc' := 49) rfl (hb hby d6_43) rfl (feq hc8).2 (by decide) (by decide) kst) ?_
          show OwnWk _ _ _ _ (s₁.setTop (mkF m 49 #[.val (.ref t), .val (.int (Int32.ofNat P1)), .val (.int (1 : Int32))] []))
          refine own_go (fun tgt kst => XS.iloadN X0.here hx rfl (hb hby d6_49) rfl  kst) ?_
          show OwnWk _ _ _ _ (s₁.setTop (mkF m 50 #[.val (.ref t), .val (.int (Int32.ofNat P1)), .val (.int (1 : Int32))] [(.int (1 : Int32))]))
          exact own_retI X0 hx hlk hret (hb hby d6_50) (by decide) (by decide) (by rw [e0]; exact ⟨by simp only [own_cnt, if_pos hc5, if_neg hc6, if_neg hc8] <;> rfl, N0, rfl⟩)
    ·
      refine own_go (fun tgt kst => XS.icmpYes X0.here hx rfl (pc0 := 11) (pc' := 17) rfl (hb hby d6_11) rfl (feq hc5).2 (by decide) (by decide) kst) ?_
      show OwnWk _ _ _ _ (s₁.setTop (mkF m 17 #[.val (.ref t), .val (.int (Int32.ofNat P1)), .val (.int (0 : Int32))] []))
      refine own_go (fun tgt kst => XS.aloadN X0.here hx rfl (hb hby d6_17) rfl rfl  kst) ?_
      show OwnWk _ _ _ _ (s₁.setTop (mkF m 18 #[.val (.ref t), .val (.int (Int32.ofNat P1)), .val (.int (0 : Int32))] [(.ref t)]))
      refine own_len X0 hx hZ e0 V_t (g := (mkF m 18 #[.val (.ref t), .val (.int (Int32.ofNat P1)), .val (.int (0 : Int32))] [(.ref t)])) rfl rfl (hb hby d6_18) (N := (3 : Int32)) rfl ?_
      show OwnWk _ _ _ _ (s₁.setTop (mkF m 19 #[.val (.ref t), .val (.int (Int32.ofNat P1)), .val (.int (0 : Int32))] [(.int (3 : Int32))]))
      refine own_go (fun tgt kst => XS.iconst X0.here hx rfl (hb hby d6_19) kst) ?_
      show OwnWk _ _ _ _ (s₁.setTop (mkF m 20 #[.val (.ref t), .val (.int (Int32.ofNat P1)), .val (.int (0 : Int32))] [(.int (1 : Int32)), (.int (3 : Int32))]))
      refine own_go (fun tgt kst => XS.icmpNo X0.here hx rfl (hb hby d6_20) rfl (tlt (by decide : (1 : Int32) < (3 : Int32))).2.2.2 kst) ?_
      show OwnWk _ _ _ _ (s₁.setTop (mkF m 23 #[.val (.ref t), .val (.int (Int32.ofNat P1)), .val (.int (0 : Int32))] []))
      refine own_go (fun tgt kst => XS.aloadN X0.here hx rfl (hb hby d6_23) rfl rfl  kst) ?_
      show OwnWk _ _ _ _ (s₁.setTop (mkF m 24 #[.val (.ref t), .val (.int (Int32.ofNat P1)), .val (.int (0 : Int32))] [(.ref t)]))
      refine own_go (fun tgt kst => XS.iconst X0.here hx rfl (hb hby d6_24) kst) ?_
      show OwnWk _ _ _ _ (s₁.setTop (mkF m 25 #[.val (.ref t), .val (.int (Int32.ofNat P1)), .val (.int (0 : Int32))] [(.int (1 : Int32)), (.ref t)]))
      refine own_ldI X0 hx hZ e0 V_t (g := (mkF m 25 #[.val (.ref t), .val (.int (Int32.ofNat P1)), .val (.int (0 : Int32))] [(.int (1 : Int32)), (.ref t)])) rfl rfl (hb hby d6_25) (v := (.int (Int32.ofNat q1))) (by decide) rfl ?_
      show OwnWk _ _ _ _ (s₁.setTop (mkF m 26 #[.val (.ref t), .val (.int (Int32.ofNat P1)), .val (.int (0 : Int32))] [(.int (Int32.ofNat q1))]))
      refine own_go (fun tgt kst => XS.iloadN X0.here hx rfl (hb hby d6_26) rfl  kst) ?_
      show OwnWk _ _ _ _ (s₁.setTop (mkF m 27 #[.val (.ref t), .val (.int (Int32.ofNat P1)), .val (.int (0 : Int32))] [(.int (Int32.ofNat P1)), (.int (Int32.ofNat q1))]))
      by_cases hc9 : (Int32.ofNat q1) = (Int32.ofNat P1)
      ·
        refine own_go (fun tgt kst => XS.icmpNo X0.here hx rfl (hb hby d6_27) rfl (teq hc9).2 kst) ?_
        show OwnWk _ _ _ _ (s₁.setTop (mkF m 30 #[.val (.ref t), .val (.int (Int32.ofNat P1)), .val (.int (0 : Int32))] []))
        refine own_go (fun tgt kst => XS.iinc X0.here hx rfl (hb hby d6_30) rfl (l' := #[.val (.ref t), .val (.int (Int32.ofNat P1)), .val (.int (1 : Int32))]) rfl kst) ?_
        show OwnWk _ _ _ _ (s₁.setTop (mkF m 33 #[.val (.ref t), .val (.int (Int32.ofNat P1)), .val (.int (1 : Int32))] []))
        refine own_go (fun tgt kst => XS.aloadN X0.here hx rfl (hb hby d6_33) rfl rfl  kst) ?_
        show OwnWk _ _ _ _ (s₁.setTop (mkF m 34 #[.val (.ref t), .val (.int (Int32.ofNat P1)), .val (.int (1 : Int32))] [(.ref t)]))
        refine own_len X0 hx hZ e0 V_t (g := (mkF m 34 #[.val (.ref t), .val (.int (Int32.ofNat P1)), .val (.int (1 : Int32))] [(.ref t)])) rfl rfl (hb hby d6_34) (N := (3 : Int32)) rfl ?_
        show OwnWk _ _ _ _ (s₁.setTop (mkF m 35 #[.val (.ref t), .val (.int (Int32.ofNat P1)), .val (.int (1 : Int32))] [(.int (3 : Int32))]))
        refine own_go (fun tgt kst => XS.iconst X0.here hx rfl (hb hby d6_35) kst) ?_
        show OwnWk _ _ _ _ (s₁.setTop (mkF m 36 #[.val (.ref t), .val (.int (Int32.ofNat P1)), .val (.int (1 : Int32))] [(.int (2 : Int32)), (.int (3 : Int32))]))
        refine own_go (fun tgt kst => XS.icmpNo X0.here hx rfl (hb hby d6_36) rfl (tlt (by decide : (2 : Int32) < (3 : Int32))).2.2.2 kst) ?_
        show OwnWk _ _ _ _ (s₁.setTop (mkF m 39 #[.val (.ref t), .val (.int (Int32.ofNat P1)), .val (.int (1 : Int32))] []))
        refine own_go (fun tgt kst => XS.aloadN X0.here hx rfl (hb hby d6_39) rfl rfl  kst) ?_
        show OwnWk _ _ _ _ (s₁.setTop (mkF m 40 #[.val (.ref t), .val (.int (Int32.ofNat P1)), .val (.int (1 : Int32))] [(.ref t)]))
        refine own_go (fun tgt kst => XS.iconst X0.here hx rfl (hb hby d6_40) kst) ?_
        show OwnWk _ _ _ _ (s₁.setTop (mkF m 41 #[.val (.ref t), .val (.int (Int32.ofNat P1)), .val (.int (1 : Int32))] [(.int (2 : Int32)), (.ref t)]))
        refine own_ldI X0 hx hZ e0 V_t (g := (mkF m 41 #[.val (.ref t), .val (.int (Int32.ofNat P1)), .val (.int (1 : Int32))] [(.int (2 : Int32)), (.ref t)])) rfl rfl (hb hby d6_41) (v := (.int (Int32.ofNat q2))) (by decide) rfl ?_
        show OwnWk _ _ _ _ (s₁.setTop (mkF m 42 #[.val (.ref t), .val (.int (Int32.ofNat P1)), .val (.int (1 : Int32))] [(.int (Int32.ofNat q2))]))
        refine own_go (fun tgt kst => XS.iloadN X0.here hx rfl (hb hby d6_42) rfl  kst) ?_
        show OwnWk _ _ _ _ (s₁.setTop (mkF m 43 #[.val (.ref t), .val (.int (Int32.ofNat P1)), .val (.int (1 : Int32))] [(.int (Int32.ofNat P1)), (.int (Int32.ofNat q2))]))
        by_cases hc10 : (Int32.ofNat q2) = (Int32.ofNat P1)
        ·
          refine own_go (fun tgt kst => XS.icmpNo X0.here hx rfl (hb hby d6_43) rfl (teq hc10).2 kst) ?_
          show OwnWk _ _ _ _ (s₁.setTop (mkF m 46 #[.val (.ref t), .val (.int (Int32.ofNat P1)), .val (.int (1 : Int32))] []))
          refine own_go (fun tgt kst => XS.iinc X0.here hx rfl (hb hby d6_46) rfl (l' := #[.val (.ref t), .val (.int (Int32.ofNat P1)), .val (.int (2 : Int32))]) rfl kst) ?_
          show OwnWk _ _ _ _ (s₁.setTop (mkF m 49 #[.val (.ref t), .val (.int (Int32.ofNat P1)), .val (.int (2 : Int32))] []))
          refine own_go (fun tgt kst => XS.iloadN X0.here hx rfl (hb hby d6_49) rfl  kst) ?_
          show OwnWk _ _ _ _ (s₁.setTop (mkF m 50 #[.val (.ref t), .val (.int (Int32.ofNat P1)), .val (.int (2 : Int32))] [(.int (2 : Int32))]))
          exact own_retI X0 hx hlk hret (hb hby d6_50) (by decide) (by decide) (by rw [e0]; exact ⟨by simp only [own_cnt, if_neg hc5, if_pos hc9, if_pos hc10] <;> rfl, N0, rfl⟩)
        ·
          refine own_go (fun tgt kst => XS.icmpYes X0.here hx rfl (pc0 := 43) (pc' := 49) rfl (hb hby d6_43) rfl (feq hc10).2 (by decide) (by decide) kst) ?_
          show OwnWk _ _ _ _ (s₁.setTop (mkF m 49 #[.val (.ref t), .val (.int (Int32.ofNat P1)), .val (.int (1 : Int32))] []))
          refine own_go (fun tgt kst => XS.iloadN X0.here hx rfl (hb hby d6_49) rfl  kst) ?_
          show OwnWk _ _ _ _ (s₁.setTop (mkF m 50 #[.val (.ref t), .val (.int (Int32.ofNat P1)), .val (.int (1 : Int32))] [(.int (1 : Int32))]))
          exact own_retI X0 hx hlk hret (hb hby d6_50) (by decide) (by decide) (by rw [e0]; exact ⟨by simp only [own_cnt, if_neg hc5, if_pos hc9, if_neg hc10] <;> rfl, N0, rfl⟩)
      ·
        refine own_go (fun tgt kst => XS.icmpYes X0.here hx rfl (pc0 := 27) (pc' := 33) rfl (hb hby d6_27) rfl (feq hc9).2 (by decide) (by decide) kst) ?_
        show OwnWk _ _ _ _ (s₁.setTop (mkF m 33 #[.val (.ref t), .val (.int (Int32.ofNat P1)), .val (.int (0 : Int32))] []))
        refine own_go (fun tgt kst => XS.aloadN X0.here hx rfl (hb hby d6_33) rfl rfl  kst) ?_
        show OwnWk _ _ _ _ (s₁.setTop (mkF m 34 #[.val (.ref t), .val (.int (Int32.ofNat P1)), .val (.int (0 : Int32))] [(.ref t)]))
        refine own_len X0 hx hZ e0 V_t (g := (mkF m 34 #[.val (.ref t), .val (.int (Int32.ofNat P1)), .val (.int (0 : Int32))] [(.ref t)])) rfl rfl (hb hby d6_34) (N := (3 : Int32)) rfl ?_
        show OwnWk _ _ _ _ (s₁.setTop (mkF m 35 #[.val (.ref t), .val (.int (Int32.ofNat P1)), .val (.int (0 : Int32))] [(.int (3 : Int32))]))
        refine own_go (fun tgt kst => XS.iconst X0.here hx rfl (hb hby d6_35) kst) ?_
        show OwnWk _ _ _ _ (s₁.setTop (mkF m 36 #[.val (.ref t), .val (.int (Int32.ofNat P1)), .val (.int (0 : Int32))] [(.int (2 : Int32)), (.int (3 : Int32))]))
        refine own_go (fun tgt kst => XS.icmpNo X0.here hx rfl (hb hby d6_36) rfl (tlt (by decide : (2 : Int32) < (3 : Int32))).2.2.2 kst) ?_
        show OwnWk _ _ _ _ (s₁.setTop (mkF m 39 #[.val (.ref t), .val (.int (Int32.ofNat P1)), .val (.int (0 : Int32))] []))
        refine own_go (fun tgt kst => XS.aloadN X0.here hx rfl (hb hby d6_39) rfl rfl  kst) ?_
        show OwnWk _ _ _ _ (s₁.setTop (mkF m 40 #[.val (.ref t), .val (.int (Int32.ofNat P1)), .val (.int (0 : Int32))] [(.ref t)]))
        refine own_go (fun tgt kst => XS.iconst X0.here hx rfl (hb hby d6_40) kst) ?_
        show OwnWk _ _ _ _ (s₁.setTop (mkF m 41 #[.val (.ref t), .val (.int (Int32.ofNat P1)), .val (.int (0 : Int32))] [(.int (2 : Int32)), (.ref t)]))
        refine own_ldI X0 hx hZ e0 V_t (g := (mkF m 41 #[.val (.ref t), .val (.int (Int32.ofNat P1)), .val (.int (0 : Int32))] [(.int (2 : Int32)), (.ref t)])) rfl rfl (hb hby d6_41) (v := (.int (Int32.ofNat q2))) (by decide) rfl ?_
        show OwnWk _ _ _ _ (s₁.setTop (mkF m 42 #[.val (.ref t), .val (.int (Int32.ofNat P1)), .val (.int (0 : Int32))] [(.int (Int32.ofNat q2))]))
        refine own_go (fun tgt kst => XS.iloadN X0.here hx rfl (hb hby d6_42) rfl  kst) ?_
        show OwnWk _ _ _ _ (s₁.setTop (mkF m 43 #[.val (.ref t), .val (.int (Int32.ofNat P1)), .val (.int (0 : Int32))] [(.int (Int32.ofNat P1)), (.int (Int32.ofNat q2))]))
        by_cases hc11 : (Int32.ofNat q2) = (Int32.ofNat P1)
        ·
          refine own_go (fun tgt kst => XS.icmpNo X0.here hx rfl (hb hby d6_43) rfl (teq hc11).2 kst) ?_
          show OwnWk _ _ _ _ (s₁.setTop (mkF m 46 #[.val (.ref t), .val (.int (Int32.ofNat P1)), .val (.int (0 : Int32))] []))
          refine own_go (fun tgt kst => XS.iinc X0.here hx rfl (hb hby d6_46) rfl (l' := #[.val (.ref t), .val (.int (Int32.ofNat P1)), .val (.int (1 : Int32))]) rfl kst) ?_
          show OwnWk _ _ _ _ (s₁.setTop (mkF m 49 #[.val (.ref t), .val (.int (Int32.ofNat P1)), .val (.int (1 : Int32))] []))
          refine own_go (fun tgt kst => XS.iloadN X0.here hx rfl (hb hby d6_49) rfl  kst) ?_
          show OwnWk _ _ _ _ (s₁.setTop (mkF m 50 #[.val (.ref t), .val (.int (Int32.ofNat P1)), .val (.int (1 : Int32))] [(.int (1 : Int32))]))
          exact own_retI X0 hx hlk hret (hb hby d6_50) (by decide) (by decide) (by rw [e0]; exact ⟨by simp only [own_cnt, if_neg hc5, if_neg hc9, if_pos hc11] <;> rfl, N0, rfl⟩)
        ·
          refine own_go (fun tgt kst => XS.icmpYes X0.here hx rfl (pc0 := 43) (pc' := 49) rfl (hb hby d6_43) rfl (feq hc11).2 (by decide) (by decide) kst) ?_
          show OwnWk _ _ _ _ (s₁.setTop (mkF m 49 #[.val (.ref t), .val (.int (Int32.ofNat P1)), .val (.int (0 : Int32))] []))
          refine own_go (fun tgt kst => XS.iloadN X0.here hx rfl (hb hby d6_49) rfl  kst) ?_
          show OwnWk _ _ _ _ (s₁.setTop (mkF m 50 #[.val (.ref t), .val (.int (Int32.ofNat P1)), .val (.int (0 : Int32))] [(.int (0 : Int32))]))
          exact own_retI X0 hx hlk hret (hb hby d6_50) (by decide) (by decide) (by rw [e0]; exact ⟨by simp only [own_cnt, if_neg hc5, if_neg hc9, if_neg hc11] <;> rfl, N0, rfl⟩)
theorem pn_pn_5 : plainName "com/example/antipode/antipode/net/TransitionEffectPinLaw" = true := by first | (simp [plainName, overriddenIn]; done) | decide +kernel
theorem pn_5 : plainFor (⟨"com/example/antipode/antipode/net/TransitionEffectPinLaw", "ok", "([I[I[II)Z"⟩ : MethodName) = true := plainFor_of_name pn_pn_5
theorem d5_0 : decode method_4_code 0 = .ok (.iload_n 3, 1) := by decide +kernel
theorem d5_1 : decode method_4_code 1 = .ok (.aload_n 0, 1) := by decide +kernel
theorem d5_2 : decode method_4_code 2 = .ok (.arraylength, 1) := by decide +kernel
theorem d5_3 : decode method_4_code 3 = .ok (.if_icmp .lt 5, 3) := by decide +kernel
theorem d5_8 : decode method_4_code 8 = .ok (.aload_n 0, 1) := by decide +kernel
theorem d5_9 : decode method_4_code 9 = .ok (.iload_n 3, 1) := by decide +kernel
theorem d5_10 : decode method_4_code 10 = .ok (.iaload, 1) := by decide +kernel
theorem d5_11 : decode method_4_code 11 = .ok (.aload_n 2, 1) := by decide +kernel
theorem d5_12 : decode method_4_code 12 = .ok (.iload_n 3, 1) := by decide +kernel
theorem d5_13 : decode method_4_code 13 = .ok (.invokestatic 7, 3) := by decide +kernel
theorem pd_0 : parseMethodDescriptor "([II)I" = some ⟨[(.array .int), .int], some .int⟩ := by decide +kernel
theorem d5_16 : decode method_4_code 16 = .ok (.aload_n 1, 1) := by decide +kernel
theorem d5_17 : decode method_4_code 17 = .ok (.iload_n 3, 1) := by decide +kernel
theorem d5_18 : decode method_4_code 18 = .ok (.invokestatic 7, 3) := by decide +kernel
theorem d5_21 : decode method_4_code 21 = .ok (.isub, 1) := by decide +kernel
theorem d5_22 : decode method_4_code 22 = .ok (.if_icmp .ne 7, 3) := by decide +kernel
theorem d5_25 : decode method_4_code 25 = .ok (.iconst 1, 1) := by decide +kernel
theorem d5_26 : decode method_4_code 26 = .ok (.goto 4, 3) := by decide +kernel
theorem d5_30 : decode method_4_code 30 = .ok (.ireturn, 1) := by decide +kernel
theorem d5_29 : decode method_4_code 29 = .ok (.iconst 0, 1) := by decide +kernel
theorem d5_6 : decode method_4_code 6 = .ok (.iconst 1, 1) := by decide +kernel
theorem d5_7 : decode method_4_code 7 = .ok (.ireturn, 1) := by decide +kernel
theorem ef_rm5 (m : MethodId) (x0 : Addr) (x1 : Addr) (x2 : Addr) (x3 : Int32) : entryFrame m #[(.ref x0), (.ref x1), (.ref x2), (.int x3)] 4 = mkF m 0 #[.val (.ref x0), .val (.ref x1), .val (.ref x2), .val (.int x3)] [] := by first | (simp [entryFrame, mkF, argsToLocals, Value.category]; done) | rfl
def Q_rm5 (Z : State) (t0 t1 t2 : Addr) (c0 : List Int32) (xs ys : List Nat) (P1 : Nat) (h0 : Heap) (n0 : Nat) (v : Option Value) (h : Heap) (L : List Loc) : Prop := v = some (.int (own_okc c0 xs ys P1)) ∧ Fr n0 L ∧ h = h0
set_option maxRecDepth 65536 in
set_option maxHeartbeats 40000000 in
theorem rm5 (l : Launch) (Z : State) (a0 : Array Value) (hw : ∀ d ∈ tables_1, d.before a0 Z = true) (t0 t1 t2 : Addr) (c0 : List Int32) (xs ys : List Nat) (P1 : Nat) (h0 : Heap) (n0 : Nat) (Z0 : n0 ≤ h0.size) (V_0 : OAr Z h0 t0 .int (c0.map .int)) (V_1 : OAr Z h0 t1 .int (own_iv xs)) (V_2 : OAr Z h0 t2 .int (own_iv ys)) (h3_xs : xs.length ≤ 3) (h3_ys : ys.length ≤ 3) (hP : P1 ≤ 7) (hcl : c0.length ≤ 7) :
    OwnMet l (⟨"com/example/antipode/antipode/net/TransitionEffectPinLaw", "ok", "([I[I[II)Z"⟩ : MethodName) method_4_code 4 (some .boolean) [] ({ frames := 1, cells := 0, slots := 0, locals := 16 } : Room) Z #[(.ref t0), (.ref t1), (.ref t2), (.int (Int32.ofNat P1))] h0 (Q_rm5 Z t0 t1 t2 c0 xs ys P1 h0 n0) := by
  refine own_met pn_5 (fun p e s m below meth c s₁ hx hby hml hown hnm hret hlk hZ X0 e0 => ?_)
  have hown : s.vm.findClass "com/example/antipode/antipode/net/TransitionEffectPinLaw" = some m.cls := hown
  have N0 := Fr.nil n0
  rw [ef_rm5]
  show OwnWk _ _ _ _ (s₁.setTop (mkF m 0 #[.val (.ref t0), .val (.ref t1), .val (.ref t2), .val (.int (Int32.ofNat P1))] []))
  refine own_go (fun tgt kst => XS.iloadN X0.here hx rfl (hb hby d5_0) rfl  kst) ?_
  show OwnWk _ _ _ _ (s₁.setTop (mkF m 1 #[.val (.ref t0), .val (.ref t1), .val (.ref t2), .val (.int (Int32.ofNat P1))] [(.int (Int32.ofNat P1))]))
  refine own_go (fun tgt kst => XS.aloadN X0.here hx rfl (hb hby d5_1) rfl rfl  kst) ?_
  show OwnWk _ _ _ _ (s₁.setTop (mkF m 2 #[.val (.ref t0), .val (.ref t1), .val (.ref t2), .val (.int (Int32.ofNat P1))] [(.ref t0), (.int (Int32.ofNat P1))]))
  refine own_len X0 hx hZ e0 V_0 (g := (mkF m 2 #[.val (.ref t0), .val (.ref t1), .val (.ref t2), .val (.int (Int32.ofNat P1))] [(.ref t0), (.int (Int32.ofNat P1))])) rfl rfl (hb hby d5_2) (N := (Int32.ofNat c0.length)) (own_n_len c0) ?_
  show OwnWk _ _ _ _ (s₁.setTop (mkF m 3 #[.val (.ref t0), .val (.ref t1), .val (.ref t2), .val (.int (Int32.ofNat P1))] [(.int (Int32.ofNat c0.length)), (.int (Int32.ofNat P1))]))
  by_cases hc1 : (Int32.ofNat P1) < (Int32.ofNat c0.length)
  ·
    refine own_go (fun tgt kst => XS.icmpYes X0.here hx rfl (pc0 := 3) (pc' := 8) rfl (hb hby d5_3) rfl (tlt hc1).1 (by decide) (by decide) kst) ?_
    show OwnWk _ _ _ _ (s₁.setTop (mkF m 8 #[.val (.ref t0), .val (.ref t1), .val (.ref t2), .val (.int (Int32.ofNat P1))] []))
    have hin1 := hc1
    refine own_go (fun tgt kst => XS.aloadN X0.here hx rfl (hb hby d5_8) rfl rfl  kst) ?_
    show OwnWk _ _ _ _ (s₁.setTop (mkF m 9 #[.val (.ref t0), .val (.ref t1), .val (.ref t2), .val (.int (Int32.ofNat P1))] [(.ref t0)]))
    refine own_go (fun tgt kst => XS.iloadN X0.here hx rfl (hb hby d5_9) rfl  kst) ?_
    show OwnWk _ _ _ _ (s₁.setTop (mkF m 10 #[.val (.ref t0), .val (.ref t1), .val (.ref t2), .val (.int (Int32.ofNat P1))] [(.int (Int32.ofNat P1)), (.ref t0)]))
    refine own_ldI X0 hx hZ e0 V_0 (g := (mkF m 10 #[.val (.ref t0), .val (.ref t1), .val (.ref t2), .val (.int (Int32.ofNat P1))] [(.int (Int32.ofNat P1)), (.ref t0)])) rfl rfl (hb hby d5_10) (v := (.int (c0.getD P1 0))) (own_n_nn (by omega)) (own_mpat (by omega) ((own_n_lt (by omega) (by omega)).mp hin1)) ?_
    show OwnWk _ _ _ _ (s₁.setTop (mkF m 11 #[.val (.ref t0), .val (.ref t1), .val (.ref t2), .val (.int (Int32.ofNat P1))] [(.int (c0.getD P1 0))]))
    refine own_go (fun tgt kst => XS.aloadN X0.here hx rfl (hb hby d5_11) rfl rfl  kst) ?_
    show OwnWk _ _ _ _ (s₁.setTop (mkF m 12 #[.val (.ref t0), .val (.ref t1), .val (.ref t2), .val (.int (Int32.ofNat P1))] [(.ref t2), (.int (c0.getD P1 0))]))
    refine own_go (fun tgt kst => XS.iloadN X0.here hx rfl (hb hby d5_12) rfl  kst) ?_
    show OwnWk _ _ _ _ (s₁.setTop (mkF m 13 #[.val (.ref t0), .val (.ref t1), .val (.ref t2), .val (.int (Int32.ofNat P1))] [(.int (Int32.ofNat P1)), (.ref t2), (.int (c0.getD P1 0))]))
    refine own_callS X0 hx hZ (y := (⟨"com/example/antipode/antipode/net/TransitionEffectPinLaw", "cnt", "([II)I"⟩ : MethodName)) hown (hw _ (List.mem_of_getElem? (i := 39) rfl)) (hw _ (List.mem_of_getElem? (i := 40) rfl)) (hw _ (List.mem_of_getElem? (i := 2) rfl)) (hw _ (List.mem_of_getElem? (i := 41) rfl)) (by decide) (argsL := [(.ref t2), (.int (Int32.ofNat P1))]) (rest := [(.int (c0.getD P1 0))]) (rm := ({ frames := 0, cells := 0, slots := 0, locals := 0 } : Room)) (h := h0) (rm6 l Z a0 hw t2 ys P1 h0 n0 Z0 V_2 h3_ys) e0 (W := 1) (by decide) (by decide) (by decide) (by decide) (g := (mkF m 13 #[.val (.ref t0), .val (.ref t1), .val (.ref t2), .val (.int (Int32.ofNat P1))] [(.int (Int32.ofNat P1)), (.ref t2), (.int (c0.getD P1 0))])) rfl (by rw [hml]; rfl) (lenOf pd_0 rfl) rfl (by show 2 * 0 + _ ≤ _; exact Nat.le_of_eq rfl) (hb hby d5_13) (fun v2 T2 h2 L2 X2 e2 hQ2 => ?_)
    obtain ⟨rfl, Nq2, q2⟩ := hQ2
    have N2 := Fr.app N0 Nq2
    rw [q2] at e2
    show OwnWk _ _ _ _ (T2.setTop (mkF m 16 #[.val (.ref t0), .val (.ref t1), .val (.ref t2), .val (.int (Int32.ofNat P1))] [(.int (own_cnt P1 ys 0)), (.int (c0.getD P1 0))]))
    refine own_go (fun tgt kst => XS.aloadN X2.here hx rfl (hb hby d5_16) rfl rfl  kst) ?_
    show OwnWk _ _ _ _ (T2.setTop (mkF m 17 #[.val (.ref t0), .val (.ref t1), .val (.ref t2), .val (.int (Int32.ofNat P1))] [(.ref t1), (.int (own_cnt P1 ys 0)), (.int (c0.getD P1 0))]))
    refine own_go (fun tgt kst => XS.iloadN X2.here hx rfl (hb hby d5_17) rfl  kst) ?_
    show OwnWk _ _ _ _ (T2.setTop (mkF m 18 #[.val (.ref t0), .val (.ref t1), .val (.ref t2), .val (.int (Int32.ofNat P1))] [(.int (Int32.ofNat P1)), (.ref t1), (.int (own_cnt P1 ys 0)), (.int (c0.getD P1 0))]))
    refine own_callS X2 hx hZ (y := (⟨"com/example/antipode/antipode/net/TransitionEffectPinLaw", "cnt", "([II)I"⟩ : MethodName)) hown (hw _ (List.mem_of_getElem? (i := 39) rfl)) (hw _ (List.mem_of_getElem? (i := 40) rfl)) (hw _ (List.mem_of_getElem? (i := 2) rfl)) (hw _ (List.mem_of_getElem? (i := 41) rfl)) (by decide) (argsL := [(.ref t1), (.int (Int32.ofNat P1))]) (rest := [(.int (own_cnt P1 ys 0)), (.int (c0.getD P1 0))]) (rm := ({ frames := 0, cells := 0, slots := 0, locals := 0 } : Room)) (h := h0) (rm6 l Z a0 hw t1 xs P1 h0 n0 Z0 V_1 h3_xs) e2 (W := 2) (by decide) (by decide) (by decide) (by decide) (g := (mkF m 18 #[.val (.ref t0), .val (.ref t1), .val (.ref t2), .val (.int (Int32.ofNat P1))] [(.int (Int32.ofNat P1)), (.ref t1), (.int (own_cnt P1 ys 0)), (.int (c0.getD P1 0))])) rfl (by rw [hml]; rfl) (lenOf pd_0 rfl) rfl (by show 2 * 0 + _ ≤ _; exact Nat.le_of_eq rfl) (hb hby d5_18) (fun v3 T3 h3 L3 X3 e3 hQ3 => ?_)
    obtain ⟨rfl, Nq3, q3⟩ := hQ3
    have N3 := Fr.app N2 Nq3
    rw [q3] at e3
    show OwnWk _ _ _ _ (T3.setTop (mkF m 21 #[.val (.ref t0), .val (.ref t1), .val (.ref t2), .val (.int (Int32.ofNat P1))] [(.int (own_cnt P1 xs 0)), (.int (own_cnt P1 ys 0)), (.int (c0.getD P1 0))]))
    refine own_go (fun tgt kst => XS.isub X3.here hx rfl (hb hby d5_21) rfl kst) ?_
    show OwnWk _ _ _ _ (T3.setTop (mkF m 22 #[.val (.ref t0), .val (.ref t1), .val (.ref t2), .val (.int (Int32.ofNat P1))] [(.int ((own_cnt P1 ys 0) - (own_cnt P1 xs 0))), (.int (c0.getD P1 0))]))
    by_cases hc4 : (c0.getD P1 0) = ((own_cnt P1 ys 0) - (own_cnt P1 xs 0))
    ·
      refine own_go (fun tgt kst => XS.icmpNo X3.here hx rfl (hb hby d5_22) rfl (teq hc4).2 kst) ?_
      show OwnWk _ _ _ _ (T3.setTop (mkF m 25 #[.val (.ref t0), .val (.ref t1), .val (.ref t2), .val (.int (Int32.ofNat P1))] []))
      refine own_go (fun tgt kst => XS.iconst X3.here hx rfl (hb hby d5_25) kst) ?_
      show OwnWk _ _ _ _ (T3.setTop (mkF m 26 #[.val (.ref t0), .val (.ref t1), .val (.ref t2), .val (.int (Int32.ofNat P1))] [(.int (1 : Int32))]))
      refine own_go (fun tgt kst => XS.goto X3.here hx rfl (pc0 := 26) (pc' := 30) rfl (hb hby d5_26) (by decide) (by decide) kst) ?_
      show OwnWk _ _ _ _ (T3.setTop (mkF m 30 #[.val (.ref t0), .val (.ref t1), .val (.ref t2), .val (.int (Int32.ofNat P1))] [(.int (1 : Int32))]))
      exact own_retZ X3 hx hlk hret (by simp) (z' := (1 : Int32)) rfl (hb hby d5_30) (by decide) (by decide) (by rw [e3]; exact ⟨congrArg (fun z => some (Value.int z)) ((if_pos hc1).trans (if_pos hc4)).symm, N3, rfl⟩)
    ·
      refine own_go (fun tgt kst => XS.icmpYes X3.here hx rfl (pc0 := 22) (pc' := 29) rfl (hb hby d5_22) rfl (feq hc4).2 (by decide) (by decide) kst) ?_
      show OwnWk _ _ _ _ (T3.setTop (mkF m 29 #[.val (.ref t0), .val (.ref t1), .val (.ref t2), .val (.int (Int32.ofNat P1))] []))
      refine own_go (fun tgt kst => XS.iconst X3.here hx rfl (hb hby d5_29) kst) ?_
      show OwnWk _ _ _ _ (T3.setTop (mkF m 30 #[.val (.ref t0), .val (.ref t1), .val (.ref t2), .val (.int (Int32.ofNat P1))] [(.int (0 : Int32))]))
      exact own_retZ X3 hx hlk hret (by simp) (z' := (0 : Int32)) rfl (hb hby d5_30) (by decide) (by decide) (by rw [e3]; exact ⟨congrArg (fun z => some (Value.int z)) ((if_pos hc1).trans (if_neg hc4)).symm, N3, rfl⟩)
  ·
    refine own_go (fun tgt kst => XS.icmpNo X0.here hx rfl (hb hby d5_3) rfl (flt hc1).1 kst) ?_
    show OwnWk _ _ _ _ (s₁.setTop (mkF m 6 #[.val (.ref t0), .val (.ref t1), .val (.ref t2), .val (.int (Int32.ofNat P1))] []))
    refine own_go (fun tgt kst => XS.iconst X0.here hx rfl (hb hby d5_6) kst) ?_
    show OwnWk _ _ _ _ (s₁.setTop (mkF m 7 #[.val (.ref t0), .val (.ref t1), .val (.ref t2), .val (.int (Int32.ofNat P1))] [(.int (1 : Int32))]))
    exact own_retZ X0 hx hlk hret (by simp) (z' := (1 : Int32)) rfl (hb hby d5_7) (by decide) (by decide) (by rw [e0]; exact ⟨congrArg (fun z => some (Value.int z)) (if_neg hc1).symm, N0, rfl⟩)
theorem pn_pn_0 : plainName "com/example/antipode/antipode/net/TransitionEffectPinLaw" = true := by first | (simp [plainName, overriddenIn]; done) | decide +kernel
theorem pn_0 : plainFor x = true := plainFor_of_name pn_pn_0
theorem pd_1 : parseMethodDescriptor "(II)[I" = some ⟨[.int, .int], some (.array .int)⟩ := by decide +kernel
theorem pd_2 : parseMethodDescriptor "(Ljava/lang/String;Ljava/lang/String;[I[I)V" = some ⟨[(.object "java/lang/String"), (.object "java/lang/String"), (.array .int), (.array .int)], none⟩ := by decide +kernel
theorem pd_3 : parseMethodDescriptor "(I)[I" = some ⟨[.int], some (.array .int)⟩ := by decide +kernel
theorem pd_4 : parseMethodDescriptor "([I[I[II)Z" = some ⟨[(.array .int), (.array .int), (.array .int), .int], some .boolean⟩ := by decide +kernel
theorem ef_rm0 (m : MethodId) (x0 : Int32) (x1 : Int32) (x2 : Int32) : entryFrame m #[(.int x0), (.int x1), (.int x2)] maxLocals = mkF m 0 #[.val (.int x0), .val (.int x1), .val (.int x2), .unset, .unset, .unset, .unset, .unset] [] := by first | (simp [entryFrame, mkF, argsToLocals, Value.category, maxLocals]; done) | rfl
def Q_rm0 (Z : State) (u0 u1 u2 : Int32) (h0 : Heap) (n0 : Nat) (v : Option Value) (h : Heap) (L : List Loc) : Prop := v = some (.int 1) ∧ Fr n0 L
set_option maxRecDepth 65536 in
set_option maxHeartbeats 40000000 in
theorem rm0 (l : Launch) (Z : State) (a0 : Array Value) (hw : ∀ d ∈ tables_1, d.before a0 Z = true) (u0 u1 u2 : Int32) (h0 : Heap) (n0 : Nat) (Z0 : n0 ≤ h0.size)  :
    OwnMetW l x code maxLocals ret tables_1 room_1 Z #[(.int u0), (.int u1), (.int u2)] h0 (Q_rm0 Z u0 u1 u2 h0 n0) := by
  refine own_metW pn_0 (fun p e s m below meth c s₁ hx hby hml hown hnm hret hlk hZ X0 e0 => ?_)
  have hml : c.maxLocals = 8 := hml
  have hret : meth.sig.returnType = some .boolean := hret
  have hown : s.vm.findClass "com/example/antipode/antipode/net/TransitionEffectPinLaw" = some m.cls := hown
  have N0 := Fr.nil n0
  rw [ef_rm0]
  obtain ⟨H, hH, eH⟩ := own_and_nat u0 7 (by decide)
  show OwnWk _ _ _ _ (s₁.setTop (mkF m 0 #[.val (.int u0), .val (.int u1), .val (.int u2), .unset, .unset, .unset, .unset, .unset] []))
  refine own_go (fun tgt kst => XS.iloadN X0.here hx rfl (hb hby at_0) rfl  kst) ?_
  show OwnWk _ _ _ _ (s₁.setTop (mkF m 1 #[.val (.int u0), .val (.int u1), .val (.int u2), .unset, .unset, .unset, .unset, .unset] [(.int u0)]))
  refine own_go (fun tgt kst => XS.bipush X0.here hx rfl (hb hby at_1) kst) ?_
  show OwnWk _ _ _ _ (s₁.setTop (mkF m 3 #[.val (.int u0), .val (.int u1), .val (.int u2), .unset, .unset, .unset, .unset, .unset] [(.int (7 : Int32)), (.int u0)]))
  refine own_go (fun tgt kst => XS.iand X0.here hx rfl (hb hby at_3) rfl kst) ?_
  show OwnWk _ _ _ _ (s₁.setTop (mkF m 4 #[.val (.int u0), .val (.int u1), .val (.int u2), .unset, .unset, .unset, .unset, .unset] [(.int (u0 &&& (7 : Int32)))]))
  rw [show (u0 &&& (7 : Int32)) = Int32.ofNat H from eH]
  show OwnWk _ _ _ _ (s₁.setTop (mkF m 4 #[.val (.int u0), .val (.int u1), .val (.int u2), .unset, .unset, .unset, .unset, .unset] [(.int (Int32.ofNat H))]))
  refine own_go (fun tgt kst => XS.istoreN X0.here hx rfl (hb hby at_4) rfl (l' := #[.val (.int u0), .val (.int u1), .val (.int u2), .val (.int (Int32.ofNat H)), .unset, .unset, .unset, .unset]) rfl kst) ?_
  show OwnWk _ _ _ _ (s₁.setTop (mkF m 5 #[.val (.int u0), .val (.int u1), .val (.int u2), .val (.int (Int32.ofNat H)), .unset, .unset, .unset, .unset] []))
  refine own_go (fun tgt kst => XS.iloadN X0.here hx rfl (hb hby at_5) rfl  kst) ?_
  show OwnWk _ _ _ _ (s₁.setTop (mkF m 6 #[.val (.int u0), .val (.int u1), .val (.int u2), .val (.int (Int32.ofNat H)), .unset, .unset, .unset, .unset] [(.int u1)]))
  refine own_go (fun tgt kst => XS.iloadN X0.here hx rfl (hb hby at_6) rfl  kst) ?_
  show OwnWk _ _ _ _ (s₁.setTop (mkF m 7 #[.val (.int u0), .val (.int u1), .val (.int u2), .val (.int (Int32.ofNat H)), .unset, .unset, .unset, .unset] [(.int (Int32.ofNat H)), (.int u1)]))
  refine own_callS X0 hx hZ (y := (⟨"com/example/antipode/antipode/net/TransitionEffectPinLaw", "mk", "(II)[I"⟩ : MethodName)) hown (hw _ (List.mem_of_getElem? (i := 0) rfl)) (hw _ (List.mem_of_getElem? (i := 1) rfl)) (hw _ (List.mem_of_getElem? (i := 2) rfl)) (hw _ (List.mem_of_getElem? (i := 3) rfl)) (by decide) (argsL := [(.int u1), (.int (Int32.ofNat H))]) (rest := []) (rm := ({ frames := 0, cells := 1, slots := 3, locals := 0 } : Room)) (h := h0) (rm1 l Z a0 hw u1 H h0 n0 Z0 hH) e0 (W := 0) (by decide) (by decide) (by decide) (by decide) (g := (mkF m 7 #[.val (.int u0), .val (.int u1), .val (.int u2), .val (.int (Int32.ofNat H)), .unset, .unset, .unset, .unset] [(.int (Int32.ofNat H)), (.int u1)])) rfl (by rw [hml]; rfl) (lenOf pd_1 rfl) rfl (by show 2 * 0 + _ ≤ _; exact Nat.le_of_eq rfl) (hb hby at_7) (fun v1 T1 h1 L1 X1 e1 hQ1 => ?_)
  obtain ⟨bxs, xs, rfl, Nq1, Kq1, sz_xs, g_xs, V_xs, h3_xs, hq_xs⟩ := hQ1
  have N1 := Fr.app N0 Nq1
  have Z2 := Nat.le_trans Z0 Kq1.1
  show OwnWk _ _ _ _ (T1.setTop (mkF m 10 #[.val (.int u0), .val (.int u1), .val (.int u2), .val (.int (Int32.ofNat H)), .unset, .unset, .unset, .unset] [(.ref bxs)]))
  refine own_go (fun tgt kst => XS.astore X1.here hx rfl (hb hby at_10) rfl rfl (l' := #[.val (.int u0), .val (.int u1), .val (.int u2), .val (.int (Int32.ofNat H)), .val (.ref bxs), .unset, .unset, .unset]) rfl kst) ?_
  show OwnWk _ _ _ _ (T1.setTop (mkF m 12 #[.val (.int u0), .val (.int u1), .val (.int u2), .val (.int (Int32.ofNat H)), .val (.ref bxs), .unset, .unset, .unset] []))
  refine own_go (fun tgt kst => XS.iloadN X1.here hx rfl (hb hby at_12) rfl  kst) ?_
  show OwnWk _ _ _ _ (T1.setTop (mkF m 13 #[.val (.int u0), .val (.int u1), .val (.int u2), .val (.int (Int32.ofNat H)), .val (.ref bxs), .unset, .unset, .unset] [(.int u2)]))
  refine own_go (fun tgt kst => XS.iloadN X1.here hx rfl (hb hby at_13) rfl  kst) ?_
  show OwnWk _ _ _ _ (T1.setTop (mkF m 14 #[.val (.int u0), .val (.int u1), .val (.int u2), .val (.int (Int32.ofNat H)), .val (.ref bxs), .unset, .unset, .unset] [(.int (Int32.ofNat H)), (.int u2)]))
  have lt3 : bxs < h1.size := V_xs.lt
  refine own_callS X1 hx hZ (y := (⟨"com/example/antipode/antipode/net/TransitionEffectPinLaw", "mk", "(II)[I"⟩ : MethodName)) hown (hw _ (List.mem_of_getElem? (i := 0) rfl)) (hw _ (List.mem_of_getElem? (i := 1) rfl)) (hw _ (List.mem_of_getElem? (i := 2) rfl)) (hw _ (List.mem_of_getElem? (i := 3) rfl)) (by decide) (argsL := [(.int u2), (.int (Int32.ofNat H))]) (rest := []) (rm := ({ frames := 0, cells := 1, slots := 3, locals := 0 } : Room)) (h := h1) (rm1 l Z a0 hw u2 H h1 n0 Z2 hH) e1 (W := 0) (by decide) (by decide) (by decide) (by decide) (g := (mkF m 14 #[.val (.int u0), .val (.int u1), .val (.int u2), .val (.int (Int32.ofNat H)), .val (.ref bxs), .unset, .unset, .unset] [(.int (Int32.ofNat H)), (.int u2)])) rfl (by rw [hml]; rfl) (lenOf pd_1 rfl) rfl (by show 2 * 0 + _ ≤ _; exact Nat.le_of_eq rfl) (hb hby at_14) (fun v4 T4 h4 L4 X4 e4 hQ4 => ?_)
  obtain ⟨bys, ys, rfl, Nq4, Kq4, sz_ys, g_ys, V_ys, h3_ys, hq_ys⟩ := hQ4
  have N4 := Fr.app N1 Nq4
  have F5 := OAr.keep V_xs Kq4 nin0
  have Z6 := Nat.le_trans Z2 Kq4.1
  have ne7 : bxs ≠ bys := Nat.ne_of_lt (Nat.lt_of_lt_of_le lt3 sz_ys)
  show OwnWk _ _ _ _ (T4.setTop (mkF m 17 #[.val (.int u0), .val (.int u1), .val (.int u2), .val (.int (Int32.ofNat H)), .val (.ref bxs), .unset, .unset, .unset] [(.ref bys)]))
  refine own_go (fun tgt kst => XS.astore X4.here hx rfl (hb hby at_17) rfl rfl (l' := #[.val (.int u0), .val (.int u1), .val (.int u2), .val (.int (Int32.ofNat H)), .val (.ref bxs), .val (.ref bys), .unset, .unset]) rfl kst) ?_
  show OwnWk _ _ _ _ (T4.setTop (mkF m 19 #[.val (.int u0), .val (.int u1), .val (.int u2), .val (.int (Int32.ofNat H)), .val (.ref bxs), .val (.ref bys), .unset, .unset] []))
  obtain ⟨T8, h8, X8, e8, E8, A8, D8, -, st8⟩ := newO X4 hx hZ hown (hw _ (List.mem_of_getElem? (i := 5) rfl)) (hw _ (List.mem_of_getElem? (i := 6) rfl)) (hw _ (List.mem_of_getElem? (i := 7) rfl)) e4 (g := (mkF m 19 #[.val (.int u0), .val (.int u1), .val (.int u2), .val (.int (Int32.ofNat H)), .val (.ref bxs), .val (.ref bys), .unset, .unset] [])) rfl (hb hby at_19) (by decide) (by decide)
  obtain ⟨b8, g8⟩ : ∃ z, z = h4.size := ⟨_, rfl⟩
  rw [← g8] at A8 D8 st8
  refine own_go st8 ?_
  have ne9 : bxs ≠ b8 := Nat.ne_of_lt (Nat.lt_of_lt_of_le F5.lt (Nat.le_of_eq g8.symm))
  have ne10 : bys ≠ b8 := Nat.ne_of_lt (Nat.lt_of_lt_of_le V_ys.lt (Nat.le_of_eq g8.symm))
  have ge11 : n0 ≤ b8 := Nat.le_trans Z6 (Nat.le_of_eq g8.symm)
  have F12 := OAr.ext F5 E8
  have F13 := OAr.ext V_ys E8
  have Z14 := Nat.le_trans Z6 E8.1
  have F15 : Fld Z h8 b8 "com/example/antipode/antipode/net/Transition" "id" "Ljava/lang/String;" .null := D8 (Or.inr (hw _ (List.mem_of_getElem? (i := 24) rfl))) (ty := (.object "java/lang/String")) (by decide)
  have F16 : Fld Z h8 b8 "com/example/antipode/antipode/net/Transition" "label" "Ljava/lang/String;" .null := D8 (Or.inr (hw _ (List.mem_of_getElem? (i := 26) rfl))) (ty := (.object "java/lang/String")) (by decide)
  have F17 : Fld Z h8 b8 "com/example/antipode/antipode/net/Transition" "inputs" "[I" .null := D8 (Or.inr (hw _ (List.mem_of_getElem? (i := 28) rfl))) (ty := (.array .int)) (by decide)
  have F18 : Fld Z h8 b8 "com/example/antipode/antipode/net/Transition" "outputs" "[I" .null := D8 (Or.inr (hw _ (List.mem_of_getElem? (i := 30) rfl))) (ty := (.array .int)) (by decide)
  show OwnWk _ _ _ _ (T8.setTop (mkF m 22 #[.val (.int u0), .val (.int u1), .val (.int u2), .val (.int (Int32.ofNat H)), .val (.ref bxs), .val (.ref bys), .unset, .unset] [(.ref b8)]))
  refine own_go (fun tgt kst => XS.dup X8.here hx rfl (hb hby at_22) rfl rfl kst) ?_
  show OwnWk _ _ _ _ (T8.setTop (mkF m 23 #[.val (.int u0), .val (.int u1), .val (.int u2), .val (.int (Int32.ofNat H)), .val (.ref bxs), .val (.ref bys), .unset, .unset] [(.ref b8), (.ref b8)]))
  have X19s : Stand _ _ _ _ (s.setVm s.vm) _ _ _ _ _ _ _ _ _ := X8
  have hS : s.Since s.vm 0 := (State.WarmedH.refl s).since 0
  have hSk := Nat.zero_le h8.size
  have wS : ∀ a ∈ Bundle.stringAtoms, a.before a0 Z = true := fun a ha => by
    simp only [Bundle.stringAtoms, List.mem_cons, List.not_mem_nil, or_false] at ha
    rcases ha with rfl | rfl | rfl | rfl | rfl | rfl | rfl
    · exact (hw _ (List.mem_of_getElem? (i := 9) rfl))
    · exact (hw _ (List.mem_of_getElem? (i := 10) rfl))
    · exact (hw _ (List.mem_of_getElem? (i := 11) rfl))
    · exact (hw _ (List.mem_of_getElem? (i := 12) rfl))
    · exact (hw _ (List.mem_of_getElem? (i := 13) rfl))
    · exact (hw _ (List.mem_of_getElem? (i := 14) rfl))
    · exact (hw _ (List.mem_of_getElem? (i := 15) rfl))
  obtain ⟨sa19, T19, h19, kk19, X19, e19, E19, hS19, hSk19, hZ19, hown19, st19⟩ := ldcS X19s hx hZ hown (hw _ (List.mem_of_getElem? (i := 8) rfl)) wS e8 hS hSk (g := (mkF m 23 #[.val (.int u0), .val (.int u1), .val (.int u2), .val (.int (Int32.ofNat H)), .val (.ref bxs), .val (.ref bys), .unset, .unset] [(.ref b8), (.ref b8)])) rfl (hb hby at_23) (n := 4) (by decide) (by decide) (by decide) (by decide)
  refine own_go st19 ?_
  have hS := hS19
  have hZ := hZ19
  have hown := hown19
  have F20 := OAr.ext F12 E19
  have F21 := OAr.ext F13 E19
  have F22 := Exa.ext E19 A8
  have F23 := Fld.ext E19 F15
  have F24 := Fld.ext E19 F16
  have F25 := Fld.ext E19 F17
  have F26 := Fld.ext E19 F18
  have Z27 := Nat.le_trans Z14 E19.1
  show OwnWk _ _ _ _ (T19.setTop (mkF m 25 #[.val (.int u0), .val (.int u1), .val (.int u2), .val (.int (Int32.ofNat H)), .val (.ref bxs), .val (.ref bys), .unset, .unset] [(.ref sa19), (.ref b8), (.ref b8)]))
  obtain ⟨sa28, T28, h28, kk28, X28, e28, E28, hS28, hSk28, hZ28, hown28, st28⟩ := ldcS X19 hx hZ hown (hw _ (List.mem_of_getElem? (i := 16) rfl)) wS e19 hS hSk19 (g := (mkF m 25 #[.val (.int u0), .val (.int u1), .val (.int u2), .val (.int (Int32.ofNat H)), .val (.ref bxs), .val (.ref bys), .unset, .unset] [(.ref sa19), (.ref b8), (.ref b8)])) rfl (hb hby at_25) (n := 4) (by decide) (by decide) (by decide) (by decide)
  refine own_go st28 ?_
  have hS := hS28
  have hZ := hZ28
  have hown := hown28
  have F29 := OAr.ext F20 E28
  have F30 := OAr.ext F21 E28
  have F31 := Exa.ext E28 F22
  have F32 := Fld.ext E28 F23
  have F33 := Fld.ext E28 F24
  have F34 := Fld.ext E28 F25
  have F35 := Fld.ext E28 F26
  have Z36 := Nat.le_trans Z27 E28.1
  show OwnWk _ _ _ _ (T28.setTop (mkF m 27 #[.val (.int u0), .val (.int u1), .val (.int u2), .val (.int (Int32.ofNat H)), .val (.ref bxs), .val (.ref bys), .unset, .unset] [(.ref sa28), (.ref sa19), (.ref b8), (.ref b8)]))
  refine own_go (fun tgt kst => XS.aload X28.here hx rfl (hb hby at_27) rfl rfl  kst) ?_
  show OwnWk _ _ _ _ (T28.setTop (mkF m 29 #[.val (.int u0), .val (.int u1), .val (.int u2), .val (.int (Int32.ofNat H)), .val (.ref bxs), .val (.ref bys), .unset, .unset] [(.ref bxs), (.ref sa28), (.ref sa19), (.ref b8), (.ref b8)]))
  refine own_go (fun tgt kst => XS.aload X28.here hx rfl (hb hby at_29) rfl rfl  kst) ?_
  show OwnWk _ _ _ _ (T28.setTop (mkF m 31 #[.val (.int u0), .val (.int u1), .val (.int u2), .val (.int (Int32.ofNat H)), .val (.ref bxs), .val (.ref bys), .unset, .unset] [(.ref bys), (.ref bxs), (.ref sa28), (.ref sa19), (.ref b8), (.ref b8)]))
  refine own_callC X28 hx hZ (y := (⟨"com/example/antipode/antipode/net/Transition", "<init>", "(Ljava/lang/String;Ljava/lang/String;[I[I)V"⟩ : MethodName)) hown rfl (hw _ (List.mem_of_getElem? (i := 17) rfl)) (hw _ (List.mem_of_getElem? (i := 18) rfl)) (hw _ (List.mem_of_getElem? (i := 7) rfl)) (hw _ (List.mem_of_getElem? (i := 19) rfl)) (by decide) (a := b8) (argsL := [(.ref sa19), (.ref sa28), (.ref bxs), (.ref bys)]) (rest := [(.ref b8)]) (rm := ({ frames := 1, cells := 0, slots := 0, locals := 12 } : Room)) (h := h28) (rm2 l Z a0 hw b8 sa19 sa28 bxs bys h28 n0 Z36 F31 ge11 F32 F33 F34 F35) e28 (W := 1) (by decide) (by decide) (by decide) (by decide) (g := (mkF m 31 #[.val (.int u0), .val (.int u1), .val (.int u2), .val (.int (Int32.ofNat H)), .val (.ref bxs), .val (.ref bys), .unset, .unset] [(.ref bys), (.ref bxs), (.ref sa28), (.ref sa19), (.ref b8), (.ref b8)])) rfl (by rw [hml]; rfl) (lenOf pd_2 rfl) rfl (by show 2 * 0 + _ ≤ _; exact Nat.le_of_eq rfl) (hb hby at_31) (fun v37 T37 h37 L37 X37 e37 hQ37 => ?_)
  obtain ⟨rfl, Nq37, Kq37, Fi37, Fo37⟩ := hQ37
  have N37 := Fr.app N4 Nq37
  have F38 := OAr.keep F29 Kq37 (ninS ne9 nin0)
  have F39 := OAr.keep F30 Kq37 (ninS ne10 nin0)
  have F40 := Exa.keep F31 Kq37
  have Z41 := Nat.le_trans Z36 Kq37.1
  have Z42 := Nat.le_trans hSk28 Kq37.1
  show OwnWk _ _ _ _ (T37.setTop (mkF m 34 #[.val (.int u0), .val (.int u1), .val (.int u2), .val (.int (Int32.ofNat H)), .val (.ref bxs), .val (.ref bys), .unset, .unset] [(.ref b8)]))
  refine own_go (fun tgt kst => XS.astore X37.here hx rfl (hb hby at_34) rfl rfl (l' := #[.val (.int u0), .val (.int u1), .val (.int u2), .val (.int (Int32.ofNat H)), .val (.ref bxs), .val (.ref bys), .val (.ref b8), .unset]) rfl kst) ?_
  show OwnWk _ _ _ _ (T37.setTop (mkF m 36 #[.val (.int u0), .val (.int u1), .val (.int u2), .val (.int (Int32.ofNat H)), .val (.ref bxs), .val (.ref bys), .val (.ref b8), .unset] []))
  refine own_go (fun tgt kst => XS.aload X37.here hx rfl (hb hby at_36) rfl rfl  kst) ?_
  show OwnWk _ _ _ _ (T37.setTop (mkF m 38 #[.val (.int u0), .val (.int u1), .val (.int u2), .val (.int (Int32.ofNat H)), .val (.ref bxs), .val (.ref bys), .val (.ref b8), .unset] [(.ref b8)]))
  refine own_go (fun tgt kst => XS.iloadN X37.here hx rfl (hb hby at_38) rfl  kst) ?_
  show OwnWk _ _ _ _ (T37.setTop (mkF m 39 #[.val (.int u0), .val (.int u1), .val (.int u2), .val (.int (Int32.ofNat H)), .val (.ref bxs), .val (.ref bys), .val (.ref b8), .unset] [(.int (Int32.ofNat H)), (.ref b8)]))
  refine own_callV X37 hx hZ (y := (⟨"com/example/antipode/antipode/net/Transition", "effect", "(I)[I"⟩ : MethodName)) (z := (⟨"com/example/antipode/antipode/net/Transition", "effect", "(I)[I"⟩ : MethodName)) hown (hw _ (List.mem_of_getElem? (i := 31) rfl)) (hw _ (List.mem_of_getElem? (i := 32) rfl)) (notFace_of_selects (args := #[]) (mvT hZ (hw _ (List.mem_of_getElem? (i := 34) rfl)))) (hw _ (List.mem_of_getElem? (i := 34) rfl)) (hw _ (List.mem_of_getElem? (i := 33) rfl)) (hw _ (List.mem_of_getElem? (i := 7) rfl)) (hw _ (List.mem_of_getElem? (i := 35) rfl)) (by decide) (a := b8) F40 (argsL := [(.int (Int32.ofNat H))]) (rest := []) (rm := ({ frames := 0, cells := 1, slots := 7, locals := 0 } : Room)) (h := h37) (rm4 l Z a0 hw b8 bxs bys H xs ys h37 n0 Z41 Fi37 Fo37 F38 F39 hH h3_xs h3_ys hq_xs hq_ys) e37 (W := 0) (by decide) (by decide) (by decide) (by decide) (g := (mkF m 39 #[.val (.int u0), .val (.int u1), .val (.int u2), .val (.int (Int32.ofNat H)), .val (.ref bxs), .val (.ref bys), .val (.ref b8), .unset] [(.int (Int32.ofNat H)), (.ref b8)])) rfl (by rw [hml]; rfl) (lenOf pd_3 rfl) rfl (by show 2 * 0 + _ ≤ _; exact Nat.le_of_eq rfl) (hb hby at_39) (fun v43 T43 h43 L43 X43 e43 hQ43 => ?_)
  obtain ⟨bcol, rfl, Nq43, Kq43, sz_c, V_c⟩ := hQ43
  have N43 := Fr.app N37 Nq43
  have F44 := OAr.keep F38 Kq43 nin0
  have F45 := OAr.keep F39 Kq43 nin0
  have F46 := Exa.keep F40 Kq43
  have F47 := Fld.keep Fi37 Kq43 nin0
  have F48 := Fld.keep Fo37 Kq43 nin0
  have Z49 := Nat.le_trans Z41 Kq43.1
  have Z50 := Nat.le_trans Z42 Kq43.1
  show OwnWk _ _ _ _ (T43.setTop (mkF m 42 #[.val (.int u0), .val (.int u1), .val (.int u2), .val (.int (Int32.ofNat H)), .val (.ref bxs), .val (.ref bys), .val (.ref b8), .unset] [(.ref bcol)]))
  refine own_go (fun tgt kst => XS.astore X43.here hx rfl (hb hby at_42) rfl rfl (l' := #[.val (.int u0), .val (.int u1), .val (.int u2), .val (.int (Int32.ofNat H)), .val (.ref bxs), .val (.ref bys), .val (.ref b8), .val (.ref bcol)]) rfl kst) ?_
  show OwnWk _ _ _ _ (T43.setTop (mkF m 44 #[.val (.int u0), .val (.int u1), .val (.int u2), .val (.int (Int32.ofNat H)), .val (.ref bxs), .val (.ref bys), .val (.ref b8), .val (.ref bcol)] []))
  refine own_go (fun tgt kst => XS.aload X43.here hx rfl (hb hby at_44) rfl rfl  kst) ?_
  show OwnWk _ _ _ _ (T43.setTop (mkF m 46 #[.val (.int u0), .val (.int u1), .val (.int u2), .val (.int (Int32.ofNat H)), .val (.ref bxs), .val (.ref bys), .val (.ref b8), .val (.ref bcol)] [(.ref bcol)]))
  refine own_go (fun tgt kst => XS.ifnullNo X43.here hx rfl (hb hby at_46) rfl kst) ?_
  show OwnWk _ _ _ _ (T43.setTop (mkF m 49 #[.val (.int u0), .val (.int u1), .val (.int u2), .val (.int (Int32.ofNat H)), .val (.ref bxs), .val (.ref bys), .val (.ref b8), .val (.ref bcol)] []))
  refine own_go (fun tgt kst => XS.aload X43.here hx rfl (hb hby at_49) rfl rfl  kst) ?_
  show OwnWk _ _ _ _ (T43.setTop (mkF m 51 #[.val (.int u0), .val (.int u1), .val (.int u2), .val (.int (Int32.ofNat H)), .val (.ref bxs), .val (.ref bys), .val (.ref b8), .val (.ref bcol)] [(.ref bcol)]))
  refine own_len X43 hx hZ e43 V_c (g := (mkF m 51 #[.val (.int u0), .val (.int u1), .val (.int u2), .val (.int (Int32.ofNat H)), .val (.ref bxs), .val (.ref bys), .val (.ref b8), .val (.ref bcol)] [(.ref bcol)])) rfl rfl (hb hby at_51) (N := (Int32.ofNat H)) (by rw [own_n_len, own_eff_len]) ?_
  show OwnWk _ _ _ _ (T43.setTop (mkF m 52 #[.val (.int u0), .val (.int u1), .val (.int u2), .val (.int (Int32.ofNat H)), .val (.ref bxs), .val (.ref bys), .val (.ref b8), .val (.ref bcol)] [(.int (Int32.ofNat H))]))
  refine own_go (fun tgt kst => XS.iloadN X43.here hx rfl (hb hby at_52) rfl  kst) ?_
  show OwnWk _ _ _ _ (T43.setTop (mkF m 53 #[.val (.int u0), .val (.int u1), .val (.int u2), .val (.int (Int32.ofNat H)), .val (.ref bxs), .val (.ref bys), .val (.ref b8), .val (.ref bcol)] [(.int (Int32.ofNat H)), (.int (Int32.ofNat H))]))
  refine own_go (fun tgt kst => XS.icmpYes X43.here hx rfl (pc0 := 53) (pc' := 58) rfl (hb hby at_53) rfl (teq rfl).1 (by decide) (by decide) kst) ?_
  show OwnWk _ _ _ _ (T43.setTop (mkF m 58 #[.val (.int u0), .val (.int u1), .val (.int u2), .val (.int (Int32.ofNat H)), .val (.ref bxs), .val (.ref bys), .val (.ref b8), .val (.ref bcol)] []))
  refine own_go (fun tgt kst => XS.aload X43.here hx rfl (hb hby at_58) rfl rfl  kst) ?_
  show OwnWk _ _ _ _ (T43.setTop (mkF m 60 #[.val (.int u0), .val (.int u1), .val (.int u2), .val (.int (Int32.ofNat H)), .val (.ref bxs), .val (.ref bys), .val (.ref b8), .val (.ref bcol)] [(.ref bcol)]))
  refine own_go (fun tgt kst => XS.aload X43.here hx rfl (hb hby at_60) rfl rfl  kst) ?_
  show OwnWk _ _ _ _ (T43.setTop (mkF m 62 #[.val (.int u0), .val (.int u1), .val (.int u2), .val (.int (Int32.ofNat H)), .val (.ref bxs), .val (.ref bys), .val (.ref b8), .val (.ref bcol)] [(.ref bxs), (.ref bcol)]))
  refine own_go (fun tgt kst => XS.aload X43.here hx rfl (hb hby at_62) rfl rfl  kst) ?_
  show OwnWk _ _ _ _ (T43.setTop (mkF m 64 #[.val (.int u0), .val (.int u1), .val (.int u2), .val (.int (Int32.ofNat H)), .val (.ref bxs), .val (.ref bys), .val (.ref b8), .val (.ref bcol)] [(.ref bys), (.ref bxs), (.ref bcol)]))
  refine own_go (fun tgt kst => XS.iconst X43.here hx rfl (hb hby at_64) kst) ?_
  show OwnWk _ _ _ _ (T43.setTop (mkF m 65 #[.val (.int u0), .val (.int u1), .val (.int u2), .val (.int (Int32.ofNat H)), .val (.ref bxs), .val (.ref bys), .val (.ref b8), .val (.ref bcol)] [(.int (0 : Int32)), (.ref bys), (.ref bxs), (.ref bcol)]))
  refine own_callS X43 hx hZ (y := (⟨"com/example/antipode/antipode/net/TransitionEffectPinLaw", "ok", "([I[I[II)Z"⟩ : MethodName)) hown (hw _ (List.mem_of_getElem? (i := 36) rfl)) (hw _ (List.mem_of_getElem? (i := 37) rfl)) (hw _ (List.mem_of_getElem? (i := 2) rfl)) (hw _ (List.mem_of_getElem? (i := 38) rfl)) (by decide) (argsL := [(.ref bcol), (.ref bxs), (.ref bys), (.int (0 : Int32))]) (rest := []) (rm := ({ frames := 1, cells := 0, slots := 0, locals := 16 } : Room)) (h := h43) (rm5 l Z a0 hw bcol bxs bys (own_eff H xs ys) xs ys 0 h43 n0 Z49 V_c F44 F45 h3_xs h3_ys (by decide) (by rw [own_eff_len]; exact hH)) e43 (W := 0) (by decide) (by decide) (by decide) (by decide) (g := (mkF m 65 #[.val (.int u0), .val (.int u1), .val (.int u2), .val (.int (Int32.ofNat H)), .val (.ref bxs), .val (.ref bys), .val (.ref b8), .val (.ref bcol)] [(.int (0 : Int32)), (.ref bys), (.ref bxs), (.ref bcol)])) rfl (by rw [hml]; rfl) (lenOf pd_4 rfl) rfl (by show 2 * 0 + _ ≤ _; exact Nat.le_of_eq rfl) (hb hby at_65) (fun v51 T51 h51 L51 X51 e51 hQ51 => ?_)
  obtain ⟨rfl, Nq51, q51⟩ := hQ51
  have N51 := Fr.app N43 Nq51
  rw [q51] at e51
  show OwnWk _ _ _ _ (T51.setTop (mkF m 68 #[.val (.int u0), .val (.int u1), .val (.int u2), .val (.int (Int32.ofNat H)), .val (.ref bxs), .val (.ref bys), .val (.ref b8), .val (.ref bcol)] [(.int (own_okc (own_eff H xs ys) xs ys 0))]))
  refine own_go (fun tgt kst => XS.ifNo X51.here hx rfl (hb hby at_68) rfl ((if0 _ _).trans (feq (by rw [own_finok hH (by decide) hq_xs hq_ys]; decide)).1) kst) ?_
  show OwnWk _ _ _ _ (T51.setTop (mkF m 71 #[.val (.int u0), .val (.int u1), .val (.int u2), .val (.int (Int32.ofNat H)), .val (.ref bxs), .val (.ref bys), .val (.ref b8), .val (.ref bcol)] []))
  refine own_go (fun tgt kst => XS.aload X51.here hx rfl (hb hby at_71) rfl rfl  kst) ?_
  show OwnWk _ _ _ _ (T51.setTop (mkF m 73 #[.val (.int u0), .val (.int u1), .val (.int u2), .val (.int (Int32.ofNat H)), .val (.ref bxs), .val (.ref bys), .val (.ref b8), .val (.ref bcol)] [(.ref bcol)]))
  refine own_go (fun tgt kst => XS.aload X51.here hx rfl (hb hby at_73) rfl rfl  kst) ?_
  show OwnWk _ _ _ _ (T51.setTop (mkF m 75 #[.val (.int u0), .val (.int u1), .val (.int u2), .val (.int (Int32.ofNat H)), .val (.ref bxs), .val (.ref bys), .val (.ref b8), .val (.ref bcol)] [(.ref bxs), (.ref bcol)]))
  refine own_go (fun tgt kst => XS.aload X51.here hx rfl (hb hby at_75) rfl rfl  kst) ?_
  show OwnWk _ _ _ _ (T51.setTop (mkF m 77 #[.val (.int u0), .val (.int u1), .val (.int u2), .val (.int (Int32.ofNat H)), .val (.ref bxs), .val (.ref bys), .val (.ref b8), .val (.ref bcol)] [(.ref bys), (.ref bxs), (.ref bcol)]))
  refine own_go (fun tgt kst => XS.iconst X51.here hx rfl (hb hby at_77) kst) ?_
  show OwnWk _ _ _ _ (T51.setTop (mkF m 78 #[.val (.int u0), .val (.int u1), .val (.int u2), .val (.int (Int32.ofNat H)), .val (.ref bxs), .val (.ref bys), .val (.ref b8), .val (.ref bcol)] [(.int (1 : Int32)), (.ref bys), (.ref bxs), (.ref bcol)]))
  refine own_callS X51 hx hZ (y := (⟨"com/example/antipode/antipode/net/TransitionEffectPinLaw", "ok", "([I[I[II)Z"⟩ : MethodName)) hown (hw _ (List.mem_of_getElem? (i := 36) rfl)) (hw _ (List.mem_of_getElem? (i := 37) rfl)) (hw _ (List.mem_of_getElem? (i := 2) rfl)) (hw _ (List.mem_of_getElem? (i := 38) rfl)) (by decide) (argsL := [(.ref bcol), (.ref bxs), (.ref bys), (.int (1 : Int32))]) (rest := []) (rm := ({ frames := 1, cells := 0, slots := 0, locals := 16 } : Room)) (h := h43) (rm5 l Z a0 hw bcol bxs bys (own_eff H xs ys) xs ys 1 h43 n0 Z49 V_c F44 F45 h3_xs h3_ys (by decide) (by rw [own_eff_len]; exact hH)) e51 (W := 0) (by decide) (by decide) (by decide) (by decide) (g := (mkF m 78 #[.val (.int u0), .val (.int u1), .val (.int u2), .val (.int (Int32.ofNat H)), .val (.ref bxs), .val (.ref bys), .val (.ref b8), .val (.ref bcol)] [(.int (1 : Int32)), (.ref bys), (.ref bxs), (.ref bcol)])) rfl (by rw [hml]; rfl) (lenOf pd_4 rfl) rfl (by show 2 * 0 + _ ≤ _; exact Nat.le_of_eq rfl) (hb hby at_78) (fun v52 T52 h52 L52 X52 e52 hQ52 => ?_)
  obtain ⟨rfl, Nq52, q52⟩ := hQ52
  have N52 := Fr.app N51 Nq52
  rw [q52] at e52
  show OwnWk _ _ _ _ (T52.setTop (mkF m 81 #[.val (.int u0), .val (.int u1), .val (.int u2), .val (.int (Int32.ofNat H)), .val (.ref bxs), .val (.ref bys), .val (.ref b8), .val (.ref bcol)] [(.int (own_okc (own_eff H xs ys) xs ys 1))]))
  refine own_go (fun tgt kst => XS.ifNo X52.here hx rfl (hb hby at_81) rfl ((if0 _ _).trans (feq (by rw [own_finok hH (by decide) hq_xs hq_ys]; decide)).1) kst) ?_
  show OwnWk _ _ _ _ (T52.setTop (mkF m 84 #[.val (.int u0), .val (.int u1), .val (.int u2), .val (.int (Int32.ofNat H)), .val (.ref bxs), .val (.ref bys), .val (.ref b8), .val (.ref bcol)] []))
  refine own_go (fun tgt kst => XS.aload X52.here hx rfl (hb hby at_84) rfl rfl  kst) ?_
  show OwnWk _ _ _ _ (T52.setTop (mkF m 86 #[.val (.int u0), .val (.int u1), .val (.int u2), .val (.int (Int32.ofNat H)), .val (.ref bxs), .val (.ref bys), .val (.ref b8), .val (.ref bcol)] [(.ref bcol)]))
  refine own_go (fun tgt kst => XS.aload X52.here hx rfl (hb hby at_86) rfl rfl  kst) ?_
  show OwnWk _ _ _ _ (T52.setTop (mkF m 88 #[.val (.int u0), .val (.int u1), .val (.int u2), .val (.int (Int32.ofNat H)), .val (.ref bxs), .val (.ref bys), .val (.ref b8), .val (.ref bcol)] [(.ref bxs), (.ref bcol)]))
  refine own_go (fun tgt kst => XS.aload X52.here hx rfl (hb hby at_88) rfl rfl  kst) ?_
  show OwnWk _ _ _ _ (T52.setTop (mkF m 90 #[.val (.int u0), .val (.int u1), .val (.int u2), .val (.int (Int32.ofNat H)), .val (.ref bxs), .val (.ref bys), .val (.ref b8), .val (.ref bcol)] [(.ref bys), (.ref bxs), (.ref bcol)]))
  refine own_go (fun tgt kst => XS.iconst X52.here hx rfl (hb hby at_90) kst) ?_
  show OwnWk _ _ _ _ (T52.setTop (mkF m 91 #[.val (.int u0), .val (.int u1), .val (.int u2), .val (.int (Int32.ofNat H)), .val (.ref bxs), .val (.ref bys), .val (.ref b8), .val (.ref bcol)] [(.int (2 : Int32)), (.ref bys), (.ref bxs), (.ref bcol)]))
  refine own_callS X52 hx hZ (y := (⟨"com/example/antipode/antipode/net/TransitionEffectPinLaw", "ok", "([I[I[II)Z"⟩ : MethodName)) hown (hw _ (List.mem_of_getElem? (i := 36) rfl)) (hw _ (List.mem_of_getElem? (i := 37) rfl)) (hw _ (List.mem_of_getElem? (i := 2) rfl)) (hw _ (List.mem_of_getElem? (i := 38) rfl)) (by decide) (argsL := [(.ref bcol), (.ref bxs), (.ref bys), (.int (2 : Int32))]) (rest := []) (rm := ({ frames := 1, cells := 0, slots := 0, locals := 16 } : Room)) (h := h43) (rm5 l Z a0 hw bcol bxs bys (own_eff H xs ys) xs ys 2 h43 n0 Z49 V_c F44 F45 h3_xs h3_ys (by decide) (by rw [own_eff_len]; exact hH)) e52 (W := 0) (by decide) (by decide) (by decide) (by decide) (g := (mkF m 91 #[.val (.int u0), .val (.int u1), .val (.int u2), .val (.int (Int32.ofNat H)), .val (.ref bxs), .val (.ref bys), .val (.ref b8), .val (.ref bcol)] [(.int (2 : Int32)), (.ref bys), (.ref bxs), (.ref bcol)])) rfl (by rw [hml]; rfl) (lenOf pd_4 rfl) rfl (by show 2 * 0 + _ ≤ _; exact Nat.le_of_eq rfl) (hb hby at_91) (fun v53 T53 h53 L53 X53 e53 hQ53 => ?_)
  obtain ⟨rfl, Nq53, q53⟩ := hQ53
  have N53 := Fr.app N52 Nq53
  rw [q53] at e53
  show OwnWk _ _ _ _ (T53.setTop (mkF m 94 #[.val (.int u0), .val (.int u1), .val (.int u2), .val (.int (Int32.ofNat H)), .val (.ref bxs), .val (.ref bys), .val (.ref b8), .val (.ref bcol)] [(.int (own_okc (own_eff H xs ys) xs ys 2))]))
  refine own_go (fun tgt kst => XS.ifNo X53.here hx rfl (hb hby at_94) rfl ((if0 _ _).trans (feq (by rw [own_finok hH (by decide) hq_xs hq_ys]; decide)).1) kst) ?_
  show OwnWk _ _ _ _ (T53.setTop (mkF m 97 #[.val (.int u0), .val (.int u1), .val (.int u2), .val (.int (Int32.ofNat H)), .val (.ref bxs), .val (.ref bys), .val (.ref b8), .val (.ref bcol)] []))
  refine own_go (fun tgt kst => XS.aload X53.here hx rfl (hb hby at_97) rfl rfl  kst) ?_
  show OwnWk _ _ _ _ (T53.setTop (mkF m 99 #[.val (.int u0), .val (.int u1), .val (.int u2), .val (.int (Int32.ofNat H)), .val (.ref bxs), .val (.ref bys), .val (.ref b8), .val (.ref bcol)] [(.ref bcol)]))
  refine own_go (fun tgt kst => XS.aload X53.here hx rfl (hb hby at_99) rfl rfl  kst) ?_
  show OwnWk _ _ _ _ (T53.setTop (mkF m 101 #[.val (.int u0), .val (.int u1), .val (.int u2), .val (.int (Int32.ofNat H)), .val (.ref bxs), .val (.ref bys), .val (.ref b8), .val (.ref bcol)] [(.ref bxs), (.ref bcol)]))
  refine own_go (fun tgt kst => XS.aload X53.here hx rfl (hb hby at_101) rfl rfl  kst) ?_
  show OwnWk _ _ _ _ (T53.setTop (mkF m 103 #[.val (.int u0), .val (.int u1), .val (.int u2), .val (.int (Int32.ofNat H)), .val (.ref bxs), .val (.ref bys), .val (.ref b8), .val (.ref bcol)] [(.ref bys), (.ref bxs), (.ref bcol)]))
  refine own_go (fun tgt kst => XS.iconst X53.here hx rfl (hb hby at_103) kst) ?_
  show OwnWk _ _ _ _ (T53.setTop (mkF m 104 #[.val (.int u0), .val (.int u1), .val (.int u2), .val (.int (Int32.ofNat H)), .val (.ref bxs), .val (.ref bys), .val (.ref b8), .val (.ref bcol)] [(.int (3 : Int32)), (.ref bys), (.ref bxs), (.ref bcol)]))
  refine own_callS X53 hx hZ (y := (⟨"com/example/antipode/antipode/net/TransitionEffectPinLaw", "ok", "([I[I[II)Z"⟩ : MethodName)) hown (hw _ (List.mem_of_getElem? (i := 36) rfl)) (hw _ (List.mem_of_getElem? (i := 37) rfl)) (hw _ (List.mem_of_getElem? (i := 2) rfl)) (hw _ (List.mem_of_getElem? (i := 38) rfl)) (by decide) (argsL := [(.ref bcol), (.ref bxs), (.ref bys), (.int (3 : Int32))]) (rest := []) (rm := ({ frames := 1, cells := 0, slots := 0, locals := 16 } : Room)) (h := h43) (rm5 l Z a0 hw bcol bxs bys (own_eff H xs ys) xs ys 3 h43 n0 Z49 V_c F44 F45 h3_xs h3_ys (by decide) (by rw [own_eff_len]; exact hH)) e53 (W := 0) (by decide) (by decide) (by decide) (by decide) (g := (mkF m 104 #[.val (.int u0), .val (.int u1), .val (.int u2), .val (.int (Int32.ofNat H)), .val (.ref bxs), .val (.ref bys), .val (.ref b8), .val (.ref bcol)] [(.int (3 : Int32)), (.ref bys), (.ref bxs), (.ref bcol)])) rfl (by rw [hml]; rfl) (lenOf pd_4 rfl) rfl (by show 2 * 0 + _ ≤ _; exact Nat.le_of_eq rfl) (hb hby at_104) (fun v54 T54 h54 L54 X54 e54 hQ54 => ?_)
  obtain ⟨rfl, Nq54, q54⟩ := hQ54
  have N54 := Fr.app N53 Nq54
  rw [q54] at e54
  show OwnWk _ _ _ _ (T54.setTop (mkF m 107 #[.val (.int u0), .val (.int u1), .val (.int u2), .val (.int (Int32.ofNat H)), .val (.ref bxs), .val (.ref bys), .val (.ref b8), .val (.ref bcol)] [(.int (own_okc (own_eff H xs ys) xs ys 3))]))
  refine own_go (fun tgt kst => XS.ifNo X54.here hx rfl (hb hby at_107) rfl ((if0 _ _).trans (feq (by rw [own_finok hH (by decide) hq_xs hq_ys]; decide)).1) kst) ?_
  show OwnWk _ _ _ _ (T54.setTop (mkF m 110 #[.val (.int u0), .val (.int u1), .val (.int u2), .val (.int (Int32.ofNat H)), .val (.ref bxs), .val (.ref bys), .val (.ref b8), .val (.ref bcol)] []))
  refine own_go (fun tgt kst => XS.aload X54.here hx rfl (hb hby at_110) rfl rfl  kst) ?_
  show OwnWk _ _ _ _ (T54.setTop (mkF m 112 #[.val (.int u0), .val (.int u1), .val (.int u2), .val (.int (Int32.ofNat H)), .val (.ref bxs), .val (.ref bys), .val (.ref b8), .val (.ref bcol)] [(.ref bcol)]))
  refine own_go (fun tgt kst => XS.aload X54.here hx rfl (hb hby at_112) rfl rfl  kst) ?_
  show OwnWk _ _ _ _ (T54.setTop (mkF m 114 #[.val (.int u0), .val (.int u1), .val (.int u2), .val (.int (Int32.ofNat H)), .val (.ref bxs), .val (.ref bys), .val (.ref b8), .val (.ref bcol)] [(.ref bxs), (.ref bcol)]))
  refine own_go (fun tgt kst => XS.aload X54.here hx rfl (hb hby at_114) rfl rfl  kst) ?_
  show OwnWk _ _ _ _ (T54.setTop (mkF m 116 #[.val (.int u0), .val (.int u1), .val (.int u2), .val (.int (Int32.ofNat H)), .val (.ref bxs), .val (.ref bys), .val (.ref b8), .val (.ref bcol)] [(.ref bys), (.ref bxs), (.ref bcol)]))
  refine own_go (fun tgt kst => XS.iconst X54.here hx rfl (hb hby at_116) kst) ?_
  show OwnWk _ _ _ _ (T54.setTop (mkF m 117 #[.val (.int u0), .val (.int u1), .val (.int u2), .val (.int (Int32.ofNat H)), .val (.ref bxs), .val (.ref bys), .val (.ref b8), .val (.ref bcol)] [(.int (4 : Int32)), (.ref bys), (.ref bxs), (.ref bcol)]))
  refine own_callS X54 hx hZ (y := (⟨"com/example/antipode/antipode/net/TransitionEffectPinLaw", "ok", "([I[I[II)Z"⟩ : MethodName)) hown (hw _ (List.mem_of_getElem? (i := 36) rfl)) (hw _ (List.mem_of_getElem? (i := 37) rfl)) (hw _ (List.mem_of_getElem? (i := 2) rfl)) (hw _ (List.mem_of_getElem? (i := 38) rfl)) (by decide) (argsL := [(.ref bcol), (.ref bxs), (.ref bys), (.int (4 : Int32))]) (rest := []) (rm := ({ frames := 1, cells := 0, slots := 0, locals := 16 } : Room)) (h := h43) (rm5 l Z a0 hw bcol bxs bys (own_eff H xs ys) xs ys 4 h43 n0 Z49 V_c F44 F45 h3_xs h3_ys (by decide) (by rw [own_eff_len]; exact hH)) e54 (W := 0) (by decide) (by decide) (by decide) (by decide) (g := (mkF m 117 #[.val (.int u0), .val (.int u1), .val (.int u2), .val (.int (Int32.ofNat H)), .val (.ref bxs), .val (.ref bys), .val (.ref b8), .val (.ref bcol)] [(.int (4 : Int32)), (.ref bys), (.ref bxs), (.ref bcol)])) rfl (by rw [hml]; rfl) (lenOf pd_4 rfl) rfl (by show 2 * 0 + _ ≤ _; exact Nat.le_of_eq rfl) (hb hby at_117) (fun v55 T55 h55 L55 X55 e55 hQ55 => ?_)
  obtain ⟨rfl, Nq55, q55⟩ := hQ55
  have N55 := Fr.app N54 Nq55
  rw [q55] at e55
  show OwnWk _ _ _ _ (T55.setTop (mkF m 120 #[.val (.int u0), .val (.int u1), .val (.int u2), .val (.int (Int32.ofNat H)), .val (.ref bxs), .val (.ref bys), .val (.ref b8), .val (.ref bcol)] [(.int (own_okc (own_eff H xs ys) xs ys 4))]))
  refine own_go (fun tgt kst => XS.ifNo X55.here hx rfl (hb hby at_120) rfl ((if0 _ _).trans (feq (by rw [own_finok hH (by decide) hq_xs hq_ys]; decide)).1) kst) ?_
  show OwnWk _ _ _ _ (T55.setTop (mkF m 123 #[.val (.int u0), .val (.int u1), .val (.int u2), .val (.int (Int32.ofNat H)), .val (.ref bxs), .val (.ref bys), .val (.ref b8), .val (.ref bcol)] []))
  refine own_go (fun tgt kst => XS.aload X55.here hx rfl (hb hby at_123) rfl rfl  kst) ?_
  show OwnWk _ _ _ _ (T55.setTop (mkF m 125 #[.val (.int u0), .val (.int u1), .val (.int u2), .val (.int (Int32.ofNat H)), .val (.ref bxs), .val (.ref bys), .val (.ref b8), .val (.ref bcol)] [(.ref bcol)]))
  refine own_go (fun tgt kst => XS.aload X55.here hx rfl (hb hby at_125) rfl rfl  kst) ?_
  show OwnWk _ _ _ _ (T55.setTop (mkF m 127 #[.val (.int u0), .val (.int u1), .val (.int u2), .val (.int (Int32.ofNat H)), .val (.ref bxs), .val (.ref bys), .val (.ref b8), .val (.ref bcol)] [(.ref bxs), (.ref bcol)]))
  refine own_go (fun tgt kst => XS.aload X55.here hx rfl (hb hby at_127) rfl rfl  kst) ?_
  show OwnWk _ _ _ _ (T55.setTop (mkF m 129 #[.val (.int u0), .val (.int u1), .val (.int u2), .val (.int (Int32.ofNat H)), .val (.ref bxs), .val (.ref bys), .val (.ref b8), .val (.ref bcol)] [(.ref bys), (.ref bxs), (.ref bcol)]))
  refine own_go (fun tgt kst => XS.iconst X55.here hx rfl (hb hby at_129) kst) ?_
  show OwnWk _ _ _ _ (T55.setTop (mkF m 130 #[.val (.int u0), .val (.int u1), .val (.int u2), .val (.int (Int32.ofNat H)), .val (.ref bxs), .val (.ref bys), .val (.ref b8), .val (.ref bcol)] [(.int (5 : Int32)), (.ref bys), (.ref bxs), (.ref bcol)]))
  refine own_callS X55 hx hZ (y := (⟨"com/example/antipode/antipode/net/TransitionEffectPinLaw", "ok", "([I[I[II)Z"⟩ : MethodName)) hown (hw _ (List.mem_of_getElem? (i := 36) rfl)) (hw _ (List.mem_of_getElem? (i := 37) rfl)) (hw _ (List.mem_of_getElem? (i := 2) rfl)) (hw _ (List.mem_of_getElem? (i := 38) rfl)) (by decide) (argsL := [(.ref bcol), (.ref bxs), (.ref bys), (.int (5 : Int32))]) (rest := []) (rm := ({ frames := 1, cells := 0, slots := 0, locals := 16 } : Room)) (h := h43) (rm5 l Z a0 hw bcol bxs bys (own_eff H xs ys) xs ys 5 h43 n0 Z49 V_c F44 F45 h3_xs h3_ys (by decide) (by rw [own_eff_len]; exact hH)) e55 (W := 0) (by decide) (by decide) (by decide) (by decide) (g := (mkF m 130 #[.val (.int u0), .val (.int u1), .val (.int u2), .val (.int (Int32.ofNat H)), .val (.ref bxs), .val (.ref bys), .val (.ref b8), .val (.ref bcol)] [(.int (5 : Int32)), (.ref bys), (.ref bxs), (.ref bcol)])) rfl (by rw [hml]; rfl) (lenOf pd_4 rfl) rfl (by show 2 * 0 + _ ≤ _; exact Nat.le_of_eq rfl) (hb hby at_130) (fun v56 T56 h56 L56 X56 e56 hQ56 => ?_)
  obtain ⟨rfl, Nq56, q56⟩ := hQ56
  have N56 := Fr.app N55 Nq56
  rw [q56] at e56
  show OwnWk _ _ _ _ (T56.setTop (mkF m 133 #[.val (.int u0), .val (.int u1), .val (.int u2), .val (.int (Int32.ofNat H)), .val (.ref bxs), .val (.ref bys), .val (.ref b8), .val (.ref bcol)] [(.int (own_okc (own_eff H xs ys) xs ys 5))]))
  refine own_go (fun tgt kst => XS.ifNo X56.here hx rfl (hb hby at_133) rfl ((if0 _ _).trans (feq (by rw [own_finok hH (by decide) hq_xs hq_ys]; decide)).1) kst) ?_
  show OwnWk _ _ _ _ (T56.setTop (mkF m 136 #[.val (.int u0), .val (.int u1), .val (.int u2), .val (.int (Int32.ofNat H)), .val (.ref bxs), .val (.ref bys), .val (.ref b8), .val (.ref bcol)] []))
  refine own_go (fun tgt kst => XS.aload X56.here hx rfl (hb hby at_136) rfl rfl  kst) ?_
  show OwnWk _ _ _ _ (T56.setTop (mkF m 138 #[.val (.int u0), .val (.int u1), .val (.int u2), .val (.int (Int32.ofNat H)), .val (.ref bxs), .val (.ref bys), .val (.ref b8), .val (.ref bcol)] [(.ref bcol)]))
  refine own_go (fun tgt kst => XS.aload X56.here hx rfl (hb hby at_138) rfl rfl  kst) ?_
  show OwnWk _ _ _ _ (T56.setTop (mkF m 140 #[.val (.int u0), .val (.int u1), .val (.int u2), .val (.int (Int32.ofNat H)), .val (.ref bxs), .val (.ref bys), .val (.ref b8), .val (.ref bcol)] [(.ref bxs), (.ref bcol)]))
  refine own_go (fun tgt kst => XS.aload X56.here hx rfl (hb hby at_140) rfl rfl  kst) ?_
  show OwnWk _ _ _ _ (T56.setTop (mkF m 142 #[.val (.int u0), .val (.int u1), .val (.int u2), .val (.int (Int32.ofNat H)), .val (.ref bxs), .val (.ref bys), .val (.ref b8), .val (.ref bcol)] [(.ref bys), (.ref bxs), (.ref bcol)]))
  refine own_go (fun tgt kst => XS.bipush X56.here hx rfl (hb hby at_142) kst) ?_
  show OwnWk _ _ _ _ (T56.setTop (mkF m 144 #[.val (.int u0), .val (.int u1), .val (.int u2), .val (.int (Int32.ofNat H)), .val (.ref bxs), .val (.ref bys), .val (.ref b8), .val (.ref bcol)] [(.int (6 : Int32)), (.ref bys), (.ref bxs), (.ref bcol)]))
  refine own_callS X56 hx hZ (y := (⟨"com/example/antipode/antipode/net/TransitionEffectPinLaw", "ok", "([I[I[II)Z"⟩ : MethodName)) hown (hw _ (List.mem_of_getElem? (i := 36) rfl)) (hw _ (List.mem_of_getElem? (i := 37) rfl)) (hw _ (List.mem_of_getElem? (i := 2) rfl)) (hw _ (List.mem_of_getElem? (i := 38) rfl)) (by decide) (argsL := [(.ref bcol), (.ref bxs), (.ref bys), (.int (6 : Int32))]) (rest := []) (rm := ({ frames := 1, cells := 0, slots := 0, locals := 16 } : Room)) (h := h43) (rm5 l Z a0 hw bcol bxs bys (own_eff H xs ys) xs ys 6 h43 n0 Z49 V_c F44 F45 h3_xs h3_ys (by decide) (by rw [own_eff_len]; exact hH)) e56 (W := 0) (by decide) (by decide) (by decide) (by decide) (g := (mkF m 144 #[.val (.int u0), .val (.int u1), .val (.int u2), .val (.int (Int32.ofNat H)), .val (.ref bxs), .val (.ref bys), .val (.ref b8), .val (.ref bcol)] [(.int (6 : Int32)), (.ref bys), (.ref bxs), (.ref bcol)])) rfl (by rw [hml]; rfl) (lenOf pd_4 rfl) rfl (by show 2 * 0 + _ ≤ _; exact Nat.le_of_eq rfl) (hb hby at_144) (fun v57 T57 h57 L57 X57 e57 hQ57 => ?_)
  obtain ⟨rfl, Nq57, q57⟩ := hQ57
  have N57 := Fr.app N56 Nq57
  rw [q57] at e57
  show OwnWk _ _ _ _ (T57.setTop (mkF m 147 #[.val (.int u0), .val (.int u1), .val (.int u2), .val (.int (Int32.ofNat H)), .val (.ref bxs), .val (.ref bys), .val (.ref b8), .val (.ref bcol)] [(.int (own_okc (own_eff H xs ys) xs ys 6))]))
  refine own_go (fun tgt kst => XS.ifNo X57.here hx rfl (hb hby at_147) rfl ((if0 _ _).trans (feq (by rw [own_finok hH (by decide) hq_xs hq_ys]; decide)).1) kst) ?_
  show OwnWk _ _ _ _ (T57.setTop (mkF m 150 #[.val (.int u0), .val (.int u1), .val (.int u2), .val (.int (Int32.ofNat H)), .val (.ref bxs), .val (.ref bys), .val (.ref b8), .val (.ref bcol)] []))
  refine own_go (fun tgt kst => XS.aload X57.here hx rfl (hb hby at_150) rfl rfl  kst) ?_
  show OwnWk _ _ _ _ (T57.setTop (mkF m 152 #[.val (.int u0), .val (.int u1), .val (.int u2), .val (.int (Int32.ofNat H)), .val (.ref bxs), .val (.ref bys), .val (.ref b8), .val (.ref bcol)] [(.ref bcol)]))
  refine own_go (fun tgt kst => XS.aload X57.here hx rfl (hb hby at_152) rfl rfl  kst) ?_
  show OwnWk _ _ _ _ (T57.setTop (mkF m 154 #[.val (.int u0), .val (.int u1), .val (.int u2), .val (.int (Int32.ofNat H)), .val (.ref bxs), .val (.ref bys), .val (.ref b8), .val (.ref bcol)] [(.ref bxs), (.ref bcol)]))
  refine own_go (fun tgt kst => XS.aload X57.here hx rfl (hb hby at_154) rfl rfl  kst) ?_
  show OwnWk _ _ _ _ (T57.setTop (mkF m 156 #[.val (.int u0), .val (.int u1), .val (.int u2), .val (.int (Int32.ofNat H)), .val (.ref bxs), .val (.ref bys), .val (.ref b8), .val (.ref bcol)] [(.ref bys), (.ref bxs), (.ref bcol)]))
  refine own_go (fun tgt kst => XS.bipush X57.here hx rfl (hb hby at_156) kst) ?_
  show OwnWk _ _ _ _ (T57.setTop (mkF m 158 #[.val (.int u0), .val (.int u1), .val (.int u2), .val (.int (Int32.ofNat H)), .val (.ref bxs), .val (.ref bys), .val (.ref b8), .val (.ref bcol)] [(.int (7 : Int32)), (.ref bys), (.ref bxs), (.ref bcol)]))
  refine own_callS X57 hx hZ (y := (⟨"com/example/antipode/antipode/net/TransitionEffectPinLaw", "ok", "([I[I[II)Z"⟩ : MethodName)) hown (hw _ (List.mem_of_getElem? (i := 36) rfl)) (hw _ (List.mem_of_getElem? (i := 37) rfl)) (hw _ (List.mem_of_getElem? (i := 2) rfl)) (hw _ (List.mem_of_getElem? (i := 38) rfl)) (by decide) (argsL := [(.ref bcol), (.ref bxs), (.ref bys), (.int (7 : Int32))]) (rest := []) (rm := ({ frames := 1, cells := 0, slots := 0, locals := 16 } : Room)) (h := h43) (rm5 l Z a0 hw bcol bxs bys (own_eff H xs ys) xs ys 7 h43 n0 Z49 V_c F44 F45 h3_xs h3_ys (by decide) (by rw [own_eff_len]; exact hH)) e57 (W := 0) (by decide) (by decide) (by decide) (by decide) (g := (mkF m 158 #[.val (.int u0), .val (.int u1), .val (.int u2), .val (.int (Int32.ofNat H)), .val (.ref bxs), .val (.ref bys), .val (.ref b8), .val (.ref bcol)] [(.int (7 : Int32)), (.ref bys), (.ref bxs), (.ref bcol)])) rfl (by rw [hml]; rfl) (lenOf pd_4 rfl) rfl (by show 2 * 0 + _ ≤ _; exact Nat.le_of_eq rfl) (hb hby at_158) (fun v58 T58 h58 L58 X58 e58 hQ58 => ?_)
  obtain ⟨rfl, Nq58, q58⟩ := hQ58
  have N58 := Fr.app N57 Nq58
  rw [q58] at e58
  show OwnWk _ _ _ _ (T58.setTop (mkF m 161 #[.val (.int u0), .val (.int u1), .val (.int u2), .val (.int (Int32.ofNat H)), .val (.ref bxs), .val (.ref bys), .val (.ref b8), .val (.ref bcol)] [(.int (own_okc (own_eff H xs ys) xs ys 7))]))
  refine own_go (fun tgt kst => XS.ifNo X58.here hx rfl (hb hby at_161) rfl ((if0 _ _).trans (feq (by rw [own_finok hH (by decide) hq_xs hq_ys]; decide)).1) kst) ?_
  show OwnWk _ _ _ _ (T58.setTop (mkF m 164 #[.val (.int u0), .val (.int u1), .val (.int u2), .val (.int (Int32.ofNat H)), .val (.ref bxs), .val (.ref bys), .val (.ref b8), .val (.ref bcol)] []))
  refine own_go (fun tgt kst => XS.iconst X58.here hx rfl (hb hby at_164) kst) ?_
  show OwnWk _ _ _ _ (T58.setTop (mkF m 165 #[.val (.int u0), .val (.int u1), .val (.int u2), .val (.int (Int32.ofNat H)), .val (.ref bxs), .val (.ref bys), .val (.ref b8), .val (.ref bcol)] [(.int (1 : Int32))]))
  refine own_go (fun tgt kst => XS.goto X58.here hx rfl (pc0 := 165) (pc' := 169) rfl (hb hby at_165) (by decide) (by decide) kst) ?_
  show OwnWk _ _ _ _ (T58.setTop (mkF m 169 #[.val (.int u0), .val (.int u1), .val (.int u2), .val (.int (Int32.ofNat H)), .val (.ref bxs), .val (.ref bys), .val (.ref b8), .val (.ref bcol)] [(.int (1 : Int32))]))
  exact own_retZW X58 hx hlk hret hS (by rw [e58]; exact Z50) (z' := (1 : Int32)) rfl (hb hby at_169) (by decide) (by decide) (by rw [e58]; exact ⟨rfl, N58⟩)
set_option maxRecDepth 65536 in
set_option maxHeartbeats 40000000 in
theorem comes_1 {Post : Tables → Env → Array Value → State → Outcome → State → Prop} (hpost : ∀ tb e args s v u, (limb_1_1.after args s (.returned v) u = true ∧ limb_1_2.after args s (.returned v) u = true) → ReturnedEndW s (.returned v) u (Jvm.fieldLocs frame_1_writes args s ++ Jvm.arrayLocs frame_1_arrays args s ++ Jvm.staticLocs frame_1_statics s) 24 2176 → Post tb e args s (.returned v) u) :
    ArmFor flags0 classFile x code maxLocals ret World_1 tables_1 room_1 Calls_1 rest_1 Pre_1 Post := by
  intro l hfl _ _ p e ha hc hk s m args below hf hA hF happ hP
  obtain ⟨hcalls, hrest, hpre⟩ := hP
  obtain ⟨-, -, -, hnamed, -, -, -, hat⟩ := (Spec.applies_iff hf).mp happ
  obtain ⟨hg, hn⟩ := and_e (Cond.before_iff.mp (show (Jvm.Cond.and given_1 narrow_1).before args s = true from hpre))
  obtain ⟨g0, r0⟩ := and_e hg
  obtain ⟨g1, r1⟩ := and_e r0
  obtain ⟨g2, r2⟩ := and_e r1
  obtain ⟨w0, w1, w2, rfl⟩ : ∃ w0 w1 w2 : Value, args = #[w0, w1, w2] := by
    have hs : args.size = 3 := by simpa [Cond.value, given_1] using g0
    obtain ⟨L⟩ := args
    match L, hs with
    | [w0, w1, w2], _ => exact ⟨w0, w1, w2, rfl⟩
  have hw := fun d (hd : d ∈ tables_1) => atoms_spec (ws := Jvm.Cond.code x code maxLocals ret :: tables_1) hat d (List.mem_cons_of_mem _ hd)
  obtain ⟨i0, ei0⟩ := is_v g1
  obtain rfl : w0 = (.int i0) := Option.some.inj ei0
  obtain ⟨i1, ei1⟩ := is_v g2
  obtain rfl : w1 = (.int i1) := Option.some.inj ei1
  obtain ⟨i2, ei2⟩ := is_v r2
  obtain rfl : w2 = (.int i2) := Option.some.inj ei2
  obtain ⟨n, o, h1, h2, h3, _, L, rfl, ⟨rfl, N⟩, hq⟩ := rm0 l s _ hw i0 i1 i2 s.heap s.heap.size (Nat.le_refl _)  p e ha hc hk s m _ below hf ((Spec.applies_iff_loose hf).mp happ).1 ⟨rfl, State.Warmed39.refl s, rfl⟩ trivial
  refine ⟨n, _, h1, h2, h3, hpost _ _ _ _ _ _ ⟨Cond.after_iff.mpr rfl, Cond.after_iff.mpr (eq_i res_at (Term.int_eval (1)) rfl)⟩ ⟨hq.1, hq.2.1, hq.2.2.1, (hq.2.2.2.sift fun y hy => Or.inr (N y hy)).mono (by decide) (by decide)⟩⟩
theorem main_1_1 : Claimed_1_1 := comes_1 fun _ _ _ _ _ _ h hF => ⟨h.1, hF⟩
theorem main_1_2 : Claimed_1_2 := comes_1 fun _ _ _ _ _ _ h hF => ⟨h.2, hF⟩
end Jvm.Pilot.@@N@@
namespace Jvm.Pilot.@@N@@
open Jvm Jvm.ClassFile Sem Op Lib Jvm.Free Jvm.Stand Jvm.Pilot.@@N@@.Jvm.D
/-! MADE BY PROGRAM (witnessworld.py) out of the Statement's table words and the real class files: 14 classes; the members and pool entries that the words name. The judged class is class 1, her method 4. -/
namespace start1
open Jvm.ClassFile
def u (s : String) : CpInfo := .utf8 (stringToUtf16 s)
/-- a pool by its gaps: so many unusable entries, then the entry; so many at the end -/
def gap : Nat → List CpInfo → List CpInfo
  | 0, r => r
  | n + 1, r => .unusable :: gap n r
def poolList (es : List (Nat × CpInfo)) (last : Nat) : List CpInfo := es.foldr (fun e r => gap e.1 (e.2 :: r)) (gap last [])
def pool (es : List (Nat × CpInfo)) (last : Nat) : Array CpInfo := ⟨poolList es last⟩
def fileOf (pool : Array CpInfo) (this : Nat) (attrs : Array Attribute := #[]) (ms : Array MethodInfo := #[]) (fl : Nat := 33) (sup : Nat := 0) (ifs : Array Nat := #[]) (fds : Array FieldInfo := #[]) : ClassFile where
  minorVersion := 0
  majorVersion := 65
  constantPool := pool
  accessFlags := fl
  thisClass := this
  superClass := sup
  interfaces := ifs
  fields := fds
  methods := ms
  attributes := attrs
def plain (name : String) (sup : Option ClassId) : Class where
  name := name
  kind := .ordinary
  loader := none
  accessFlags := 33
  super := sup
  interfaces := #[]
  cf := none
  fields := #[]
  methods := #[]
  instanceTypes := #[]
  staticTypes := #[]
  resolved := #[]
  callSites := []
  init := .initialized
  statics := none
  mirror := none

def pool0 : Array CpInfo := pool [(5, u "<init>"), (0, u "()V"), (1, .class_ 10), (1, u "java/lang/Object")] 113

def k0c0 : Code := { maxStack := 0, maxLocals := 1, code := object_method_1_code, exceptionTable := #[], attributes := #[] }
def k0m0 : Method := { name := "<init>", desc := "()V", sig := { parameters := [], returnType := none }, accessFlags := 1, code := some k0c0 }
/-- java/lang/Object -/
def k0 : Class := { plain "java/lang/Object" none with
  accessFlags := 33
  interfaces := #[]
  cf := some (fileOf pool0 8 #[] #[{ accessFlags := 1, nameIndex := 5, descriptorIndex := 6, attributes := #[] }] 33 0 #[] #[])
  fields := #[]
  methods := #[k0m0]
  instanceTypes := #[]
  staticTypes := #[]
  resolved := Array.replicate 124 none
  statics := none }

def pool1 : Array CpInfo := pool [(2, .class_ 4), (1, u "java/lang/Object"), (0, u "<init>"), (0, u "()V"), (0, .methodref 8 9), (0, .class_ 10), (0, .nameAndType 11 12), (0, u "com/example/antipode/antipode/net/TransitionEffectPinLaw"), (0, u "cnt"), (0, u "([II)I"), (0, .methodref 8 14), (0, .nameAndType 15 16), (0, u "mk"), (0, u "(II)[I"), (0, .class_ 18), (0, u "com/example/antipode/antipode/net/Transition"), (0, .string 20), (0, u "t"), (0, .string 22), (0, u "a"), (0, .methodref 17 24), (0, .nameAndType 5 25), (0, u "(Ljava/lang/String;Ljava/lang/String;[I[I)V"), (0, .methodref 17 27), (0, .nameAndType 28 29), (0, u "effect"), (0, u "(I)[I"), (0, .methodref 8 31), (0, .nameAndType 32 33), (0, u "ok"), (0, u "([I[I[II)Z"), (3, u "law"), (0, u "(III)Z")] 4

def k1m0 : Method := { name := "<init>", desc := "()V", sig := { parameters := [], returnType := none }, accessFlags := 1, code := none }
def k1c1 : Code := { maxStack := 4, maxLocals := 6, code := method_2_code, exceptionTable := #[], attributes := #[] }
def k1m1 : Method := { name := "mk", desc := "(II)[I", sig := { parameters := [.int, .int], returnType := some (.array .int) }, accessFlags := 10, code := some k1c1 }
def k1c2 : Code := { maxStack := 2, maxLocals := 3, code := method_3_code, exceptionTable := #[], attributes := #[] }
def k1m2 : Method := { name := "cnt", desc := "([II)I", sig := { parameters := [(.array .int), .int], returnType := some .int }, accessFlags := 10, code := some k1c2 }
def k1c3 : Code := { maxStack := 4, maxLocals := 4, code := method_4_code, exceptionTable := #[], attributes := #[] }
def k1m3 : Method := { name := "ok", desc := "([I[I[II)Z", sig := { parameters := [(.array .int), (.array .int), (.array .int), .int], returnType := some .boolean }, accessFlags := 10, code := some k1c3 }
def k1c4 : Code := { maxStack := 6, maxLocals := 8, code := code, exceptionTable := #[], attributes := #[] }
def k1m4 : Method := { name := "law", desc := "(III)Z", sig := { parameters := [.int, .int, .int], returnType := some .boolean }, accessFlags := 9, code := some k1c4 }
/-- com/example/antipode/antipode/net/TransitionEffectPinLaw -/
def k1 : Class := { plain "com/example/antipode/antipode/net/TransitionEffectPinLaw" (some 0) with
  accessFlags := 49
  interfaces := #[]
  cf := some (fileOf pool1 8 #[] #[{ accessFlags := 1, nameIndex := 5, descriptorIndex := 6, attributes := #[] }, { accessFlags := 10, nameIndex := 15, descriptorIndex := 16, attributes := #[] }, { accessFlags := 10, nameIndex := 11, descriptorIndex := 12, attributes := #[] }, { accessFlags := 10, nameIndex := 32, descriptorIndex := 33, attributes := #[] }, { accessFlags := 9, nameIndex := 37, descriptorIndex := 38, attributes := #[] }] 49 2 #[] #[])
  fields := #[]
  methods := #[k1m0, k1m1, k1m2, k1m3, k1m4]
  instanceTypes := #[]
  staticTypes := #[]
  resolved := Array.replicate 43 none
  statics := none }

def pool2 : Array CpInfo := pool [(1, .methodref 2 3), (0, .class_ 4), (0, .nameAndType 5 6), (0, u "java/lang/Object"), (0, u "<init>"), (0, u "()V"), (0, .fieldref 8 9), (0, .class_ 10), (0, .nameAndType 11 12), (0, u "com/example/antipode/antipode/net/Transition"), (0, u "id"), (0, u "Ljava/lang/String;"), (0, .fieldref 8 14), (0, .nameAndType 15 12), (0, u "label"), (0, .fieldref 8 17), (0, .nameAndType 18 19), (0, u "inputs"), (0, u "[I"), (0, .fieldref 8 21), (0, .nameAndType 22 19), (0, u "outputs"), (16, u "(Ljava/lang/String;Ljava/lang/String;[I[I)V"), (5, u "effect"), (0, u "(I)[I")] 22

def k2c0 : Code := { maxStack := 2, maxLocals := 5, code := prog_123_method_1_code, exceptionTable := #[], attributes := #[] }
def k2m0 : Method := { name := "<init>", desc := "(Ljava/lang/String;Ljava/lang/String;[I[I)V", sig := { parameters := [(.object "java/lang/String"), (.object "java/lang/String"), (.array .int), (.array .int)], returnType := none }, accessFlags := 0, code := some k2c0 }
def k2c1 : Code := { maxStack := 4, maxLocals := 7, code := prog_123_method_7_code, exceptionTable := #[], attributes := #[] }
def k2m1 : Method := { name := "effect", desc := "(I)[I", sig := { parameters := [.int], returnType := some (.array .int) }, accessFlags := 1, code := some k2c1 }
/-- com/example/antipode/antipode/net/Transition -/
def k2 : Class := { plain "com/example/antipode/antipode/net/Transition" (some 0) with
  accessFlags := 49
  interfaces := #[]
  cf := some (fileOf pool2 8 #[] #[{ accessFlags := 0, nameIndex := 5, descriptorIndex := 39, attributes := #[] }, { accessFlags := 1, nameIndex := 45, descriptorIndex := 46, attributes := #[] }] 49 2 #[] #[{ accessFlags := 18, nameIndex := 11, descriptorIndex := 12, attributes := #[] }, { accessFlags := 18, nameIndex := 15, descriptorIndex := 12, attributes := #[] }, { accessFlags := 16, nameIndex := 18, descriptorIndex := 19, attributes := #[] }, { accessFlags := 16, nameIndex := 22, descriptorIndex := 19, attributes := #[] }])
  fields := #[{ name := "id", type := (.object "java/lang/String"), accessFlags := 18, slot := 0, constantValue := 0 }, { name := "label", type := (.object "java/lang/String"), accessFlags := 18, slot := 1, constantValue := 0 }, { name := "inputs", type := (.array .int), accessFlags := 16, slot := 2, constantValue := 0 }, { name := "outputs", type := (.array .int), accessFlags := 16, slot := 3, constantValue := 0 }]
  methods := #[k2m0, k2m1]
  instanceTypes := #[(.object "java/lang/String"), (.object "java/lang/String"), (.array .int), (.array .int)]
  staticTypes := #[]
  resolved := Array.replicate 69 none
  statics := none }

def pool3 : Array CpInfo := pool [(1, .class_ 2), (0, u "java/io/Serializable"), (0, .class_ 4), (0, u "java/lang/Object")] 2

/-- java/io/Serializable -/
def k3 : Class := { plain "java/io/Serializable" (some 0) with
  accessFlags := 1537
  interfaces := #[]
  cf := some (fileOf pool3 1 #[] #[] 1537 3 #[] #[])
  fields := #[]
  methods := #[]
  instanceTypes := #[]
  staticTypes := #[]
  resolved := Array.replicate 7 none
  statics := none }

def pool4 : Array CpInfo := pool [(1, .class_ 2), (0, u "java/lang/Comparable"), (0, .class_ 4), (0, u "java/lang/Object")] 7

/-- java/lang/Comparable -/
def k4 : Class := { plain "java/lang/Comparable" (some 0) with
  accessFlags := 1537
  interfaces := #[]
  cf := some (fileOf pool4 1 #[] #[] 1537 3 #[] #[])
  fields := #[]
  methods := #[]
  instanceTypes := #[]
  staticTypes := #[]
  resolved := Array.replicate 12 none
  statics := none }

def pool5 : Array CpInfo := pool [(2, .class_ 4), (1, u "java/lang/CharSequence"), (42, .class_ 48), (0, u "java/lang/CharSequence$1CodePointIterator"), (10, .class_ 60), (0, u "java/lang/CharSequence$1CharIterator"), (5, .class_ 67), (0, u "java/lang/Object")] 63

/-- java/lang/CharSequence -/
def k5 : Class := { plain "java/lang/CharSequence" (some 0) with
  accessFlags := 1537
  interfaces := #[]
  cf := some (fileOf pool5 2 #[.nestMembers #[47, 59]] #[] 1537 66 #[] #[])
  fields := #[]
  methods := #[]
  instanceTypes := #[]
  staticTypes := #[]
  resolved := Array.replicate 131 none
  statics := none }

def pool6 : Array CpInfo := pool [(1, .class_ 2), (0, u "java/lang/constant/Constable"), (0, .class_ 4), (0, u "java/lang/Object")] 6

/-- java/lang/constant/Constable -/
def k6 : Class := { plain "java/lang/constant/Constable" (some 0) with
  accessFlags := 1537
  interfaces := #[]
  cf := some (fileOf pool6 1 #[] #[] 1537 3 #[] #[])
  fields := #[]
  methods := #[]
  instanceTypes := #[]
  staticTypes := #[]
  resolved := Array.replicate 11 none
  statics := none }

def pool7 : Array CpInfo := pool [(1, .class_ 2), (0, u "java/lang/constant/ConstantDesc"), (0, .class_ 4), (0, u "java/lang/Object")] 32

/-- java/lang/constant/ConstantDesc -/
def k7 : Class := { plain "java/lang/constant/ConstantDesc" (some 0) with
  accessFlags := 1537
  interfaces := #[]
  cf := some (fileOf pool7 1 #[] #[] 1537 3 #[] #[])
  fields := #[]
  methods := #[]
  instanceTypes := #[]
  staticTypes := #[]
  resolved := Array.replicate 37 none
  statics := none }

def pool8 : Array CpInfo := pool [(2, .class_ 4), (1, u "java/lang/Object"), (0, u "<init>"), (0, u "()V"), (3, .class_ 12), (1, u "java/lang/String"), (0, u "value"), (0, u "[B"), (2, u "coder"), (0, u "B"), (2, u "hash"), (0, u "I"), (2, u "hashIsZero"), (0, u "Z"), (13, u "COMPACT_STRINGS"), (534, .class_ 576), (0, u "java/lang/CharSequence"), (22, u "CASE_INSENSITIVE_ORDER"), (0, u "Ljava/util/Comparator;"), (500, u "serialPersistentFields"), (0, u "[Ljava/io/ObjectStreamField;"), (0, .class_ 1104), (0, u "java/lang/String$CaseInsensitiveComparator"), (1, .class_ 1107), (0, u "java/io/Serializable"), (0, .class_ 1109), (0, u "java/lang/Comparable"), (0, .class_ 1111), (0, u "java/lang/constant/Constable"), (0, .class_ 1113), (0, u "java/lang/constant/ConstantDesc"), (2, u "serialVersionUID"), (0, u "J"), (3, u "REPL"), (0, u "C"), (2, u "LATIN1"), (1, u "UTF16")] 323

def k8m0 : Method := { name := "<init>", desc := "()V", sig := { parameters := [], returnType := none }, accessFlags := 1, code := none }
/-- java/lang/String -/
def k8 : Class := { plain "java/lang/String" (some 0) with
  accessFlags := 49
  interfaces := #[3, 4, 5, 6, 7]
  cf := some (fileOf pool8 10 #[.nestMembers #[1103]] #[{ accessFlags := 1, nameIndex := 5, descriptorIndex := 6, attributes := #[] }] 49 2 #[1106, 1108, 575, 1110, 1112] #[{ accessFlags := 18, nameIndex := 13, descriptorIndex := 14, attributes := #[] }, { accessFlags := 18, nameIndex := 17, descriptorIndex := 18, attributes := #[] }, { accessFlags := 2, nameIndex := 21, descriptorIndex := 22, attributes := #[] }, { accessFlags := 2, nameIndex := 25, descriptorIndex := 26, attributes := #[] }, { accessFlags := 26, nameIndex := 1116, descriptorIndex := 1117, attributes := #[] }, { accessFlags := 24, nameIndex := 40, descriptorIndex := 26, attributes := #[] }, { accessFlags := 26, nameIndex := 1101, descriptorIndex := 1102, attributes := #[] }, { accessFlags := 26, nameIndex := 1121, descriptorIndex := 1122, attributes := #[] }, { accessFlags := 25, nameIndex := 599, descriptorIndex := 600, attributes := #[] }, { accessFlags := 24, nameIndex := 1125, descriptorIndex := 18, attributes := #[] }, { accessFlags := 24, nameIndex := 1127, descriptorIndex := 18, attributes := #[] }])
  fields := #[{ name := "value", type := (.array .byte), accessFlags := 18, slot := 0, constantValue := 0 }, { name := "coder", type := .byte, accessFlags := 18, slot := 1, constantValue := 0 }, { name := "hash", type := .int, accessFlags := 2, slot := 2, constantValue := 0 }, { name := "hashIsZero", type := .boolean, accessFlags := 2, slot := 3, constantValue := 0 }, { name := "serialVersionUID", type := .long, accessFlags := 26, slot := 0, constantValue := 0 }, { name := "COMPACT_STRINGS", type := .boolean, accessFlags := 24, slot := 1, constantValue := 0 }, { name := "serialPersistentFields", type := (.array (.object "java/io/ObjectStreamField")), accessFlags := 26, slot := 2, constantValue := 0 }, { name := "REPL", type := .char, accessFlags := 26, slot := 3, constantValue := 0 }, { name := "CASE_INSENSITIVE_ORDER", type := (.object "java/util/Comparator"), accessFlags := 25, slot := 4, constantValue := 0 }, { name := "LATIN1", type := .byte, accessFlags := 24, slot := 5, constantValue := 0 }, { name := "UTF16", type := .byte, accessFlags := 24, slot := 6, constantValue := 0 }]
  methods := #[k8m0]
  instanceTypes := #[(.array .byte), .byte, .int, .boolean]
  staticTypes := #[.long, .boolean, (.array (.object "java/io/ObjectStreamField")), .char, (.object "java/util/Comparator"), .byte, .byte]
  resolved := Array.replicate 1451 none
  statics := none }

def pool9 : Array CpInfo := pool [(1, u "java/lang/Cloneable"), (0, .class_ 1), (0, u "java/lang/Object"), (0, .class_ 3)] 3

/-- java/lang/Cloneable -/
def k9 : Class := { plain "java/lang/Cloneable" (some 0) with
  accessFlags := 1537
  interfaces := #[]
  cf := some (fileOf pool9 2 #[] #[] 1537 4 #[] #[])
  fields := #[]
  methods := #[]
  instanceTypes := #[]
  staticTypes := #[]
  resolved := Array.replicate 8 none
  statics := none }

/-- the primitive byte -/
def k10 : Class := { plain "byte" none with kind := .primitive 'B', accessFlags := 0x411 }
/-- [B -/
def k11 : Class := { plain "[B" (some 0) with kind := .array 10 .byte, interfaces := #[9, 3], accessFlags := 1041 }

/-- the primitive int -/
def k12 : Class := { plain "int" none with kind := .primitive 'I', accessFlags := 0x411 }
/-- [I -/
def k13 : Class := { plain "[I" (some 0) with kind := .array 12 .int, interfaces := #[9, 3], accessFlags := 1041 }

def heap : Heap := #[]
def classes : Array Class := #[k0, k1, k2, k3, k4, k5, k6, k7, k8, k9, k10, k11, k12, k13]
def interned : List (Array UInt16 × Addr) := []
def slotsUsed : Nat := 0
def theMethod : MethodId := ⟨1, 4⟩
def args0 : Array Value := #[.int 3, .int 7, .int 9]
def aboutOver (below : List Frame) : State where
  vm := { classes := classes, interned := interned.toArray }
  heap := heap
  slotsUsed := slotsUsed
  threads := #[{ frames := .invoking theMethod args0 :: below }]
def below0 : List Frame := [.native { method := ⟨0, 0⟩, args := #[] }]
def about1 : State := aboutOver below0
def p0 : Program := .bare "" "" ""
def e0 : Env := launch0.env 0 0 0
theorem w_frames : about1.frames = Frame.invoking theMethod args0 :: below0 := rfl
set_option maxRecDepth 65536 in
theorem w_args : argsFit about1.vm theMethod args0 = true := by decide +kernel
set_option maxRecDepth 65536 in
theorem w_heap : heapFits about1 = true := by decide +kernel
set_option maxRecDepth 65536 in
theorem w_runnable : about1.curStatus? = some .runnable := by decide +kernel
set_option maxRecDepth 65536 in
theorem w_alone : about1.alone = true := by decide +kernel
set_option maxRecDepth 65536 in
theorem w_named : about1.methodNamed? x = some theMethod := by decide +kernel
set_option maxRecDepth 65536 in
theorem w_hears : about1.hears theMethod below0 = true := by decide +kernel
set_option maxRecDepth 65536 in
theorem w_ripe : about1.ripe theMethod args0 below0 = true := by decide +kernel
theorem w_running : about1.status = .running := rfl
set_option maxRecDepth 65536 in
theorem w_room : about1.hasRoom e0.platform room_1 = true :=
  launch0.hasRoom_least _ room_1 (by decide +kernel) (by decide +kernel) (by decide +kernel) (by decide +kernel) (by decide +kernel) (by decide +kernel)
theorem allAtoms_all (ts : List Jvm.Cond) (a : Array Jvm.Value) (st : Jvm.State) : (allAtoms ts).before a st = ts.all (fun c => c.before a st) := by
  induction ts with
  | nil => rfl
  | cons c t ih =>
    show (Jvm.Cond.and c (allAtoms t)).before a st = _
    rw [Jvm.Cond.before_and, ih, List.all_cons]
def words1 : List Jvm.Cond := Jvm.Cond.code x code maxLocals ret :: tables_1
/-- a 'code' word, met by the world's own term for the bytes: nothing is compared byte by byte -/
theorem code_word {y : MethodName} {bytes : ByteArray} {mx : Nat} {rt : Option FieldType} {a : Array Value} {s : State} {m : MethodId} {meth : Method} {c : Code} (h1 : s.methodNamed? y = some m) (h2 : s.vm.method? m = some meth) (h3 : meth.code = some c) (h4 : c.code = bytes)
    (h5 : (c.maxLocals == mx && c.exceptionTable.isEmpty && decide (c.maxStack ≤ mostOperands) && decide (meth.sig.returnType = rt) && !meth.locks && decide (parseMethodDescriptor y.desc = some meth.sig)) = true) : (Jvm.Cond.code y bytes mx rt).before a s = true := by
  simp only [Bool.and_eq_true, beq_iff_eq, Bool.not_eq_true', decide_eq_true_eq] at h5
  obtain ⟨⟨⟨⟨⟨g1, g2⟩, g3⟩, g4⟩, g5⟩, g6⟩ := h5
  simp [Cond.before, Cond.holds, Cond.value, h1, h2, h3, h4, g1, g2, g3, g4, g5, g6]
def isCode : Jvm.Cond → Bool
  | .code _ _ _ _ => true
  | _ => false
theorem all_split {L : List Jvm.Cond} {P : Jvm.Cond → Bool} (h1 : L.all (fun c => isCode c || P c) = true) (h2 : ∀ c ∈ L.filter isCode, P c = true) : L.all P = true := by
  refine List.all_eq_true.mpr fun c hc => ?_
  have h := List.all_eq_true.mp h1 c hc
  rcases Bool.eq_false_or_eq_true (isCode c) with hi | hi
  · exact h2 c (List.mem_filter.mpr ⟨hc, hi⟩)
  · simpa [hi] using h
set_option maxRecDepth 65536 in
theorem w_c0 : (Jvm.Cond.code x code maxLocals ret).before args0 about1 = true := code_word (m := ⟨1, 4⟩) (meth := k1m4) (c := k1c4) (by decide +kernel) rfl rfl rfl (by decide +kernel)
set_option maxRecDepth 65536 in
theorem w_c1 : (Jvm.Cond.code ({ cls := "com/example/antipode/antipode/net/TransitionEffectPinLaw", name := "mk", desc := "(II)[I" } : Jvm.MethodName) method_2_code (6 : Nat) (Option.some (Jvm.ClassFile.FieldType.array Jvm.ClassFile.FieldType.int))).before args0 about1 = true := code_word (m := ⟨1, 1⟩) (meth := k1m1) (c := k1c1) (by decide +kernel) rfl rfl rfl (by decide +kernel)
set_option maxRecDepth 65536 in
theorem w_c2 : (Jvm.Cond.code ({ cls := "com/example/antipode/antipode/net/Transition", name := "<init>", desc := "(Ljava/lang/String;Ljava/lang/String;[I[I)V" } : Jvm.MethodName) prog_123_method_1_code (5 : Nat) (Option.none : Option Jvm.ClassFile.FieldType)).before args0 about1 = true := code_word (m := ⟨2, 0⟩) (meth := k2m0) (c := k2c0) (by decide +kernel) rfl rfl rfl (by decide +kernel)
set_option maxRecDepth 65536 in
theorem w_c3 : (Jvm.Cond.code ({ cls := "java/lang/Object", name := "<init>", desc := "()V" } : Jvm.MethodName) object_method_1_code (1 : Nat) (Option.none : Option Jvm.ClassFile.FieldType)).before args0 about1 = true := code_word (m := ⟨0, 0⟩) (meth := k0m0) (c := k0c0) (by decide +kernel) rfl rfl rfl (by decide +kernel)
set_option maxRecDepth 65536 in
theorem w_c4 : (Jvm.Cond.code ({ cls := "com/example/antipode/antipode/net/Transition", name := "effect", desc := "(I)[I" } : Jvm.MethodName) prog_123_method_7_code (7 : Nat) (Option.some (Jvm.ClassFile.FieldType.array Jvm.ClassFile.FieldType.int))).before args0 about1 = true := code_word (m := ⟨2, 1⟩) (meth := k2m1) (c := k2c1) (by decide +kernel) rfl rfl rfl (by decide +kernel)
set_option maxRecDepth 65536 in
theorem w_c5 : (Jvm.Cond.code ({ cls := "com/example/antipode/antipode/net/TransitionEffectPinLaw", name := "ok", desc := "([I[I[II)Z" } : Jvm.MethodName) method_4_code (4 : Nat) (Option.some Jvm.ClassFile.FieldType.boolean)).before args0 about1 = true := code_word (m := ⟨1, 3⟩) (meth := k1m3) (c := k1c3) (by decide +kernel) rfl rfl rfl (by decide +kernel)
set_option maxRecDepth 65536 in
theorem w_c6 : (Jvm.Cond.code ({ cls := "com/example/antipode/antipode/net/TransitionEffectPinLaw", name := "cnt", desc := "([II)I" } : Jvm.MethodName) method_3_code (3 : Nat) (Option.some Jvm.ClassFile.FieldType.int)).before args0 about1 = true := code_word (m := ⟨1, 2⟩) (meth := k1m2) (c := k1c2) (by decide +kernel) rfl rfl rfl (by decide +kernel)
def codes1 : List Jvm.Cond := [Jvm.Cond.code x code maxLocals ret, Jvm.Cond.code ({ cls := "com/example/antipode/antipode/net/TransitionEffectPinLaw", name := "mk", desc := "(II)[I" } : Jvm.MethodName) method_2_code (6 : Nat) (Option.some (Jvm.ClassFile.FieldType.array Jvm.ClassFile.FieldType.int)), Jvm.Cond.code ({ cls := "com/example/antipode/antipode/net/Transition", name := "<init>", desc := "(Ljava/lang/String;Ljava/lang/String;[I[I)V" } : Jvm.MethodName) prog_123_method_1_code (5 : Nat) (Option.none : Option Jvm.ClassFile.FieldType), Jvm.Cond.code ({ cls := "java/lang/Object", name := "<init>", desc := "()V" } : Jvm.MethodName) object_method_1_code (1 : Nat) (Option.none : Option Jvm.ClassFile.FieldType), Jvm.Cond.code ({ cls := "com/example/antipode/antipode/net/Transition", name := "effect", desc := "(I)[I" } : Jvm.MethodName) prog_123_method_7_code (7 : Nat) (Option.some (Jvm.ClassFile.FieldType.array Jvm.ClassFile.FieldType.int)), Jvm.Cond.code ({ cls := "com/example/antipode/antipode/net/TransitionEffectPinLaw", name := "ok", desc := "([I[I[II)Z" } : Jvm.MethodName) method_4_code (4 : Nat) (Option.some Jvm.ClassFile.FieldType.boolean), Jvm.Cond.code ({ cls := "com/example/antipode/antipode/net/TransitionEffectPinLaw", name := "cnt", desc := "([II)I" } : Jvm.MethodName) method_3_code (3 : Nat) (Option.some Jvm.ClassFile.FieldType.int)]
set_option maxRecDepth 65536 in
theorem codes_eq : words1.filter isCode = codes1 := rfl
theorem w_codes : ∀ c ∈ words1.filter isCode, c.before args0 about1 = true := by
  rw [codes_eq]
  intro c hc
  simp only [codes1, List.mem_cons, List.not_mem_nil, or_false] at hc
  rcases hc with rfl | rfl | rfl | rfl | rfl | rfl | rfl
  · exact w_c0
  · exact w_c1
  · exact w_c2
  · exact w_c3
  · exact w_c4
  · exact w_c5
  · exact w_c6
set_option maxRecDepth 65536 in
theorem w_t1 : (words1.take 24).all (fun c => isCode c || c.before args0 about1) = true := by decide +kernel
set_option maxRecDepth 65536 in
theorem w_t2 : (words1.drop 24).all (fun c => isCode c || c.before args0 about1) = true := by decide +kernel
theorem w_tables : (allAtoms (Jvm.Cond.code x code maxLocals ret :: tables_1)).before args0 about1 = true := by
  rw [allAtoms_all]
  show words1.all (fun c => c.before args0 about1) = true
  refine all_split ?_ w_codes
  rw [← List.take_append_drop 24 words1, List.all_append, w_t1, w_t2]
  rfl
set_option maxRecDepth 65536 in
theorem w_case : (Jvm.Cond.and given_1 narrow_1).before args0 about1 = true := by decide +kernel
theorem w_applies : (headSpec (Jvm.Cond.code x code maxLocals ret :: tables_1) room_1).applies x e0.platform about1 = true :=
  (Spec.applies_iff w_frames).mpr ⟨w_running, w_runnable, w_alone, w_named, w_hears, w_ripe, w_room, w_tables⟩
theorem atStart : AtStart classFile x code maxLocals ret World_1 tables_1 room_1 Calls_1 rest_1 Pre_1 launch0 p0 e0 about1 theMethod args0 below0 :=
  ⟨lists_1, trivial, launch0.admits_env _ _ _, launch0.least_env, fairChoices_fair.cas, fairChoices_fair.clock, w_frames, w_args, w_heap, w_applies, trivial, trivial, w_case⟩
end start1
theorem witness_1 : WitnessClaimed_1 := ⟨start1.p0, start1.e0, start1.about1, start1.theMethod, start1.args0, start1.below0, start1.atStart⟩
end Jvm.Pilot.@@N@@
