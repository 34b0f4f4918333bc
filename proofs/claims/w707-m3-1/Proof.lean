import JvmDerived
import JvmDerived.Pilot.@@N@@Statement
import JvmDerived.Pilot.@@N@@Code
set_option linter.unusedVariables false
set_option linter.unusedSimpArgs false
namespace Jvm.Pilot.@@N@@
open Jvm Jvm.ClassFile Sem Op Lib Jvm.Free Jvm.Stand Jvm.LawKit Jvm.RoadKit Bundle Jvm.Pilot.@@N@@.Jvm.D
/-! own: the walk in continuation form: 'from the state A the body ends, and then Q' -/
def OwnWk (p : Program) (e : Env) (below : List Frame) (P : Option Value → State → List Loc → Prop) (A : State) : Prop :=
  ∃ s₂ v L, Steps p.tables e below A s₂ ∧ s₂.status = .running ∧ Ended s₂ below (.returned v) ∧ P v s₂ L
abbrev OwnP (s : State) (Q : Option Value → Heap → List Loc → Prop) (k n : Nat) : Option Value → State → List Loc → Prop := fun v t L => Q v t.heap L ∧ FrameEnd s (.returned v) t L k n
def OwnMet (l : Launch) (y : MethodName) (bytes : ByteArray) (maxL : Nat) (ret : Option FieldType) (ws : List Jvm.Cond) (rm : Room) (Z : State) (as' : Array Value) (h0 : Heap) (Q : Option Value → Heap → List Loc → Prop) : Prop :=
  MetFree l y (head1 (Jvm.Cond.code y bytes maxL ret :: ws) rm) (fun a U => a = as' ∧ Z.Warmed39 U.vm ∧ U.heap = h0) (fun _ _ _ _ _ => True)
    (fun _ U o U' => ∃ v L, o = .returned v ∧ Q v U'.heap L ∧ FrameEnd U o U' L rm.cells rm.slots)
def OAr (Z : State) (h : Heap) (a : Addr) (ty : FieldType) (vs : List Value) : Prop := ∃ c : Cell, Arr Z h a c ty ∧ c.slots = vs.toArray
theorem OAr.ext {Z : State} {h h' : Heap} {a : Addr} {ty : FieldType} {vs : List Value} (A : OAr Z h a ty vs) (E : Ext h h') : OAr Z h' a ty vs := by
  obtain ⟨c, A, e⟩ := A; exact ⟨c, A.ext E, e⟩
theorem OAr.other {Z : State} {h h' : Heap} {a b : Addr} {ty : FieldType} {vs : List Value} {sl : Nat} {v : Value} (A : OAr Z h b ty vs) (W : Wr h h' a sl v) (q : b ≠ a) : OAr Z h' b ty vs := by
  obtain ⟨c, A, e⟩ := A; exact ⟨c, A.other W q, e⟩
theorem OAr.keep {Z : State} {h h' : Heap} {a : Addr} {ty : FieldType} {vs : List Value} {ws : List Addr} (A : OAr Z h a ty vs) (K : Keep h h' ws) (q : a ∉ ws) : OAr Z h' a ty vs := by
  obtain ⟨c, A, e⟩ := A; exact ⟨c, ⟨K.2.1 a c A.1 q, A.2⟩, e⟩
theorem OAr.lt {Z : State} {h : Heap} {a : Addr} {ty : FieldType} {vs : List Value} (A : OAr Z h a ty vs) : a < h.size := by
  obtain ⟨c, A, e⟩ := A; exact A.lt
theorem OAr.set {Z : State} {h h' : Heap} {a : Addr} {ty : FieldType} {vs : List Value} {sl : Nat} {v : Value} (A : OAr Z h a ty vs) (W : Wr h h' a sl v) : OAr Z h' a ty (vs.set sl v) := by
  obtain ⟨c, A, e⟩ := A
  refine ⟨_, A.same W, ?_⟩
  show c.slots.setIfInBounds sl v = _
  rw [e]; simp
theorem own_plE {Z : State} {h : Heap} {a : Addr} {C : String} (E : Exa Z h a C) : ∀ c : Cell, h[a]? = some c → c.vm.isStatics = false := fun c hc => by
  obtain ⟨c', k, h1, -, -, h4, -⟩ := E; cases h1.symm.trans hc; exact h4
theorem own_plV {Z : State} {h : Heap} {a : Addr} {ty : FieldType} {vs : List Value} (A : OAr Z h a ty vs) : ∀ c : Cell, h[a]? = some c → c.vm.isStatics = false := fun c hc => by
  obtain ⟨c', A, -⟩ := A; cases A.1.symm.trans hc; exact A.plain
theorem own_sta_keep {Z : State} {h h' : Heap} {ws : List Addr} {O f d : String} {v : Value} (F : Sta Z h O f d v) (K : Keep h h' ws) (q : ∀ x ∈ ws, ∀ c : Cell, h[x]? = some c → c.vm.isStatics = false) : Sta Z h' O f d v := by
  obtain ⟨cf, i, k, f, st, cell, h1, h2, h3, h4, h5, h6, h7⟩ := F
  refine ⟨cf, i, k, f, st, cell, h1, h2, h3, h4, K.2.1 st cell h5 (fun m => ?_), h6, h7⟩
  have := q st m cell h5
  rw [h6] at this; cases this
theorem own_ins_keep {Z : State} {h h' : Heap} {ws : List Addr} {a : Addr} {C : String} {b : Bool} (F : Ins Z h a C b) (K : Keep h h' ws) : Ins Z h' a C b := by
  obtain ⟨cell, cT, h1, h2, h3⟩ := F
  obtain ⟨c', q, r1, r2, -⟩ := K.2.2 a cell h1
  exact ⟨c', cT, q, h2, by rw [r1, r2]; exact h3⟩
section Own
variable {p : Program} {l : Launch} {e : Env} {R : Room} {s : State} {m : MethodId} {args : Array Value} {below : List Frame} {meth : Method} {c : Code} {T : State} {locs : List Loc} {cells slots : Nat}
  {P : Option Value → State → List Loc → Prop} {Q : Option Value → Heap → List Loc → Prop} {k n : Nat} {Z : State} {a0 : Array Value} {h : Heap} {g : JFrame} {rest : List Value}
theorem own_go {A B : State} (st : ∀ t, Steps p.tables e below B t → Steps p.tables e below A t) (h : OwnWk p e below P B) : OwnWk p e below P A := by
  obtain ⟨s₂, v, L, h1, r⟩ := h; exact ⟨s₂, v, L, st _ h1, r⟩
theorem own_met {y : MethodName} {bytes : ByteArray} {maxL : Nat} {ret : Option FieldType} {ws : List Jvm.Cond} {rm : Room} {as' : Array Value} {h0 : Heap} (hpl : plainFor y = true)
    (body : ∀ (p : Program) (e : Env) (s : State) (m : MethodId) (below : List Frame) (meth : Method) (c : Code) (s₁ : State), p.tables.exec = Jvm.exec → c.code = bytes → c.maxLocals = maxL → s.vm.findClass y.cls = some m.cls → meth.name = y.name → meth.sig.returnType = ret → meth.locks = false → Z.Warmed39 s.vm →
      Stand p l e rm s m as' below meth c s₁ [] 0 0 → s₁.heap = h0 → OwnWk p e below (OwnP s Q rm.cells rm.slots) (s₁.setTop (entryFrame m as' maxL))) : OwnMet l y bytes maxL ret ws rm Z as' h0 Q := by
  refine MetFree.of_bodySF hpl hisR ?_
  intro p e s m args below meth c s₁ Bd hml0 hP hK
  obtain ⟨rfl, hZ, hh⟩ := hP
  obtain ⟨s₂, v, L, h1, h2, h3, h4, h5⟩ := body p e s m below meth c s₁ Bd.exec Bd.bytes hml0 (findClass_of_methodNamed Bd.named) (name_of_methodNamed Bd.named Bd.method).1 Bd.returns (BodyLoose.notSynchronized Bd) hZ (Stand.of_body Bd) (by rw [← hh, Bd.state]; rfl)
  exact ⟨s₂, _, h1, h2, h3, v, L, rfl, h4, h5⟩
theorem own_out0 {A : State} {v : Option Value} (X : Stand p l e R s m args below meth c T locs cells slots) (hlk : meth.locks = false) (hv : meth.sig.returnType = none → v = none)
    (st : ∀ fs, (∀ (f : JFrame) (acts : List Action), f.method = m → f.locked = none → f.entered = [] → (doReturn e (T.setTop f) acts v).1 = T.setFrames fs) → Steps p.tables e below A (T.setFrames fs))
    (hq : ∀ t : State, t.heap = T.heap → FrameEnd s (.returned v) t locs cells slots → P v t locs) : OwnWk p e below P A := by
  obtain ⟨fs, hr, hrun, hended, hW, hsame⟩ := X.leave (v := v) hv hlk
  exact ⟨_, v, locs, st fs hr, hrun, hended, hq _ rfl ⟨⟨v, rfl⟩, hW, hsame⟩⟩
theorem own_out {A : State} {v : Option Value} (X : Stand p l e R s m args below meth c T locs cells slots) (hlk : meth.locks = false) (hv : meth.sig.returnType = none → v = none)
    (st : ∀ fs, (∀ (f : JFrame) (acts : List Action), f.method = m → f.locked = none → f.entered = [] → (doReturn e (T.setTop f) acts v).1 = T.setFrames fs) → Steps p.tables e below A (T.setFrames fs))
    (hc : cells ≤ k) (hs : slots ≤ n) (hq : Q v T.heap locs) : OwnWk p e below (OwnP s Q k n) A :=
  own_out0 X hlk hv st fun t ht hF => ⟨by rw [ht]; exact hq, hF.1, hF.2.1, hF.2.2.mono hc hs⟩
theorem own_retI (X : Stand p l e R s m args below meth c T locs cells slots) (hx : p.tables.exec = Jvm.exec) (hlk : meth.locks = false) (hret : meth.sig.returnType = some .int) {pc : Nat} {Ls : Array Slot} {z : Int32} (hd : decode c.code pc = .ok (.ireturn, 1)) (hc : cells ≤ k) (hs : slots ≤ n)
    (hq : Q (some (.int z)) T.heap locs) : OwnWk p e below (OwnP s Q k n) (T.setTop (mkF m pc Ls (.int z :: rest))) :=
  own_out X hlk (fun q => by rw [hret] at q; cases q) (fun fs hr => retOut X hx hret rfl (Or.inl ⟨rfl, Or.inl rfl, z, rfl⟩) hd hr) hc hs hq
theorem own_retZ (X : Stand p l e R s m args below meth c T locs cells slots) (hx : p.tables.exec = Jvm.exec) (hlk : meth.locks = false) {t : FieldType} (hret : meth.sig.returnType = some t) (ht : t = .boolean ∨ t = .byte ∨ t = .char ∨ t = .short) {pc : Nat} {Ls : Array Slot} {z z' : Int32} (hz : nar t z = z') (hd : decode c.code pc = .ok (.ireturn, 1)) (hc : cells ≤ k) (hs : slots ≤ n)
    (hq : Q (some (.int z')) T.heap locs) : OwnWk p e below (OwnP s Q k n) (T.setTop (mkF m pc Ls (.int z :: rest))) := by
  subst hz
  exact own_out X hlk (fun q => by rw [hret] at q; cases q) (fun fs hr => retN X hx hret ht hd hr) hc hs hq
theorem own_retJ (X : Stand p l e R s m args below meth c T locs cells slots) (hx : p.tables.exec = Jvm.exec) (hlk : meth.locks = false) (hret : meth.sig.returnType = some .long) {pc : Nat} {Ls : Array Slot} {z : Int64} (hd : decode c.code pc = .ok (.lreturn, 1)) (hc : cells ≤ k) (hs : slots ≤ n)
    (hq : Q (some (.long z)) T.heap locs) : OwnWk p e below (OwnP s Q k n) (T.setTop (mkF m pc Ls (.long z :: rest))) :=
  own_out X hlk (fun q => by rw [hret] at q; cases q) (fun fs hr => retOut X hx hret rfl (Or.inr (Or.inl ⟨rfl, rfl, z, rfl⟩)) hd hr) hc hs hq
theorem own_retA (X : Stand p l e R s m args below meth c T locs cells slots) (hx : p.tables.exec = Jvm.exec) (hlk : meth.locks = false) {t : FieldType} (hret : meth.sig.returnType = some t) (ht : t.isReference = true) {pc : Nat} {Ls : Array Slot} {v : Value} (hv : v.isRef = true) (hn : narrow t v = v) (hd : decode c.code pc = .ok (.areturn, 1)) (hc : cells ≤ k) (hs : slots ≤ n)
    (hq : Q (some v) T.heap locs) : OwnWk p e below (OwnP s Q k n) (T.setTop (mkF m pc Ls (v :: rest))) :=
  own_out X hlk (fun q => by rw [hret] at q; cases q) (fun fs hr => retOut X hx hret hn (Or.inr (Or.inr (Or.inr (Or.inr ⟨rfl, ht, hv⟩)))) hd hr) hc hs hq
theorem own_retV (X : Stand p l e R s m args below meth c T locs cells slots) (hx : p.tables.exec = Jvm.exec) (hlk : meth.locks = false) (hret : meth.sig.returnType = none) {pc : Nat} {Ls : Array Slot} (hd : decode c.code pc = .ok (.return_, 1)) (hc : cells ≤ k) (hs : slots ≤ n)
    (hq : Q none T.heap locs) : OwnWk p e below (OwnP s Q k n) (T.setTop (mkF m pc Ls [])) :=
  own_out X hlk (fun _ => rfl) (fun fs hr => X.returnOut hx hret hd hr) hc hs hq
/-! calls by a contract -/
variable {own C : String} {idx cnt : Nat} {y z : MethodName} {bytes : ByteArray} {maxL : Nat} {ret : Option FieldType} {rm : Room} {Q' : Option Value → Heap → List Loc → Prop} {W : Nat} {argsL : List Value} {a b : Addr}
theorem OwnMet.back {len : Nat} {as' : Array Value} (hM : OwnMet l y bytes maxL ret [] rm Z as' h Q') (hZ : Z.Warmed39 s.vm) (wc : (Jvm.Cond.code y bytes maxL ret).before a0 Z = true) (wz : (Jvm.Cond.initialized y.cls).before a0 Z = true) (hf : rm.frames + 1 ≤ R.frames) (hl : W + (maxL + 11) + rm.locals ≤ R.locals) :
    Back l R p e below s args y len W (fun A a => a = as' ∧ A.U.heap = h ∧ A.cells + rm.cells ≤ R.cells ∧ A.slots + rm.slots ≤ R.slots)
      (fun A _ v B => ∃ L, Q' v B.U.heap L ∧ B.locs = A.locs ++ L ∧ B.cells = A.cells + rm.cells ∧ B.slots = A.slots + rm.slots) := backOf (Q := Q') hM hZ wc wz hf hl
theorem own_callS (X : Stand p l e R s m args below meth c T locs cells slots) (hx : p.tables.exec = Jvm.exec) (hZ : Z.Warmed39 s.vm) (hown : s.vm.findClass own = some m.cls)
    (w1 : (Jvm.Cond.methodLink own idx y).before a0 Z = true) (w2 : (Jvm.Cond.static y).before a0 Z = true) (w3 : (Jvm.Cond.initialized y.cls).before a0 Z = true) (w4 : (Jvm.Cond.code y bytes maxL ret).before a0 Z = true)
    (hy : y.cls ≠ "java/lang/invoke/MethodHandle" ∧ y.cls ≠ "java/lang/invoke/VarHandle") (hM : OwnMet l y bytes maxL ret [] rm Z argsL.toArray h Q') (eT : T.heap = h)
    (hf : rm.frames + 1 ≤ R.frames) (hl : W + (maxL + 11) + rm.locals ≤ R.locals) (hc : cells + rm.cells ≤ R.cells) (hs : slots + rm.slots ≤ R.slots)
    (hg : g.method = m) (hsize : g.locals.size = c.maxLocals) (hlen : ∀ sig, parseMethodDescriptor y.desc = some sig → argsL.length = sig.parameters.length) (hstack : g.stack = argsL.reverse ++ rest)
    (hW : 2 * g.monitorRoom + (rest.map fun v => v.category).sum ≤ W) (hd : decode c.code g.pc = .ok (.invokestatic idx, 3))
    (K : ∀ v T' h' L, Stand p l e R s m args below meth c T' (locs ++ L) (cells + rm.cells) (slots + rm.slots) → T'.heap = h' → Q' v h' L → OwnWk p e below P (T'.setTop { g with pc := g.pc + 3, stack := v.toList ++ rest })) :
    OwnWk p e below P (T.setTop g) := by
  obtain ⟨v, vm₁, ⟨T', L', k', n'⟩, -, X', ⟨L, hQ, e1, e2, e3⟩, st⟩ := Jvm.LawKit.callS X hx hown (mvT hZ w1) (mvT hZ w2) (mvT hZ w3) (mvT hZ w4) hy (hM.back hZ w4 w3 hf hl) hg hsize hlen hstack hW hd (fun _ _ => ⟨rfl, eT, hc, hs⟩)
  dsimp only [Pt.U, Pt.locs, Pt.cells, Pt.slots] at X' e1 e2 e3 st hQ
  subst e1 e2 e3
  exact own_go st (K v T' _ L X' rfl hQ)
theorem own_callC (X : Stand p l e R s m args below meth c T locs cells slots) (hx : p.tables.exec = Jvm.exec) (hZ : Z.Warmed39 s.vm) (hown : s.vm.findClass own = some m.cls) (hy1 : y.name = "<init>")
    (w1 : (Jvm.Cond.methodLink own idx y).before a0 Z = true) (w2 : (Jvm.Cond.instanceMethod y).before a0 Z = true) (w3 : (Jvm.Cond.initialized y.cls).before a0 Z = true) (w4 : (Jvm.Cond.code y bytes maxL none).before a0 Z = true)
    (hy : y.cls ≠ "java/lang/invoke/MethodHandle" ∧ y.cls ≠ "java/lang/invoke/VarHandle") (hM : OwnMet l y bytes maxL none [] rm Z (.ref a :: argsL).toArray h Q') (eT : T.heap = h)
    (hf : rm.frames + 1 ≤ R.frames) (hl : W + (maxL + 11) + rm.locals ≤ R.locals) (hc : cells + rm.cells ≤ R.cells) (hs : slots + rm.slots ≤ R.slots)
    (hg : g.method = m) (hsize : g.locals.size = c.maxLocals) (hlen : ∀ sig, parseMethodDescriptor y.desc = some sig → argsL.length = sig.parameters.length) (hstack : g.stack = argsL.reverse ++ .ref a :: rest)
    (hW : 2 * g.monitorRoom + (rest.map fun v => v.category).sum ≤ W) (hd : decode c.code g.pc = .ok (.invokespecial idx, 3))
    (K : ∀ v T' h' L, Stand p l e R s m args below meth c T' (locs ++ L) (cells + rm.cells) (slots + rm.slots) → T'.heap = h' → Q' v h' L → OwnWk p e below P (T'.setTop { g with pc := g.pc + 3, stack := v.toList ++ rest })) :
    OwnWk p e below P (T.setTop g) := by
  obtain ⟨v, vm₁, ⟨T', L', k', n'⟩, -, X', ⟨L, hQ, e1, e2, e3⟩, st⟩ := X.specialBack hx hy1 hown (mvT hZ w1) (mvT hZ w2) (mvT hZ w4) hy (hM.back hZ w4 w3 hf hl) hg hsize (Steps.refl _) hlen hstack hW hd (fun _ _ => ⟨rfl, eT, hc, hs⟩)
  dsimp only [Pt.U, Pt.locs, Pt.cells, Pt.slots] at X' e1 e2 e3 st hQ
  subst e1 e2 e3
  exact own_go (fun t q => st.trans q) (K v T' _ L X' rfl hQ)
theorem own_callV (X : Stand p l e R s m args below meth c T locs cells slots) (hx : p.tables.exec = Jvm.exec) (hZ : Z.Warmed39 s.vm) (hown : s.vm.findClass own = some m.cls)
    (w1 : (Jvm.Cond.methodLink own idx y).before a0 Z = true) (w2 : (Jvm.Cond.declares y).before a0 Z = true) (nf : NotFace s y) (w5 : (Jvm.Cond.selects C y z).before a0 Z = true) (w6 : (Jvm.Cond.instanceMethod z).before a0 Z = true) (w3 : (Jvm.Cond.initialized z.cls).before a0 Z = true) (w4 : (Jvm.Cond.code z bytes maxL ret).before a0 Z = true)
    (hy : y.cls ≠ "java/lang/invoke/MethodHandle" ∧ y.cls ≠ "java/lang/invoke/VarHandle") (E : Exa Z h a C) (hM : OwnMet l z bytes maxL ret [] rm Z (.ref a :: argsL).toArray h Q') (eT : T.heap = h)
    (hf : rm.frames + 1 ≤ R.frames) (hl : W + (maxL + 11) + rm.locals ≤ R.locals) (hc : cells + rm.cells ≤ R.cells) (hs : slots + rm.slots ≤ R.slots)
    (hg : g.method = m) (hsize : g.locals.size = c.maxLocals) (hlen : ∀ sig, parseMethodDescriptor y.desc = some sig → argsL.length = sig.parameters.length) (hstack : g.stack = argsL.reverse ++ .ref a :: rest)
    (hW : 2 * g.monitorRoom + (rest.map fun v => v.category).sum ≤ W) (hd : decode c.code g.pc = .ok (.invokevirtual idx, 3))
    (K : ∀ v T' h' L, Stand p l e R s m args below meth c T' (locs ++ L) (cells + rm.cells) (slots + rm.slots) → T'.heap = h' → Q' v h' L → OwnWk p e below P (T'.setTop { g with pc := g.pc + 3, stack := v.toList ++ rest })) :
    OwnWk p e below P (T.setTop g) := by
  obtain ⟨cq, kq, q1, q2, q3⟩ := isOf hZ eT E
  obtain ⟨v, vm₁, ⟨T', L', k', n'⟩, -, X', ⟨L, hQ, e1, e2, e3⟩, st⟩ := X.virtualBack hx hown (mvT hZ w1) (mvT hZ w2) nf (mvT hZ w5) (mvT hZ w6) hy (hM.back hZ w4 w3 hf hl) q1 q3 hg hsize (Steps.refl _) hlen hstack hW hd (fun _ _ => ⟨rfl, eT, hc, hs⟩)
  dsimp only [Pt.U, Pt.locs, Pt.cells, Pt.slots] at X' e1 e2 e3 st hQ
  subst e1 e2 e3
  exact own_go (fun t q => st.trans q) (K v T' _ L X' rfl hQ)
theorem own_callI (X : Stand p l e R s m args below meth c T locs cells slots) (hx : p.tables.exec = Jvm.exec) (hZ : Z.Warmed39 s.vm) (hown : s.vm.findClass own = some m.cls)
    (w1 : (Jvm.Cond.methodLink own idx y).before a0 Z = true) (w2 : (Jvm.Cond.declares y).before a0 Z = true) (w7 : (Jvm.Cond.interfaceMethod y.cls y.cls y.name y.desc).before args s = true) (w5 : (Jvm.Cond.selects C y z).before a0 Z = true) (w6 : (Jvm.Cond.instanceMethod z).before a0 Z = true)
    (w8 : (Jvm.Cond.publicMethod z).before a0 Z = true) (w9 : (Jvm.Cond.unhidden C y.name y.desc).before a0 Z = true) (w10 : (Jvm.Cond.castable C y.cls).before a0 Z = true) (w3 : (Jvm.Cond.initialized z.cls).before a0 Z = true) (w4 : (Jvm.Cond.code z bytes maxL ret).before a0 Z = true)
    (hy : y.cls ≠ "java/lang/invoke/MethodHandle" ∧ y.cls ≠ "java/lang/invoke/VarHandle") (E : Exa Z h a C) (hM : OwnMet l z bytes maxL ret [] rm Z (.ref a :: argsL).toArray h Q') (eT : T.heap = h)
    (hf : rm.frames + 1 ≤ R.frames) (hl : W + (maxL + 11) + rm.locals ≤ R.locals) (hc : cells + rm.cells ≤ R.cells) (hs : slots + rm.slots ≤ R.slots)
    (hg : g.method = m) (hsize : g.locals.size = c.maxLocals) (hlen : ∀ sig, parseMethodDescriptor y.desc = some sig → argsL.length = sig.parameters.length) (hstack : g.stack = argsL.reverse ++ .ref a :: rest)
    (hW : 2 * g.monitorRoom + (rest.map fun v => v.category).sum ≤ W) (hd : decode c.code g.pc = .ok (.invokeinterface idx cnt, 5))
    (K : ∀ v T' h' L, Stand p l e R s m args below meth c T' (locs ++ L) (cells + rm.cells) (slots + rm.slots) → T'.heap = h' → Q' v h' L → OwnWk p e below P (T'.setTop { g with pc := g.pc + 5, stack := v.toList ++ rest })) :
    OwnWk p e below P (T.setTop g) := by
  obtain ⟨cq, kq, q1, q2, q3⟩ := isOf hZ eT E
  obtain ⟨v, vm₁, ⟨T', L', k', n'⟩, -, X', ⟨L, hQ, e1, e2, e3⟩, st⟩ := X.interfaceBack hx hown (mvT hZ w1) (mvT hZ w2) w7 (mvT hZ w5) (mvT hZ w6) (mvT hZ w8) (mvT hZ w9) (mvT hZ w10) hy (hM.back hZ w4 w3 hf hl) q1 q2 q3 hg hsize (Steps.refl _) hlen hstack hW hd (fun _ _ => ⟨rfl, eT, hc, hs⟩)
  dsimp only [Pt.U, Pt.locs, Pt.cells, Pt.slots] at X' e1 e2 e3 st hQ
  subst e1 e2 e3
  exact own_go (fun t q => st.trans q) (K v T' _ L X' rfl hQ)
theorem own_callP (X : Stand p l e R s m args below meth c T locs cells slots) (hx : p.tables.exec = Jvm.exec) (hZ : Z.Warmed39 s.vm) (hown : s.vm.findClass own = some m.cls)
    (w1 : (Jvm.Cond.methodLink own idx y).before a0 Z = true) (w2 : (Jvm.Cond.instanceMethod y).before a0 Z = true) (w5 : (Jvm.Cond.selects y.cls y y).before a0 Z = true) (w6 : (Jvm.Cond.privateMethod y).before a0 Z = true) (w3 : (Jvm.Cond.initialized y.cls).before a0 Z = true) (w4 : (Jvm.Cond.code y bytes maxL ret).before a0 Z = true)
    (hy : y.cls ≠ "java/lang/invoke/MethodHandle" ∧ y.cls ≠ "java/lang/invoke/VarHandle") (E : Exa Z h a C) (hM : OwnMet l y bytes maxL ret [] rm Z (.ref a :: argsL).toArray h Q') (eT : T.heap = h)
    (hf : rm.frames + 1 ≤ R.frames) (hl : W + (maxL + 11) + rm.locals ≤ R.locals) (hc : cells + rm.cells ≤ R.cells) (hs : slots + rm.slots ≤ R.slots)
    (hg : g.method = m) (hsize : g.locals.size = c.maxLocals) (hlen : ∀ sig, parseMethodDescriptor y.desc = some sig → argsL.length = sig.parameters.length) (hstack : g.stack = argsL.reverse ++ .ref a :: rest)
    (hW : 2 * g.monitorRoom + (rest.map fun v => v.category).sum ≤ W) (hd : decode c.code g.pc = .ok (.invokevirtual idx, 3))
    (K : ∀ v T' h' L, Stand p l e R s m args below meth c T' (locs ++ L) (cells + rm.cells) (slots + rm.slots) → T'.heap = h' → Q' v h' L → OwnWk p e below P (T'.setTop { g with pc := g.pc + 3, stack := v.toList ++ rest })) :
    OwnWk p e below P (T.setTop g) := by
  obtain ⟨cq, q, q'⟩ := E.cell
  obtain ⟨v, vm₁, ⟨T', L', k', n'⟩, -, X', ⟨L, hQ, e1, e2, e3⟩, st⟩ := X.privateBack hx hown (mvT hZ w1) (mvT hZ w2) (mvT hZ w5) (Cond.privateMethod_at (mvP hZ w6 (args := #[]))) (mvT hZ w4) hy (hM.back hZ w4 w3 hf hl) hg hsize (Steps.refl _) (by rw [eT]; exact q) q' hlen hstack hW hd (fun _ _ => ⟨rfl, eT, hc, hs⟩)
  dsimp only [Pt.U, Pt.locs, Pt.cells, Pt.slots] at X' e1 e2 e3 st hQ
  subst e1 e2 e3
  exact own_go (fun t q => st.trans q) (K v T' _ L X' rfl hQ)
/-! arrays by their lists -/
variable {vs : List Value} {ty : FieldType} {j : Int32} {v : Value}
theorem own_in (c : Cell) (e : c.slots = vs.toArray) (h0 : ¬ j < 0) (hj : j.toNatClampNeg < vs.length) : ¬ (j < 0 ∨ c.slots.size ≤ j.toNatClampNeg) := by
  rw [e]; simp only [List.size_toArray]
  rintro (q | q)
  · exact h0 q
  · omega
theorem own_len (X : Stand p l e R s m args below meth c T locs cells slots) (hx : p.tables.exec = Jvm.exec) (hZ : Z.Warmed39 s.vm) (eT : T.heap = h) (A : OAr Z h a ty vs) (hg : g.method = m) (hs : g.stack = .ref a :: rest) (hd : decode c.code g.pc = .ok (.arraylength, 1)) {N : Int32} (hN : vs.length.toInt32 = N)
    (K : OwnWk p e below P (T.setTop { g with pc := g.pc + 1, stack := .int N :: rest })) : OwnWk p e below P (T.setTop g) := by
  obtain ⟨cl, A, ec⟩ := A
  refine own_go (fun t q => X.arraylength hx (by rw [eT]; exact A.1) (State.isArrayOf_alike hZ.alike A.2.1) hg hs hd _ q) ?_
  rw [ec, List.size_toArray, hN]; exact K
theorem own_ldI (X : Stand p l e R s m args below meth c T locs cells slots) (hx : p.tables.exec = Jvm.exec) (hZ : Z.Warmed39 s.vm) (eT : T.heap = h) (A : OAr Z h a .int vs) (hg : g.method = m) (hs : g.stack = .int j :: .ref a :: rest) (hd : decode c.code g.pc = .ok (.iaload, 1)) (h0 : ¬ j < 0) (hj : vs[j.toNatClampNeg]? = some v)
    (K : OwnWk p e below P (T.setTop { g with pc := g.pc + 1, stack := v :: rest })) : OwnWk p e below P (T.setTop g) := by
  obtain ⟨cl, A, ec⟩ := A
  exact own_go (fun t q => X.iaload hx (by rw [eT]; exact A.1) (State.isArrayOf_alike hZ.alike A.2.1) A.2.2 (own_in cl ec h0 (List.getElem?_eq_some_iff.mp hj).1) (by rw [ec]; simpa using hj) hg hs hd _ q) K
theorem own_ldJ (X : Stand p l e R s m args below meth c T locs cells slots) (hx : p.tables.exec = Jvm.exec) (hZ : Z.Warmed39 s.vm) (eT : T.heap = h) (A : OAr Z h a .long vs) (hg : g.method = m) (hs : g.stack = .int j :: .ref a :: rest) (hd : decode c.code g.pc = .ok (.laload, 1)) (h0 : ¬ j < 0) (hj : vs[j.toNatClampNeg]? = some v)
    (K : OwnWk p e below P (T.setTop { g with pc := g.pc + 1, stack := v :: rest })) : OwnWk p e below P (T.setTop g) := by
  obtain ⟨cl, A, ec⟩ := A
  exact own_go (fun t q => X.laload hx (by rw [eT]; exact A.1) (State.isArrayOf_alike hZ.alike A.2.1) A.2.2 (own_in cl ec h0 (List.getElem?_eq_some_iff.mp hj).1) (by rw [ec]; simpa using hj) hg hs hd _ q) K
theorem own_ldA (X : Stand p l e R s m args below meth c T locs cells slots) (hx : p.tables.exec = Jvm.exec) (hZ : Z.Warmed39 s.vm) (eT : T.heap = h) (A : OAr Z h a ty vs) (hty : ty.isReference = true) (hg : g.method = m) (hs : g.stack = .int j :: .ref a :: rest) (hd : decode c.code g.pc = .ok (.aaload, 1)) (h0 : ¬ j < 0) (hj : vs[j.toNatClampNeg]? = some v)
    (K : OwnWk p e below P (T.setTop { g with pc := g.pc + 1, stack := v :: rest })) : OwnWk p e below P (T.setTop g) := by
  obtain ⟨cl, A, ec⟩ := A
  exact own_go (fun t q => X.aaload hx (by rw [eT]; exact A.1) (State.isArrayOf_alike hZ.alike A.2.1) hty A.2.2 (own_in cl ec h0 (List.getElem?_eq_some_iff.mp hj).1) (by rw [ec]; simpa using hj) hg hs hd _ q) K
theorem own_stI (X : Stand p l e R s m args below meth c T locs cells slots) (hx : p.tables.exec = Jvm.exec) (hZ : Z.Warmed39 s.vm) (eT : T.heap = h) (A : OAr Z h a .int vs) {x : Int32} (hg : g.method = m) (hs : g.stack = .int x :: .int j :: .ref a :: rest) (hd : decode c.code g.pc = .ok (.iastore, 1)) (h0 : ¬ j < 0) (hj : j.toNatClampNeg < vs.length)
    (K : ∀ T' h', Stand p l e R s m args below meth c T' (locs ++ [⟨a, j.toNatClampNeg⟩]) cells slots → T'.heap = h' → Wr h h' a j.toNatClampNeg (.int x) → OAr Z h' a .int (vs.set j.toNatClampNeg (.int x)) → OwnWk p e below P (T'.setTop { g with pc := g.pc + 1, stack := rest })) : OwnWk p e below P (T.setTop g) := by
  obtain ⟨cl, A', ec⟩ := A
  obtain ⟨T', h', X', e', W', st⟩ := stI X hx hZ eT A' (j := j) (own_in cl ec h0 hj) hg hs hd
  exact own_go st (K T' h' X' e' W' (OAr.set ⟨cl, A', ec⟩ W'))
theorem own_stJ (X : Stand p l e R s m args below meth c T locs cells slots) (hx : p.tables.exec = Jvm.exec) (hZ : Z.Warmed39 s.vm) (eT : T.heap = h) (A : OAr Z h a .long vs) {x : Int64} (hg : g.method = m) (hs : g.stack = .long x :: .int j :: .ref a :: rest) (hd : decode c.code g.pc = .ok (.lastore, 1)) (h0 : ¬ j < 0) (hj : j.toNatClampNeg < vs.length)
    (K : ∀ T' h', Stand p l e R s m args below meth c T' (locs ++ [⟨a, j.toNatClampNeg⟩]) cells slots → T'.heap = h' → Wr h h' a j.toNatClampNeg (.long x) → OAr Z h' a .long (vs.set j.toNatClampNeg (.long x)) → OwnWk p e below P (T'.setTop { g with pc := g.pc + 1, stack := rest })) : OwnWk p e below P (T.setTop g) := by
  obtain ⟨cl, A', ec⟩ := A
  obtain ⟨T', h', X', e', W', st⟩ := stJ X hx hZ eT A' (j := j) (own_in cl ec h0 hj) hg hs hd
  exact own_go st (K T' h' X' e' W' (OAr.set ⟨cl, A', ec⟩ W'))
theorem own_newP {aty : ArrayType} (X : Stand p l e R s m args below meth c T locs cells slots) (hx : p.tables.exec = Jvm.exec) (hZ : Z.Warmed39 s.vm) (w : (Jvm.Cond.arrayClass (newarray.typeOf aty)).before a0 Z = true) (eT : T.heap = h) (hg : g.method = m) (hd : decode c.code g.pc = .ok (.newarray aty, 2)) {N : Int32} (hs : g.stack = .int N :: rest)
    (hn : ¬ N < 0) {cap : Nat} (hcap : N.toNatClampNeg ≤ cap) (hb : cap * 8 ≤ 536870912) (hc : cells + 1 ≤ R.cells) (hl : slots + cap ≤ R.slots)
    (K : ∀ T' h' b, Stand p l e R s m args below meth c T' locs (cells + 1) (slots + cap) → T'.heap = h' → b = h.size → Ext h h' → OAr Z h' b (newarray.typeOf aty) (List.replicate N.toNatClampNeg (defaultValue (newarray.typeOf aty))) → OwnWk p e below P (T'.setTop { g with pc := g.pc + 2, stack := .ref b :: rest })) : OwnWk p e below P (T.setTop g) := by
  obtain ⟨T', h', cA, X', e', E', A', st⟩ := newP X hx hZ w eT hg hd hs hn hcap hb hc hl
  exact own_go st (K T' h' _ X' e' rfl E' ⟨_, A', by simp [newA]⟩)
theorem own_newPE {aty : ArrayType} {ad : String} (X : Stand p l e R s m args below meth c T locs cells slots) (hx : p.tables.exec = Jvm.exec) (hZ : Z.Warmed39 s.vm) (w : (Jvm.Cond.arrayClass (newarray.typeOf aty)).before a0 Z = true) (eT : T.heap = h) (hg : g.method = m) (hd : decode c.code g.pc = .ok (.newarray aty, 2)) {N : Int32} (hs : g.stack = .int N :: rest)
    (hn : ¬ N < 0) {cap : Nat} (hcap : N.toNatClampNeg ≤ cap) (hb : cap * 8 ≤ 536870912) (hc : cells + 1 ≤ R.cells) (hl : slots + cap ≤ R.slots) (had : "[" ++ (newarray.typeOf aty).toString = ad)
    (K : ∀ T' h' b, Stand p l e R s m args below meth c T' locs (cells + 1) (slots + cap) → T'.heap = h' → b = h.size → Ext h h' → OAr Z h' b (newarray.typeOf aty) (List.replicate N.toNatClampNeg (defaultValue (newarray.typeOf aty))) → Exa Z h' b ad → OwnWk p e below P (T'.setTop { g with pc := g.pc + 2, stack := .ref b :: rest })) : OwnWk p e below P (T.setTop g) := by
  obtain ⟨T', h', cA, X', e', E', A', Ex, st⟩ := newPE X hx hZ w eT hg hd hs hn hcap hb hc hl had
  exact own_go st (K T' h' _ X' e' rfl E' ⟨_, A', by simp [newA]⟩ Ex)
theorem own_clone {ad : String} (X : Stand p l e R s m args below meth c T locs cells slots) (hx : p.tables.exec = Jvm.exec) (hZ : Z.Warmed39 s.vm) (hown : s.vm.findClass own = some m.cls)
    (w1 : (Jvm.Cond.methodLink own idx ⟨ad, "clone", "()Ljava/lang/Object;"⟩).before a0 Z = true) (w2 : (Jvm.Cond.sameMethod ad "java/lang/Object" "clone" "()Ljava/lang/Object;").before a0 Z = true) (w3 : (Jvm.Cond.native ⟨"java/lang/Object", "clone", "()Ljava/lang/Object;"⟩).before a0 Z = true)
    (w4 : (Jvm.Cond.instanceMethod ⟨"java/lang/Object", "clone", "()Ljava/lang/Object;"⟩).before a0 Z = true) (w5 : (Jvm.Cond.selects ad ⟨ad, "clone", "()Ljava/lang/Object;"⟩ ⟨"java/lang/Object", "clone", "()Ljava/lang/Object;"⟩).before a0 Z = true) (w6 : (Jvm.Cond.castable ad "java/lang/Cloneable").before a0 Z = true)
    (eT : T.heap = h) (A : OAr Z h a ty vs) (E : Exa Z h a ad) (F : ∀ v ∈ vs, fits ty v = true) (hg : g.method = m) (hsize : g.locals.size = c.maxLocals) (hs : g.stack = .ref a :: rest) (hd : decode c.code g.pc = .ok (.invokevirtual idx, 3))
    (hf : 1 ≤ R.frames) {cap : Nat} (hW : 2 * g.monitorRoom + (rest.map fun v => v.category).sum ≤ W) (hl : W + 14 ≤ R.locals) (hcap : vs.length ≤ cap) (hc : cells + 1 ≤ R.cells) (hsl : slots + cap ≤ R.slots)
    (K : ∀ T' h' b, Stand p l e R s m args below meth c T' locs (cells + 1) (slots + cap) → T'.heap = h' → b = h.size → Ext h h' → OAr Z h' b ty vs → Exa Z h' b ad → OwnWk p e below P (T'.setTop { g with pc := g.pc + 3, stack := .ref b :: rest })) : OwnWk p e below P (T.setTop g) := by
  obtain ⟨cl, A, ec⟩ := A
  have FC : FitC Z cl := fitC_of A fun i hi v hv => by
    rw [ec] at hv
    exact F v (List.mem_of_getElem? (by simpa using hv))
  obtain ⟨T', h', X', e', E', A', Ex, st⟩ := cloneA X hx hZ hown w1 w2 w3 w4 w5 w6 eT A E FC hg hsize hs hd hf hW hl (by rw [ec]; simpa using hcap) hc hsl
  exact own_go st (K T' h' _ X' e' rfl E' ⟨_, A', ec⟩ Ex)
end Own
/-! comparisons of longs -/
theorem own_tri (x y : Int64) : x < y ∨ x = y ∨ y < x := by
  rcases Int.lt_trichotomy x.toInt y.toInt with h | h | h
  · exact Or.inl (Int64.lt_iff_toInt_lt.mpr h)
  · exact Or.inr (Or.inl (Int64.toInt_inj.mp h))
  · exact Or.inr (Or.inr (Int64.lt_iff_toInt_lt.mpr h))
theorem own_lc_lt {x y : Int64} : (lcmpW x y < 0) ↔ x < y := by
  unfold lcmpW
  rcases own_tri x y with h | h | h
  · have h1 : ¬ x > y := Int64.lt_asymm h
    have h2 : ¬ x = y := Int64.ne_of_lt h
    simp [h1, h2, h]
  · subst h; simp
  · have h1 : ¬ x < y := Int64.lt_asymm h
    simp [h, h1]
theorem own_lc_gt {x y : Int64} : (0 < lcmpW x y) ↔ y < x := by
  unfold lcmpW
  rcases own_tri x y with h | h | h
  · have h1 : ¬ x > y := Int64.lt_asymm h
    have h2 : ¬ x = y := Int64.ne_of_lt h
    have h3 : ¬ y < x := h1
    simp [h1, h2, h3]
  · subst h; simp
  · simp [h]
theorem own_lc_eq {x y : Int64} : (lcmpW x y = 0) ↔ x = y := by
  unfold lcmpW
  rcases own_tri x y with h | h | h
  · have h1 : ¬ x > y := Int64.lt_asymm h
    have h2 : ¬ x = y := Int64.ne_of_lt h
    simp [h1, h2]
  · subst h; simp
  · have h2 : ¬ x = y := (Int64.ne_of_lt h).symm
    simp [h, h2]
theorem own_n_int {i : Nat} (h : i < 2 ^ 31) : (Int32.ofNat i).toInt = (i : Int) := by
  rw [Int32.toInt_ofNat']
  simp only [Int32.size, Int.bmod]
  omega
theorem own_n_nat {i : Nat} (h : i < 2 ^ 31) : (Int32.ofNat i).toNatClampNeg = i := by
  simp only [Int32.toNatClampNeg, own_n_int h]; omega
theorem own_n_nn {i : Nat} (h : i < 2 ^ 31) : ¬ Int32.ofNat i < 0 := by
  rw [Int32.lt_iff_toInt_lt, own_n_int h]; have : (0 : Int32).toInt = 0 := rfl
  omega
theorem own_n_lt {i j : Nat} (hi : i < 2 ^ 31) (hj : j < 2 ^ 31) : Int32.ofNat i < Int32.ofNat j ↔ i < j := by
  rw [Int32.lt_iff_toInt_lt, own_n_int hi, own_n_int hj]; omega
theorem own_n_succ {i : Nat} : Int32.ofNat i + (1 : Int32) = Int32.ofNat (i + 1) := by
  rw [Int32.ofNat_add]; rfl
theorem own_n_len (xs : List Int32) : (xs.map Value.int).length.toInt32 = Int32.ofNat xs.length := by rw [List.length_map]
theorem own_n_at {xs : List Int32} {i : Nat} {x : Int32} (h : i < 2 ^ 31) (hx : xs[i]? = some x) : (xs.map Value.int)[(Int32.ofNat i).toNatClampNeg]? = some (.int x) := by
  rw [own_n_nat h, List.getElem?_map, hx]; rfl
theorem own_drop {α : Type} {xs : List α} {i : Nat} {x : α} (h : xs[i]? = some x) : xs.drop i = x :: xs.drop (i + 1) := by
  obtain ⟨hi, rfl⟩ := List.getElem?_eq_some_iff.mp h
  exact List.drop_eq_getElem_cons hi
theorem own_get {α : Type} {xs : List α} {i : Nat} (h : i < xs.length) : ∃ x, xs[i]? = some x := ⟨xs[i], List.getElem?_eq_getElem h⟩
theorem own_and3 (u : Int32) : (u &&& 3) = 0 ∨ (u &&& 3) = 1 ∨ (u &&& 3) = 2 ∨ (u &&& 3) = 3 := by
  have h : (u &&& 3).toBitVec.toNat < 4 := by
    simp only [Int32.toBitVec_and, BitVec.toNat_and]
    exact Nat.lt_of_le_of_lt Nat.and_le_right (by decide)
  have e : ∀ k : Nat, k < 4 → (u &&& 3).toBitVec.toNat = k → (u &&& 3) = Int32.ofNat k := fun k hk q => by
    apply Int32.toBitVec_inj.mp; apply BitVec.eq_of_toNat_eq; rw [q]; simp [Int32.toBitVec, Int32.ofNat]; omega
  have c : (u &&& 3).toBitVec.toNat = 0 ∨ (u &&& 3).toBitVec.toNat = 1 ∨ (u &&& 3).toBitVec.toNat = 2 ∨ (u &&& 3).toBitVec.toNat = 3 := by omega
  rcases c with c | c | c | c
  · exact Or.inl (e 0 (by decide) c)
  · exact Or.inr (Or.inl (e 1 (by decide) c))
  · exact Or.inr (Or.inr (Or.inl (e 2 (by decide) c)))
  · exact Or.inr (Or.inr (Or.inr (e 3 (by decide) c)))
theorem own_three {u n : Int32} (h : n = (u &&& (3 : Int32))) (h0 : ¬ n = 0) (h1 : ¬ n = 1) (h2 : ¬ n = 2) : n = 3 := by
  subst h
  rcases own_and3 u with q | q | q | q
  · exact absurd q h0
  · exact absurd q h1
  · exact absurd q h2
  · exact q
def own_cov : List Int32 → List Int32 → Int32 → Int32 → Int32
  | x :: xs, y :: ys, i, acc => if x < y then -1 else own_cov xs ys (i + 1) (if acc < 0 then (if y < x then i else acc) else acc)
  | _, _, _, acc => acc
def own_ref (n x0 x1 x2 y0 y1 y2 : Int32) : Int32 :=
  if ¬ n < 1 ∧ x0 < y0 then -1 else if ¬ n < 2 ∧ x1 < y1 then -1 else if ¬ n < 3 ∧ x2 < y2 then -1
  else if ¬ n < 1 ∧ y0 < x0 then 0 else if ¬ n < 2 ∧ y1 < x1 then 1 else if ¬ n < 3 ∧ y2 < x2 then 2 else -1
theorem own_last0 (x0 x1 x2 y0 y1 y2 : Int32) : own_cov [] [] 0 (-1) = own_ref 0 x0 x1 x2 y0 y1 y2 := by
  simp [own_cov, own_ref]
theorem own_last1 (x0 x1 x2 y0 y1 y2 : Int32) : own_cov [x0] [y0] 0 (-1) = own_ref 1 x0 x1 x2 y0 y1 y2 := by
  simp [own_cov, own_ref]
theorem own_last2 (x0 x1 x2 y0 y1 y2 : Int32) : own_cov [x0, x1] [y0, y1] 0 (-1) = own_ref 2 x0 x1 x2 y0 y1 y2 := by
  simp only [own_cov, own_ref]
  by_cases h0 : x0 < y0 <;> by_cases h1 : x1 < y1 <;> by_cases g0 : y0 < x0 <;> by_cases g1 : y1 < x1 <;> simp [h0, h1, g0, g1]
theorem own_last3 (x0 x1 x2 y0 y1 y2 : Int32) : own_cov [x0, x1, x2] [y0, y1, y2] 0 (-1) = own_ref 3 x0 x1 x2 y0 y1 y2 := by
  simp only [own_cov, own_ref]
  by_cases h0 : x0 < y0 <;> by_cases h1 : x1 < y1 <;> by_cases h2 : x2 < y2 <;> by_cases g0 : y0 < x0 <;> by_cases g1 : y1 < x1 <;> by_cases g2 : y2 < x2 <;> simp [h0, h1, h2, g0, g1, g2]
theorem pn_pn_1 : plainName "com/example/antipode/antipode/net/Marking" = true := by first | (simp [plainName, overriddenIn]; done) | decide +kernel
theorem pn_1 : plainFor (⟨"com/example/antipode/antipode/net/Marking", "<init>", "([I)V"⟩ : MethodName) = true := plainFor_of_name pn_pn_1
theorem d1_0 : decode prog_109_method_1_code 0 = .ok (.aload_n 0, 1) := by decide +kernel
theorem d1_1 : decode prog_109_method_1_code 1 = .ok (.invokespecial 1, 3) := by decide +kernel
theorem d1_4 : decode prog_109_method_1_code 4 = .ok (.aload_n 0, 1) := by decide +kernel
theorem d1_5 : decode prog_109_method_1_code 5 = .ok (.aload_n 1, 1) := by decide +kernel
theorem d1_6 : decode prog_109_method_1_code 6 = .ok (.putfield 7, 3) := by decide +kernel
theorem d1_9 : decode prog_109_method_1_code 9 = .ok (.return_, 1) := by decide +kernel
theorem ef_rm1 (m : MethodId) (x0 : Addr) (x1 : Addr) : entryFrame m #[(.ref x0), (.ref x1)] 2 = mkF m 0 #[.val (.ref x0), .val (.ref x1)] [] := by first | (simp [entryFrame, mkF, argsToLocals, Value.category]; done) | rfl
def Q_rm1 (Z : State) (a t1 : Addr) (h0 : Heap) (n0 : Nat) (v : Option Value) (h : Heap) (L : List Loc) : Prop := v = none ∧ Fr n0 L ∧ Keep h0 h [a] ∧ Fld Z h a "com/example/antipode/antipode/net/Marking" "tokens" "[I" (.ref t1)
set_option maxRecDepth 65536 in
set_option maxHeartbeats 40000000 in
theorem rm1 (l : Launch) (Z : State) (a0 : Array Value) (hw : ∀ d ∈ tables_1, d.before a0 Z = true) (a t1 : Addr) (h0 : Heap) (n0 : Nat) (Z0 : n0 ≤ h0.size) (F_a : Fld Z h0 a "com/example/antipode/antipode/net/Marking" "tokens" "[I" .null) (E_a : Exa Z h0 a "com/example/antipode/antipode/net/Marking") (g_a : n0 ≤ a) :
    OwnMet l (⟨"com/example/antipode/antipode/net/Marking", "<init>", "([I)V"⟩ : MethodName) prog_109_method_1_code 2 none [] ({ frames := 1, cells := 0, slots := 0, locals := 12 } : Room) Z #[(.ref a), (.ref t1)] h0 (Q_rm1 Z a t1 h0 n0) := by
  refine own_met pn_1 (fun p e s m below meth c s₁ hx hby hml hown hnm hret hlk hZ X0 e0 => ?_)
  have hown : s.vm.findClass "com/example/antipode/antipode/net/Marking" = some m.cls := hown
  have N0 := Fr.nil n0
  have K0 := Keep.refl h0 [a]
  rw [ef_rm1]
  show OwnWk _ _ _ _ (s₁.setTop (mkF m 0 #[.val (.ref a), .val (.ref t1)] []))
  refine own_go (fun t k => XS.aloadN X0.here hx rfl (hb hby d1_0) rfl rfl  k) ?_
  show OwnWk _ _ _ _ (s₁.setTop (mkF m 1 #[.val (.ref a), .val (.ref t1)] [(.ref a)]))
  obtain ⟨T1, X1, e1, st1⟩ := initO X0 hx hZ hown (hw _ (List.mem_of_getElem? (i := 7) rfl)) (hw _ (List.mem_of_getElem? (i := 8) rfl)) (hw _ (List.mem_of_getElem? (i := 9) rfl)) e0 (g := (mkF m 1 #[.val (.ref a), .val (.ref t1)] [(.ref a)])) rfl (by rw [hml]; rfl) rfl (hb hby d1_1) (by decide) (W := 0) (by show 2 * 0 + _ ≤ _; exact Nat.le_of_eq rfl) (by decide)
  refine own_go st1 ?_
  show OwnWk _ _ _ _ (T1.setTop (mkF m 4 #[.val (.ref a), .val (.ref t1)] []))
  refine own_go (fun t k => XS.aloadN X1.here hx rfl (hb hby d1_4) rfl rfl  k) ?_
  show OwnWk _ _ _ _ (T1.setTop (mkF m 5 #[.val (.ref a), .val (.ref t1)] [(.ref a)]))
  refine own_go (fun t k => XS.aloadN X1.here hx rfl (hb hby d1_5) rfl rfl  k) ?_
  show OwnWk _ _ _ _ (T1.setTop (mkF m 6 #[.val (.ref a), .val (.ref t1)] [(.ref t1), (.ref a)]))
  obtain ⟨T2, h2, X2, e2, W2, st2⟩ := putF X1 hx hZ hown (host := "") (Or.inl (hw _ (List.mem_of_getElem? (i := 10) rfl))) Via.refl e1 F_a E_a (Or.inr ⟨(hw _ (List.mem_of_getElem? (i := 11) rfl)), rfl, hnm⟩) (hw _ (List.mem_of_getElem? (i := 2) rfl)) (v := (.ref t1)) (ty := (.array .int)) (by decide) rfl rfl (g := (mkF m 6 #[.val (.ref a), .val (.ref t1)] [(.ref t1), (.ref a)])) rfl rfl (hb hby d1_6)
  refine own_go st2 ?_
  have N2 := Fr.snoc X2 N0 g_a
  have Fw2 := Fld.same W2 F_a
  have F3 := Exa.wr W2 E_a
  have Z4 := Nat.le_trans Z0 (Keep.of_wr W2).1
  have K5 := Keep.wr K0 W2 (Or.inl (List.mem_of_getElem? (i := 0) rfl))
  show OwnWk _ _ _ _ (T2.setTop (mkF m 9 #[.val (.ref a), .val (.ref t1)] []))
  exact own_retV X2 hx hlk hret (hb hby d1_9) (by decide) (by decide) (by rw [e2]; exact ⟨rfl, N2, K5, Fw2⟩)
theorem pn_pn_3 : plainName "com/example/antipode/antipode/net/Marking" = true := by first | (simp [plainName, overriddenIn]; done) | decide +kernel
theorem pn_3 : plainFor (⟨"com/example/antipode/antipode/net/Marking", "strictlyCovers", "(Lcom/example/antipode/antipode/net/Marking;)I"⟩ : MethodName) = true := plainFor_of_name pn_pn_3
theorem d3_0 : decode prog_109_method_5_code 0 = .ok (.iconst (-1), 1) := by decide +kernel
theorem d3_1 : decode prog_109_method_5_code 1 = .ok (.istore_n 2, 1) := by decide +kernel
theorem d3_2 : decode prog_109_method_5_code 2 = .ok (.iconst 0, 1) := by decide +kernel
theorem d3_3 : decode prog_109_method_5_code 3 = .ok (.istore_n 3, 1) := by decide +kernel
theorem d3_4 : decode prog_109_method_5_code 4 = .ok (.iload_n 3, 1) := by decide +kernel
theorem d3_5 : decode prog_109_method_5_code 5 = .ok (.aload_n 0, 1) := by decide +kernel
theorem d3_6 : decode prog_109_method_5_code 6 = .ok (.getfield 7, 3) := by decide +kernel
theorem d3_9 : decode prog_109_method_5_code 9 = .ok (.arraylength, 1) := by decide +kernel
theorem d3_10 : decode prog_109_method_5_code 10 = .ok (.if_icmp .ge 47, 3) := by decide +kernel
theorem d3_57 : decode prog_109_method_5_code 57 = .ok (.iload_n 2, 1) := by decide +kernel
theorem d3_58 : decode prog_109_method_5_code 58 = .ok (.ireturn, 1) := by decide +kernel
theorem d3_13 : decode prog_109_method_5_code 13 = .ok (.aload_n 0, 1) := by decide +kernel
theorem d3_14 : decode prog_109_method_5_code 14 = .ok (.getfield 7, 3) := by decide +kernel
theorem d3_17 : decode prog_109_method_5_code 17 = .ok (.iload_n 3, 1) := by decide +kernel
theorem d3_18 : decode prog_109_method_5_code 18 = .ok (.iaload, 1) := by decide +kernel
theorem d3_19 : decode prog_109_method_5_code 19 = .ok (.aload_n 1, 1) := by decide +kernel
theorem d3_20 : decode prog_109_method_5_code 20 = .ok (.getfield 7, 3) := by decide +kernel
theorem d3_23 : decode prog_109_method_5_code 23 = .ok (.iload_n 3, 1) := by decide +kernel
theorem d3_24 : decode prog_109_method_5_code 24 = .ok (.iaload, 1) := by decide +kernel
theorem d3_25 : decode prog_109_method_5_code 25 = .ok (.if_icmp .ge 5, 3) := by decide +kernel
theorem d3_28 : decode prog_109_method_5_code 28 = .ok (.iconst (-1), 1) := by decide +kernel
theorem d3_29 : decode prog_109_method_5_code 29 = .ok (.ireturn, 1) := by decide +kernel
theorem d3_30 : decode prog_109_method_5_code 30 = .ok (.iload_n 2, 1) := by decide +kernel
theorem d3_31 : decode prog_109_method_5_code 31 = .ok (.ifCond .ge 20, 3) := by decide +kernel
theorem d3_34 : decode prog_109_method_5_code 34 = .ok (.aload_n 0, 1) := by decide +kernel
theorem d3_35 : decode prog_109_method_5_code 35 = .ok (.getfield 7, 3) := by decide +kernel
theorem d3_38 : decode prog_109_method_5_code 38 = .ok (.iload_n 3, 1) := by decide +kernel
theorem d3_39 : decode prog_109_method_5_code 39 = .ok (.iaload, 1) := by decide +kernel
theorem d3_40 : decode prog_109_method_5_code 40 = .ok (.aload_n 1, 1) := by decide +kernel
theorem d3_41 : decode prog_109_method_5_code 41 = .ok (.getfield 7, 3) := by decide +kernel
theorem d3_44 : decode prog_109_method_5_code 44 = .ok (.iload_n 3, 1) := by decide +kernel
theorem d3_45 : decode prog_109_method_5_code 45 = .ok (.iaload, 1) := by decide +kernel
theorem d3_46 : decode prog_109_method_5_code 46 = .ok (.if_icmp .le 5, 3) := by decide +kernel
theorem d3_49 : decode prog_109_method_5_code 49 = .ok (.iload_n 3, 1) := by decide +kernel
theorem d3_50 : decode prog_109_method_5_code 50 = .ok (.istore_n 2, 1) := by decide +kernel
theorem d3_51 : decode prog_109_method_5_code 51 = .ok (.iinc 3 1, 3) := by decide +kernel
theorem d3_54 : decode prog_109_method_5_code 54 = .ok (.goto (-50), 3) := by decide +kernel
theorem ef_rm3 (m : MethodId) (x0 : Addr) (x1 : Addr) : entryFrame m #[(.ref x0), (.ref x1)] 4 = mkF m 0 #[.val (.ref x0), .val (.ref x1), .unset, .unset] [] := by first | (simp [entryFrame, mkF, argsToLocals, Value.category]; done) | rfl
def Q_rm3 (Z : State) (a b t1 t2 : Addr) (xs ys : List Int32) (h0 : Heap) (n0 : Nat) (v : Option Value) (h : Heap) (L : List Loc) : Prop := v = some (.int (own_cov xs ys 0 (-1))) ∧ Fr n0 L ∧ h = h0
set_option maxRecDepth 65536 in
set_option maxHeartbeats 40000000 in
theorem rm3 (l : Launch) (Z : State) (a0 : Array Value) (hw : ∀ d ∈ tables_1, d.before a0 Z = true) (a b t1 t2 : Addr) (xs ys : List Int32) (h0 : Heap) (n0 : Nat) (Z0 : n0 ≤ h0.size) (F_a : Fld Z h0 a "com/example/antipode/antipode/net/Marking" "tokens" "[I" (.ref t1)) (F_b : Fld Z h0 b "com/example/antipode/antipode/net/Marking" "tokens" "[I" (.ref t2)) (V_a : OAr Z h0 t1 .int (xs.map .int)) (V_b : OAr Z h0 t2 .int (ys.map .int)) (hlen : ys.length = xs.length) (h31 : xs.length < 2 ^ 31) :
    OwnMet l (⟨"com/example/antipode/antipode/net/Marking", "strictlyCovers", "(Lcom/example/antipode/antipode/net/Marking;)I"⟩ : MethodName) prog_109_method_5_code 4 (some .int) [] ({ frames := 0, cells := 0, slots := 0, locals := 0 } : Room) Z #[(.ref a), (.ref b)] h0 (Q_rm3 Z a b t1 t2 xs ys h0 n0) := by
  refine own_met pn_3 (fun p e s m below meth c s₁ hx hby hml hown hnm hret hlk hZ X0 e0 => ?_)
  have hown : s.vm.findClass "com/example/antipode/antipode/net/Marking" = some m.cls := hown
  have N0 := Fr.nil n0
  rw [ef_rm3]
  show OwnWk _ _ _ _ (s₁.setTop (mkF m 0 #[.val (.ref a), .val (.ref b), .unset, .unset] []))
  refine own_go (fun t k => XS.iconst X0.here hx rfl (hb hby d3_0) k) ?_
  show OwnWk _ _ _ _ (s₁.setTop (mkF m 1 #[.val (.ref a), .val (.ref b), .unset, .unset] [(.int (-1 : Int32))]))
  refine own_go (fun t k => XS.istoreN X0.here hx rfl (hb hby d3_1) rfl (l' := #[.val (.ref a), .val (.ref b), .val (.int (-1 : Int32)), .unset]) rfl k) ?_
  show OwnWk _ _ _ _ (s₁.setTop (mkF m 2 #[.val (.ref a), .val (.ref b), .val (.int (-1 : Int32)), .unset] []))
  refine own_go (fun t k => XS.iconst X0.here hx rfl (hb hby d3_2) k) ?_
  show OwnWk _ _ _ _ (s₁.setTop (mkF m 3 #[.val (.ref a), .val (.ref b), .val (.int (-1 : Int32)), .unset] [(.int (0 : Int32))]))
  refine own_go (fun t k => XS.istoreN X0.here hx rfl (hb hby d3_3) rfl (l' := #[.val (.ref a), .val (.ref b), .val (.int (-1 : Int32)), .val (.int (0 : Int32))]) rfl k) ?_
  show OwnWk _ _ _ _ (s₁.setTop (mkF m 4 #[.val (.ref a), .val (.ref b), .val (.int (-1 : Int32)), .val (.int (0 : Int32))] []))
  have LP : ∀ (k i : Nat) (acc : Int32) (T : State), i + k = xs.length → Stand p l e ({ frames := 0, cells := 0, slots := 0, locals := 0 } : Room) s m #[.ref a, .ref b] below meth c T [] 0 0 → T.heap = h0 → own_cov (xs.drop i) (ys.drop i) (Int32.ofNat i) acc = own_cov xs ys 0 (-1) →
      OwnWk p e below (OwnP s (Q_rm3 Z a b t1 t2 xs ys h0 n0) ({ frames := 0, cells := 0, slots := 0, locals := 0 } : Room).cells ({ frames := 0, cells := 0, slots := 0, locals := 0 } : Room).slots) (T.setTop (mkF m 4 #[.val (.ref a), .val (.ref b), .val (.int acc), .val (.int (Int32.ofNat i))] [])) := by
    intro k
    induction k with
    | zero =>
      intro i acc T hi X eT hc
      have hi31 : i < 2 ^ 31 := by omega
      refine own_go (fun t k => XS.iloadN X.here hx rfl (hb hby d3_4) rfl  k) ?_
      show OwnWk _ _ _ _ (T.setTop (mkF m 5 #[.val (.ref a), .val (.ref b), .val (.int acc), .val (.int (Int32.ofNat i))] [(.int (Int32.ofNat i))]))
      refine own_go (fun t k => XS.aloadN X.here hx rfl (hb hby d3_5) rfl rfl  k) ?_
      show OwnWk _ _ _ _ (T.setTop (mkF m 6 #[.val (.ref a), .val (.ref b), .val (.int acc), .val (.int (Int32.ofNat i))] [(.ref a), (.int (Int32.ofNat i))]))
      obtain ⟨T1, X1, e1, st1⟩ := getF X hx hZ hown (host := "") (Or.inl (hw _ (List.mem_of_getElem? (i := 10) rfl))) Via.refl eT F_a (g := (mkF m 6 #[.val (.ref a), .val (.ref b), .val (.int acc), .val (.int (Int32.ofNat i))] [(.ref a), (.int (Int32.ofNat i))])) rfl rfl (hb hby d3_6)
      refine own_go st1 ?_
      show OwnWk _ _ _ _ (T1.setTop (mkF m 9 #[.val (.ref a), .val (.ref b), .val (.int acc), .val (.int (Int32.ofNat i))] [(.ref t1), (.int (Int32.ofNat i))]))
      refine own_len X1 hx hZ e1 V_a (g := (mkF m 9 #[.val (.ref a), .val (.ref b), .val (.int acc), .val (.int (Int32.ofNat i))] [(.ref t1), (.int (Int32.ofNat i))])) rfl rfl (hb hby d3_9) (N := (Int32.ofNat xs.length)) (own_n_len xs) ?_
      show OwnWk _ _ _ _ (T1.setTop (mkF m 10 #[.val (.ref a), .val (.ref b), .val (.int acc), .val (.int (Int32.ofNat i))] [(.int (Int32.ofNat xs.length)), (.int (Int32.ofNat i))]))
      refine own_go (fun t k => XS.icmpYes X1.here hx rfl (pc0 := 10) (pc' := 57) rfl (hb hby d3_10) rfl (flt (fun q => by have := (own_n_lt hi31 h31).mp q; omega)).2.1 (by decide) (by decide) k) ?_
      show OwnWk _ _ _ _ (T1.setTop (mkF m 57 #[.val (.ref a), .val (.ref b), .val (.int acc), .val (.int (Int32.ofNat i))] []))
      refine own_go (fun t k => XS.iloadN X1.here hx rfl (hb hby d3_57) rfl  k) ?_
      show OwnWk _ _ _ _ (T1.setTop (mkF m 58 #[.val (.ref a), .val (.ref b), .val (.int acc), .val (.int (Int32.ofNat i))] [(.int acc)]))
      exact own_retI X1 hx hlk hret (hb hby d3_58) (by decide) (by decide) (by rw [e1]; exact ⟨by rw [← hc, List.drop_of_length_le (by omega)]; rfl, N0, rfl⟩)
    | succ k ih =>
      intro i acc T hi X eT hc
      have hi31 : i < 2 ^ 31 := by omega
      obtain ⟨x, hxi⟩ := own_get (xs := xs) (i := i) (by omega)
      obtain ⟨y, hyi⟩ := own_get (xs := ys) (i := i) (by omega)
      rw [own_drop hxi, own_drop hyi] at hc
      show OwnWk _ _ _ _ (T.setTop (mkF m 4 #[.val (.ref a), .val (.ref b), .val (.int acc), .val (.int (Int32.ofNat i))] []))
      refine own_go (fun t k => XS.iloadN X.here hx rfl (hb hby d3_4) rfl  k) ?_
      show OwnWk _ _ _ _ (T.setTop (mkF m 5 #[.val (.ref a), .val (.ref b), .val (.int acc), .val (.int (Int32.ofNat i))] [(.int (Int32.ofNat i))]))
      refine own_go (fun t k => XS.aloadN X.here hx rfl (hb hby d3_5) rfl rfl  k) ?_
      show OwnWk _ _ _ _ (T.setTop (mkF m 6 #[.val (.ref a), .val (.ref b), .val (.int acc), .val (.int (Int32.ofNat i))] [(.ref a), (.int (Int32.ofNat i))]))
      obtain ⟨T2, X2, e2, st2⟩ := getF X hx hZ hown (host := "") (Or.inl (hw _ (List.mem_of_getElem? (i := 10) rfl))) Via.refl eT F_a (g := (mkF m 6 #[.val (.ref a), .val (.ref b), .val (.int acc), .val (.int (Int32.ofNat i))] [(.ref a), (.int (Int32.ofNat i))])) rfl rfl (hb hby d3_6)
      refine own_go st2 ?_
      show OwnWk _ _ _ _ (T2.setTop (mkF m 9 #[.val (.ref a), .val (.ref b), .val (.int acc), .val (.int (Int32.ofNat i))] [(.ref t1), (.int (Int32.ofNat i))]))
      refine own_len X2 hx hZ e2 V_a (g := (mkF m 9 #[.val (.ref a), .val (.ref b), .val (.int acc), .val (.int (Int32.ofNat i))] [(.ref t1), (.int (Int32.ofNat i))])) rfl rfl (hb hby d3_9) (N := (Int32.ofNat xs.length)) (own_n_len xs) ?_
      show OwnWk _ _ _ _ (T2.setTop (mkF m 10 #[.val (.ref a), .val (.ref b), .val (.int acc), .val (.int (Int32.ofNat i))] [(.int (Int32.ofNat xs.length)), (.int (Int32.ofNat i))]))
      refine own_go (fun t k => XS.icmpNo X2.here hx rfl (hb hby d3_10) rfl (tlt ((own_n_lt hi31 h31).mpr (by omega))).2.1 k) ?_
      show OwnWk _ _ _ _ (T2.setTop (mkF m 13 #[.val (.ref a), .val (.ref b), .val (.int acc), .val (.int (Int32.ofNat i))] []))
      refine own_go (fun t k => XS.aloadN X2.here hx rfl (hb hby d3_13) rfl rfl  k) ?_
      show OwnWk _ _ _ _ (T2.setTop (mkF m 14 #[.val (.ref a), .val (.ref b), .val (.int acc), .val (.int (Int32.ofNat i))] [(.ref a)]))
      obtain ⟨T3, X3, e3, st3⟩ := getF X2 hx hZ hown (host := "") (Or.inl (hw _ (List.mem_of_getElem? (i := 10) rfl))) Via.refl e2 F_a (g := (mkF m 14 #[.val (.ref a), .val (.ref b), .val (.int acc), .val (.int (Int32.ofNat i))] [(.ref a)])) rfl rfl (hb hby d3_14)
      refine own_go st3 ?_
      show OwnWk _ _ _ _ (T3.setTop (mkF m 17 #[.val (.ref a), .val (.ref b), .val (.int acc), .val (.int (Int32.ofNat i))] [(.ref t1)]))
      refine own_go (fun t k => XS.iloadN X3.here hx rfl (hb hby d3_17) rfl  k) ?_
      show OwnWk _ _ _ _ (T3.setTop (mkF m 18 #[.val (.ref a), .val (.ref b), .val (.int acc), .val (.int (Int32.ofNat i))] [(.int (Int32.ofNat i)), (.ref t1)]))
      refine own_ldI X3 hx hZ e3 V_a (g := (mkF m 18 #[.val (.ref a), .val (.ref b), .val (.int acc), .val (.int (Int32.ofNat i))] [(.int (Int32.ofNat i)), (.ref t1)])) rfl rfl (hb hby d3_18) (v := (.int x)) (own_n_nn hi31) (own_n_at hi31 hxi) ?_
      show OwnWk _ _ _ _ (T3.setTop (mkF m 19 #[.val (.ref a), .val (.ref b), .val (.int acc), .val (.int (Int32.ofNat i))] [(.int x)]))
      refine own_go (fun t k => XS.aloadN X3.here hx rfl (hb hby d3_19) rfl rfl  k) ?_
      show OwnWk _ _ _ _ (T3.setTop (mkF m 20 #[.val (.ref a), .val (.ref b), .val (.int acc), .val (.int (Int32.ofNat i))] [(.ref b), (.int x)]))
      obtain ⟨T4, X4, e4, st4⟩ := getF X3 hx hZ hown (host := "") (Or.inl (hw _ (List.mem_of_getElem? (i := 10) rfl))) Via.refl e3 F_b (g := (mkF m 20 #[.val (.ref a), .val (.ref b), .val (.int acc), .val (.int (Int32.ofNat i))] [(.ref b), (.int x)])) rfl rfl (hb hby d3_20)
      refine own_go st4 ?_
      show OwnWk _ _ _ _ (T4.setTop (mkF m 23 #[.val (.ref a), .val (.ref b), .val (.int acc), .val (.int (Int32.ofNat i))] [(.ref t2), (.int x)]))
      refine own_go (fun t k => XS.iloadN X4.here hx rfl (hb hby d3_23) rfl  k) ?_
      show OwnWk _ _ _ _ (T4.setTop (mkF m 24 #[.val (.ref a), .val (.ref b), .val (.int acc), .val (.int (Int32.ofNat i))] [(.int (Int32.ofNat i)), (.ref t2), (.int x)]))
      refine own_ldI X4 hx hZ e4 V_b (g := (mkF m 24 #[.val (.ref a), .val (.ref b), .val (.int acc), .val (.int (Int32.ofNat i))] [(.int (Int32.ofNat i)), (.ref t2), (.int x)])) rfl rfl (hb hby d3_24) (v := (.int y)) (own_n_nn hi31) (own_n_at hi31 hyi) ?_
      show OwnWk _ _ _ _ (T4.setTop (mkF m 25 #[.val (.ref a), .val (.ref b), .val (.int acc), .val (.int (Int32.ofNat i))] [(.int y), (.int x)]))
      by_cases hc5 : x < y
      ·
        refine own_go (fun t k => XS.icmpNo X4.here hx rfl (hb hby d3_25) rfl (tlt hc5).2.1 k) ?_
        show OwnWk _ _ _ _ (T4.setTop (mkF m 28 #[.val (.ref a), .val (.ref b), .val (.int acc), .val (.int (Int32.ofNat i))] []))
        refine own_go (fun t k => XS.iconst X4.here hx rfl (hb hby d3_28) k) ?_
        show OwnWk _ _ _ _ (T4.setTop (mkF m 29 #[.val (.ref a), .val (.ref b), .val (.int acc), .val (.int (Int32.ofNat i))] [(.int (-1 : Int32))]))
        exact own_retI X4 hx hlk hret (hb hby d3_29) (by decide) (by decide) (by rw [e4]; exact ⟨by rw [← hc]; simp [own_cov, hc5], N0, rfl⟩)
      ·
        refine own_go (fun t k => XS.icmpYes X4.here hx rfl (pc0 := 25) (pc' := 30) rfl (hb hby d3_25) rfl (flt hc5).2.1 (by decide) (by decide) k) ?_
        show OwnWk _ _ _ _ (T4.setTop (mkF m 30 #[.val (.ref a), .val (.ref b), .val (.int acc), .val (.int (Int32.ofNat i))] []))
        refine own_go (fun t k => XS.iloadN X4.here hx rfl (hb hby d3_30) rfl  k) ?_
        show OwnWk _ _ _ _ (T4.setTop (mkF m 31 #[.val (.ref a), .val (.ref b), .val (.int acc), .val (.int (Int32.ofNat i))] [(.int acc)]))
        by_cases hc6 : acc < (0 : Int32)
        ·
          refine own_go (fun t k => XS.ifNo X4.here hx rfl (hb hby d3_31) rfl ((if0 _ _).trans (tlt hc6).2.1) k) ?_
          show OwnWk _ _ _ _ (T4.setTop (mkF m 34 #[.val (.ref a), .val (.ref b), .val (.int acc), .val (.int (Int32.ofNat i))] []))
          refine own_go (fun t k => XS.aloadN X4.here hx rfl (hb hby d3_34) rfl rfl  k) ?_
          show OwnWk _ _ _ _ (T4.setTop (mkF m 35 #[.val (.ref a), .val (.ref b), .val (.int acc), .val (.int (Int32.ofNat i))] [(.ref a)]))
          obtain ⟨T7, X7, e7, st7⟩ := getF X4 hx hZ hown (host := "") (Or.inl (hw _ (List.mem_of_getElem? (i := 10) rfl))) Via.refl e4 F_a (g := (mkF m 35 #[.val (.ref a), .val (.ref b), .val (.int acc), .val (.int (Int32.ofNat i))] [(.ref a)])) rfl rfl (hb hby d3_35)
          refine own_go st7 ?_
          show OwnWk _ _ _ _ (T7.setTop (mkF m 38 #[.val (.ref a), .val (.ref b), .val (.int acc), .val (.int (Int32.ofNat i))] [(.ref t1)]))
          refine own_go (fun t k => XS.iloadN X7.here hx rfl (hb hby d3_38) rfl  k) ?_
          show OwnWk _ _ _ _ (T7.setTop (mkF m 39 #[.val (.ref a), .val (.ref b), .val (.int acc), .val (.int (Int32.ofNat i))] [(.int (Int32.ofNat i)), (.ref t1)]))
          refine own_ldI X7 hx hZ e7 V_a (g := (mkF m 39 #[.val (.ref a), .val (.ref b), .val (.int acc), .val (.int (Int32.ofNat i))] [(.int (Int32.ofNat i)), (.ref t1)])) rfl rfl (hb hby d3_39) (v := (.int x)) (own_n_nn hi31) (own_n_at hi31 hxi) ?_
          show OwnWk _ _ _ _ (T7.setTop (mkF m 40 #[.val (.ref a), .val (.ref b), .val (.int acc), .val (.int (Int32.ofNat i))] [(.int x)]))
          refine own_go (fun t k => XS.aloadN X7.here hx rfl (hb hby d3_40) rfl rfl  k) ?_
          show OwnWk _ _ _ _ (T7.setTop (mkF m 41 #[.val (.ref a), .val (.ref b), .val (.int acc), .val (.int (Int32.ofNat i))] [(.ref b), (.int x)]))
          obtain ⟨T8, X8, e8, st8⟩ := getF X7 hx hZ hown (host := "") (Or.inl (hw _ (List.mem_of_getElem? (i := 10) rfl))) Via.refl e7 F_b (g := (mkF m 41 #[.val (.ref a), .val (.ref b), .val (.int acc), .val (.int (Int32.ofNat i))] [(.ref b), (.int x)])) rfl rfl (hb hby d3_41)
          refine own_go st8 ?_
          show OwnWk _ _ _ _ (T8.setTop (mkF m 44 #[.val (.ref a), .val (.ref b), .val (.int acc), .val (.int (Int32.ofNat i))] [(.ref t2), (.int x)]))
          refine own_go (fun t k => XS.iloadN X8.here hx rfl (hb hby d3_44) rfl  k) ?_
          show OwnWk _ _ _ _ (T8.setTop (mkF m 45 #[.val (.ref a), .val (.ref b), .val (.int acc), .val (.int (Int32.ofNat i))] [(.int (Int32.ofNat i)), (.ref t2), (.int x)]))
          refine own_ldI X8 hx hZ e8 V_b (g := (mkF m 45 #[.val (.ref a), .val (.ref b), .val (.int acc), .val (.int (Int32.ofNat i))] [(.int (Int32.ofNat i)), (.ref t2), (.int x)])) rfl rfl (hb hby d3_45) (v := (.int y)) (own_n_nn hi31) (own_n_at hi31 hyi) ?_
          show OwnWk _ _ _ _ (T8.setTop (mkF m 46 #[.val (.ref a), .val (.ref b), .val (.int acc), .val (.int (Int32.ofNat i))] [(.int y), (.int x)]))
          by_cases hc9 : y < x
          ·
            refine own_go (fun t k => XS.icmpNo X8.here hx rfl (hb hby d3_46) rfl (tlt hc9).2.2.2 k) ?_
            show OwnWk _ _ _ _ (T8.setTop (mkF m 49 #[.val (.ref a), .val (.ref b), .val (.int acc), .val (.int (Int32.ofNat i))] []))
            refine own_go (fun t k => XS.iloadN X8.here hx rfl (hb hby d3_49) rfl  k) ?_
            show OwnWk _ _ _ _ (T8.setTop (mkF m 50 #[.val (.ref a), .val (.ref b), .val (.int acc), .val (.int (Int32.ofNat i))] [(.int (Int32.ofNat i))]))
            refine own_go (fun t k => XS.istoreN X8.here hx rfl (hb hby d3_50) rfl (l' := #[.val (.ref a), .val (.ref b), .val (.int (Int32.ofNat i)), .val (.int (Int32.ofNat i))]) rfl k) ?_
            show OwnWk _ _ _ _ (T8.setTop (mkF m 51 #[.val (.ref a), .val (.ref b), .val (.int (Int32.ofNat i)), .val (.int (Int32.ofNat i))] []))
            refine own_go (fun t k => XS.iinc X8.here hx rfl (hb hby d3_51) rfl (l' := #[.val (.ref a), .val (.ref b), .val (.int (Int32.ofNat i)), .val (.int ((Int32.ofNat i) + (1 : Int32)))]) rfl k) ?_
            show OwnWk _ _ _ _ (T8.setTop (mkF m 54 #[.val (.ref a), .val (.ref b), .val (.int (Int32.ofNat i)), .val (.int ((Int32.ofNat i) + (1 : Int32)))] []))
            refine own_go (fun t k => XS.goto X8.here hx rfl (pc0 := 54) (pc' := 4) rfl (hb hby d3_54) (by decide) (by decide) k) ?_
            show OwnWk _ _ _ _ (T8.setTop (mkF m 4 #[.val (.ref a), .val (.ref b), .val (.int (Int32.ofNat i)), .val (.int ((Int32.ofNat i) + (1 : Int32)))] []))
            rw [own_n_succ]
            exact ih (i + 1) _ _ (by omega) X8 e8 (by rw [← hc, ← own_n_succ, own_cov, if_neg hc5, if_pos hc6, if_pos hc9])
          ·
            refine own_go (fun t k => XS.icmpYes X8.here hx rfl (pc0 := 46) (pc' := 51) rfl (hb hby d3_46) rfl (flt hc9).2.2.2 (by decide) (by decide) k) ?_
            show OwnWk _ _ _ _ (T8.setTop (mkF m 51 #[.val (.ref a), .val (.ref b), .val (.int acc), .val (.int (Int32.ofNat i))] []))
            refine own_go (fun t k => XS.iinc X8.here hx rfl (hb hby d3_51) rfl (l' := #[.val (.ref a), .val (.ref b), .val (.int acc), .val (.int ((Int32.ofNat i) + (1 : Int32)))]) rfl k) ?_
            show OwnWk _ _ _ _ (T8.setTop (mkF m 54 #[.val (.ref a), .val (.ref b), .val (.int acc), .val (.int ((Int32.ofNat i) + (1 : Int32)))] []))
            refine own_go (fun t k => XS.goto X8.here hx rfl (pc0 := 54) (pc' := 4) rfl (hb hby d3_54) (by decide) (by decide) k) ?_
            show OwnWk _ _ _ _ (T8.setTop (mkF m 4 #[.val (.ref a), .val (.ref b), .val (.int acc), .val (.int ((Int32.ofNat i) + (1 : Int32)))] []))
            rw [own_n_succ]
            exact ih (i + 1) _ _ (by omega) X8 e8 (by rw [← hc, ← own_n_succ, own_cov, if_neg hc5, if_pos hc6, if_neg hc9])
        ·
          refine own_go (fun t k => XS.ifYes X4.here hx rfl (pc0 := 31) (pc' := 51) rfl (hb hby d3_31) rfl ((if0 _ _).trans (flt hc6).2.1) (by decide) (by decide) k) ?_
          show OwnWk _ _ _ _ (T4.setTop (mkF m 51 #[.val (.ref a), .val (.ref b), .val (.int acc), .val (.int (Int32.ofNat i))] []))
          refine own_go (fun t k => XS.iinc X4.here hx rfl (hb hby d3_51) rfl (l' := #[.val (.ref a), .val (.ref b), .val (.int acc), .val (.int ((Int32.ofNat i) + (1 : Int32)))]) rfl k) ?_
          show OwnWk _ _ _ _ (T4.setTop (mkF m 54 #[.val (.ref a), .val (.ref b), .val (.int acc), .val (.int ((Int32.ofNat i) + (1 : Int32)))] []))
          refine own_go (fun t k => XS.goto X4.here hx rfl (pc0 := 54) (pc' := 4) rfl (hb hby d3_54) (by decide) (by decide) k) ?_
          show OwnWk _ _ _ _ (T4.setTop (mkF m 4 #[.val (.ref a), .val (.ref b), .val (.int acc), .val (.int ((Int32.ofNat i) + (1 : Int32)))] []))
          rw [own_n_succ]
          exact ih (i + 1) _ _ (by omega) X4 e4 (by rw [← hc, ← own_n_succ, own_cov, if_neg hc5, if_neg hc6])
  exact LP xs.length 0 (-1) s₁ (by omega) X0 e0 rfl
theorem pn_pn_4 : plainName "com/example/antipode/antipode/net/MarkingStrictlyCoversPinLaw" = true := by first | (simp [plainName, overriddenIn]; done) | decide +kernel
theorem pn_4 : plainFor (⟨"com/example/antipode/antipode/net/MarkingStrictlyCoversPinLaw", "reference", "(IIIIIII)I"⟩ : MethodName) = true := plainFor_of_name pn_pn_4
theorem d4_0 : decode method_3_code 0 = .ok (.iload_n 0, 1) := by decide +kernel
theorem d4_1 : decode method_3_code 1 = .ok (.iconst 1, 1) := by decide +kernel
theorem d4_2 : decode method_3_code 2 = .ok (.if_icmp .lt 11, 3) := by decide +kernel
theorem d4_13 : decode method_3_code 13 = .ok (.iload_n 0, 1) := by decide +kernel
theorem d4_14 : decode method_3_code 14 = .ok (.iconst 2, 1) := by decide +kernel
theorem d4_15 : decode method_3_code 15 = .ok (.if_icmp .lt 11, 3) := by decide +kernel
theorem d4_26 : decode method_3_code 26 = .ok (.iload_n 0, 1) := by decide +kernel
theorem d4_27 : decode method_3_code 27 = .ok (.iconst 3, 1) := by decide +kernel
theorem d4_28 : decode method_3_code 28 = .ok (.if_icmp .lt 11, 3) := by decide +kernel
theorem d4_39 : decode method_3_code 39 = .ok (.iload_n 0, 1) := by decide +kernel
theorem d4_40 : decode method_3_code 40 = .ok (.iconst 1, 1) := by decide +kernel
theorem d4_41 : decode method_3_code 41 = .ok (.if_icmp .lt 11, 3) := by decide +kernel
theorem d4_52 : decode method_3_code 52 = .ok (.iload_n 0, 1) := by decide +kernel
theorem d4_53 : decode method_3_code 53 = .ok (.iconst 2, 1) := by decide +kernel
theorem d4_54 : decode method_3_code 54 = .ok (.if_icmp .lt 11, 3) := by decide +kernel
theorem d4_65 : decode method_3_code 65 = .ok (.iload_n 0, 1) := by decide +kernel
theorem d4_66 : decode method_3_code 66 = .ok (.iconst 3, 1) := by decide +kernel
theorem d4_67 : decode method_3_code 67 = .ok (.if_icmp .lt 11, 3) := by decide +kernel
theorem d4_78 : decode method_3_code 78 = .ok (.iconst (-1), 1) := by decide +kernel
theorem d4_79 : decode method_3_code 79 = .ok (.ireturn, 1) := by decide +kernel
theorem d4_31 : decode method_3_code 31 = .ok (.iload_n 3, 1) := by decide +kernel
theorem d4_32 : decode method_3_code 32 = .ok (.iload 6, 2) := by decide +kernel
theorem d4_34 : decode method_3_code 34 = .ok (.if_icmp .ge 5, 3) := by decide +kernel
theorem d4_37 : decode method_3_code 37 = .ok (.iconst (-1), 1) := by decide +kernel
theorem d4_38 : decode method_3_code 38 = .ok (.ireturn, 1) := by decide +kernel
theorem d4_70 : decode method_3_code 70 = .ok (.iload_n 3, 1) := by decide +kernel
theorem d4_71 : decode method_3_code 71 = .ok (.iload 6, 2) := by decide +kernel
theorem d4_73 : decode method_3_code 73 = .ok (.if_icmp .le 5, 3) := by decide +kernel
theorem d4_76 : decode method_3_code 76 = .ok (.iconst 2, 1) := by decide +kernel
theorem d4_77 : decode method_3_code 77 = .ok (.ireturn, 1) := by decide +kernel
theorem d4_18 : decode method_3_code 18 = .ok (.iload_n 2, 1) := by decide +kernel
theorem d4_19 : decode method_3_code 19 = .ok (.iload 5, 2) := by decide +kernel
theorem d4_21 : decode method_3_code 21 = .ok (.if_icmp .ge 5, 3) := by decide +kernel
theorem d4_24 : decode method_3_code 24 = .ok (.iconst (-1), 1) := by decide +kernel
theorem d4_25 : decode method_3_code 25 = .ok (.ireturn, 1) := by decide +kernel
theorem d4_57 : decode method_3_code 57 = .ok (.iload_n 2, 1) := by decide +kernel
theorem d4_58 : decode method_3_code 58 = .ok (.iload 5, 2) := by decide +kernel
theorem d4_60 : decode method_3_code 60 = .ok (.if_icmp .le 5, 3) := by decide +kernel
theorem d4_63 : decode method_3_code 63 = .ok (.iconst 1, 1) := by decide +kernel
theorem d4_64 : decode method_3_code 64 = .ok (.ireturn, 1) := by decide +kernel
theorem d4_5 : decode method_3_code 5 = .ok (.iload_n 1, 1) := by decide +kernel
theorem d4_6 : decode method_3_code 6 = .ok (.iload 4, 2) := by decide +kernel
theorem d4_8 : decode method_3_code 8 = .ok (.if_icmp .ge 5, 3) := by decide +kernel
theorem d4_11 : decode method_3_code 11 = .ok (.iconst (-1), 1) := by decide +kernel
theorem d4_12 : decode method_3_code 12 = .ok (.ireturn, 1) := by decide +kernel
theorem d4_44 : decode method_3_code 44 = .ok (.iload_n 1, 1) := by decide +kernel
theorem d4_45 : decode method_3_code 45 = .ok (.iload 4, 2) := by decide +kernel
theorem d4_47 : decode method_3_code 47 = .ok (.if_icmp .le 5, 3) := by decide +kernel
theorem d4_50 : decode method_3_code 50 = .ok (.iconst 0, 1) := by decide +kernel
theorem d4_51 : decode method_3_code 51 = .ok (.ireturn, 1) := by decide +kernel
theorem ef_rm4 (m : MethodId) (x0 : Int32) (x1 : Int32) (x2 : Int32) (x3 : Int32) (x4 : Int32) (x5 : Int32) (x6 : Int32) : entryFrame m #[(.int x0), (.int x1), (.int x2), (.int x3), (.int x4), (.int x5), (.int x6)] 7 = mkF m 0 #[.val (.int x0), .val (.int x1), .val (.int x2), .val (.int x3), .val (.int x4), .val (.int x5), .val (.int x6)] [] := by first | (simp [entryFrame, mkF, argsToLocals, Value.category]; done) | rfl
def Q_rm4 (Z : State) (n1 x0 x1 x2 y0 y1 y2 : Int32) (h0 : Heap) (n0 : Nat) (v : Option Value) (h : Heap) (L : List Loc) : Prop := v = some (.int (own_ref n1 x0 x1 x2 y0 y1 y2)) ∧ Fr n0 L ∧ h = h0
set_option maxRecDepth 65536 in
set_option maxHeartbeats 40000000 in
theorem rm4 (l : Launch) (Z : State) (a0 : Array Value) (hw : ∀ d ∈ tables_1, d.before a0 Z = true) (n1 x0 x1 x2 y0 y1 y2 : Int32) (h0 : Heap) (n0 : Nat) (Z0 : n0 ≤ h0.size)  :
    OwnMet l (⟨"com/example/antipode/antipode/net/MarkingStrictlyCoversPinLaw", "reference", "(IIIIIII)I"⟩ : MethodName) method_3_code 7 (some .int) [] ({ frames := 0, cells := 0, slots := 0, locals := 0 } : Room) Z #[(.int n1), (.int x0), (.int x1), (.int x2), (.int y0), (.int y1), (.int y2)] h0 (Q_rm4 Z n1 x0 x1 x2 y0 y1 y2 h0 n0) := by
  refine own_met pn_4 (fun p e s m below meth c s₁ hx hby hml hown hnm hret hlk hZ X0 e0 => ?_)
  have hown : s.vm.findClass "com/example/antipode/antipode/net/MarkingStrictlyCoversPinLaw" = some m.cls := hown
  have N0 := Fr.nil n0
  rw [ef_rm4]
  show OwnWk _ _ _ _ (s₁.setTop (mkF m 0 #[.val (.int n1), .val (.int x0), .val (.int x1), .val (.int x2), .val (.int y0), .val (.int y1), .val (.int y2)] []))
  refine own_go (fun t k => XS.iloadN X0.here hx rfl (hb hby d4_0) rfl  k) ?_
  show OwnWk _ _ _ _ (s₁.setTop (mkF m 1 #[.val (.int n1), .val (.int x0), .val (.int x1), .val (.int x2), .val (.int y0), .val (.int y1), .val (.int y2)] [(.int n1)]))
  refine own_go (fun t k => XS.iconst X0.here hx rfl (hb hby d4_1) k) ?_
  show OwnWk _ _ _ _ (s₁.setTop (mkF m 2 #[.val (.int n1), .val (.int x0), .val (.int x1), .val (.int x2), .val (.int y0), .val (.int y1), .val (.int y2)] [(.int (1 : Int32)), (.int n1)]))
  by_cases hc1 : n1 < (1 : Int32)
  ·
    refine own_go (fun t k => XS.icmpYes X0.here hx rfl (pc0 := 2) (pc' := 13) rfl (hb hby d4_2) rfl (tlt hc1).1 (by decide) (by decide) k) ?_
    show OwnWk _ _ _ _ (s₁.setTop (mkF m 13 #[.val (.int n1), .val (.int x0), .val (.int x1), .val (.int x2), .val (.int y0), .val (.int y1), .val (.int y2)] []))
    refine own_go (fun t k => XS.iloadN X0.here hx rfl (hb hby d4_13) rfl  k) ?_
    show OwnWk _ _ _ _ (s₁.setTop (mkF m 14 #[.val (.int n1), .val (.int x0), .val (.int x1), .val (.int x2), .val (.int y0), .val (.int y1), .val (.int y2)] [(.int n1)]))
    refine own_go (fun t k => XS.iconst X0.here hx rfl (hb hby d4_14) k) ?_
    show OwnWk _ _ _ _ (s₁.setTop (mkF m 15 #[.val (.int n1), .val (.int x0), .val (.int x1), .val (.int x2), .val (.int y0), .val (.int y1), .val (.int y2)] [(.int (2 : Int32)), (.int n1)]))
    by_cases hc2 : n1 < (2 : Int32)
    ·
      refine own_go (fun t k => XS.icmpYes X0.here hx rfl (pc0 := 15) (pc' := 26) rfl (hb hby d4_15) rfl (tlt hc2).1 (by decide) (by decide) k) ?_
      show OwnWk _ _ _ _ (s₁.setTop (mkF m 26 #[.val (.int n1), .val (.int x0), .val (.int x1), .val (.int x2), .val (.int y0), .val (.int y1), .val (.int y2)] []))
      refine own_go (fun t k => XS.iloadN X0.here hx rfl (hb hby d4_26) rfl  k) ?_
      show OwnWk _ _ _ _ (s₁.setTop (mkF m 27 #[.val (.int n1), .val (.int x0), .val (.int x1), .val (.int x2), .val (.int y0), .val (.int y1), .val (.int y2)] [(.int n1)]))
      refine own_go (fun t k => XS.iconst X0.here hx rfl (hb hby d4_27) k) ?_
      show OwnWk _ _ _ _ (s₁.setTop (mkF m 28 #[.val (.int n1), .val (.int x0), .val (.int x1), .val (.int x2), .val (.int y0), .val (.int y1), .val (.int y2)] [(.int (3 : Int32)), (.int n1)]))
      by_cases hc3 : n1 < (3 : Int32)
      ·
        refine own_go (fun t k => XS.icmpYes X0.here hx rfl (pc0 := 28) (pc' := 39) rfl (hb hby d4_28) rfl (tlt hc3).1 (by decide) (by decide) k) ?_
        show OwnWk _ _ _ _ (s₁.setTop (mkF m 39 #[.val (.int n1), .val (.int x0), .val (.int x1), .val (.int x2), .val (.int y0), .val (.int y1), .val (.int y2)] []))
        refine own_go (fun t k => XS.iloadN X0.here hx rfl (hb hby d4_39) rfl  k) ?_
        show OwnWk _ _ _ _ (s₁.setTop (mkF m 40 #[.val (.int n1), .val (.int x0), .val (.int x1), .val (.int x2), .val (.int y0), .val (.int y1), .val (.int y2)] [(.int n1)]))
        refine own_go (fun t k => XS.iconst X0.here hx rfl (hb hby d4_40) k) ?_
        show OwnWk _ _ _ _ (s₁.setTop (mkF m 41 #[.val (.int n1), .val (.int x0), .val (.int x1), .val (.int x2), .val (.int y0), .val (.int y1), .val (.int y2)] [(.int (1 : Int32)), (.int n1)]))
        refine own_go (fun t k => XS.icmpYes X0.here hx rfl (pc0 := 41) (pc' := 52) rfl (hb hby d4_41) rfl (tlt hc1).1 (by decide) (by decide) k) ?_
        show OwnWk _ _ _ _ (s₁.setTop (mkF m 52 #[.val (.int n1), .val (.int x0), .val (.int x1), .val (.int x2), .val (.int y0), .val (.int y1), .val (.int y2)] []))
        refine own_go (fun t k => XS.iloadN X0.here hx rfl (hb hby d4_52) rfl  k) ?_
        show OwnWk _ _ _ _ (s₁.setTop (mkF m 53 #[.val (.int n1), .val (.int x0), .val (.int x1), .val (.int x2), .val (.int y0), .val (.int y1), .val (.int y2)] [(.int n1)]))
        refine own_go (fun t k => XS.iconst X0.here hx rfl (hb hby d4_53) k) ?_
        show OwnWk _ _ _ _ (s₁.setTop (mkF m 54 #[.val (.int n1), .val (.int x0), .val (.int x1), .val (.int x2), .val (.int y0), .val (.int y1), .val (.int y2)] [(.int (2 : Int32)), (.int n1)]))
        refine own_go (fun t k => XS.icmpYes X0.here hx rfl (pc0 := 54) (pc' := 65) rfl (hb hby d4_54) rfl (tlt hc2).1 (by decide) (by decide) k) ?_
        show OwnWk _ _ _ _ (s₁.setTop (mkF m 65 #[.val (.int n1), .val (.int x0), .val (.int x1), .val (.int x2), .val (.int y0), .val (.int y1), .val (.int y2)] []))
        refine own_go (fun t k => XS.iloadN X0.here hx rfl (hb hby d4_65) rfl  k) ?_
        show OwnWk _ _ _ _ (s₁.setTop (mkF m 66 #[.val (.int n1), .val (.int x0), .val (.int x1), .val (.int x2), .val (.int y0), .val (.int y1), .val (.int y2)] [(.int n1)]))
        refine own_go (fun t k => XS.iconst X0.here hx rfl (hb hby d4_66) k) ?_
        show OwnWk _ _ _ _ (s₁.setTop (mkF m 67 #[.val (.int n1), .val (.int x0), .val (.int x1), .val (.int x2), .val (.int y0), .val (.int y1), .val (.int y2)] [(.int (3 : Int32)), (.int n1)]))
        refine own_go (fun t k => XS.icmpYes X0.here hx rfl (pc0 := 67) (pc' := 78) rfl (hb hby d4_67) rfl (tlt hc3).1 (by decide) (by decide) k) ?_
        show OwnWk _ _ _ _ (s₁.setTop (mkF m 78 #[.val (.int n1), .val (.int x0), .val (.int x1), .val (.int x2), .val (.int y0), .val (.int y1), .val (.int y2)] []))
        refine own_go (fun t k => XS.iconst X0.here hx rfl (hb hby d4_78) k) ?_
        show OwnWk _ _ _ _ (s₁.setTop (mkF m 79 #[.val (.int n1), .val (.int x0), .val (.int x1), .val (.int x2), .val (.int y0), .val (.int y1), .val (.int y2)] [(.int (-1 : Int32))]))
        exact own_retI X0 hx hlk hret (hb hby d4_79) (by decide) (by decide) (by rw [e0]; exact ⟨by simp [own_ref, hc1, hc2, hc3], N0, rfl⟩)
      ·
        refine own_go (fun t k => XS.icmpNo X0.here hx rfl (hb hby d4_28) rfl (flt hc3).1 k) ?_
        show OwnWk _ _ _ _ (s₁.setTop (mkF m 31 #[.val (.int n1), .val (.int x0), .val (.int x1), .val (.int x2), .val (.int y0), .val (.int y1), .val (.int y2)] []))
        refine own_go (fun t k => XS.iloadN X0.here hx rfl (hb hby d4_31) rfl  k) ?_
        show OwnWk _ _ _ _ (s₁.setTop (mkF m 32 #[.val (.int n1), .val (.int x0), .val (.int x1), .val (.int x2), .val (.int y0), .val (.int y1), .val (.int y2)] [(.int x2)]))
        refine own_go (fun t k => XS.iload X0.here hx rfl (hb hby d4_32) rfl  k) ?_
        show OwnWk _ _ _ _ (s₁.setTop (mkF m 34 #[.val (.int n1), .val (.int x0), .val (.int x1), .val (.int x2), .val (.int y0), .val (.int y1), .val (.int y2)] [(.int y2), (.int x2)]))
        by_cases hc4 : x2 < y2
        ·
          refine own_go (fun t k => XS.icmpNo X0.here hx rfl (hb hby d4_34) rfl (tlt hc4).2.1 k) ?_
          show OwnWk _ _ _ _ (s₁.setTop (mkF m 37 #[.val (.int n1), .val (.int x0), .val (.int x1), .val (.int x2), .val (.int y0), .val (.int y1), .val (.int y2)] []))
          refine own_go (fun t k => XS.iconst X0.here hx rfl (hb hby d4_37) k) ?_
          show OwnWk _ _ _ _ (s₁.setTop (mkF m 38 #[.val (.int n1), .val (.int x0), .val (.int x1), .val (.int x2), .val (.int y0), .val (.int y1), .val (.int y2)] [(.int (-1 : Int32))]))
          exact own_retI X0 hx hlk hret (hb hby d4_38) (by decide) (by decide) (by rw [e0]; exact ⟨by simp [own_ref, hc1, hc2, hc3, hc4], N0, rfl⟩)
        ·
          refine own_go (fun t k => XS.icmpYes X0.here hx rfl (pc0 := 34) (pc' := 39) rfl (hb hby d4_34) rfl (flt hc4).2.1 (by decide) (by decide) k) ?_
          show OwnWk _ _ _ _ (s₁.setTop (mkF m 39 #[.val (.int n1), .val (.int x0), .val (.int x1), .val (.int x2), .val (.int y0), .val (.int y1), .val (.int y2)] []))
          refine own_go (fun t k => XS.iloadN X0.here hx rfl (hb hby d4_39) rfl  k) ?_
          show OwnWk _ _ _ _ (s₁.setTop (mkF m 40 #[.val (.int n1), .val (.int x0), .val (.int x1), .val (.int x2), .val (.int y0), .val (.int y1), .val (.int y2)] [(.int n1)]))
          refine own_go (fun t k => XS.iconst X0.here hx rfl (hb hby d4_40) k) ?_
          show OwnWk _ _ _ _ (s₁.setTop (mkF m 41 #[.val (.int n1), .val (.int x0), .val (.int x1), .val (.int x2), .val (.int y0), .val (.int y1), .val (.int y2)] [(.int (1 : Int32)), (.int n1)]))
          refine own_go (fun t k => XS.icmpYes X0.here hx rfl (pc0 := 41) (pc' := 52) rfl (hb hby d4_41) rfl (tlt hc1).1 (by decide) (by decide) k) ?_
          show OwnWk _ _ _ _ (s₁.setTop (mkF m 52 #[.val (.int n1), .val (.int x0), .val (.int x1), .val (.int x2), .val (.int y0), .val (.int y1), .val (.int y2)] []))
          refine own_go (fun t k => XS.iloadN X0.here hx rfl (hb hby d4_52) rfl  k) ?_
          show OwnWk _ _ _ _ (s₁.setTop (mkF m 53 #[.val (.int n1), .val (.int x0), .val (.int x1), .val (.int x2), .val (.int y0), .val (.int y1), .val (.int y2)] [(.int n1)]))
          refine own_go (fun t k => XS.iconst X0.here hx rfl (hb hby d4_53) k) ?_
          show OwnWk _ _ _ _ (s₁.setTop (mkF m 54 #[.val (.int n1), .val (.int x0), .val (.int x1), .val (.int x2), .val (.int y0), .val (.int y1), .val (.int y2)] [(.int (2 : Int32)), (.int n1)]))
          refine own_go (fun t k => XS.icmpYes X0.here hx rfl (pc0 := 54) (pc' := 65) rfl (hb hby d4_54) rfl (tlt hc2).1 (by decide) (by decide) k) ?_
          show OwnWk _ _ _ _ (s₁.setTop (mkF m 65 #[.val (.int n1), .val (.int x0), .val (.int x1), .val (.int x2), .val (.int y0), .val (.int y1), .val (.int y2)] []))
          refine own_go (fun t k => XS.iloadN X0.here hx rfl (hb hby d4_65) rfl  k) ?_
          show OwnWk _ _ _ _ (s₁.setTop (mkF m 66 #[.val (.int n1), .val (.int x0), .val (.int x1), .val (.int x2), .val (.int y0), .val (.int y1), .val (.int y2)] [(.int n1)]))
          refine own_go (fun t k => XS.iconst X0.here hx rfl (hb hby d4_66) k) ?_
          show OwnWk _ _ _ _ (s₁.setTop (mkF m 67 #[.val (.int n1), .val (.int x0), .val (.int x1), .val (.int x2), .val (.int y0), .val (.int y1), .val (.int y2)] [(.int (3 : Int32)), (.int n1)]))
          refine own_go (fun t k => XS.icmpNo X0.here hx rfl (hb hby d4_67) rfl (flt hc3).1 k) ?_
          show OwnWk _ _ _ _ (s₁.setTop (mkF m 70 #[.val (.int n1), .val (.int x0), .val (.int x1), .val (.int x2), .val (.int y0), .val (.int y1), .val (.int y2)] []))
          refine own_go (fun t k => XS.iloadN X0.here hx rfl (hb hby d4_70) rfl  k) ?_
          show OwnWk _ _ _ _ (s₁.setTop (mkF m 71 #[.val (.int n1), .val (.int x0), .val (.int x1), .val (.int x2), .val (.int y0), .val (.int y1), .val (.int y2)] [(.int x2)]))
          refine own_go (fun t k => XS.iload X0.here hx rfl (hb hby d4_71) rfl  k) ?_
          show OwnWk _ _ _ _ (s₁.setTop (mkF m 73 #[.val (.int n1), .val (.int x0), .val (.int x1), .val (.int x2), .val (.int y0), .val (.int y1), .val (.int y2)] [(.int y2), (.int x2)]))
          by_cases hc5 : y2 < x2
          ·
            refine own_go (fun t k => XS.icmpNo X0.here hx rfl (hb hby d4_73) rfl (tlt hc5).2.2.2 k) ?_
            show OwnWk _ _ _ _ (s₁.setTop (mkF m 76 #[.val (.int n1), .val (.int x0), .val (.int x1), .val (.int x2), .val (.int y0), .val (.int y1), .val (.int y2)] []))
            refine own_go (fun t k => XS.iconst X0.here hx rfl (hb hby d4_76) k) ?_
            show OwnWk _ _ _ _ (s₁.setTop (mkF m 77 #[.val (.int n1), .val (.int x0), .val (.int x1), .val (.int x2), .val (.int y0), .val (.int y1), .val (.int y2)] [(.int (2 : Int32))]))
            exact own_retI X0 hx hlk hret (hb hby d4_77) (by decide) (by decide) (by rw [e0]; exact ⟨by simp [own_ref, hc1, hc2, hc3, hc4, hc5], N0, rfl⟩)
          ·
            refine own_go (fun t k => XS.icmpYes X0.here hx rfl (pc0 := 73) (pc' := 78) rfl (hb hby d4_73) rfl (flt hc5).2.2.2 (by decide) (by decide) k) ?_
            show OwnWk _ _ _ _ (s₁.setTop (mkF m 78 #[.val (.int n1), .val (.int x0), .val (.int x1), .val (.int x2), .val (.int y0), .val (.int y1), .val (.int y2)] []))
            refine own_go (fun t k => XS.iconst X0.here hx rfl (hb hby d4_78) k) ?_
            show OwnWk _ _ _ _ (s₁.setTop (mkF m 79 #[.val (.int n1), .val (.int x0), .val (.int x1), .val (.int x2), .val (.int y0), .val (.int y1), .val (.int y2)] [(.int (-1 : Int32))]))
            exact own_retI X0 hx hlk hret (hb hby d4_79) (by decide) (by decide) (by rw [e0]; exact ⟨by simp [own_ref, hc1, hc2, hc3, hc4, hc5], N0, rfl⟩)
    ·
      refine own_go (fun t k => XS.icmpNo X0.here hx rfl (hb hby d4_15) rfl (flt hc2).1 k) ?_
      show OwnWk _ _ _ _ (s₁.setTop (mkF m 18 #[.val (.int n1), .val (.int x0), .val (.int x1), .val (.int x2), .val (.int y0), .val (.int y1), .val (.int y2)] []))
      refine own_go (fun t k => XS.iloadN X0.here hx rfl (hb hby d4_18) rfl  k) ?_
      show OwnWk _ _ _ _ (s₁.setTop (mkF m 19 #[.val (.int n1), .val (.int x0), .val (.int x1), .val (.int x2), .val (.int y0), .val (.int y1), .val (.int y2)] [(.int x1)]))
      refine own_go (fun t k => XS.iload X0.here hx rfl (hb hby d4_19) rfl  k) ?_
      show OwnWk _ _ _ _ (s₁.setTop (mkF m 21 #[.val (.int n1), .val (.int x0), .val (.int x1), .val (.int x2), .val (.int y0), .val (.int y1), .val (.int y2)] [(.int y1), (.int x1)]))
      by_cases hc6 : x1 < y1
      ·
        refine own_go (fun t k => XS.icmpNo X0.here hx rfl (hb hby d4_21) rfl (tlt hc6).2.1 k) ?_
        show OwnWk _ _ _ _ (s₁.setTop (mkF m 24 #[.val (.int n1), .val (.int x0), .val (.int x1), .val (.int x2), .val (.int y0), .val (.int y1), .val (.int y2)] []))
        refine own_go (fun t k => XS.iconst X0.here hx rfl (hb hby d4_24) k) ?_
        show OwnWk _ _ _ _ (s₁.setTop (mkF m 25 #[.val (.int n1), .val (.int x0), .val (.int x1), .val (.int x2), .val (.int y0), .val (.int y1), .val (.int y2)] [(.int (-1 : Int32))]))
        exact own_retI X0 hx hlk hret (hb hby d4_25) (by decide) (by decide) (by rw [e0]; exact ⟨by simp [own_ref, hc1, hc2, hc6], N0, rfl⟩)
      ·
        refine own_go (fun t k => XS.icmpYes X0.here hx rfl (pc0 := 21) (pc' := 26) rfl (hb hby d4_21) rfl (flt hc6).2.1 (by decide) (by decide) k) ?_
        show OwnWk _ _ _ _ (s₁.setTop (mkF m 26 #[.val (.int n1), .val (.int x0), .val (.int x1), .val (.int x2), .val (.int y0), .val (.int y1), .val (.int y2)] []))
        refine own_go (fun t k => XS.iloadN X0.here hx rfl (hb hby d4_26) rfl  k) ?_
        show OwnWk _ _ _ _ (s₁.setTop (mkF m 27 #[.val (.int n1), .val (.int x0), .val (.int x1), .val (.int x2), .val (.int y0), .val (.int y1), .val (.int y2)] [(.int n1)]))
        refine own_go (fun t k => XS.iconst X0.here hx rfl (hb hby d4_27) k) ?_
        show OwnWk _ _ _ _ (s₁.setTop (mkF m 28 #[.val (.int n1), .val (.int x0), .val (.int x1), .val (.int x2), .val (.int y0), .val (.int y1), .val (.int y2)] [(.int (3 : Int32)), (.int n1)]))
        by_cases hc7 : n1 < (3 : Int32)
        ·
          refine own_go (fun t k => XS.icmpYes X0.here hx rfl (pc0 := 28) (pc' := 39) rfl (hb hby d4_28) rfl (tlt hc7).1 (by decide) (by decide) k) ?_
          show OwnWk _ _ _ _ (s₁.setTop (mkF m 39 #[.val (.int n1), .val (.int x0), .val (.int x1), .val (.int x2), .val (.int y0), .val (.int y1), .val (.int y2)] []))
          refine own_go (fun t k => XS.iloadN X0.here hx rfl (hb hby d4_39) rfl  k) ?_
          show OwnWk _ _ _ _ (s₁.setTop (mkF m 40 #[.val (.int n1), .val (.int x0), .val (.int x1), .val (.int x2), .val (.int y0), .val (.int y1), .val (.int y2)] [(.int n1)]))
          refine own_go (fun t k => XS.iconst X0.here hx rfl (hb hby d4_40) k) ?_
          show OwnWk _ _ _ _ (s₁.setTop (mkF m 41 #[.val (.int n1), .val (.int x0), .val (.int x1), .val (.int x2), .val (.int y0), .val (.int y1), .val (.int y2)] [(.int (1 : Int32)), (.int n1)]))
          refine own_go (fun t k => XS.icmpYes X0.here hx rfl (pc0 := 41) (pc' := 52) rfl (hb hby d4_41) rfl (tlt hc1).1 (by decide) (by decide) k) ?_
          show OwnWk _ _ _ _ (s₁.setTop (mkF m 52 #[.val (.int n1), .val (.int x0), .val (.int x1), .val (.int x2), .val (.int y0), .val (.int y1), .val (.int y2)] []))
          refine own_go (fun t k => XS.iloadN X0.here hx rfl (hb hby d4_52) rfl  k) ?_
          show OwnWk _ _ _ _ (s₁.setTop (mkF m 53 #[.val (.int n1), .val (.int x0), .val (.int x1), .val (.int x2), .val (.int y0), .val (.int y1), .val (.int y2)] [(.int n1)]))
          refine own_go (fun t k => XS.iconst X0.here hx rfl (hb hby d4_53) k) ?_
          show OwnWk _ _ _ _ (s₁.setTop (mkF m 54 #[.val (.int n1), .val (.int x0), .val (.int x1), .val (.int x2), .val (.int y0), .val (.int y1), .val (.int y2)] [(.int (2 : Int32)), (.int n1)]))
          refine own_go (fun t k => XS.icmpNo X0.here hx rfl (hb hby d4_54) rfl (flt hc2).1 k) ?_
          show OwnWk _ _ _ _ (s₁.setTop (mkF m 57 #[.val (.int n1), .val (.int x0), .val (.int x1), .val (.int x2), .val (.int y0), .val (.int y1), .val (.int y2)] []))
          refine own_go (fun t k => XS.iloadN X0.here hx rfl (hb hby d4_57) rfl  k) ?_
          show OwnWk _ _ _ _ (s₁.setTop (mkF m 58 #[.val (.int n1), .val (.int x0), .val (.int x1), .val (.int x2), .val (.int y0), .val (.int y1), .val (.int y2)] [(.int x1)]))
          refine own_go (fun t k => XS.iload X0.here hx rfl (hb hby d4_58) rfl  k) ?_
          show OwnWk _ _ _ _ (s₁.setTop (mkF m 60 #[.val (.int n1), .val (.int x0), .val (.int x1), .val (.int x2), .val (.int y0), .val (.int y1), .val (.int y2)] [(.int y1), (.int x1)]))
          by_cases hc8 : y1 < x1
          ·
            refine own_go (fun t k => XS.icmpNo X0.here hx rfl (hb hby d4_60) rfl (tlt hc8).2.2.2 k) ?_
            show OwnWk _ _ _ _ (s₁.setTop (mkF m 63 #[.val (.int n1), .val (.int x0), .val (.int x1), .val (.int x2), .val (.int y0), .val (.int y1), .val (.int y2)] []))
            refine own_go (fun t k => XS.iconst X0.here hx rfl (hb hby d4_63) k) ?_
            show OwnWk _ _ _ _ (s₁.setTop (mkF m 64 #[.val (.int n1), .val (.int x0), .val (.int x1), .val (.int x2), .val (.int y0), .val (.int y1), .val (.int y2)] [(.int (1 : Int32))]))
            exact own_retI X0 hx hlk hret (hb hby d4_64) (by decide) (by decide) (by rw [e0]; exact ⟨by simp [own_ref, hc1, hc2, hc6, hc7, hc8], N0, rfl⟩)
          ·
            refine own_go (fun t k => XS.icmpYes X0.here hx rfl (pc0 := 60) (pc' := 65) rfl (hb hby d4_60) rfl (flt hc8).2.2.2 (by decide) (by decide) k) ?_
            show OwnWk _ _ _ _ (s₁.setTop (mkF m 65 #[.val (.int n1), .val (.int x0), .val (.int x1), .val (.int x2), .val (.int y0), .val (.int y1), .val (.int y2)] []))
            refine own_go (fun t k => XS.iloadN X0.here hx rfl (hb hby d4_65) rfl  k) ?_
            show OwnWk _ _ _ _ (s₁.setTop (mkF m 66 #[.val (.int n1), .val (.int x0), .val (.int x1), .val (.int x2), .val (.int y0), .val (.int y1), .val (.int y2)] [(.int n1)]))
            refine own_go (fun t k => XS.iconst X0.here hx rfl (hb hby d4_66) k) ?_
            show OwnWk _ _ _ _ (s₁.setTop (mkF m 67 #[.val (.int n1), .val (.int x0), .val (.int x1), .val (.int x2), .val (.int y0), .val (.int y1), .val (.int y2)] [(.int (3 : Int32)), (.int n1)]))
            refine own_go (fun t k => XS.icmpYes X0.here hx rfl (pc0 := 67) (pc' := 78) rfl (hb hby d4_67) rfl (tlt hc7).1 (by decide) (by decide) k) ?_
            show OwnWk _ _ _ _ (s₁.setTop (mkF m 78 #[.val (.int n1), .val (.int x0), .val (.int x1), .val (.int x2), .val (.int y0), .val (.int y1), .val (.int y2)] []))
            refine own_go (fun t k => XS.iconst X0.here hx rfl (hb hby d4_78) k) ?_
            show OwnWk _ _ _ _ (s₁.setTop (mkF m 79 #[.val (.int n1), .val (.int x0), .val (.int x1), .val (.int x2), .val (.int y0), .val (.int y1), .val (.int y2)] [(.int (-1 : Int32))]))
            exact own_retI X0 hx hlk hret (hb hby d4_79) (by decide) (by decide) (by rw [e0]; exact ⟨by simp [own_ref, hc1, hc2, hc6, hc7, hc8], N0, rfl⟩)
        ·
          refine own_go (fun t k => XS.icmpNo X0.here hx rfl (hb hby d4_28) rfl (flt hc7).1 k) ?_
          show OwnWk _ _ _ _ (s₁.setTop (mkF m 31 #[.val (.int n1), .val (.int x0), .val (.int x1), .val (.int x2), .val (.int y0), .val (.int y1), .val (.int y2)] []))
          refine own_go (fun t k => XS.iloadN X0.here hx rfl (hb hby d4_31) rfl  k) ?_
          show OwnWk _ _ _ _ (s₁.setTop (mkF m 32 #[.val (.int n1), .val (.int x0), .val (.int x1), .val (.int x2), .val (.int y0), .val (.int y1), .val (.int y2)] [(.int x2)]))
          refine own_go (fun t k => XS.iload X0.here hx rfl (hb hby d4_32) rfl  k) ?_
          show OwnWk _ _ _ _ (s₁.setTop (mkF m 34 #[.val (.int n1), .val (.int x0), .val (.int x1), .val (.int x2), .val (.int y0), .val (.int y1), .val (.int y2)] [(.int y2), (.int x2)]))
          by_cases hc9 : x2 < y2
          ·
            refine own_go (fun t k => XS.icmpNo X0.here hx rfl (hb hby d4_34) rfl (tlt hc9).2.1 k) ?_
            show OwnWk _ _ _ _ (s₁.setTop (mkF m 37 #[.val (.int n1), .val (.int x0), .val (.int x1), .val (.int x2), .val (.int y0), .val (.int y1), .val (.int y2)] []))
            refine own_go (fun t k => XS.iconst X0.here hx rfl (hb hby d4_37) k) ?_
            show OwnWk _ _ _ _ (s₁.setTop (mkF m 38 #[.val (.int n1), .val (.int x0), .val (.int x1), .val (.int x2), .val (.int y0), .val (.int y1), .val (.int y2)] [(.int (-1 : Int32))]))
            exact own_retI X0 hx hlk hret (hb hby d4_38) (by decide) (by decide) (by rw [e0]; exact ⟨by simp [own_ref, hc1, hc2, hc6, hc7, hc9], N0, rfl⟩)
          ·
            refine own_go (fun t k => XS.icmpYes X0.here hx rfl (pc0 := 34) (pc' := 39) rfl (hb hby d4_34) rfl (flt hc9).2.1 (by decide) (by decide) k) ?_
            show OwnWk _ _ _ _ (s₁.setTop (mkF m 39 #[.val (.int n1), .val (.int x0), .val (.int x1), .val (.int x2), .val (.int y0), .val (.int y1), .val (.int y2)] []))
            refine own_go (fun t k => XS.iloadN X0.here hx rfl (hb hby d4_39) rfl  k) ?_
            show OwnWk _ _ _ _ (s₁.setTop (mkF m 40 #[.val (.int n1), .val (.int x0), .val (.int x1), .val (.int x2), .val (.int y0), .val (.int y1), .val (.int y2)] [(.int n1)]))
            refine own_go (fun t k => XS.iconst X0.here hx rfl (hb hby d4_40) k) ?_
            show OwnWk _ _ _ _ (s₁.setTop (mkF m 41 #[.val (.int n1), .val (.int x0), .val (.int x1), .val (.int x2), .val (.int y0), .val (.int y1), .val (.int y2)] [(.int (1 : Int32)), (.int n1)]))
            refine own_go (fun t k => XS.icmpYes X0.here hx rfl (pc0 := 41) (pc' := 52) rfl (hb hby d4_41) rfl (tlt hc1).1 (by decide) (by decide) k) ?_
            show OwnWk _ _ _ _ (s₁.setTop (mkF m 52 #[.val (.int n1), .val (.int x0), .val (.int x1), .val (.int x2), .val (.int y0), .val (.int y1), .val (.int y2)] []))
            refine own_go (fun t k => XS.iloadN X0.here hx rfl (hb hby d4_52) rfl  k) ?_
            show OwnWk _ _ _ _ (s₁.setTop (mkF m 53 #[.val (.int n1), .val (.int x0), .val (.int x1), .val (.int x2), .val (.int y0), .val (.int y1), .val (.int y2)] [(.int n1)]))
            refine own_go (fun t k => XS.iconst X0.here hx rfl (hb hby d4_53) k) ?_
            show OwnWk _ _ _ _ (s₁.setTop (mkF m 54 #[.val (.int n1), .val (.int x0), .val (.int x1), .val (.int x2), .val (.int y0), .val (.int y1), .val (.int y2)] [(.int (2 : Int32)), (.int n1)]))
            refine own_go (fun t k => XS.icmpNo X0.here hx rfl (hb hby d4_54) rfl (flt hc2).1 k) ?_
            show OwnWk _ _ _ _ (s₁.setTop (mkF m 57 #[.val (.int n1), .val (.int x0), .val (.int x1), .val (.int x2), .val (.int y0), .val (.int y1), .val (.int y2)] []))
            refine own_go (fun t k => XS.iloadN X0.here hx rfl (hb hby d4_57) rfl  k) ?_
            show OwnWk _ _ _ _ (s₁.setTop (mkF m 58 #[.val (.int n1), .val (.int x0), .val (.int x1), .val (.int x2), .val (.int y0), .val (.int y1), .val (.int y2)] [(.int x1)]))
            refine own_go (fun t k => XS.iload X0.here hx rfl (hb hby d4_58) rfl  k) ?_
            show OwnWk _ _ _ _ (s₁.setTop (mkF m 60 #[.val (.int n1), .val (.int x0), .val (.int x1), .val (.int x2), .val (.int y0), .val (.int y1), .val (.int y2)] [(.int y1), (.int x1)]))
            by_cases hc10 : y1 < x1
            ·
              refine own_go (fun t k => XS.icmpNo X0.here hx rfl (hb hby d4_60) rfl (tlt hc10).2.2.2 k) ?_
              show OwnWk _ _ _ _ (s₁.setTop (mkF m 63 #[.val (.int n1), .val (.int x0), .val (.int x1), .val (.int x2), .val (.int y0), .val (.int y1), .val (.int y2)] []))
              refine own_go (fun t k => XS.iconst X0.here hx rfl (hb hby d4_63) k) ?_
              show OwnWk _ _ _ _ (s₁.setTop (mkF m 64 #[.val (.int n1), .val (.int x0), .val (.int x1), .val (.int x2), .val (.int y0), .val (.int y1), .val (.int y2)] [(.int (1 : Int32))]))
              exact own_retI X0 hx hlk hret (hb hby d4_64) (by decide) (by decide) (by rw [e0]; exact ⟨by simp [own_ref, hc1, hc2, hc6, hc7, hc9, hc10], N0, rfl⟩)
            ·
              refine own_go (fun t k => XS.icmpYes X0.here hx rfl (pc0 := 60) (pc' := 65) rfl (hb hby d4_60) rfl (flt hc10).2.2.2 (by decide) (by decide) k) ?_
              show OwnWk _ _ _ _ (s₁.setTop (mkF m 65 #[.val (.int n1), .val (.int x0), .val (.int x1), .val (.int x2), .val (.int y0), .val (.int y1), .val (.int y2)] []))
              refine own_go (fun t k => XS.iloadN X0.here hx rfl (hb hby d4_65) rfl  k) ?_
              show OwnWk _ _ _ _ (s₁.setTop (mkF m 66 #[.val (.int n1), .val (.int x0), .val (.int x1), .val (.int x2), .val (.int y0), .val (.int y1), .val (.int y2)] [(.int n1)]))
              refine own_go (fun t k => XS.iconst X0.here hx rfl (hb hby d4_66) k) ?_
              show OwnWk _ _ _ _ (s₁.setTop (mkF m 67 #[.val (.int n1), .val (.int x0), .val (.int x1), .val (.int x2), .val (.int y0), .val (.int y1), .val (.int y2)] [(.int (3 : Int32)), (.int n1)]))
              refine own_go (fun t k => XS.icmpNo X0.here hx rfl (hb hby d4_67) rfl (flt hc7).1 k) ?_
              show OwnWk _ _ _ _ (s₁.setTop (mkF m 70 #[.val (.int n1), .val (.int x0), .val (.int x1), .val (.int x2), .val (.int y0), .val (.int y1), .val (.int y2)] []))
              refine own_go (fun t k => XS.iloadN X0.here hx rfl (hb hby d4_70) rfl  k) ?_
              show OwnWk _ _ _ _ (s₁.setTop (mkF m 71 #[.val (.int n1), .val (.int x0), .val (.int x1), .val (.int x2), .val (.int y0), .val (.int y1), .val (.int y2)] [(.int x2)]))
              refine own_go (fun t k => XS.iload X0.here hx rfl (hb hby d4_71) rfl  k) ?_
              show OwnWk _ _ _ _ (s₁.setTop (mkF m 73 #[.val (.int n1), .val (.int x0), .val (.int x1), .val (.int x2), .val (.int y0), .val (.int y1), .val (.int y2)] [(.int y2), (.int x2)]))
              by_cases hc11 : y2 < x2
              ·
                refine own_go (fun t k => XS.icmpNo X0.here hx rfl (hb hby d4_73) rfl (tlt hc11).2.2.2 k) ?_
                show OwnWk _ _ _ _ (s₁.setTop (mkF m 76 #[.val (.int n1), .val (.int x0), .val (.int x1), .val (.int x2), .val (.int y0), .val (.int y1), .val (.int y2)] []))
                refine own_go (fun t k => XS.iconst X0.here hx rfl (hb hby d4_76) k) ?_
                show OwnWk _ _ _ _ (s₁.setTop (mkF m 77 #[.val (.int n1), .val (.int x0), .val (.int x1), .val (.int x2), .val (.int y0), .val (.int y1), .val (.int y2)] [(.int (2 : Int32))]))
                exact own_retI X0 hx hlk hret (hb hby d4_77) (by decide) (by decide) (by rw [e0]; exact ⟨by simp [own_ref, hc1, hc2, hc6, hc7, hc9, hc10, hc11], N0, rfl⟩)
              ·
                refine own_go (fun t k => XS.icmpYes X0.here hx rfl (pc0 := 73) (pc' := 78) rfl (hb hby d4_73) rfl (flt hc11).2.2.2 (by decide) (by decide) k) ?_
                show OwnWk _ _ _ _ (s₁.setTop (mkF m 78 #[.val (.int n1), .val (.int x0), .val (.int x1), .val (.int x2), .val (.int y0), .val (.int y1), .val (.int y2)] []))
                refine own_go (fun t k => XS.iconst X0.here hx rfl (hb hby d4_78) k) ?_
                show OwnWk _ _ _ _ (s₁.setTop (mkF m 79 #[.val (.int n1), .val (.int x0), .val (.int x1), .val (.int x2), .val (.int y0), .val (.int y1), .val (.int y2)] [(.int (-1 : Int32))]))
                exact own_retI X0 hx hlk hret (hb hby d4_79) (by decide) (by decide) (by rw [e0]; exact ⟨by simp [own_ref, hc1, hc2, hc6, hc7, hc9, hc10, hc11], N0, rfl⟩)
  ·
    refine own_go (fun t k => XS.icmpNo X0.here hx rfl (hb hby d4_2) rfl (flt hc1).1 k) ?_
    show OwnWk _ _ _ _ (s₁.setTop (mkF m 5 #[.val (.int n1), .val (.int x0), .val (.int x1), .val (.int x2), .val (.int y0), .val (.int y1), .val (.int y2)] []))
    refine own_go (fun t k => XS.iloadN X0.here hx rfl (hb hby d4_5) rfl  k) ?_
    show OwnWk _ _ _ _ (s₁.setTop (mkF m 6 #[.val (.int n1), .val (.int x0), .val (.int x1), .val (.int x2), .val (.int y0), .val (.int y1), .val (.int y2)] [(.int x0)]))
    refine own_go (fun t k => XS.iload X0.here hx rfl (hb hby d4_6) rfl  k) ?_
    show OwnWk _ _ _ _ (s₁.setTop (mkF m 8 #[.val (.int n1), .val (.int x0), .val (.int x1), .val (.int x2), .val (.int y0), .val (.int y1), .val (.int y2)] [(.int y0), (.int x0)]))
    by_cases hc12 : x0 < y0
    ·
      refine own_go (fun t k => XS.icmpNo X0.here hx rfl (hb hby d4_8) rfl (tlt hc12).2.1 k) ?_
      show OwnWk _ _ _ _ (s₁.setTop (mkF m 11 #[.val (.int n1), .val (.int x0), .val (.int x1), .val (.int x2), .val (.int y0), .val (.int y1), .val (.int y2)] []))
      refine own_go (fun t k => XS.iconst X0.here hx rfl (hb hby d4_11) k) ?_
      show OwnWk _ _ _ _ (s₁.setTop (mkF m 12 #[.val (.int n1), .val (.int x0), .val (.int x1), .val (.int x2), .val (.int y0), .val (.int y1), .val (.int y2)] [(.int (-1 : Int32))]))
      exact own_retI X0 hx hlk hret (hb hby d4_12) (by decide) (by decide) (by rw [e0]; exact ⟨by simp [own_ref, hc1, hc12], N0, rfl⟩)
    ·
      refine own_go (fun t k => XS.icmpYes X0.here hx rfl (pc0 := 8) (pc' := 13) rfl (hb hby d4_8) rfl (flt hc12).2.1 (by decide) (by decide) k) ?_
      show OwnWk _ _ _ _ (s₁.setTop (mkF m 13 #[.val (.int n1), .val (.int x0), .val (.int x1), .val (.int x2), .val (.int y0), .val (.int y1), .val (.int y2)] []))
      refine own_go (fun t k => XS.iloadN X0.here hx rfl (hb hby d4_13) rfl  k) ?_
      show OwnWk _ _ _ _ (s₁.setTop (mkF m 14 #[.val (.int n1), .val (.int x0), .val (.int x1), .val (.int x2), .val (.int y0), .val (.int y1), .val (.int y2)] [(.int n1)]))
      refine own_go (fun t k => XS.iconst X0.here hx rfl (hb hby d4_14) k) ?_
      show OwnWk _ _ _ _ (s₁.setTop (mkF m 15 #[.val (.int n1), .val (.int x0), .val (.int x1), .val (.int x2), .val (.int y0), .val (.int y1), .val (.int y2)] [(.int (2 : Int32)), (.int n1)]))
      by_cases hc13 : n1 < (2 : Int32)
      ·
        refine own_go (fun t k => XS.icmpYes X0.here hx rfl (pc0 := 15) (pc' := 26) rfl (hb hby d4_15) rfl (tlt hc13).1 (by decide) (by decide) k) ?_
        show OwnWk _ _ _ _ (s₁.setTop (mkF m 26 #[.val (.int n1), .val (.int x0), .val (.int x1), .val (.int x2), .val (.int y0), .val (.int y1), .val (.int y2)] []))
        refine own_go (fun t k => XS.iloadN X0.here hx rfl (hb hby d4_26) rfl  k) ?_
        show OwnWk _ _ _ _ (s₁.setTop (mkF m 27 #[.val (.int n1), .val (.int x0), .val (.int x1), .val (.int x2), .val (.int y0), .val (.int y1), .val (.int y2)] [(.int n1)]))
        refine own_go (fun t k => XS.iconst X0.here hx rfl (hb hby d4_27) k) ?_
        show OwnWk _ _ _ _ (s₁.setTop (mkF m 28 #[.val (.int n1), .val (.int x0), .val (.int x1), .val (.int x2), .val (.int y0), .val (.int y1), .val (.int y2)] [(.int (3 : Int32)), (.int n1)]))
        by_cases hc14 : n1 < (3 : Int32)
        ·
          refine own_go (fun t k => XS.icmpYes X0.here hx rfl (pc0 := 28) (pc' := 39) rfl (hb hby d4_28) rfl (tlt hc14).1 (by decide) (by decide) k) ?_
          show OwnWk _ _ _ _ (s₁.setTop (mkF m 39 #[.val (.int n1), .val (.int x0), .val (.int x1), .val (.int x2), .val (.int y0), .val (.int y1), .val (.int y2)] []))
          refine own_go (fun t k => XS.iloadN X0.here hx rfl (hb hby d4_39) rfl  k) ?_
          show OwnWk _ _ _ _ (s₁.setTop (mkF m 40 #[.val (.int n1), .val (.int x0), .val (.int x1), .val (.int x2), .val (.int y0), .val (.int y1), .val (.int y2)] [(.int n1)]))
          refine own_go (fun t k => XS.iconst X0.here hx rfl (hb hby d4_40) k) ?_
          show OwnWk _ _ _ _ (s₁.setTop (mkF m 41 #[.val (.int n1), .val (.int x0), .val (.int x1), .val (.int x2), .val (.int y0), .val (.int y1), .val (.int y2)] [(.int (1 : Int32)), (.int n1)]))
          refine own_go (fun t k => XS.icmpNo X0.here hx rfl (hb hby d4_41) rfl (flt hc1).1 k) ?_
          show OwnWk _ _ _ _ (s₁.setTop (mkF m 44 #[.val (.int n1), .val (.int x0), .val (.int x1), .val (.int x2), .val (.int y0), .val (.int y1), .val (.int y2)] []))
          refine own_go (fun t k => XS.iloadN X0.here hx rfl (hb hby d4_44) rfl  k) ?_
          show OwnWk _ _ _ _ (s₁.setTop (mkF m 45 #[.val (.int n1), .val (.int x0), .val (.int x1), .val (.int x2), .val (.int y0), .val (.int y1), .val (.int y2)] [(.int x0)]))
          refine own_go (fun t k => XS.iload X0.here hx rfl (hb hby d4_45) rfl  k) ?_
          show OwnWk _ _ _ _ (s₁.setTop (mkF m 47 #[.val (.int n1), .val (.int x0), .val (.int x1), .val (.int x2), .val (.int y0), .val (.int y1), .val (.int y2)] [(.int y0), (.int x0)]))
          by_cases hc15 : y0 < x0
          ·
            refine own_go (fun t k => XS.icmpNo X0.here hx rfl (hb hby d4_47) rfl (tlt hc15).2.2.2 k) ?_
            show OwnWk _ _ _ _ (s₁.setTop (mkF m 50 #[.val (.int n1), .val (.int x0), .val (.int x1), .val (.int x2), .val (.int y0), .val (.int y1), .val (.int y2)] []))
            refine own_go (fun t k => XS.iconst X0.here hx rfl (hb hby d4_50) k) ?_
            show OwnWk _ _ _ _ (s₁.setTop (mkF m 51 #[.val (.int n1), .val (.int x0), .val (.int x1), .val (.int x2), .val (.int y0), .val (.int y1), .val (.int y2)] [(.int (0 : Int32))]))
            exact own_retI X0 hx hlk hret (hb hby d4_51) (by decide) (by decide) (by rw [e0]; exact ⟨by simp [own_ref, hc1, hc12, hc13, hc14, hc15], N0, rfl⟩)
          ·
            refine own_go (fun t k => XS.icmpYes X0.here hx rfl (pc0 := 47) (pc' := 52) rfl (hb hby d4_47) rfl (flt hc15).2.2.2 (by decide) (by decide) k) ?_
            show OwnWk _ _ _ _ (s₁.setTop (mkF m 52 #[.val (.int n1), .val (.int x0), .val (.int x1), .val (.int x2), .val (.int y0), .val (.int y1), .val (.int y2)] []))
            refine own_go (fun t k => XS.iloadN X0.here hx rfl (hb hby d4_52) rfl  k) ?_
            show OwnWk _ _ _ _ (s₁.setTop (mkF m 53 #[.val (.int n1), .val (.int x0), .val (.int x1), .val (.int x2), .val (.int y0), .val (.int y1), .val (.int y2)] [(.int n1)]))
            refine own_go (fun t k => XS.iconst X0.here hx rfl (hb hby d4_53) k) ?_
            show OwnWk _ _ _ _ (s₁.setTop (mkF m 54 #[.val (.int n1), .val (.int x0), .val (.int x1), .val (.int x2), .val (.int y0), .val (.int y1), .val (.int y2)] [(.int (2 : Int32)), (.int n1)]))
            refine own_go (fun t k => XS.icmpYes X0.here hx rfl (pc0 := 54) (pc' := 65) rfl (hb hby d4_54) rfl (tlt hc13).1 (by decide) (by decide) k) ?_
            show OwnWk _ _ _ _ (s₁.setTop (mkF m 65 #[.val (.int n1), .val (.int x0), .val (.int x1), .val (.int x2), .val (.int y0), .val (.int y1), .val (.int y2)] []))
            refine own_go (fun t k => XS.iloadN X0.here hx rfl (hb hby d4_65) rfl  k) ?_
            show OwnWk _ _ _ _ (s₁.setTop (mkF m 66 #[.val (.int n1), .val (.int x0), .val (.int x1), .val (.int x2), .val (.int y0), .val (.int y1), .val (.int y2)] [(.int n1)]))
            refine own_go (fun t k => XS.iconst X0.here hx rfl (hb hby d4_66) k) ?_
            show OwnWk _ _ _ _ (s₁.setTop (mkF m 67 #[.val (.int n1), .val (.int x0), .val (.int x1), .val (.int x2), .val (.int y0), .val (.int y1), .val (.int y2)] [(.int (3 : Int32)), (.int n1)]))
            refine own_go (fun t k => XS.icmpYes X0.here hx rfl (pc0 := 67) (pc' := 78) rfl (hb hby d4_67) rfl (tlt hc14).1 (by decide) (by decide) k) ?_
            show OwnWk _ _ _ _ (s₁.setTop (mkF m 78 #[.val (.int n1), .val (.int x0), .val (.int x1), .val (.int x2), .val (.int y0), .val (.int y1), .val (.int y2)] []))
            refine own_go (fun t k => XS.iconst X0.here hx rfl (hb hby d4_78) k) ?_
            show OwnWk _ _ _ _ (s₁.setTop (mkF m 79 #[.val (.int n1), .val (.int x0), .val (.int x1), .val (.int x2), .val (.int y0), .val (.int y1), .val (.int y2)] [(.int (-1 : Int32))]))
            exact own_retI X0 hx hlk hret (hb hby d4_79) (by decide) (by decide) (by rw [e0]; exact ⟨by simp [own_ref, hc1, hc12, hc13, hc14, hc15], N0, rfl⟩)
        ·
          refine own_go (fun t k => XS.icmpNo X0.here hx rfl (hb hby d4_28) rfl (flt hc14).1 k) ?_
          show OwnWk _ _ _ _ (s₁.setTop (mkF m 31 #[.val (.int n1), .val (.int x0), .val (.int x1), .val (.int x2), .val (.int y0), .val (.int y1), .val (.int y2)] []))
          refine own_go (fun t k => XS.iloadN X0.here hx rfl (hb hby d4_31) rfl  k) ?_
          show OwnWk _ _ _ _ (s₁.setTop (mkF m 32 #[.val (.int n1), .val (.int x0), .val (.int x1), .val (.int x2), .val (.int y0), .val (.int y1), .val (.int y2)] [(.int x2)]))
          refine own_go (fun t k => XS.iload X0.here hx rfl (hb hby d4_32) rfl  k) ?_
          show OwnWk _ _ _ _ (s₁.setTop (mkF m 34 #[.val (.int n1), .val (.int x0), .val (.int x1), .val (.int x2), .val (.int y0), .val (.int y1), .val (.int y2)] [(.int y2), (.int x2)]))
          by_cases hc16 : x2 < y2
          ·
            refine own_go (fun t k => XS.icmpNo X0.here hx rfl (hb hby d4_34) rfl (tlt hc16).2.1 k) ?_
            show OwnWk _ _ _ _ (s₁.setTop (mkF m 37 #[.val (.int n1), .val (.int x0), .val (.int x1), .val (.int x2), .val (.int y0), .val (.int y1), .val (.int y2)] []))
            refine own_go (fun t k => XS.iconst X0.here hx rfl (hb hby d4_37) k) ?_
            show OwnWk _ _ _ _ (s₁.setTop (mkF m 38 #[.val (.int n1), .val (.int x0), .val (.int x1), .val (.int x2), .val (.int y0), .val (.int y1), .val (.int y2)] [(.int (-1 : Int32))]))
            exact own_retI X0 hx hlk hret (hb hby d4_38) (by decide) (by decide) (by rw [e0]; exact ⟨by simp [own_ref, hc1, hc12, hc13, hc14, hc16], N0, rfl⟩)
          ·
            refine own_go (fun t k => XS.icmpYes X0.here hx rfl (pc0 := 34) (pc' := 39) rfl (hb hby d4_34) rfl (flt hc16).2.1 (by decide) (by decide) k) ?_
            show OwnWk _ _ _ _ (s₁.setTop (mkF m 39 #[.val (.int n1), .val (.int x0), .val (.int x1), .val (.int x2), .val (.int y0), .val (.int y1), .val (.int y2)] []))
            refine own_go (fun t k => XS.iloadN X0.here hx rfl (hb hby d4_39) rfl  k) ?_
            show OwnWk _ _ _ _ (s₁.setTop (mkF m 40 #[.val (.int n1), .val (.int x0), .val (.int x1), .val (.int x2), .val (.int y0), .val (.int y1), .val (.int y2)] [(.int n1)]))
            refine own_go (fun t k => XS.iconst X0.here hx rfl (hb hby d4_40) k) ?_
            show OwnWk _ _ _ _ (s₁.setTop (mkF m 41 #[.val (.int n1), .val (.int x0), .val (.int x1), .val (.int x2), .val (.int y0), .val (.int y1), .val (.int y2)] [(.int (1 : Int32)), (.int n1)]))
            refine own_go (fun t k => XS.icmpNo X0.here hx rfl (hb hby d4_41) rfl (flt hc1).1 k) ?_
            show OwnWk _ _ _ _ (s₁.setTop (mkF m 44 #[.val (.int n1), .val (.int x0), .val (.int x1), .val (.int x2), .val (.int y0), .val (.int y1), .val (.int y2)] []))
            refine own_go (fun t k => XS.iloadN X0.here hx rfl (hb hby d4_44) rfl  k) ?_
            show OwnWk _ _ _ _ (s₁.setTop (mkF m 45 #[.val (.int n1), .val (.int x0), .val (.int x1), .val (.int x2), .val (.int y0), .val (.int y1), .val (.int y2)] [(.int x0)]))
            refine own_go (fun t k => XS.iload X0.here hx rfl (hb hby d4_45) rfl  k) ?_
            show OwnWk _ _ _ _ (s₁.setTop (mkF m 47 #[.val (.int n1), .val (.int x0), .val (.int x1), .val (.int x2), .val (.int y0), .val (.int y1), .val (.int y2)] [(.int y0), (.int x0)]))
            by_cases hc17 : y0 < x0
            ·
              refine own_go (fun t k => XS.icmpNo X0.here hx rfl (hb hby d4_47) rfl (tlt hc17).2.2.2 k) ?_
              show OwnWk _ _ _ _ (s₁.setTop (mkF m 50 #[.val (.int n1), .val (.int x0), .val (.int x1), .val (.int x2), .val (.int y0), .val (.int y1), .val (.int y2)] []))
              refine own_go (fun t k => XS.iconst X0.here hx rfl (hb hby d4_50) k) ?_
              show OwnWk _ _ _ _ (s₁.setTop (mkF m 51 #[.val (.int n1), .val (.int x0), .val (.int x1), .val (.int x2), .val (.int y0), .val (.int y1), .val (.int y2)] [(.int (0 : Int32))]))
              exact own_retI X0 hx hlk hret (hb hby d4_51) (by decide) (by decide) (by rw [e0]; exact ⟨by simp [own_ref, hc1, hc12, hc13, hc14, hc16, hc17], N0, rfl⟩)
            ·
              refine own_go (fun t k => XS.icmpYes X0.here hx rfl (pc0 := 47) (pc' := 52) rfl (hb hby d4_47) rfl (flt hc17).2.2.2 (by decide) (by decide) k) ?_
              show OwnWk _ _ _ _ (s₁.setTop (mkF m 52 #[.val (.int n1), .val (.int x0), .val (.int x1), .val (.int x2), .val (.int y0), .val (.int y1), .val (.int y2)] []))
              refine own_go (fun t k => XS.iloadN X0.here hx rfl (hb hby d4_52) rfl  k) ?_
              show OwnWk _ _ _ _ (s₁.setTop (mkF m 53 #[.val (.int n1), .val (.int x0), .val (.int x1), .val (.int x2), .val (.int y0), .val (.int y1), .val (.int y2)] [(.int n1)]))
              refine own_go (fun t k => XS.iconst X0.here hx rfl (hb hby d4_53) k) ?_
              show OwnWk _ _ _ _ (s₁.setTop (mkF m 54 #[.val (.int n1), .val (.int x0), .val (.int x1), .val (.int x2), .val (.int y0), .val (.int y1), .val (.int y2)] [(.int (2 : Int32)), (.int n1)]))
              refine own_go (fun t k => XS.icmpYes X0.here hx rfl (pc0 := 54) (pc' := 65) rfl (hb hby d4_54) rfl (tlt hc13).1 (by decide) (by decide) k) ?_
              show OwnWk _ _ _ _ (s₁.setTop (mkF m 65 #[.val (.int n1), .val (.int x0), .val (.int x1), .val (.int x2), .val (.int y0), .val (.int y1), .val (.int y2)] []))
              refine own_go (fun t k => XS.iloadN X0.here hx rfl (hb hby d4_65) rfl  k) ?_
              show OwnWk _ _ _ _ (s₁.setTop (mkF m 66 #[.val (.int n1), .val (.int x0), .val (.int x1), .val (.int x2), .val (.int y0), .val (.int y1), .val (.int y2)] [(.int n1)]))
              refine own_go (fun t k => XS.iconst X0.here hx rfl (hb hby d4_66) k) ?_
              show OwnWk _ _ _ _ (s₁.setTop (mkF m 67 #[.val (.int n1), .val (.int x0), .val (.int x1), .val (.int x2), .val (.int y0), .val (.int y1), .val (.int y2)] [(.int (3 : Int32)), (.int n1)]))
              refine own_go (fun t k => XS.icmpNo X0.here hx rfl (hb hby d4_67) rfl (flt hc14).1 k) ?_
              show OwnWk _ _ _ _ (s₁.setTop (mkF m 70 #[.val (.int n1), .val (.int x0), .val (.int x1), .val (.int x2), .val (.int y0), .val (.int y1), .val (.int y2)] []))
              refine own_go (fun t k => XS.iloadN X0.here hx rfl (hb hby d4_70) rfl  k) ?_
              show OwnWk _ _ _ _ (s₁.setTop (mkF m 71 #[.val (.int n1), .val (.int x0), .val (.int x1), .val (.int x2), .val (.int y0), .val (.int y1), .val (.int y2)] [(.int x2)]))
              refine own_go (fun t k => XS.iload X0.here hx rfl (hb hby d4_71) rfl  k) ?_
              show OwnWk _ _ _ _ (s₁.setTop (mkF m 73 #[.val (.int n1), .val (.int x0), .val (.int x1), .val (.int x2), .val (.int y0), .val (.int y1), .val (.int y2)] [(.int y2), (.int x2)]))
              by_cases hc18 : y2 < x2
              ·
                refine own_go (fun t k => XS.icmpNo X0.here hx rfl (hb hby d4_73) rfl (tlt hc18).2.2.2 k) ?_
                show OwnWk _ _ _ _ (s₁.setTop (mkF m 76 #[.val (.int n1), .val (.int x0), .val (.int x1), .val (.int x2), .val (.int y0), .val (.int y1), .val (.int y2)] []))
                refine own_go (fun t k => XS.iconst X0.here hx rfl (hb hby d4_76) k) ?_
                show OwnWk _ _ _ _ (s₁.setTop (mkF m 77 #[.val (.int n1), .val (.int x0), .val (.int x1), .val (.int x2), .val (.int y0), .val (.int y1), .val (.int y2)] [(.int (2 : Int32))]))
                exact own_retI X0 hx hlk hret (hb hby d4_77) (by decide) (by decide) (by rw [e0]; exact ⟨by simp [own_ref, hc1, hc12, hc13, hc14, hc16, hc17, hc18], N0, rfl⟩)
              ·
                refine own_go (fun t k => XS.icmpYes X0.here hx rfl (pc0 := 73) (pc' := 78) rfl (hb hby d4_73) rfl (flt hc18).2.2.2 (by decide) (by decide) k) ?_
                show OwnWk _ _ _ _ (s₁.setTop (mkF m 78 #[.val (.int n1), .val (.int x0), .val (.int x1), .val (.int x2), .val (.int y0), .val (.int y1), .val (.int y2)] []))
                refine own_go (fun t k => XS.iconst X0.here hx rfl (hb hby d4_78) k) ?_
                show OwnWk _ _ _ _ (s₁.setTop (mkF m 79 #[.val (.int n1), .val (.int x0), .val (.int x1), .val (.int x2), .val (.int y0), .val (.int y1), .val (.int y2)] [(.int (-1 : Int32))]))
                exact own_retI X0 hx hlk hret (hb hby d4_79) (by decide) (by decide) (by rw [e0]; exact ⟨by simp [own_ref, hc1, hc12, hc13, hc14, hc16, hc17, hc18], N0, rfl⟩)
      ·
        refine own_go (fun t k => XS.icmpNo X0.here hx rfl (hb hby d4_15) rfl (flt hc13).1 k) ?_
        show OwnWk _ _ _ _ (s₁.setTop (mkF m 18 #[.val (.int n1), .val (.int x0), .val (.int x1), .val (.int x2), .val (.int y0), .val (.int y1), .val (.int y2)] []))
        refine own_go (fun t k => XS.iloadN X0.here hx rfl (hb hby d4_18) rfl  k) ?_
        show OwnWk _ _ _ _ (s₁.setTop (mkF m 19 #[.val (.int n1), .val (.int x0), .val (.int x1), .val (.int x2), .val (.int y0), .val (.int y1), .val (.int y2)] [(.int x1)]))
        refine own_go (fun t k => XS.iload X0.here hx rfl (hb hby d4_19) rfl  k) ?_
        show OwnWk _ _ _ _ (s₁.setTop (mkF m 21 #[.val (.int n1), .val (.int x0), .val (.int x1), .val (.int x2), .val (.int y0), .val (.int y1), .val (.int y2)] [(.int y1), (.int x1)]))
        by_cases hc19 : x1 < y1
        ·
          refine own_go (fun t k => XS.icmpNo X0.here hx rfl (hb hby d4_21) rfl (tlt hc19).2.1 k) ?_
          show OwnWk _ _ _ _ (s₁.setTop (mkF m 24 #[.val (.int n1), .val (.int x0), .val (.int x1), .val (.int x2), .val (.int y0), .val (.int y1), .val (.int y2)] []))
          refine own_go (fun t k => XS.iconst X0.here hx rfl (hb hby d4_24) k) ?_
          show OwnWk _ _ _ _ (s₁.setTop (mkF m 25 #[.val (.int n1), .val (.int x0), .val (.int x1), .val (.int x2), .val (.int y0), .val (.int y1), .val (.int y2)] [(.int (-1 : Int32))]))
          exact own_retI X0 hx hlk hret (hb hby d4_25) (by decide) (by decide) (by rw [e0]; exact ⟨by simp [own_ref, hc1, hc12, hc13, hc19], N0, rfl⟩)
        ·
          refine own_go (fun t k => XS.icmpYes X0.here hx rfl (pc0 := 21) (pc' := 26) rfl (hb hby d4_21) rfl (flt hc19).2.1 (by decide) (by decide) k) ?_
          show OwnWk _ _ _ _ (s₁.setTop (mkF m 26 #[.val (.int n1), .val (.int x0), .val (.int x1), .val (.int x2), .val (.int y0), .val (.int y1), .val (.int y2)] []))
          refine own_go (fun t k => XS.iloadN X0.here hx rfl (hb hby d4_26) rfl  k) ?_
          show OwnWk _ _ _ _ (s₁.setTop (mkF m 27 #[.val (.int n1), .val (.int x0), .val (.int x1), .val (.int x2), .val (.int y0), .val (.int y1), .val (.int y2)] [(.int n1)]))
          refine own_go (fun t k => XS.iconst X0.here hx rfl (hb hby d4_27) k) ?_
          show OwnWk _ _ _ _ (s₁.setTop (mkF m 28 #[.val (.int n1), .val (.int x0), .val (.int x1), .val (.int x2), .val (.int y0), .val (.int y1), .val (.int y2)] [(.int (3 : Int32)), (.int n1)]))
          by_cases hc20 : n1 < (3 : Int32)
          ·
            refine own_go (fun t k => XS.icmpYes X0.here hx rfl (pc0 := 28) (pc' := 39) rfl (hb hby d4_28) rfl (tlt hc20).1 (by decide) (by decide) k) ?_
            show OwnWk _ _ _ _ (s₁.setTop (mkF m 39 #[.val (.int n1), .val (.int x0), .val (.int x1), .val (.int x2), .val (.int y0), .val (.int y1), .val (.int y2)] []))
            refine own_go (fun t k => XS.iloadN X0.here hx rfl (hb hby d4_39) rfl  k) ?_
            show OwnWk _ _ _ _ (s₁.setTop (mkF m 40 #[.val (.int n1), .val (.int x0), .val (.int x1), .val (.int x2), .val (.int y0), .val (.int y1), .val (.int y2)] [(.int n1)]))
            refine own_go (fun t k => XS.iconst X0.here hx rfl (hb hby d4_40) k) ?_
            show OwnWk _ _ _ _ (s₁.setTop (mkF m 41 #[.val (.int n1), .val (.int x0), .val (.int x1), .val (.int x2), .val (.int y0), .val (.int y1), .val (.int y2)] [(.int (1 : Int32)), (.int n1)]))
            refine own_go (fun t k => XS.icmpNo X0.here hx rfl (hb hby d4_41) rfl (flt hc1).1 k) ?_
            show OwnWk _ _ _ _ (s₁.setTop (mkF m 44 #[.val (.int n1), .val (.int x0), .val (.int x1), .val (.int x2), .val (.int y0), .val (.int y1), .val (.int y2)] []))
            refine own_go (fun t k => XS.iloadN X0.here hx rfl (hb hby d4_44) rfl  k) ?_
            show OwnWk _ _ _ _ (s₁.setTop (mkF m 45 #[.val (.int n1), .val (.int x0), .val (.int x1), .val (.int x2), .val (.int y0), .val (.int y1), .val (.int y2)] [(.int x0)]))
            refine own_go (fun t k => XS.iload X0.here hx rfl (hb hby d4_45) rfl  k) ?_
            show OwnWk _ _ _ _ (s₁.setTop (mkF m 47 #[.val (.int n1), .val (.int x0), .val (.int x1), .val (.int x2), .val (.int y0), .val (.int y1), .val (.int y2)] [(.int y0), (.int x0)]))
            by_cases hc21 : y0 < x0
            ·
              refine own_go (fun t k => XS.icmpNo X0.here hx rfl (hb hby d4_47) rfl (tlt hc21).2.2.2 k) ?_
              show OwnWk _ _ _ _ (s₁.setTop (mkF m 50 #[.val (.int n1), .val (.int x0), .val (.int x1), .val (.int x2), .val (.int y0), .val (.int y1), .val (.int y2)] []))
              refine own_go (fun t k => XS.iconst X0.here hx rfl (hb hby d4_50) k) ?_
              show OwnWk _ _ _ _ (s₁.setTop (mkF m 51 #[.val (.int n1), .val (.int x0), .val (.int x1), .val (.int x2), .val (.int y0), .val (.int y1), .val (.int y2)] [(.int (0 : Int32))]))
              exact own_retI X0 hx hlk hret (hb hby d4_51) (by decide) (by decide) (by rw [e0]; exact ⟨by simp [own_ref, hc1, hc12, hc13, hc19, hc20, hc21], N0, rfl⟩)
            ·
              refine own_go (fun t k => XS.icmpYes X0.here hx rfl (pc0 := 47) (pc' := 52) rfl (hb hby d4_47) rfl (flt hc21).2.2.2 (by decide) (by decide) k) ?_
              show OwnWk _ _ _ _ (s₁.setTop (mkF m 52 #[.val (.int n1), .val (.int x0), .val (.int x1), .val (.int x2), .val (.int y0), .val (.int y1), .val (.int y2)] []))
              refine own_go (fun t k => XS.iloadN X0.here hx rfl (hb hby d4_52) rfl  k) ?_
              show OwnWk _ _ _ _ (s₁.setTop (mkF m 53 #[.val (.int n1), .val (.int x0), .val (.int x1), .val (.int x2), .val (.int y0), .val (.int y1), .val (.int y2)] [(.int n1)]))
              refine own_go (fun t k => XS.iconst X0.here hx rfl (hb hby d4_53) k) ?_
              show OwnWk _ _ _ _ (s₁.setTop (mkF m 54 #[.val (.int n1), .val (.int x0), .val (.int x1), .val (.int x2), .val (.int y0), .val (.int y1), .val (.int y2)] [(.int (2 : Int32)), (.int n1)]))
              refine own_go (fun t k => XS.icmpNo X0.here hx rfl (hb hby d4_54) rfl (flt hc13).1 k) ?_
              show OwnWk _ _ _ _ (s₁.setTop (mkF m 57 #[.val (.int n1), .val (.int x0), .val (.int x1), .val (.int x2), .val (.int y0), .val (.int y1), .val (.int y2)] []))
              refine own_go (fun t k => XS.iloadN X0.here hx rfl (hb hby d4_57) rfl  k) ?_
              show OwnWk _ _ _ _ (s₁.setTop (mkF m 58 #[.val (.int n1), .val (.int x0), .val (.int x1), .val (.int x2), .val (.int y0), .val (.int y1), .val (.int y2)] [(.int x1)]))
              refine own_go (fun t k => XS.iload X0.here hx rfl (hb hby d4_58) rfl  k) ?_
              show OwnWk _ _ _ _ (s₁.setTop (mkF m 60 #[.val (.int n1), .val (.int x0), .val (.int x1), .val (.int x2), .val (.int y0), .val (.int y1), .val (.int y2)] [(.int y1), (.int x1)]))
              by_cases hc22 : y1 < x1
              ·
                refine own_go (fun t k => XS.icmpNo X0.here hx rfl (hb hby d4_60) rfl (tlt hc22).2.2.2 k) ?_
                show OwnWk _ _ _ _ (s₁.setTop (mkF m 63 #[.val (.int n1), .val (.int x0), .val (.int x1), .val (.int x2), .val (.int y0), .val (.int y1), .val (.int y2)] []))
                refine own_go (fun t k => XS.iconst X0.here hx rfl (hb hby d4_63) k) ?_
                show OwnWk _ _ _ _ (s₁.setTop (mkF m 64 #[.val (.int n1), .val (.int x0), .val (.int x1), .val (.int x2), .val (.int y0), .val (.int y1), .val (.int y2)] [(.int (1 : Int32))]))
                exact own_retI X0 hx hlk hret (hb hby d4_64) (by decide) (by decide) (by rw [e0]; exact ⟨by simp [own_ref, hc1, hc12, hc13, hc19, hc20, hc21, hc22], N0, rfl⟩)
              ·
                refine own_go (fun t k => XS.icmpYes X0.here hx rfl (pc0 := 60) (pc' := 65) rfl (hb hby d4_60) rfl (flt hc22).2.2.2 (by decide) (by decide) k) ?_
                show OwnWk _ _ _ _ (s₁.setTop (mkF m 65 #[.val (.int n1), .val (.int x0), .val (.int x1), .val (.int x2), .val (.int y0), .val (.int y1), .val (.int y2)] []))
                refine own_go (fun t k => XS.iloadN X0.here hx rfl (hb hby d4_65) rfl  k) ?_
                show OwnWk _ _ _ _ (s₁.setTop (mkF m 66 #[.val (.int n1), .val (.int x0), .val (.int x1), .val (.int x2), .val (.int y0), .val (.int y1), .val (.int y2)] [(.int n1)]))
                refine own_go (fun t k => XS.iconst X0.here hx rfl (hb hby d4_66) k) ?_
                show OwnWk _ _ _ _ (s₁.setTop (mkF m 67 #[.val (.int n1), .val (.int x0), .val (.int x1), .val (.int x2), .val (.int y0), .val (.int y1), .val (.int y2)] [(.int (3 : Int32)), (.int n1)]))
                refine own_go (fun t k => XS.icmpYes X0.here hx rfl (pc0 := 67) (pc' := 78) rfl (hb hby d4_67) rfl (tlt hc20).1 (by decide) (by decide) k) ?_
                show OwnWk _ _ _ _ (s₁.setTop (mkF m 78 #[.val (.int n1), .val (.int x0), .val (.int x1), .val (.int x2), .val (.int y0), .val (.int y1), .val (.int y2)] []))
                refine own_go (fun t k => XS.iconst X0.here hx rfl (hb hby d4_78) k) ?_
                show OwnWk _ _ _ _ (s₁.setTop (mkF m 79 #[.val (.int n1), .val (.int x0), .val (.int x1), .val (.int x2), .val (.int y0), .val (.int y1), .val (.int y2)] [(.int (-1 : Int32))]))
                exact own_retI X0 hx hlk hret (hb hby d4_79) (by decide) (by decide) (by rw [e0]; exact ⟨by simp [own_ref, hc1, hc12, hc13, hc19, hc20, hc21, hc22], N0, rfl⟩)
          ·
            refine own_go (fun t k => XS.icmpNo X0.here hx rfl (hb hby d4_28) rfl (flt hc20).1 k) ?_
            show OwnWk _ _ _ _ (s₁.setTop (mkF m 31 #[.val (.int n1), .val (.int x0), .val (.int x1), .val (.int x2), .val (.int y0), .val (.int y1), .val (.int y2)] []))
            refine own_go (fun t k => XS.iloadN X0.here hx rfl (hb hby d4_31) rfl  k) ?_
            show OwnWk _ _ _ _ (s₁.setTop (mkF m 32 #[.val (.int n1), .val (.int x0), .val (.int x1), .val (.int x2), .val (.int y0), .val (.int y1), .val (.int y2)] [(.int x2)]))
            refine own_go (fun t k => XS.iload X0.here hx rfl (hb hby d4_32) rfl  k) ?_
            show OwnWk _ _ _ _ (s₁.setTop (mkF m 34 #[.val (.int n1), .val (.int x0), .val (.int x1), .val (.int x2), .val (.int y0), .val (.int y1), .val (.int y2)] [(.int y2), (.int x2)]))
            by_cases hc23 : x2 < y2
            ·
              refine own_go (fun t k => XS.icmpNo X0.here hx rfl (hb hby d4_34) rfl (tlt hc23).2.1 k) ?_
              show OwnWk _ _ _ _ (s₁.setTop (mkF m 37 #[.val (.int n1), .val (.int x0), .val (.int x1), .val (.int x2), .val (.int y0), .val (.int y1), .val (.int y2)] []))
              refine own_go (fun t k => XS.iconst X0.here hx rfl (hb hby d4_37) k) ?_
              show OwnWk _ _ _ _ (s₁.setTop (mkF m 38 #[.val (.int n1), .val (.int x0), .val (.int x1), .val (.int x2), .val (.int y0), .val (.int y1), .val (.int y2)] [(.int (-1 : Int32))]))
              exact own_retI X0 hx hlk hret (hb hby d4_38) (by decide) (by decide) (by rw [e0]; exact ⟨by simp [own_ref, hc1, hc12, hc13, hc19, hc20, hc23], N0, rfl⟩)
            ·
              refine own_go (fun t k => XS.icmpYes X0.here hx rfl (pc0 := 34) (pc' := 39) rfl (hb hby d4_34) rfl (flt hc23).2.1 (by decide) (by decide) k) ?_
              show OwnWk _ _ _ _ (s₁.setTop (mkF m 39 #[.val (.int n1), .val (.int x0), .val (.int x1), .val (.int x2), .val (.int y0), .val (.int y1), .val (.int y2)] []))
              refine own_go (fun t k => XS.iloadN X0.here hx rfl (hb hby d4_39) rfl  k) ?_
              show OwnWk _ _ _ _ (s₁.setTop (mkF m 40 #[.val (.int n1), .val (.int x0), .val (.int x1), .val (.int x2), .val (.int y0), .val (.int y1), .val (.int y2)] [(.int n1)]))
              refine own_go (fun t k => XS.iconst X0.here hx rfl (hb hby d4_40) k) ?_
              show OwnWk _ _ _ _ (s₁.setTop (mkF m 41 #[.val (.int n1), .val (.int x0), .val (.int x1), .val (.int x2), .val (.int y0), .val (.int y1), .val (.int y2)] [(.int (1 : Int32)), (.int n1)]))
              refine own_go (fun t k => XS.icmpNo X0.here hx rfl (hb hby d4_41) rfl (flt hc1).1 k) ?_
              show OwnWk _ _ _ _ (s₁.setTop (mkF m 44 #[.val (.int n1), .val (.int x0), .val (.int x1), .val (.int x2), .val (.int y0), .val (.int y1), .val (.int y2)] []))
              refine own_go (fun t k => XS.iloadN X0.here hx rfl (hb hby d4_44) rfl  k) ?_
              show OwnWk _ _ _ _ (s₁.setTop (mkF m 45 #[.val (.int n1), .val (.int x0), .val (.int x1), .val (.int x2), .val (.int y0), .val (.int y1), .val (.int y2)] [(.int x0)]))
              refine own_go (fun t k => XS.iload X0.here hx rfl (hb hby d4_45) rfl  k) ?_
              show OwnWk _ _ _ _ (s₁.setTop (mkF m 47 #[.val (.int n1), .val (.int x0), .val (.int x1), .val (.int x2), .val (.int y0), .val (.int y1), .val (.int y2)] [(.int y0), (.int x0)]))
              by_cases hc24 : y0 < x0
              ·
                refine own_go (fun t k => XS.icmpNo X0.here hx rfl (hb hby d4_47) rfl (tlt hc24).2.2.2 k) ?_
                show OwnWk _ _ _ _ (s₁.setTop (mkF m 50 #[.val (.int n1), .val (.int x0), .val (.int x1), .val (.int x2), .val (.int y0), .val (.int y1), .val (.int y2)] []))
                refine own_go (fun t k => XS.iconst X0.here hx rfl (hb hby d4_50) k) ?_
                show OwnWk _ _ _ _ (s₁.setTop (mkF m 51 #[.val (.int n1), .val (.int x0), .val (.int x1), .val (.int x2), .val (.int y0), .val (.int y1), .val (.int y2)] [(.int (0 : Int32))]))
                exact own_retI X0 hx hlk hret (hb hby d4_51) (by decide) (by decide) (by rw [e0]; exact ⟨by simp [own_ref, hc1, hc12, hc13, hc19, hc20, hc23, hc24], N0, rfl⟩)
              ·
                refine own_go (fun t k => XS.icmpYes X0.here hx rfl (pc0 := 47) (pc' := 52) rfl (hb hby d4_47) rfl (flt hc24).2.2.2 (by decide) (by decide) k) ?_
                show OwnWk _ _ _ _ (s₁.setTop (mkF m 52 #[.val (.int n1), .val (.int x0), .val (.int x1), .val (.int x2), .val (.int y0), .val (.int y1), .val (.int y2)] []))
                refine own_go (fun t k => XS.iloadN X0.here hx rfl (hb hby d4_52) rfl  k) ?_
                show OwnWk _ _ _ _ (s₁.setTop (mkF m 53 #[.val (.int n1), .val (.int x0), .val (.int x1), .val (.int x2), .val (.int y0), .val (.int y1), .val (.int y2)] [(.int n1)]))
                refine own_go (fun t k => XS.iconst X0.here hx rfl (hb hby d4_53) k) ?_
                show OwnWk _ _ _ _ (s₁.setTop (mkF m 54 #[.val (.int n1), .val (.int x0), .val (.int x1), .val (.int x2), .val (.int y0), .val (.int y1), .val (.int y2)] [(.int (2 : Int32)), (.int n1)]))
                refine own_go (fun t k => XS.icmpNo X0.here hx rfl (hb hby d4_54) rfl (flt hc13).1 k) ?_
                show OwnWk _ _ _ _ (s₁.setTop (mkF m 57 #[.val (.int n1), .val (.int x0), .val (.int x1), .val (.int x2), .val (.int y0), .val (.int y1), .val (.int y2)] []))
                refine own_go (fun t k => XS.iloadN X0.here hx rfl (hb hby d4_57) rfl  k) ?_
                show OwnWk _ _ _ _ (s₁.setTop (mkF m 58 #[.val (.int n1), .val (.int x0), .val (.int x1), .val (.int x2), .val (.int y0), .val (.int y1), .val (.int y2)] [(.int x1)]))
                refine own_go (fun t k => XS.iload X0.here hx rfl (hb hby d4_58) rfl  k) ?_
                show OwnWk _ _ _ _ (s₁.setTop (mkF m 60 #[.val (.int n1), .val (.int x0), .val (.int x1), .val (.int x2), .val (.int y0), .val (.int y1), .val (.int y2)] [(.int y1), (.int x1)]))
                by_cases hc25 : y1 < x1
                ·
                  refine own_go (fun t k => XS.icmpNo X0.here hx rfl (hb hby d4_60) rfl (tlt hc25).2.2.2 k) ?_
                  show OwnWk _ _ _ _ (s₁.setTop (mkF m 63 #[.val (.int n1), .val (.int x0), .val (.int x1), .val (.int x2), .val (.int y0), .val (.int y1), .val (.int y2)] []))
                  refine own_go (fun t k => XS.iconst X0.here hx rfl (hb hby d4_63) k) ?_
                  show OwnWk _ _ _ _ (s₁.setTop (mkF m 64 #[.val (.int n1), .val (.int x0), .val (.int x1), .val (.int x2), .val (.int y0), .val (.int y1), .val (.int y2)] [(.int (1 : Int32))]))
                  exact own_retI X0 hx hlk hret (hb hby d4_64) (by decide) (by decide) (by rw [e0]; exact ⟨by simp [own_ref, hc1, hc12, hc13, hc19, hc20, hc23, hc24, hc25], N0, rfl⟩)
                ·
                  refine own_go (fun t k => XS.icmpYes X0.here hx rfl (pc0 := 60) (pc' := 65) rfl (hb hby d4_60) rfl (flt hc25).2.2.2 (by decide) (by decide) k) ?_
                  show OwnWk _ _ _ _ (s₁.setTop (mkF m 65 #[.val (.int n1), .val (.int x0), .val (.int x1), .val (.int x2), .val (.int y0), .val (.int y1), .val (.int y2)] []))
                  refine own_go (fun t k => XS.iloadN X0.here hx rfl (hb hby d4_65) rfl  k) ?_
                  show OwnWk _ _ _ _ (s₁.setTop (mkF m 66 #[.val (.int n1), .val (.int x0), .val (.int x1), .val (.int x2), .val (.int y0), .val (.int y1), .val (.int y2)] [(.int n1)]))
                  refine own_go (fun t k => XS.iconst X0.here hx rfl (hb hby d4_66) k) ?_
                  show OwnWk _ _ _ _ (s₁.setTop (mkF m 67 #[.val (.int n1), .val (.int x0), .val (.int x1), .val (.int x2), .val (.int y0), .val (.int y1), .val (.int y2)] [(.int (3 : Int32)), (.int n1)]))
                  refine own_go (fun t k => XS.icmpNo X0.here hx rfl (hb hby d4_67) rfl (flt hc20).1 k) ?_
                  show OwnWk _ _ _ _ (s₁.setTop (mkF m 70 #[.val (.int n1), .val (.int x0), .val (.int x1), .val (.int x2), .val (.int y0), .val (.int y1), .val (.int y2)] []))
                  refine own_go (fun t k => XS.iloadN X0.here hx rfl (hb hby d4_70) rfl  k) ?_
                  show OwnWk _ _ _ _ (s₁.setTop (mkF m 71 #[.val (.int n1), .val (.int x0), .val (.int x1), .val (.int x2), .val (.int y0), .val (.int y1), .val (.int y2)] [(.int x2)]))
                  refine own_go (fun t k => XS.iload X0.here hx rfl (hb hby d4_71) rfl  k) ?_
                  show OwnWk _ _ _ _ (s₁.setTop (mkF m 73 #[.val (.int n1), .val (.int x0), .val (.int x1), .val (.int x2), .val (.int y0), .val (.int y1), .val (.int y2)] [(.int y2), (.int x2)]))
                  by_cases hc26 : y2 < x2
                  ·
                    refine own_go (fun t k => XS.icmpNo X0.here hx rfl (hb hby d4_73) rfl (tlt hc26).2.2.2 k) ?_
                    show OwnWk _ _ _ _ (s₁.setTop (mkF m 76 #[.val (.int n1), .val (.int x0), .val (.int x1), .val (.int x2), .val (.int y0), .val (.int y1), .val (.int y2)] []))
                    refine own_go (fun t k => XS.iconst X0.here hx rfl (hb hby d4_76) k) ?_
                    show OwnWk _ _ _ _ (s₁.setTop (mkF m 77 #[.val (.int n1), .val (.int x0), .val (.int x1), .val (.int x2), .val (.int y0), .val (.int y1), .val (.int y2)] [(.int (2 : Int32))]))
                    exact own_retI X0 hx hlk hret (hb hby d4_77) (by decide) (by decide) (by rw [e0]; exact ⟨by simp [own_ref, hc1, hc12, hc13, hc19, hc20, hc23, hc24, hc25, hc26], N0, rfl⟩)
                  ·
                    refine own_go (fun t k => XS.icmpYes X0.here hx rfl (pc0 := 73) (pc' := 78) rfl (hb hby d4_73) rfl (flt hc26).2.2.2 (by decide) (by decide) k) ?_
                    show OwnWk _ _ _ _ (s₁.setTop (mkF m 78 #[.val (.int n1), .val (.int x0), .val (.int x1), .val (.int x2), .val (.int y0), .val (.int y1), .val (.int y2)] []))
                    refine own_go (fun t k => XS.iconst X0.here hx rfl (hb hby d4_78) k) ?_
                    show OwnWk _ _ _ _ (s₁.setTop (mkF m 79 #[.val (.int n1), .val (.int x0), .val (.int x1), .val (.int x2), .val (.int y0), .val (.int y1), .val (.int y2)] [(.int (-1 : Int32))]))
                    exact own_retI X0 hx hlk hret (hb hby d4_79) (by decide) (by decide) (by rw [e0]; exact ⟨by simp [own_ref, hc1, hc12, hc13, hc19, hc20, hc23, hc24, hc25, hc26], N0, rfl⟩)
theorem pn_pn_0 : plainName "com/example/antipode/antipode/net/MarkingStrictlyCoversPinLaw" = true := by first | (simp [plainName, overriddenIn]; done) | decide +kernel
theorem pn_0 : plainFor x = true := plainFor_of_name pn_pn_0
theorem pd_0 : parseMethodDescriptor "([I)V" = some ⟨[(.array .int)], none⟩ := by decide +kernel
theorem pd_1 : parseMethodDescriptor "(Lcom/example/antipode/antipode/net/Marking;)I" = some ⟨[(.object "com/example/antipode/antipode/net/Marking")], some .int⟩ := by decide +kernel
theorem pd_2 : parseMethodDescriptor "(IIIIIII)I" = some ⟨[.int, .int, .int, .int, .int, .int, .int], some .int⟩ := by decide +kernel
theorem ef_rm0 (m : MethodId) (x0 : Int64) (x1 : Int64) (x2 : Int64) (x3 : Int32) : entryFrame m #[(.long x0), (.long x1), (.long x2), (.int x3)] maxLocals = mkF m 0 #[.val (.long x0), .second, .val (.long x1), .second, .val (.long x2), .second, .val (.int x3), .unset, .unset, .unset, .unset, .unset, .unset, .unset, .unset, .unset, .unset, .unset, .unset] [] := by first | (simp [entryFrame, mkF, argsToLocals, Value.category, maxLocals]; done) | rfl
def Q_rm0 (Z : State) (u0 u1 u2 : Int64) (sel : Int32) (h0 : Heap) (n0 : Nat) (v : Option Value) (h : Heap) (L : List Loc) : Prop := v = some (.int 1) ∧ Fr n0 L
set_option maxRecDepth 65536 in
set_option maxHeartbeats 40000000 in
theorem rm0 (l : Launch) (Z : State) (a0 : Array Value) (hw : ∀ d ∈ tables_1, d.before a0 Z = true) (u0 u1 u2 : Int64) (sel : Int32) (h0 : Heap) (n0 : Nat) (Z0 : n0 ≤ h0.size)  :
    OwnMet l x code maxLocals ret tables_1 room_1 Z #[(.long u0), (.long u1), (.long u2), (.int sel)] h0 (Q_rm0 Z u0 u1 u2 sel h0 n0) := by
  refine own_met pn_0 (fun p e s m below meth c s₁ hx hby hml hown hnm hret hlk hZ X0 e0 => ?_)
  have hml : c.maxLocals = 19 := hml
  have hret : meth.sig.returnType = some .boolean := hret
  have hown : s.vm.findClass "com/example/antipode/antipode/net/MarkingStrictlyCoversPinLaw" = some m.cls := hown
  have N0 := Fr.nil n0
  rw [ef_rm0]
  show OwnWk _ _ _ _ (s₁.setTop (mkF m 0 #[.val (.long u0), .second, .val (.long u1), .second, .val (.long u2), .second, .val (.int sel), .unset, .unset, .unset, .unset, .unset, .unset, .unset, .unset, .unset, .unset, .unset, .unset] []))
  refine own_go (fun t k => XS.iload X0.here hx rfl (hb hby at_0) rfl  k) ?_
  show OwnWk _ _ _ _ (s₁.setTop (mkF m 2 #[.val (.long u0), .second, .val (.long u1), .second, .val (.long u2), .second, .val (.int sel), .unset, .unset, .unset, .unset, .unset, .unset, .unset, .unset, .unset, .unset, .unset, .unset] [(.int sel)]))
  refine own_go (fun t k => XS.iconst X0.here hx rfl (hb hby at_2) k) ?_
  show OwnWk _ _ _ _ (s₁.setTop (mkF m 3 #[.val (.long u0), .second, .val (.long u1), .second, .val (.long u2), .second, .val (.int sel), .unset, .unset, .unset, .unset, .unset, .unset, .unset, .unset, .unset, .unset, .unset, .unset] [(.int (3 : Int32)), (.int sel)]))
  refine own_go (fun t k => XS.iand X0.here hx rfl (hb hby at_3) rfl k) ?_
  show OwnWk _ _ _ _ (s₁.setTop (mkF m 4 #[.val (.long u0), .second, .val (.long u1), .second, .val (.long u2), .second, .val (.int sel), .unset, .unset, .unset, .unset, .unset, .unset, .unset, .unset, .unset, .unset, .unset, .unset] [(.int (sel &&& (3 : Int32)))]))
  obtain ⟨n1, h_n1⟩ : ∃ z : Int32, z = (sel &&& (3 : Int32)) := ⟨_, rfl⟩
  rw [← h_n1]
  refine own_go (fun t k => XS.istore X0.here hx rfl (hb hby at_4) rfl (l' := #[.val (.long u0), .second, .val (.long u1), .second, .val (.long u2), .second, .val (.int sel), .val (.int n1), .unset, .unset, .unset, .unset, .unset, .unset, .unset, .unset, .unset, .unset, .unset]) rfl k) ?_
  show OwnWk _ _ _ _ (s₁.setTop (mkF m 6 #[.val (.long u0), .second, .val (.long u1), .second, .val (.long u2), .second, .val (.int sel), .val (.int n1), .unset, .unset, .unset, .unset, .unset, .unset, .unset, .unset, .unset, .unset, .unset] []))
  refine own_go (fun t k => XS.lloadN X0.here hx rfl (hb hby at_6) rfl  k) ?_
  show OwnWk _ _ _ _ (s₁.setTop (mkF m 7 #[.val (.long u0), .second, .val (.long u1), .second, .val (.long u2), .second, .val (.int sel), .val (.int n1), .unset, .unset, .unset, .unset, .unset, .unset, .unset, .unset, .unset, .unset, .unset] [(.long u0)]))
  refine own_go (fun t k => XS.bipush X0.here hx rfl (hb hby at_7) k) ?_
  show OwnWk _ _ _ _ (s₁.setTop (mkF m 9 #[.val (.long u0), .second, .val (.long u1), .second, .val (.long u2), .second, .val (.int sel), .val (.int n1), .unset, .unset, .unset, .unset, .unset, .unset, .unset, .unset, .unset, .unset, .unset] [(.int (32 : Int32)), (.long u0)]))
  refine own_go (fun t k => XS.lushr X0.here hx rfl (hb hby at_9) rfl k) ?_
  show OwnWk _ _ _ _ (s₁.setTop (mkF m 10 #[.val (.long u0), .second, .val (.long u1), .second, .val (.long u2), .second, .val (.int sel), .val (.int n1), .unset, .unset, .unset, .unset, .unset, .unset, .unset, .unset, .unset, .unset, .unset] [(.long ((u0.toUInt64 >>> ((32 : Int32) &&& 0x3f).toInt64.toUInt64).toInt64))]))
  refine own_go (fun t k => XS.l2i X0.here hx rfl (hb hby at_10) rfl k) ?_
  show OwnWk _ _ _ _ (s₁.setTop (mkF m 11 #[.val (.long u0), .second, .val (.long u1), .second, .val (.long u2), .second, .val (.int sel), .val (.int n1), .unset, .unset, .unset, .unset, .unset, .unset, .unset, .unset, .unset, .unset, .unset] [(.int (((u0.toUInt64 >>> ((32 : Int32) &&& 0x3f).toInt64.toUInt64).toInt64).toInt32))]))
  obtain ⟨x0, h_x0⟩ : ∃ z : Int32, z = (((u0.toUInt64 >>> ((32 : Int32) &&& 0x3f).toInt64.toUInt64).toInt64).toInt32) := ⟨_, rfl⟩
  rw [← h_x0]
  refine own_go (fun t k => XS.istore X0.here hx rfl (hb hby at_11) rfl (l' := #[.val (.long u0), .second, .val (.long u1), .second, .val (.long u2), .second, .val (.int sel), .val (.int n1), .val (.int x0), .unset, .unset, .unset, .unset, .unset, .unset, .unset, .unset, .unset, .unset]) rfl k) ?_
  show OwnWk _ _ _ _ (s₁.setTop (mkF m 13 #[.val (.long u0), .second, .val (.long u1), .second, .val (.long u2), .second, .val (.int sel), .val (.int n1), .val (.int x0), .unset, .unset, .unset, .unset, .unset, .unset, .unset, .unset, .unset, .unset] []))
  refine own_go (fun t k => XS.lloadN X0.here hx rfl (hb hby at_13) rfl  k) ?_
  show OwnWk _ _ _ _ (s₁.setTop (mkF m 14 #[.val (.long u0), .second, .val (.long u1), .second, .val (.long u2), .second, .val (.int sel), .val (.int n1), .val (.int x0), .unset, .unset, .unset, .unset, .unset, .unset, .unset, .unset, .unset, .unset] [(.long u1)]))
  refine own_go (fun t k => XS.bipush X0.here hx rfl (hb hby at_14) k) ?_
  show OwnWk _ _ _ _ (s₁.setTop (mkF m 16 #[.val (.long u0), .second, .val (.long u1), .second, .val (.long u2), .second, .val (.int sel), .val (.int n1), .val (.int x0), .unset, .unset, .unset, .unset, .unset, .unset, .unset, .unset, .unset, .unset] [(.int (32 : Int32)), (.long u1)]))
  refine own_go (fun t k => XS.lushr X0.here hx rfl (hb hby at_16) rfl k) ?_
  show OwnWk _ _ _ _ (s₁.setTop (mkF m 17 #[.val (.long u0), .second, .val (.long u1), .second, .val (.long u2), .second, .val (.int sel), .val (.int n1), .val (.int x0), .unset, .unset, .unset, .unset, .unset, .unset, .unset, .unset, .unset, .unset] [(.long ((u1.toUInt64 >>> ((32 : Int32) &&& 0x3f).toInt64.toUInt64).toInt64))]))
  refine own_go (fun t k => XS.l2i X0.here hx rfl (hb hby at_17) rfl k) ?_
  show OwnWk _ _ _ _ (s₁.setTop (mkF m 18 #[.val (.long u0), .second, .val (.long u1), .second, .val (.long u2), .second, .val (.int sel), .val (.int n1), .val (.int x0), .unset, .unset, .unset, .unset, .unset, .unset, .unset, .unset, .unset, .unset] [(.int (((u1.toUInt64 >>> ((32 : Int32) &&& 0x3f).toInt64.toUInt64).toInt64).toInt32))]))
  obtain ⟨x1, h_x1⟩ : ∃ z : Int32, z = (((u1.toUInt64 >>> ((32 : Int32) &&& 0x3f).toInt64.toUInt64).toInt64).toInt32) := ⟨_, rfl⟩
  rw [← h_x1]
  refine own_go (fun t k => XS.istore X0.here hx rfl (hb hby at_18) rfl (l' := #[.val (.long u0), .second, .val (.long u1), .second, .val (.long u2), .second, .val (.int sel), .val (.int n1), .val (.int x0), .val (.int x1), .unset, .unset, .unset, .unset, .unset, .unset, .unset, .unset, .unset]) rfl k) ?_
  show OwnWk _ _ _ _ (s₁.setTop (mkF m 20 #[.val (.long u0), .second, .val (.long u1), .second, .val (.long u2), .second, .val (.int sel), .val (.int n1), .val (.int x0), .val (.int x1), .unset, .unset, .unset, .unset, .unset, .unset, .unset, .unset, .unset] []))
  refine own_go (fun t k => XS.lload X0.here hx rfl (hb hby at_20) rfl  k) ?_
  show OwnWk _ _ _ _ (s₁.setTop (mkF m 22 #[.val (.long u0), .second, .val (.long u1), .second, .val (.long u2), .second, .val (.int sel), .val (.int n1), .val (.int x0), .val (.int x1), .unset, .unset, .unset, .unset, .unset, .unset, .unset, .unset, .unset] [(.long u2)]))
  refine own_go (fun t k => XS.bipush X0.here hx rfl (hb hby at_22) k) ?_
  show OwnWk _ _ _ _ (s₁.setTop (mkF m 24 #[.val (.long u0), .second, .val (.long u1), .second, .val (.long u2), .second, .val (.int sel), .val (.int n1), .val (.int x0), .val (.int x1), .unset, .unset, .unset, .unset, .unset, .unset, .unset, .unset, .unset] [(.int (32 : Int32)), (.long u2)]))
  refine own_go (fun t k => XS.lushr X0.here hx rfl (hb hby at_24) rfl k) ?_
  show OwnWk _ _ _ _ (s₁.setTop (mkF m 25 #[.val (.long u0), .second, .val (.long u1), .second, .val (.long u2), .second, .val (.int sel), .val (.int n1), .val (.int x0), .val (.int x1), .unset, .unset, .unset, .unset, .unset, .unset, .unset, .unset, .unset] [(.long ((u2.toUInt64 >>> ((32 : Int32) &&& 0x3f).toInt64.toUInt64).toInt64))]))
  refine own_go (fun t k => XS.l2i X0.here hx rfl (hb hby at_25) rfl k) ?_
  show OwnWk _ _ _ _ (s₁.setTop (mkF m 26 #[.val (.long u0), .second, .val (.long u1), .second, .val (.long u2), .second, .val (.int sel), .val (.int n1), .val (.int x0), .val (.int x1), .unset, .unset, .unset, .unset, .unset, .unset, .unset, .unset, .unset] [(.int (((u2.toUInt64 >>> ((32 : Int32) &&& 0x3f).toInt64.toUInt64).toInt64).toInt32))]))
  obtain ⟨x2, h_x2⟩ : ∃ z : Int32, z = (((u2.toUInt64 >>> ((32 : Int32) &&& 0x3f).toInt64.toUInt64).toInt64).toInt32) := ⟨_, rfl⟩
  rw [← h_x2]
  refine own_go (fun t k => XS.istore X0.here hx rfl (hb hby at_26) rfl (l' := #[.val (.long u0), .second, .val (.long u1), .second, .val (.long u2), .second, .val (.int sel), .val (.int n1), .val (.int x0), .val (.int x1), .val (.int x2), .unset, .unset, .unset, .unset, .unset, .unset, .unset, .unset]) rfl k) ?_
  show OwnWk _ _ _ _ (s₁.setTop (mkF m 28 #[.val (.long u0), .second, .val (.long u1), .second, .val (.long u2), .second, .val (.int sel), .val (.int n1), .val (.int x0), .val (.int x1), .val (.int x2), .unset, .unset, .unset, .unset, .unset, .unset, .unset, .unset] []))
  refine own_go (fun t k => XS.iload X0.here hx rfl (hb hby at_28) rfl  k) ?_
  show OwnWk _ _ _ _ (s₁.setTop (mkF m 30 #[.val (.long u0), .second, .val (.long u1), .second, .val (.long u2), .second, .val (.int sel), .val (.int n1), .val (.int x0), .val (.int x1), .val (.int x2), .unset, .unset, .unset, .unset, .unset, .unset, .unset, .unset] [(.int sel)]))
  refine own_go (fun t k => XS.iconst X0.here hx rfl (hb hby at_30) k) ?_
  show OwnWk _ _ _ _ (s₁.setTop (mkF m 31 #[.val (.long u0), .second, .val (.long u1), .second, .val (.long u2), .second, .val (.int sel), .val (.int n1), .val (.int x0), .val (.int x1), .val (.int x2), .unset, .unset, .unset, .unset, .unset, .unset, .unset, .unset] [(.int (4 : Int32)), (.int sel)]))
  refine own_go (fun t k => XS.iand X0.here hx rfl (hb hby at_31) rfl k) ?_
  show OwnWk _ _ _ _ (s₁.setTop (mkF m 32 #[.val (.long u0), .second, .val (.long u1), .second, .val (.long u2), .second, .val (.int sel), .val (.int n1), .val (.int x0), .val (.int x1), .val (.int x2), .unset, .unset, .unset, .unset, .unset, .unset, .unset, .unset] [(.int (sel &&& (4 : Int32)))]))
  have Jy0 : ∀ y0 : Int32, OwnWk p e below (OwnP s (Q_rm0 Z u0 u1 u2 sel h0 n0) room_1.cells room_1.slots) (s₁.setTop (mkF m 42 #[.val (.long u0), .second, .val (.long u1), .second, .val (.long u2), .second, .val (.int sel), .val (.int n1), .val (.int x0), .val (.int x1), .val (.int x2), .unset, .unset, .unset, .unset, .unset, .unset, .unset, .unset] [(.int y0)])) := by
    intro y0
    refine own_go (fun t k => XS.istore X0.here hx rfl (hb hby at_42) rfl (l' := #[.val (.long u0), .second, .val (.long u1), .second, .val (.long u2), .second, .val (.int sel), .val (.int n1), .val (.int x0), .val (.int x1), .val (.int x2), .val (.int y0), .unset, .unset, .unset, .unset, .unset, .unset, .unset]) rfl k) ?_
    show OwnWk _ _ _ _ (s₁.setTop (mkF m 44 #[.val (.long u0), .second, .val (.long u1), .second, .val (.long u2), .second, .val (.int sel), .val (.int n1), .val (.int x0), .val (.int x1), .val (.int x2), .val (.int y0), .unset, .unset, .unset, .unset, .unset, .unset, .unset] []))
    refine own_go (fun t k => XS.iload X0.here hx rfl (hb hby at_44) rfl  k) ?_
    show OwnWk _ _ _ _ (s₁.setTop (mkF m 46 #[.val (.long u0), .second, .val (.long u1), .second, .val (.long u2), .second, .val (.int sel), .val (.int n1), .val (.int x0), .val (.int x1), .val (.int x2), .val (.int y0), .unset, .unset, .unset, .unset, .unset, .unset, .unset] [(.int sel)]))
    refine own_go (fun t k => XS.bipush X0.here hx rfl (hb hby at_46) k) ?_
    show OwnWk _ _ _ _ (s₁.setTop (mkF m 48 #[.val (.long u0), .second, .val (.long u1), .second, .val (.long u2), .second, .val (.int sel), .val (.int n1), .val (.int x0), .val (.int x1), .val (.int x2), .val (.int y0), .unset, .unset, .unset, .unset, .unset, .unset, .unset] [(.int (8 : Int32)), (.int sel)]))
    refine own_go (fun t k => XS.iand X0.here hx rfl (hb hby at_48) rfl k) ?_
    show OwnWk _ _ _ _ (s₁.setTop (mkF m 49 #[.val (.long u0), .second, .val (.long u1), .second, .val (.long u2), .second, .val (.int sel), .val (.int n1), .val (.int x0), .val (.int x1), .val (.int x2), .val (.int y0), .unset, .unset, .unset, .unset, .unset, .unset, .unset] [(.int (sel &&& (8 : Int32)))]))
    have Jy1 : ∀ y1 : Int32, OwnWk p e below (OwnP s (Q_rm0 Z u0 u1 u2 sel h0 n0) room_1.cells room_1.slots) (s₁.setTop (mkF m 59 #[.val (.long u0), .second, .val (.long u1), .second, .val (.long u2), .second, .val (.int sel), .val (.int n1), .val (.int x0), .val (.int x1), .val (.int x2), .val (.int y0), .unset, .unset, .unset, .unset, .unset, .unset, .unset] [(.int y1)])) := by
      intro y1
      refine own_go (fun t k => XS.istore X0.here hx rfl (hb hby at_59) rfl (l' := #[.val (.long u0), .second, .val (.long u1), .second, .val (.long u2), .second, .val (.int sel), .val (.int n1), .val (.int x0), .val (.int x1), .val (.int x2), .val (.int y0), .val (.int y1), .unset, .unset, .unset, .unset, .unset, .unset]) rfl k) ?_
      show OwnWk _ _ _ _ (s₁.setTop (mkF m 61 #[.val (.long u0), .second, .val (.long u1), .second, .val (.long u2), .second, .val (.int sel), .val (.int n1), .val (.int x0), .val (.int x1), .val (.int x2), .val (.int y0), .val (.int y1), .unset, .unset, .unset, .unset, .unset, .unset] []))
      refine own_go (fun t k => XS.iload X0.here hx rfl (hb hby at_61) rfl  k) ?_
      show OwnWk _ _ _ _ (s₁.setTop (mkF m 63 #[.val (.long u0), .second, .val (.long u1), .second, .val (.long u2), .second, .val (.int sel), .val (.int n1), .val (.int x0), .val (.int x1), .val (.int x2), .val (.int y0), .val (.int y1), .unset, .unset, .unset, .unset, .unset, .unset] [(.int sel)]))
      refine own_go (fun t k => XS.bipush X0.here hx rfl (hb hby at_63) k) ?_
      show OwnWk _ _ _ _ (s₁.setTop (mkF m 65 #[.val (.long u0), .second, .val (.long u1), .second, .val (.long u2), .second, .val (.int sel), .val (.int n1), .val (.int x0), .val (.int x1), .val (.int x2), .val (.int y0), .val (.int y1), .unset, .unset, .unset, .unset, .unset, .unset] [(.int (16 : Int32)), (.int sel)]))
      refine own_go (fun t k => XS.iand X0.here hx rfl (hb hby at_65) rfl k) ?_
      show OwnWk _ _ _ _ (s₁.setTop (mkF m 66 #[.val (.long u0), .second, .val (.long u1), .second, .val (.long u2), .second, .val (.int sel), .val (.int n1), .val (.int x0), .val (.int x1), .val (.int x2), .val (.int y0), .val (.int y1), .unset, .unset, .unset, .unset, .unset, .unset] [(.int (sel &&& (16 : Int32)))]))
      have Jy2 : ∀ y2 : Int32, OwnWk p e below (OwnP s (Q_rm0 Z u0 u1 u2 sel h0 n0) room_1.cells room_1.slots) (s₁.setTop (mkF m 77 #[.val (.long u0), .second, .val (.long u1), .second, .val (.long u2), .second, .val (.int sel), .val (.int n1), .val (.int x0), .val (.int x1), .val (.int x2), .val (.int y0), .val (.int y1), .unset, .unset, .unset, .unset, .unset, .unset] [(.int y2)])) := by
        intro y2
        refine own_go (fun t k => XS.istore X0.here hx rfl (hb hby at_77) rfl (l' := #[.val (.long u0), .second, .val (.long u1), .second, .val (.long u2), .second, .val (.int sel), .val (.int n1), .val (.int x0), .val (.int x1), .val (.int x2), .val (.int y0), .val (.int y1), .val (.int y2), .unset, .unset, .unset, .unset, .unset]) rfl k) ?_
        show OwnWk _ _ _ _ (s₁.setTop (mkF m 79 #[.val (.long u0), .second, .val (.long u1), .second, .val (.long u2), .second, .val (.int sel), .val (.int n1), .val (.int x0), .val (.int x1), .val (.int x2), .val (.int y0), .val (.int y1), .val (.int y2), .unset, .unset, .unset, .unset, .unset] []))
        refine own_go (fun t k => XS.iload X0.here hx rfl (hb hby at_79) rfl  k) ?_
        show OwnWk _ _ _ _ (s₁.setTop (mkF m 81 #[.val (.long u0), .second, .val (.long u1), .second, .val (.long u2), .second, .val (.int sel), .val (.int n1), .val (.int x0), .val (.int x1), .val (.int x2), .val (.int y0), .val (.int y1), .val (.int y2), .unset, .unset, .unset, .unset, .unset] [(.int n1)]))
        by_cases hc1 : n1 = (0 : Int32)
        ·
          refine own_go (fun t k => XS.ifNo X0.here hx rfl (hb hby at_81) rfl ((if0 _ _).trans (teq hc1).2) k) ?_
          show OwnWk _ _ _ _ (s₁.setTop (mkF m 84 #[.val (.long u0), .second, .val (.long u1), .second, .val (.long u2), .second, .val (.int sel), .val (.int n1), .val (.int x0), .val (.int x1), .val (.int x2), .val (.int y0), .val (.int y1), .val (.int y2), .unset, .unset, .unset, .unset, .unset] []))
          subst hc1
          show OwnWk _ _ _ _ (s₁.setTop (mkF m 84 #[.val (.long u0), .second, .val (.long u1), .second, .val (.long u2), .second, .val (.int sel), .val (.int (0 : Int32)), .val (.int x0), .val (.int x1), .val (.int x2), .val (.int y0), .val (.int y1), .val (.int y2), .unset, .unset, .unset, .unset, .unset] []))
          refine own_go (fun t k => XS.iconst X0.here hx rfl (hb hby at_84) k) ?_
          show OwnWk _ _ _ _ (s₁.setTop (mkF m 85 #[.val (.long u0), .second, .val (.long u1), .second, .val (.long u2), .second, .val (.int sel), .val (.int (0 : Int32)), .val (.int x0), .val (.int x1), .val (.int x2), .val (.int y0), .val (.int y1), .val (.int y2), .unset, .unset, .unset, .unset, .unset] [(.int (0 : Int32))]))
          refine own_newP X0 hx hZ (aty := .int) (hw _ (List.mem_of_getElem? (i := 0) rfl)) e0 (g := (mkF m 85 #[.val (.long u0), .second, .val (.long u1), .second, .val (.long u2), .second, .val (.int sel), .val (.int (0 : Int32)), .val (.int x0), .val (.int x1), .val (.int x2), .val (.int y0), .val (.int y1), .val (.int y2), .unset, .unset, .unset, .unset, .unset] [(.int (0 : Int32))])) rfl (hb hby at_85) rfl (by decide) (cap := 0) (by decide) (by decide) (by decide) (by decide) (fun T2 h2 b2 X2 e2 g2 E2 V2 => ?_)
          have ge3 : n0 ≤ b2 := Nat.le_trans Z0 (Nat.le_of_eq g2.symm)
          have Z4 := Nat.le_trans Z0 E2.1
          have V2b : OAr Z h2 b2 .int [] := V2
          show OwnWk _ _ _ _ (T2.setTop (mkF m 87 #[.val (.long u0), .second, .val (.long u1), .second, .val (.long u2), .second, .val (.int sel), .val (.int (0 : Int32)), .val (.int x0), .val (.int x1), .val (.int x2), .val (.int y0), .val (.int y1), .val (.int y2), .unset, .unset, .unset, .unset, .unset] [(.ref b2)]))
          refine own_go (fun t k => XS.astore X2.here hx rfl (hb hby at_87) rfl rfl (l' := #[.val (.long u0), .second, .val (.long u1), .second, .val (.long u2), .second, .val (.int sel), .val (.int (0 : Int32)), .val (.int x0), .val (.int x1), .val (.int x2), .val (.int y0), .val (.int y1), .val (.int y2), .val (.ref b2), .unset, .unset, .unset, .unset]) rfl k) ?_
          show OwnWk _ _ _ _ (T2.setTop (mkF m 89 #[.val (.long u0), .second, .val (.long u1), .second, .val (.long u2), .second, .val (.int sel), .val (.int (0 : Int32)), .val (.int x0), .val (.int x1), .val (.int x2), .val (.int y0), .val (.int y1), .val (.int y2), .val (.ref b2), .unset, .unset, .unset, .unset] []))
          refine own_go (fun t k => XS.iconst X2.here hx rfl (hb hby at_89) k) ?_
          show OwnWk _ _ _ _ (T2.setTop (mkF m 90 #[.val (.long u0), .second, .val (.long u1), .second, .val (.long u2), .second, .val (.int sel), .val (.int (0 : Int32)), .val (.int x0), .val (.int x1), .val (.int x2), .val (.int y0), .val (.int y1), .val (.int y2), .val (.ref b2), .unset, .unset, .unset, .unset] [(.int (0 : Int32))]))
          refine own_newP X2 hx hZ (aty := .int) (hw _ (List.mem_of_getElem? (i := 0) rfl)) e2 (g := (mkF m 90 #[.val (.long u0), .second, .val (.long u1), .second, .val (.long u2), .second, .val (.int sel), .val (.int (0 : Int32)), .val (.int x0), .val (.int x1), .val (.int x2), .val (.int y0), .val (.int y1), .val (.int y2), .val (.ref b2), .unset, .unset, .unset, .unset] [(.int (0 : Int32))])) rfl (hb hby at_90) rfl (by decide) (cap := 0) (by decide) (by decide) (by decide) (by decide) (fun T5 h5 b5 X5 e5 g5 E5 V5 => ?_)
          have ne6 : b2 ≠ b5 := Nat.ne_of_lt (Nat.lt_of_lt_of_le V2b.lt (Nat.le_of_eq g5.symm))
          have ge7 : n0 ≤ b5 := Nat.le_trans Z4 (Nat.le_of_eq g5.symm)
          have F8 := OAr.ext V2b E5
          have Z9 := Nat.le_trans Z4 E5.1
          have V5b : OAr Z h5 b5 .int [] := V5
          show OwnWk _ _ _ _ (T5.setTop (mkF m 92 #[.val (.long u0), .second, .val (.long u1), .second, .val (.long u2), .second, .val (.int sel), .val (.int (0 : Int32)), .val (.int x0), .val (.int x1), .val (.int x2), .val (.int y0), .val (.int y1), .val (.int y2), .val (.ref b2), .unset, .unset, .unset, .unset] [(.ref b5)]))
          refine own_go (fun t k => XS.astore X5.here hx rfl (hb hby at_92) rfl rfl (l' := #[.val (.long u0), .second, .val (.long u1), .second, .val (.long u2), .second, .val (.int sel), .val (.int (0 : Int32)), .val (.int x0), .val (.int x1), .val (.int x2), .val (.int y0), .val (.int y1), .val (.int y2), .val (.ref b2), .val (.ref b5), .unset, .unset, .unset]) rfl k) ?_
          show OwnWk _ _ _ _ (T5.setTop (mkF m 94 #[.val (.long u0), .second, .val (.long u1), .second, .val (.long u2), .second, .val (.int sel), .val (.int (0 : Int32)), .val (.int x0), .val (.int x1), .val (.int x2), .val (.int y0), .val (.int y1), .val (.int y2), .val (.ref b2), .val (.ref b5), .unset, .unset, .unset] []))
          refine own_go (fun t k => XS.goto X5.here hx rfl (pc0 := 94) (pc' := 205) rfl (hb hby at_94) (by decide) (by decide) k) ?_
          show OwnWk _ _ _ _ (T5.setTop (mkF m 205 #[.val (.long u0), .second, .val (.long u1), .second, .val (.long u2), .second, .val (.int sel), .val (.int (0 : Int32)), .val (.int x0), .val (.int x1), .val (.int x2), .val (.int y0), .val (.int y1), .val (.int y2), .val (.ref b2), .val (.ref b5), .unset, .unset, .unset] []))
          obtain ⟨T10, h10, X10, e10, E10, A10, D10, -, st10⟩ := newO X5 hx hZ hown (hw _ (List.mem_of_getElem? (i := 1) rfl)) (hw _ (List.mem_of_getElem? (i := 2) rfl)) (hw _ (List.mem_of_getElem? (i := 3) rfl)) e5 (g := (mkF m 205 #[.val (.long u0), .second, .val (.long u1), .second, .val (.long u2), .second, .val (.int sel), .val (.int (0 : Int32)), .val (.int x0), .val (.int x1), .val (.int x2), .val (.int y0), .val (.int y1), .val (.int y2), .val (.ref b2), .val (.ref b5), .unset, .unset, .unset] [])) rfl (hb hby at_205) (by decide) (by decide)
          obtain ⟨b10, g10⟩ : ∃ z, z = h5.size := ⟨_, rfl⟩
          rw [← g10] at A10 D10 st10
          refine own_go st10 ?_
          have ne11 : b2 ≠ b10 := Nat.ne_of_lt (Nat.lt_of_lt_of_le F8.lt (Nat.le_of_eq g10.symm))
          have ne12 : b5 ≠ b10 := Nat.ne_of_lt (Nat.lt_of_lt_of_le V5b.lt (Nat.le_of_eq g10.symm))
          have ge13 : n0 ≤ b10 := Nat.le_trans Z9 (Nat.le_of_eq g10.symm)
          have F14 := OAr.ext F8 E10
          have F15 := OAr.ext V5b E10
          have Z16 := Nat.le_trans Z9 E10.1
          have F17 : Fld Z h10 b10 "com/example/antipode/antipode/net/Marking" "tokens" "[I" .null := D10 (Or.inr (hw _ (List.mem_of_getElem? (i := 11) rfl))) (ty := (.array .int)) (by decide)
          show OwnWk _ _ _ _ (T10.setTop (mkF m 208 #[.val (.long u0), .second, .val (.long u1), .second, .val (.long u2), .second, .val (.int sel), .val (.int (0 : Int32)), .val (.int x0), .val (.int x1), .val (.int x2), .val (.int y0), .val (.int y1), .val (.int y2), .val (.ref b2), .val (.ref b5), .unset, .unset, .unset] [(.ref b10)]))
          refine own_go (fun t k => XS.dup X10.here hx rfl (hb hby at_208) rfl rfl k) ?_
          show OwnWk _ _ _ _ (T10.setTop (mkF m 209 #[.val (.long u0), .second, .val (.long u1), .second, .val (.long u2), .second, .val (.int sel), .val (.int (0 : Int32)), .val (.int x0), .val (.int x1), .val (.int x2), .val (.int y0), .val (.int y1), .val (.int y2), .val (.ref b2), .val (.ref b5), .unset, .unset, .unset] [(.ref b10), (.ref b10)]))
          refine own_go (fun t k => XS.aload X10.here hx rfl (hb hby at_209) rfl rfl  k) ?_
          show OwnWk _ _ _ _ (T10.setTop (mkF m 211 #[.val (.long u0), .second, .val (.long u1), .second, .val (.long u2), .second, .val (.int sel), .val (.int (0 : Int32)), .val (.int x0), .val (.int x1), .val (.int x2), .val (.int y0), .val (.int y1), .val (.int y2), .val (.ref b2), .val (.ref b5), .unset, .unset, .unset] [(.ref b2), (.ref b10), (.ref b10)]))
          refine own_callC X10 hx hZ (y := (⟨"com/example/antipode/antipode/net/Marking", "<init>", "([I)V"⟩ : MethodName)) hown rfl (hw _ (List.mem_of_getElem? (i := 4) rfl)) (hw _ (List.mem_of_getElem? (i := 5) rfl)) (hw _ (List.mem_of_getElem? (i := 3) rfl)) (hw _ (List.mem_of_getElem? (i := 6) rfl)) (by decide) (a := b10) (argsL := [(.ref b2)]) (rest := [(.ref b10)]) (rm := ({ frames := 1, cells := 0, slots := 0, locals := 12 } : Room)) (h := h10) (rm1 l Z a0 hw b10 b2 h10 n0 Z16 F17 A10 ge13) e10 (W := 1) (by decide) (by decide) (by decide) (by decide) (g := (mkF m 211 #[.val (.long u0), .second, .val (.long u1), .second, .val (.long u2), .second, .val (.int sel), .val (.int (0 : Int32)), .val (.int x0), .val (.int x1), .val (.int x2), .val (.int y0), .val (.int y1), .val (.int y2), .val (.ref b2), .val (.ref b5), .unset, .unset, .unset] [(.ref b2), (.ref b10), (.ref b10)])) rfl (by rw [hml]; rfl) (lenOf pd_0 rfl) rfl (by show 2 * 0 + _ ≤ _; exact Nat.le_of_eq rfl) (hb hby at_211) (fun v18 T18 h18 L18 X18 e18 hQ18 => ?_)
          obtain ⟨rfl, Nq18, Kq18, Fq18⟩ := hQ18
          have N18 := Fr.app N0 Nq18
          have F19 := OAr.keep F14 Kq18 (ninS ne11 nin0)
          have F20 := OAr.keep F15 Kq18 (ninS ne12 nin0)
          have F21 := Exa.keep A10 Kq18
          have Z22 := Nat.le_trans Z16 Kq18.1
          show OwnWk _ _ _ _ (T18.setTop (mkF m 214 #[.val (.long u0), .second, .val (.long u1), .second, .val (.long u2), .second, .val (.int sel), .val (.int (0 : Int32)), .val (.int x0), .val (.int x1), .val (.int x2), .val (.int y0), .val (.int y1), .val (.int y2), .val (.ref b2), .val (.ref b5), .unset, .unset, .unset] [(.ref b10)]))
          refine own_go (fun t k => XS.astore X18.here hx rfl (hb hby at_214) rfl rfl (l' := #[.val (.long u0), .second, .val (.long u1), .second, .val (.long u2), .second, .val (.int sel), .val (.int (0 : Int32)), .val (.int x0), .val (.int x1), .val (.int x2), .val (.int y0), .val (.int y1), .val (.int y2), .val (.ref b2), .val (.ref b5), .val (.ref b10), .unset, .unset]) rfl k) ?_
          show OwnWk _ _ _ _ (T18.setTop (mkF m 216 #[.val (.long u0), .second, .val (.long u1), .second, .val (.long u2), .second, .val (.int sel), .val (.int (0 : Int32)), .val (.int x0), .val (.int x1), .val (.int x2), .val (.int y0), .val (.int y1), .val (.int y2), .val (.ref b2), .val (.ref b5), .val (.ref b10), .unset, .unset] []))
          obtain ⟨T23, h23, X23, e23, E23, A23, D23, -, st23⟩ := newO X18 hx hZ hown (hw _ (List.mem_of_getElem? (i := 1) rfl)) (hw _ (List.mem_of_getElem? (i := 2) rfl)) (hw _ (List.mem_of_getElem? (i := 3) rfl)) e18 (g := (mkF m 216 #[.val (.long u0), .second, .val (.long u1), .second, .val (.long u2), .second, .val (.int sel), .val (.int (0 : Int32)), .val (.int x0), .val (.int x1), .val (.int x2), .val (.int y0), .val (.int y1), .val (.int y2), .val (.ref b2), .val (.ref b5), .val (.ref b10), .unset, .unset] [])) rfl (hb hby at_216) (by decide) (by decide)
          obtain ⟨b23, g23⟩ : ∃ z, z = h18.size := ⟨_, rfl⟩
          rw [← g23] at A23 D23 st23
          refine own_go st23 ?_
          have ne24 : b2 ≠ b23 := Nat.ne_of_lt (Nat.lt_of_lt_of_le F19.lt (Nat.le_of_eq g23.symm))
          have ne25 : b5 ≠ b23 := Nat.ne_of_lt (Nat.lt_of_lt_of_le F20.lt (Nat.le_of_eq g23.symm))
          have ne26 : b10 ≠ b23 := Nat.ne_of_lt (Nat.lt_of_lt_of_le F21.lt (Nat.le_of_eq g23.symm))
          have ge27 : n0 ≤ b23 := Nat.le_trans Z22 (Nat.le_of_eq g23.symm)
          have F28 := OAr.ext F19 E23
          have F29 := OAr.ext F20 E23
          have F30 := Exa.ext E23 F21
          have F31 := Fld.ext E23 Fq18
          have Z32 := Nat.le_trans Z22 E23.1
          have F33 : Fld Z h23 b23 "com/example/antipode/antipode/net/Marking" "tokens" "[I" .null := D23 (Or.inr (hw _ (List.mem_of_getElem? (i := 11) rfl))) (ty := (.array .int)) (by decide)
          show OwnWk _ _ _ _ (T23.setTop (mkF m 219 #[.val (.long u0), .second, .val (.long u1), .second, .val (.long u2), .second, .val (.int sel), .val (.int (0 : Int32)), .val (.int x0), .val (.int x1), .val (.int x2), .val (.int y0), .val (.int y1), .val (.int y2), .val (.ref b2), .val (.ref b5), .val (.ref b10), .unset, .unset] [(.ref b23)]))
          refine own_go (fun t k => XS.dup X23.here hx rfl (hb hby at_219) rfl rfl k) ?_
          show OwnWk _ _ _ _ (T23.setTop (mkF m 220 #[.val (.long u0), .second, .val (.long u1), .second, .val (.long u2), .second, .val (.int sel), .val (.int (0 : Int32)), .val (.int x0), .val (.int x1), .val (.int x2), .val (.int y0), .val (.int y1), .val (.int y2), .val (.ref b2), .val (.ref b5), .val (.ref b10), .unset, .unset] [(.ref b23), (.ref b23)]))
          refine own_go (fun t k => XS.aload X23.here hx rfl (hb hby at_220) rfl rfl  k) ?_
          show OwnWk _ _ _ _ (T23.setTop (mkF m 222 #[.val (.long u0), .second, .val (.long u1), .second, .val (.long u2), .second, .val (.int sel), .val (.int (0 : Int32)), .val (.int x0), .val (.int x1), .val (.int x2), .val (.int y0), .val (.int y1), .val (.int y2), .val (.ref b2), .val (.ref b5), .val (.ref b10), .unset, .unset] [(.ref b5), (.ref b23), (.ref b23)]))
          refine own_callC X23 hx hZ (y := (⟨"com/example/antipode/antipode/net/Marking", "<init>", "([I)V"⟩ : MethodName)) hown rfl (hw _ (List.mem_of_getElem? (i := 4) rfl)) (hw _ (List.mem_of_getElem? (i := 5) rfl)) (hw _ (List.mem_of_getElem? (i := 3) rfl)) (hw _ (List.mem_of_getElem? (i := 6) rfl)) (by decide) (a := b23) (argsL := [(.ref b5)]) (rest := [(.ref b23)]) (rm := ({ frames := 1, cells := 0, slots := 0, locals := 12 } : Room)) (h := h23) (rm1 l Z a0 hw b23 b5 h23 n0 Z32 F33 A23 ge27) e23 (W := 1) (by decide) (by decide) (by decide) (by decide) (g := (mkF m 222 #[.val (.long u0), .second, .val (.long u1), .second, .val (.long u2), .second, .val (.int sel), .val (.int (0 : Int32)), .val (.int x0), .val (.int x1), .val (.int x2), .val (.int y0), .val (.int y1), .val (.int y2), .val (.ref b2), .val (.ref b5), .val (.ref b10), .unset, .unset] [(.ref b5), (.ref b23), (.ref b23)])) rfl (by rw [hml]; rfl) (lenOf pd_0 rfl) rfl (by show 2 * 0 + _ ≤ _; exact Nat.le_of_eq rfl) (hb hby at_222) (fun v34 T34 h34 L34 X34 e34 hQ34 => ?_)
          obtain ⟨rfl, Nq34, Kq34, Fq34⟩ := hQ34
          have N34 := Fr.app N18 Nq34
          have F35 := OAr.keep F28 Kq34 (ninS ne24 nin0)
          have F36 := OAr.keep F29 Kq34 (ninS ne25 nin0)
          have F37 := Exa.keep F30 Kq34
          have F38 := Fld.keep F31 Kq34 (ninS ne26 nin0)
          have F39 := Exa.keep A23 Kq34
          have Z40 := Nat.le_trans Z32 Kq34.1
          show OwnWk _ _ _ _ (T34.setTop (mkF m 225 #[.val (.long u0), .second, .val (.long u1), .second, .val (.long u2), .second, .val (.int sel), .val (.int (0 : Int32)), .val (.int x0), .val (.int x1), .val (.int x2), .val (.int y0), .val (.int y1), .val (.int y2), .val (.ref b2), .val (.ref b5), .val (.ref b10), .unset, .unset] [(.ref b23)]))
          refine own_go (fun t k => XS.astore X34.here hx rfl (hb hby at_225) rfl rfl (l' := #[.val (.long u0), .second, .val (.long u1), .second, .val (.long u2), .second, .val (.int sel), .val (.int (0 : Int32)), .val (.int x0), .val (.int x1), .val (.int x2), .val (.int y0), .val (.int y1), .val (.int y2), .val (.ref b2), .val (.ref b5), .val (.ref b10), .val (.ref b23), .unset]) rfl k) ?_
          show OwnWk _ _ _ _ (T34.setTop (mkF m 227 #[.val (.long u0), .second, .val (.long u1), .second, .val (.long u2), .second, .val (.int sel), .val (.int (0 : Int32)), .val (.int x0), .val (.int x1), .val (.int x2), .val (.int y0), .val (.int y1), .val (.int y2), .val (.ref b2), .val (.ref b5), .val (.ref b10), .val (.ref b23), .unset] []))
          refine own_go (fun t k => XS.aload X34.here hx rfl (hb hby at_227) rfl rfl  k) ?_
          show OwnWk _ _ _ _ (T34.setTop (mkF m 229 #[.val (.long u0), .second, .val (.long u1), .second, .val (.long u2), .second, .val (.int sel), .val (.int (0 : Int32)), .val (.int x0), .val (.int x1), .val (.int x2), .val (.int y0), .val (.int y1), .val (.int y2), .val (.ref b2), .val (.ref b5), .val (.ref b10), .val (.ref b23), .unset] [(.ref b10)]))
          refine own_go (fun t k => XS.aload X34.here hx rfl (hb hby at_229) rfl rfl  k) ?_
          show OwnWk _ _ _ _ (T34.setTop (mkF m 231 #[.val (.long u0), .second, .val (.long u1), .second, .val (.long u2), .second, .val (.int sel), .val (.int (0 : Int32)), .val (.int x0), .val (.int x1), .val (.int x2), .val (.int y0), .val (.int y1), .val (.int y2), .val (.ref b2), .val (.ref b5), .val (.ref b10), .val (.ref b23), .unset] [(.ref b23), (.ref b10)]))
          refine own_callV X34 hx hZ (y := (⟨"com/example/antipode/antipode/net/Marking", "strictlyCovers", "(Lcom/example/antipode/antipode/net/Marking;)I"⟩ : MethodName)) (z := (⟨"com/example/antipode/antipode/net/Marking", "strictlyCovers", "(Lcom/example/antipode/antipode/net/Marking;)I"⟩ : MethodName)) hown (hw _ (List.mem_of_getElem? (i := 12) rfl)) (hw _ (List.mem_of_getElem? (i := 13) rfl)) (notFace_of_selects (args := #[]) (mvT hZ (hw _ (List.mem_of_getElem? (i := 15) rfl)))) (hw _ (List.mem_of_getElem? (i := 15) rfl)) (hw _ (List.mem_of_getElem? (i := 14) rfl)) (hw _ (List.mem_of_getElem? (i := 3) rfl)) (hw _ (List.mem_of_getElem? (i := 16) rfl)) (by decide) (a := b10) F37 (argsL := [(.ref b23)]) (rest := []) (rm := ({ frames := 0, cells := 0, slots := 0, locals := 0 } : Room)) (h := h34) (rm3 l Z a0 hw b10 b23 b2 b5 [] [] h34 n0 Z40 F38 Fq34 F35 F36 rfl (by simp)) e34 (W := 0) (by decide) (by decide) (by decide) (by decide) (g := (mkF m 231 #[.val (.long u0), .second, .val (.long u1), .second, .val (.long u2), .second, .val (.int sel), .val (.int (0 : Int32)), .val (.int x0), .val (.int x1), .val (.int x2), .val (.int y0), .val (.int y1), .val (.int y2), .val (.ref b2), .val (.ref b5), .val (.ref b10), .val (.ref b23), .unset] [(.ref b23), (.ref b10)])) rfl (by rw [hml]; rfl) (lenOf pd_1 rfl) rfl (by show 2 * 0 + _ ≤ _; exact Nat.le_of_eq rfl) (hb hby at_231) (fun v41 T41 h41 L41 X41 e41 hQ41 => ?_)
          obtain ⟨rfl, Nq41, q41⟩ := hQ41
          have N41 := Fr.app N34 Nq41
          rw [q41] at e41
          show OwnWk _ _ _ _ (T41.setTop (mkF m 234 #[.val (.long u0), .second, .val (.long u1), .second, .val (.long u2), .second, .val (.int sel), .val (.int (0 : Int32)), .val (.int x0), .val (.int x1), .val (.int x2), .val (.int y0), .val (.int y1), .val (.int y2), .val (.ref b2), .val (.ref b5), .val (.ref b10), .val (.ref b23), .unset] [(.int (own_cov [] [] 0 (-1)))]))
          refine own_go (fun t k => XS.istore X41.here hx rfl (hb hby at_234) rfl (l' := #[.val (.long u0), .second, .val (.long u1), .second, .val (.long u2), .second, .val (.int sel), .val (.int (0 : Int32)), .val (.int x0), .val (.int x1), .val (.int x2), .val (.int y0), .val (.int y1), .val (.int y2), .val (.ref b2), .val (.ref b5), .val (.ref b10), .val (.ref b23), .val (.int (own_cov [] [] 0 (-1)))]) rfl k) ?_
          show OwnWk _ _ _ _ (T41.setTop (mkF m 236 #[.val (.long u0), .second, .val (.long u1), .second, .val (.long u2), .second, .val (.int sel), .val (.int (0 : Int32)), .val (.int x0), .val (.int x1), .val (.int x2), .val (.int y0), .val (.int y1), .val (.int y2), .val (.ref b2), .val (.ref b5), .val (.ref b10), .val (.ref b23), .val (.int (own_cov [] [] 0 (-1)))] []))
          refine own_go (fun t k => XS.iload X41.here hx rfl (hb hby at_236) rfl  k) ?_
          show OwnWk _ _ _ _ (T41.setTop (mkF m 238 #[.val (.long u0), .second, .val (.long u1), .second, .val (.long u2), .second, .val (.int sel), .val (.int (0 : Int32)), .val (.int x0), .val (.int x1), .val (.int x2), .val (.int y0), .val (.int y1), .val (.int y2), .val (.ref b2), .val (.ref b5), .val (.ref b10), .val (.ref b23), .val (.int (own_cov [] [] 0 (-1)))] [(.int (own_cov [] [] 0 (-1)))]))
          refine own_go (fun t k => XS.iload X41.here hx rfl (hb hby at_238) rfl  k) ?_
          show OwnWk _ _ _ _ (T41.setTop (mkF m 240 #[.val (.long u0), .second, .val (.long u1), .second, .val (.long u2), .second, .val (.int sel), .val (.int (0 : Int32)), .val (.int x0), .val (.int x1), .val (.int x2), .val (.int y0), .val (.int y1), .val (.int y2), .val (.ref b2), .val (.ref b5), .val (.ref b10), .val (.ref b23), .val (.int (own_cov [] [] 0 (-1)))] [(.int (0 : Int32)), (.int (own_cov [] [] 0 (-1)))]))
          refine own_go (fun t k => XS.iload X41.here hx rfl (hb hby at_240) rfl  k) ?_
          show OwnWk _ _ _ _ (T41.setTop (mkF m 242 #[.val (.long u0), .second, .val (.long u1), .second, .val (.long u2), .second, .val (.int sel), .val (.int (0 : Int32)), .val (.int x0), .val (.int x1), .val (.int x2), .val (.int y0), .val (.int y1), .val (.int y2), .val (.ref b2), .val (.ref b5), .val (.ref b10), .val (.ref b23), .val (.int (own_cov [] [] 0 (-1)))] [(.int x0), (.int (0 : Int32)), (.int (own_cov [] [] 0 (-1)))]))
          refine own_go (fun t k => XS.iload X41.here hx rfl (hb hby at_242) rfl  k) ?_
          show OwnWk _ _ _ _ (T41.setTop (mkF m 244 #[.val (.long u0), .second, .val (.long u1), .second, .val (.long u2), .second, .val (.int sel), .val (.int (0 : Int32)), .val (.int x0), .val (.int x1), .val (.int x2), .val (.int y0), .val (.int y1), .val (.int y2), .val (.ref b2), .val (.ref b5), .val (.ref b10), .val (.ref b23), .val (.int (own_cov [] [] 0 (-1)))] [(.int x1), (.int x0), (.int (0 : Int32)), (.int (own_cov [] [] 0 (-1)))]))
          refine own_go (fun t k => XS.iload X41.here hx rfl (hb hby at_244) rfl  k) ?_
          show OwnWk _ _ _ _ (T41.setTop (mkF m 246 #[.val (.long u0), .second, .val (.long u1), .second, .val (.long u2), .second, .val (.int sel), .val (.int (0 : Int32)), .val (.int x0), .val (.int x1), .val (.int x2), .val (.int y0), .val (.int y1), .val (.int y2), .val (.ref b2), .val (.ref b5), .val (.ref b10), .val (.ref b23), .val (.int (own_cov [] [] 0 (-1)))] [(.int x2), (.int x1), (.int x0), (.int (0 : Int32)), (.int (own_cov [] [] 0 (-1)))]))
          refine own_go (fun t k => XS.iload X41.here hx rfl (hb hby at_246) rfl  k) ?_
          show OwnWk _ _ _ _ (T41.setTop (mkF m 248 #[.val (.long u0), .second, .val (.long u1), .second, .val (.long u2), .second, .val (.int sel), .val (.int (0 : Int32)), .val (.int x0), .val (.int x1), .val (.int x2), .val (.int y0), .val (.int y1), .val (.int y2), .val (.ref b2), .val (.ref b5), .val (.ref b10), .val (.ref b23), .val (.int (own_cov [] [] 0 (-1)))] [(.int y0), (.int x2), (.int x1), (.int x0), (.int (0 : Int32)), (.int (own_cov [] [] 0 (-1)))]))
          refine own_go (fun t k => XS.iload X41.here hx rfl (hb hby at_248) rfl  k) ?_
          show OwnWk _ _ _ _ (T41.setTop (mkF m 250 #[.val (.long u0), .second, .val (.long u1), .second, .val (.long u2), .second, .val (.int sel), .val (.int (0 : Int32)), .val (.int x0), .val (.int x1), .val (.int x2), .val (.int y0), .val (.int y1), .val (.int y2), .val (.ref b2), .val (.ref b5), .val (.ref b10), .val (.ref b23), .val (.int (own_cov [] [] 0 (-1)))] [(.int y1), (.int y0), (.int x2), (.int x1), (.int x0), (.int (0 : Int32)), (.int (own_cov [] [] 0 (-1)))]))
          refine own_go (fun t k => XS.iload X41.here hx rfl (hb hby at_250) rfl  k) ?_
          show OwnWk _ _ _ _ (T41.setTop (mkF m 252 #[.val (.long u0), .second, .val (.long u1), .second, .val (.long u2), .second, .val (.int sel), .val (.int (0 : Int32)), .val (.int x0), .val (.int x1), .val (.int x2), .val (.int y0), .val (.int y1), .val (.int y2), .val (.ref b2), .val (.ref b5), .val (.ref b10), .val (.ref b23), .val (.int (own_cov [] [] 0 (-1)))] [(.int y2), (.int y1), (.int y0), (.int x2), (.int x1), (.int x0), (.int (0 : Int32)), (.int (own_cov [] [] 0 (-1)))]))
          refine own_callS X41 hx hZ (y := (⟨"com/example/antipode/antipode/net/MarkingStrictlyCoversPinLaw", "reference", "(IIIIIII)I"⟩ : MethodName)) hown (hw _ (List.mem_of_getElem? (i := 17) rfl)) (hw _ (List.mem_of_getElem? (i := 18) rfl)) (hw _ (List.mem_of_getElem? (i := 19) rfl)) (hw _ (List.mem_of_getElem? (i := 20) rfl)) (by decide) (argsL := [(.int (0 : Int32)), (.int x0), (.int x1), (.int x2), (.int y0), (.int y1), (.int y2)]) (rest := [(.int (own_cov [] [] 0 (-1)))]) (rm := ({ frames := 0, cells := 0, slots := 0, locals := 0 } : Room)) (h := h34) (rm4 l Z a0 hw (0 : Int32) x0 x1 x2 y0 y1 y2 h34 n0 Z40) e41 (W := 1) (by decide) (by decide) (by decide) (by decide) (g := (mkF m 252 #[.val (.long u0), .second, .val (.long u1), .second, .val (.long u2), .second, .val (.int sel), .val (.int (0 : Int32)), .val (.int x0), .val (.int x1), .val (.int x2), .val (.int y0), .val (.int y1), .val (.int y2), .val (.ref b2), .val (.ref b5), .val (.ref b10), .val (.ref b23), .val (.int (own_cov [] [] 0 (-1)))] [(.int y2), (.int y1), (.int y0), (.int x2), (.int x1), (.int x0), (.int (0 : Int32)), (.int (own_cov [] [] 0 (-1)))])) rfl (by rw [hml]; rfl) (lenOf pd_2 rfl) rfl (by show 2 * 0 + _ ≤ _; exact Nat.le_of_eq rfl) (hb hby at_252) (fun v42 T42 h42 L42 X42 e42 hQ42 => ?_)
          obtain ⟨rfl, Nq42, q42⟩ := hQ42
          have N42 := Fr.app N41 Nq42
          rw [q42] at e42
          show OwnWk _ _ _ _ (T42.setTop (mkF m 255 #[.val (.long u0), .second, .val (.long u1), .second, .val (.long u2), .second, .val (.int sel), .val (.int (0 : Int32)), .val (.int x0), .val (.int x1), .val (.int x2), .val (.int y0), .val (.int y1), .val (.int y2), .val (.ref b2), .val (.ref b5), .val (.ref b10), .val (.ref b23), .val (.int (own_cov [] [] 0 (-1)))] [(.int (own_ref (0 : Int32) x0 x1 x2 y0 y1 y2)), (.int (own_cov [] [] 0 (-1)))]))
          refine own_go (fun t k => XS.icmpNo X42.here hx rfl (hb hby at_255) rfl (teq (own_last0 x0 x1 x2 y0 y1 y2)).2 k) ?_
          show OwnWk _ _ _ _ (T42.setTop (mkF m 258 #[.val (.long u0), .second, .val (.long u1), .second, .val (.long u2), .second, .val (.int sel), .val (.int (0 : Int32)), .val (.int x0), .val (.int x1), .val (.int x2), .val (.int y0), .val (.int y1), .val (.int y2), .val (.ref b2), .val (.ref b5), .val (.ref b10), .val (.ref b23), .val (.int (own_cov [] [] 0 (-1)))] []))
          refine own_go (fun t k => XS.iconst X42.here hx rfl (hb hby at_258) k) ?_
          show OwnWk _ _ _ _ (T42.setTop (mkF m 259 #[.val (.long u0), .second, .val (.long u1), .second, .val (.long u2), .second, .val (.int sel), .val (.int (0 : Int32)), .val (.int x0), .val (.int x1), .val (.int x2), .val (.int y0), .val (.int y1), .val (.int y2), .val (.ref b2), .val (.ref b5), .val (.ref b10), .val (.ref b23), .val (.int (own_cov [] [] 0 (-1)))] [(.int (1 : Int32))]))
          refine own_go (fun t k => XS.goto X42.here hx rfl (pc0 := 259) (pc' := 263) rfl (hb hby at_259) (by decide) (by decide) k) ?_
          show OwnWk _ _ _ _ (T42.setTop (mkF m 263 #[.val (.long u0), .second, .val (.long u1), .second, .val (.long u2), .second, .val (.int sel), .val (.int (0 : Int32)), .val (.int x0), .val (.int x1), .val (.int x2), .val (.int y0), .val (.int y1), .val (.int y2), .val (.ref b2), .val (.ref b5), .val (.ref b10), .val (.ref b23), .val (.int (own_cov [] [] 0 (-1)))] [(.int (1 : Int32))]))
          exact own_retZ X42 hx hlk hret (by simp) (z' := (1 : Int32)) rfl (hb hby at_263) (by decide) (by decide) (by rw [e42]; exact ⟨rfl, N42⟩)
        ·
          refine own_go (fun t k => XS.ifYes X0.here hx rfl (pc0 := 81) (pc' := 97) rfl (hb hby at_81) rfl ((if0 _ _).trans (feq hc1).2) (by decide) (by decide) k) ?_
          show OwnWk _ _ _ _ (s₁.setTop (mkF m 97 #[.val (.long u0), .second, .val (.long u1), .second, .val (.long u2), .second, .val (.int sel), .val (.int n1), .val (.int x0), .val (.int x1), .val (.int x2), .val (.int y0), .val (.int y1), .val (.int y2), .unset, .unset, .unset, .unset, .unset] []))
          refine own_go (fun t k => XS.iload X0.here hx rfl (hb hby at_97) rfl  k) ?_
          show OwnWk _ _ _ _ (s₁.setTop (mkF m 99 #[.val (.long u0), .second, .val (.long u1), .second, .val (.long u2), .second, .val (.int sel), .val (.int n1), .val (.int x0), .val (.int x1), .val (.int x2), .val (.int y0), .val (.int y1), .val (.int y2), .unset, .unset, .unset, .unset, .unset] [(.int n1)]))
          refine own_go (fun t k => XS.iconst X0.here hx rfl (hb hby at_99) k) ?_
          show OwnWk _ _ _ _ (s₁.setTop (mkF m 100 #[.val (.long u0), .second, .val (.long u1), .second, .val (.long u2), .second, .val (.int sel), .val (.int n1), .val (.int x0), .val (.int x1), .val (.int x2), .val (.int y0), .val (.int y1), .val (.int y2), .unset, .unset, .unset, .unset, .unset] [(.int (1 : Int32)), (.int n1)]))
          by_cases hc43 : n1 = (1 : Int32)
          ·
            refine own_go (fun t k => XS.icmpNo X0.here hx rfl (hb hby at_100) rfl (teq hc43).2 k) ?_
            show OwnWk _ _ _ _ (s₁.setTop (mkF m 103 #[.val (.long u0), .second, .val (.long u1), .second, .val (.long u2), .second, .val (.int sel), .val (.int n1), .val (.int x0), .val (.int x1), .val (.int x2), .val (.int y0), .val (.int y1), .val (.int y2), .unset, .unset, .unset, .unset, .unset] []))
            subst hc43
            show OwnWk _ _ _ _ (s₁.setTop (mkF m 103 #[.val (.long u0), .second, .val (.long u1), .second, .val (.long u2), .second, .val (.int sel), .val (.int (1 : Int32)), .val (.int x0), .val (.int x1), .val (.int x2), .val (.int y0), .val (.int y1), .val (.int y2), .unset, .unset, .unset, .unset, .unset] []))
            refine own_go (fun t k => XS.iconst X0.here hx rfl (hb hby at_103) k) ?_
            show OwnWk _ _ _ _ (s₁.setTop (mkF m 104 #[.val (.long u0), .second, .val (.long u1), .second, .val (.long u2), .second, .val (.int sel), .val (.int (1 : Int32)), .val (.int x0), .val (.int x1), .val (.int x2), .val (.int y0), .val (.int y1), .val (.int y2), .unset, .unset, .unset, .unset, .unset] [(.int (1 : Int32))]))
            refine own_newP X0 hx hZ (aty := .int) (hw _ (List.mem_of_getElem? (i := 0) rfl)) e0 (g := (mkF m 104 #[.val (.long u0), .second, .val (.long u1), .second, .val (.long u2), .second, .val (.int sel), .val (.int (1 : Int32)), .val (.int x0), .val (.int x1), .val (.int x2), .val (.int y0), .val (.int y1), .val (.int y2), .unset, .unset, .unset, .unset, .unset] [(.int (1 : Int32))])) rfl (hb hby at_104) rfl (by decide) (cap := 1) (by decide) (by decide) (by decide) (by decide) (fun T44 h44 b44 X44 e44 g44 E44 V44 => ?_)
            have ge45 : n0 ≤ b44 := Nat.le_trans Z0 (Nat.le_of_eq g44.symm)
            have Z46 := Nat.le_trans Z0 E44.1
            have V44b : OAr Z h44 b44 .int [(.int (0 : Int32))] := V44
            show OwnWk _ _ _ _ (T44.setTop (mkF m 106 #[.val (.long u0), .second, .val (.long u1), .second, .val (.long u2), .second, .val (.int sel), .val (.int (1 : Int32)), .val (.int x0), .val (.int x1), .val (.int x2), .val (.int y0), .val (.int y1), .val (.int y2), .unset, .unset, .unset, .unset, .unset] [(.ref b44)]))
            refine own_go (fun t k => XS.dup X44.here hx rfl (hb hby at_106) rfl rfl k) ?_
            show OwnWk _ _ _ _ (T44.setTop (mkF m 107 #[.val (.long u0), .second, .val (.long u1), .second, .val (.long u2), .second, .val (.int sel), .val (.int (1 : Int32)), .val (.int x0), .val (.int x1), .val (.int x2), .val (.int y0), .val (.int y1), .val (.int y2), .unset, .unset, .unset, .unset, .unset] [(.ref b44), (.ref b44)]))
            refine own_go (fun t k => XS.iconst X44.here hx rfl (hb hby at_107) k) ?_
            show OwnWk _ _ _ _ (T44.setTop (mkF m 108 #[.val (.long u0), .second, .val (.long u1), .second, .val (.long u2), .second, .val (.int sel), .val (.int (1 : Int32)), .val (.int x0), .val (.int x1), .val (.int x2), .val (.int y0), .val (.int y1), .val (.int y2), .unset, .unset, .unset, .unset, .unset] [(.int (0 : Int32)), (.ref b44), (.ref b44)]))
            refine own_go (fun t k => XS.iload X44.here hx rfl (hb hby at_108) rfl  k) ?_
            show OwnWk _ _ _ _ (T44.setTop (mkF m 110 #[.val (.long u0), .second, .val (.long u1), .second, .val (.long u2), .second, .val (.int sel), .val (.int (1 : Int32)), .val (.int x0), .val (.int x1), .val (.int x2), .val (.int y0), .val (.int y1), .val (.int y2), .unset, .unset, .unset, .unset, .unset] [(.int x0), (.int (0 : Int32)), (.ref b44), (.ref b44)]))
            refine own_stI X44 hx hZ e44 V44b (g := (mkF m 110 #[.val (.long u0), .second, .val (.long u1), .second, .val (.long u2), .second, .val (.int sel), .val (.int (1 : Int32)), .val (.int x0), .val (.int x1), .val (.int x2), .val (.int y0), .val (.int y1), .val (.int y2), .unset, .unset, .unset, .unset, .unset] [(.int x0), (.int (0 : Int32)), (.ref b44), (.ref b44)])) rfl rfl (hb hby at_110) (by decide) (Nat.le_of_ble_eq_true rfl) (fun T47 h47 X47 e47 W47 V47 => ?_)
            have N47 := Fr.snoc X47 N0 ge45
            have Z48 := Nat.le_trans Z46 (Keep.of_wr W47).1
            show OwnWk _ _ _ _ (T47.setTop (mkF m 111 #[.val (.long u0), .second, .val (.long u1), .second, .val (.long u2), .second, .val (.int sel), .val (.int (1 : Int32)), .val (.int x0), .val (.int x1), .val (.int x2), .val (.int y0), .val (.int y1), .val (.int y2), .unset, .unset, .unset, .unset, .unset] [(.ref b44)]))
            refine own_go (fun t k => XS.astore X47.here hx rfl (hb hby at_111) rfl rfl (l' := #[.val (.long u0), .second, .val (.long u1), .second, .val (.long u2), .second, .val (.int sel), .val (.int (1 : Int32)), .val (.int x0), .val (.int x1), .val (.int x2), .val (.int y0), .val (.int y1), .val (.int y2), .val (.ref b44), .unset, .unset, .unset, .unset]) rfl k) ?_
            show OwnWk _ _ _ _ (T47.setTop (mkF m 113 #[.val (.long u0), .second, .val (.long u1), .second, .val (.long u2), .second, .val (.int sel), .val (.int (1 : Int32)), .val (.int x0), .val (.int x1), .val (.int x2), .val (.int y0), .val (.int y1), .val (.int y2), .val (.ref b44), .unset, .unset, .unset, .unset] []))
            refine own_go (fun t k => XS.iconst X47.here hx rfl (hb hby at_113) k) ?_
            show OwnWk _ _ _ _ (T47.setTop (mkF m 114 #[.val (.long u0), .second, .val (.long u1), .second, .val (.long u2), .second, .val (.int sel), .val (.int (1 : Int32)), .val (.int x0), .val (.int x1), .val (.int x2), .val (.int y0), .val (.int y1), .val (.int y2), .val (.ref b44), .unset, .unset, .unset, .unset] [(.int (1 : Int32))]))
            refine own_newP X47 hx hZ (aty := .int) (hw _ (List.mem_of_getElem? (i := 0) rfl)) e47 (g := (mkF m 114 #[.val (.long u0), .second, .val (.long u1), .second, .val (.long u2), .second, .val (.int sel), .val (.int (1 : Int32)), .val (.int x0), .val (.int x1), .val (.int x2), .val (.int y0), .val (.int y1), .val (.int y2), .val (.ref b44), .unset, .unset, .unset, .unset] [(.int (1 : Int32))])) rfl (hb hby at_114) rfl (by decide) (cap := 1) (by decide) (by decide) (by decide) (by decide) (fun T49 h49 b49 X49 e49 g49 E49 V49 => ?_)
            have ne50 : b44 ≠ b49 := Nat.ne_of_lt (Nat.lt_of_lt_of_le V47.lt (Nat.le_of_eq g49.symm))
            have ge51 : n0 ≤ b49 := Nat.le_trans Z48 (Nat.le_of_eq g49.symm)
            have F52 := OAr.ext V47 E49
            have Z53 := Nat.le_trans Z48 E49.1
            have V49b : OAr Z h49 b49 .int [(.int (0 : Int32))] := V49
            show OwnWk _ _ _ _ (T49.setTop (mkF m 116 #[.val (.long u0), .second, .val (.long u1), .second, .val (.long u2), .second, .val (.int sel), .val (.int (1 : Int32)), .val (.int x0), .val (.int x1), .val (.int x2), .val (.int y0), .val (.int y1), .val (.int y2), .val (.ref b44), .unset, .unset, .unset, .unset] [(.ref b49)]))
            refine own_go (fun t k => XS.dup X49.here hx rfl (hb hby at_116) rfl rfl k) ?_
            show OwnWk _ _ _ _ (T49.setTop (mkF m 117 #[.val (.long u0), .second, .val (.long u1), .second, .val (.long u2), .second, .val (.int sel), .val (.int (1 : Int32)), .val (.int x0), .val (.int x1), .val (.int x2), .val (.int y0), .val (.int y1), .val (.int y2), .val (.ref b44), .unset, .unset, .unset, .unset] [(.ref b49), (.ref b49)]))
            refine own_go (fun t k => XS.iconst X49.here hx rfl (hb hby at_117) k) ?_
            show OwnWk _ _ _ _ (T49.setTop (mkF m 118 #[.val (.long u0), .second, .val (.long u1), .second, .val (.long u2), .second, .val (.int sel), .val (.int (1 : Int32)), .val (.int x0), .val (.int x1), .val (.int x2), .val (.int y0), .val (.int y1), .val (.int y2), .val (.ref b44), .unset, .unset, .unset, .unset] [(.int (0 : Int32)), (.ref b49), (.ref b49)]))
            refine own_go (fun t k => XS.iload X49.here hx rfl (hb hby at_118) rfl  k) ?_
            show OwnWk _ _ _ _ (T49.setTop (mkF m 120 #[.val (.long u0), .second, .val (.long u1), .second, .val (.long u2), .second, .val (.int sel), .val (.int (1 : Int32)), .val (.int x0), .val (.int x1), .val (.int x2), .val (.int y0), .val (.int y1), .val (.int y2), .val (.ref b44), .unset, .unset, .unset, .unset] [(.int y0), (.int (0 : Int32)), (.ref b49), (.ref b49)]))
            refine own_stI X49 hx hZ e49 V49b (g := (mkF m 120 #[.val (.long u0), .second, .val (.long u1), .second, .val (.long u2), .second, .val (.int sel), .val (.int (1 : Int32)), .val (.int x0), .val (.int x1), .val (.int x2), .val (.int y0), .val (.int y1), .val (.int y2), .val (.ref b44), .unset, .unset, .unset, .unset] [(.int y0), (.int (0 : Int32)), (.ref b49), (.ref b49)])) rfl rfl (hb hby at_120) (by decide) (Nat.le_of_ble_eq_true rfl) (fun T54 h54 X54 e54 W54 V54 => ?_)
            have N54 := Fr.snoc X54 N47 ge51
            have F55 := OAr.other F52 W54 ne50
            have Z56 := Nat.le_trans Z53 (Keep.of_wr W54).1
            show OwnWk _ _ _ _ (T54.setTop (mkF m 121 #[.val (.long u0), .second, .val (.long u1), .second, .val (.long u2), .second, .val (.int sel), .val (.int (1 : Int32)), .val (.int x0), .val (.int x1), .val (.int x2), .val (.int y0), .val (.int y1), .val (.int y2), .val (.ref b44), .unset, .unset, .unset, .unset] [(.ref b49)]))
            refine own_go (fun t k => XS.astore X54.here hx rfl (hb hby at_121) rfl rfl (l' := #[.val (.long u0), .second, .val (.long u1), .second, .val (.long u2), .second, .val (.int sel), .val (.int (1 : Int32)), .val (.int x0), .val (.int x1), .val (.int x2), .val (.int y0), .val (.int y1), .val (.int y2), .val (.ref b44), .val (.ref b49), .unset, .unset, .unset]) rfl k) ?_
            show OwnWk _ _ _ _ (T54.setTop (mkF m 123 #[.val (.long u0), .second, .val (.long u1), .second, .val (.long u2), .second, .val (.int sel), .val (.int (1 : Int32)), .val (.int x0), .val (.int x1), .val (.int x2), .val (.int y0), .val (.int y1), .val (.int y2), .val (.ref b44), .val (.ref b49), .unset, .unset, .unset] []))
            refine own_go (fun t k => XS.goto X54.here hx rfl (pc0 := 123) (pc' := 205) rfl (hb hby at_123) (by decide) (by decide) k) ?_
            show OwnWk _ _ _ _ (T54.setTop (mkF m 205 #[.val (.long u0), .second, .val (.long u1), .second, .val (.long u2), .second, .val (.int sel), .val (.int (1 : Int32)), .val (.int x0), .val (.int x1), .val (.int x2), .val (.int y0), .val (.int y1), .val (.int y2), .val (.ref b44), .val (.ref b49), .unset, .unset, .unset] []))
            obtain ⟨T57, h57, X57, e57, E57, A57, D57, -, st57⟩ := newO X54 hx hZ hown (hw _ (List.mem_of_getElem? (i := 1) rfl)) (hw _ (List.mem_of_getElem? (i := 2) rfl)) (hw _ (List.mem_of_getElem? (i := 3) rfl)) e54 (g := (mkF m 205 #[.val (.long u0), .second, .val (.long u1), .second, .val (.long u2), .second, .val (.int sel), .val (.int (1 : Int32)), .val (.int x0), .val (.int x1), .val (.int x2), .val (.int y0), .val (.int y1), .val (.int y2), .val (.ref b44), .val (.ref b49), .unset, .unset, .unset] [])) rfl (hb hby at_205) (by decide) (by decide)
            obtain ⟨b57, g57⟩ : ∃ z, z = h54.size := ⟨_, rfl⟩
            rw [← g57] at A57 D57 st57
            refine own_go st57 ?_
            have ne58 : b44 ≠ b57 := Nat.ne_of_lt (Nat.lt_of_lt_of_le F55.lt (Nat.le_of_eq g57.symm))
            have ne59 : b49 ≠ b57 := Nat.ne_of_lt (Nat.lt_of_lt_of_le V54.lt (Nat.le_of_eq g57.symm))
            have ge60 : n0 ≤ b57 := Nat.le_trans Z56 (Nat.le_of_eq g57.symm)
            have F61 := OAr.ext F55 E57
            have F62 := OAr.ext V54 E57
            have Z63 := Nat.le_trans Z56 E57.1
            have F64 : Fld Z h57 b57 "com/example/antipode/antipode/net/Marking" "tokens" "[I" .null := D57 (Or.inr (hw _ (List.mem_of_getElem? (i := 11) rfl))) (ty := (.array .int)) (by decide)
            show OwnWk _ _ _ _ (T57.setTop (mkF m 208 #[.val (.long u0), .second, .val (.long u1), .second, .val (.long u2), .second, .val (.int sel), .val (.int (1 : Int32)), .val (.int x0), .val (.int x1), .val (.int x2), .val (.int y0), .val (.int y1), .val (.int y2), .val (.ref b44), .val (.ref b49), .unset, .unset, .unset] [(.ref b57)]))
            refine own_go (fun t k => XS.dup X57.here hx rfl (hb hby at_208) rfl rfl k) ?_
            show OwnWk _ _ _ _ (T57.setTop (mkF m 209 #[.val (.long u0), .second, .val (.long u1), .second, .val (.long u2), .second, .val (.int sel), .val (.int (1 : Int32)), .val (.int x0), .val (.int x1), .val (.int x2), .val (.int y0), .val (.int y1), .val (.int y2), .val (.ref b44), .val (.ref b49), .unset, .unset, .unset] [(.ref b57), (.ref b57)]))
            refine own_go (fun t k => XS.aload X57.here hx rfl (hb hby at_209) rfl rfl  k) ?_
            show OwnWk _ _ _ _ (T57.setTop (mkF m 211 #[.val (.long u0), .second, .val (.long u1), .second, .val (.long u2), .second, .val (.int sel), .val (.int (1 : Int32)), .val (.int x0), .val (.int x1), .val (.int x2), .val (.int y0), .val (.int y1), .val (.int y2), .val (.ref b44), .val (.ref b49), .unset, .unset, .unset] [(.ref b44), (.ref b57), (.ref b57)]))
            refine own_callC X57 hx hZ (y := (⟨"com/example/antipode/antipode/net/Marking", "<init>", "([I)V"⟩ : MethodName)) hown rfl (hw _ (List.mem_of_getElem? (i := 4) rfl)) (hw _ (List.mem_of_getElem? (i := 5) rfl)) (hw _ (List.mem_of_getElem? (i := 3) rfl)) (hw _ (List.mem_of_getElem? (i := 6) rfl)) (by decide) (a := b57) (argsL := [(.ref b44)]) (rest := [(.ref b57)]) (rm := ({ frames := 1, cells := 0, slots := 0, locals := 12 } : Room)) (h := h57) (rm1 l Z a0 hw b57 b44 h57 n0 Z63 F64 A57 ge60) e57 (W := 1) (by decide) (by decide) (by decide) (by decide) (g := (mkF m 211 #[.val (.long u0), .second, .val (.long u1), .second, .val (.long u2), .second, .val (.int sel), .val (.int (1 : Int32)), .val (.int x0), .val (.int x1), .val (.int x2), .val (.int y0), .val (.int y1), .val (.int y2), .val (.ref b44), .val (.ref b49), .unset, .unset, .unset] [(.ref b44), (.ref b57), (.ref b57)])) rfl (by rw [hml]; rfl) (lenOf pd_0 rfl) rfl (by show 2 * 0 + _ ≤ _; exact Nat.le_of_eq rfl) (hb hby at_211) (fun v65 T65 h65 L65 X65 e65 hQ65 => ?_)
            obtain ⟨rfl, Nq65, Kq65, Fq65⟩ := hQ65
            have N65 := Fr.app N54 Nq65
            have F66 := OAr.keep F61 Kq65 (ninS ne58 nin0)
            have F67 := OAr.keep F62 Kq65 (ninS ne59 nin0)
            have F68 := Exa.keep A57 Kq65
            have Z69 := Nat.le_trans Z63 Kq65.1
            show OwnWk _ _ _ _ (T65.setTop (mkF m 214 #[.val (.long u0), .second, .val (.long u1), .second, .val (.long u2), .second, .val (.int sel), .val (.int (1 : Int32)), .val (.int x0), .val (.int x1), .val (.int x2), .val (.int y0), .val (.int y1), .val (.int y2), .val (.ref b44), .val (.ref b49), .unset, .unset, .unset] [(.ref b57)]))
            refine own_go (fun t k => XS.astore X65.here hx rfl (hb hby at_214) rfl rfl (l' := #[.val (.long u0), .second, .val (.long u1), .second, .val (.long u2), .second, .val (.int sel), .val (.int (1 : Int32)), .val (.int x0), .val (.int x1), .val (.int x2), .val (.int y0), .val (.int y1), .val (.int y2), .val (.ref b44), .val (.ref b49), .val (.ref b57), .unset, .unset]) rfl k) ?_
            show OwnWk _ _ _ _ (T65.setTop (mkF m 216 #[.val (.long u0), .second, .val (.long u1), .second, .val (.long u2), .second, .val (.int sel), .val (.int (1 : Int32)), .val (.int x0), .val (.int x1), .val (.int x2), .val (.int y0), .val (.int y1), .val (.int y2), .val (.ref b44), .val (.ref b49), .val (.ref b57), .unset, .unset] []))
            obtain ⟨T70, h70, X70, e70, E70, A70, D70, -, st70⟩ := newO X65 hx hZ hown (hw _ (List.mem_of_getElem? (i := 1) rfl)) (hw _ (List.mem_of_getElem? (i := 2) rfl)) (hw _ (List.mem_of_getElem? (i := 3) rfl)) e65 (g := (mkF m 216 #[.val (.long u0), .second, .val (.long u1), .second, .val (.long u2), .second, .val (.int sel), .val (.int (1 : Int32)), .val (.int x0), .val (.int x1), .val (.int x2), .val (.int y0), .val (.int y1), .val (.int y2), .val (.ref b44), .val (.ref b49), .val (.ref b57), .unset, .unset] [])) rfl (hb hby at_216) (by decide) (by decide)
            obtain ⟨b70, g70⟩ : ∃ z, z = h65.size := ⟨_, rfl⟩
            rw [← g70] at A70 D70 st70
            refine own_go st70 ?_
            have ne71 : b44 ≠ b70 := Nat.ne_of_lt (Nat.lt_of_lt_of_le F66.lt (Nat.le_of_eq g70.symm))
            have ne72 : b49 ≠ b70 := Nat.ne_of_lt (Nat.lt_of_lt_of_le F67.lt (Nat.le_of_eq g70.symm))
            have ne73 : b57 ≠ b70 := Nat.ne_of_lt (Nat.lt_of_lt_of_le F68.lt (Nat.le_of_eq g70.symm))
            have ge74 : n0 ≤ b70 := Nat.le_trans Z69 (Nat.le_of_eq g70.symm)
            have F75 := OAr.ext F66 E70
            have F76 := OAr.ext F67 E70
            have F77 := Exa.ext E70 F68
            have F78 := Fld.ext E70 Fq65
            have Z79 := Nat.le_trans Z69 E70.1
            have F80 : Fld Z h70 b70 "com/example/antipode/antipode/net/Marking" "tokens" "[I" .null := D70 (Or.inr (hw _ (List.mem_of_getElem? (i := 11) rfl))) (ty := (.array .int)) (by decide)
            show OwnWk _ _ _ _ (T70.setTop (mkF m 219 #[.val (.long u0), .second, .val (.long u1), .second, .val (.long u2), .second, .val (.int sel), .val (.int (1 : Int32)), .val (.int x0), .val (.int x1), .val (.int x2), .val (.int y0), .val (.int y1), .val (.int y2), .val (.ref b44), .val (.ref b49), .val (.ref b57), .unset, .unset] [(.ref b70)]))
            refine own_go (fun t k => XS.dup X70.here hx rfl (hb hby at_219) rfl rfl k) ?_
            show OwnWk _ _ _ _ (T70.setTop (mkF m 220 #[.val (.long u0), .second, .val (.long u1), .second, .val (.long u2), .second, .val (.int sel), .val (.int (1 : Int32)), .val (.int x0), .val (.int x1), .val (.int x2), .val (.int y0), .val (.int y1), .val (.int y2), .val (.ref b44), .val (.ref b49), .val (.ref b57), .unset, .unset] [(.ref b70), (.ref b70)]))
            refine own_go (fun t k => XS.aload X70.here hx rfl (hb hby at_220) rfl rfl  k) ?_
            show OwnWk _ _ _ _ (T70.setTop (mkF m 222 #[.val (.long u0), .second, .val (.long u1), .second, .val (.long u2), .second, .val (.int sel), .val (.int (1 : Int32)), .val (.int x0), .val (.int x1), .val (.int x2), .val (.int y0), .val (.int y1), .val (.int y2), .val (.ref b44), .val (.ref b49), .val (.ref b57), .unset, .unset] [(.ref b49), (.ref b70), (.ref b70)]))
            refine own_callC X70 hx hZ (y := (⟨"com/example/antipode/antipode/net/Marking", "<init>", "([I)V"⟩ : MethodName)) hown rfl (hw _ (List.mem_of_getElem? (i := 4) rfl)) (hw _ (List.mem_of_getElem? (i := 5) rfl)) (hw _ (List.mem_of_getElem? (i := 3) rfl)) (hw _ (List.mem_of_getElem? (i := 6) rfl)) (by decide) (a := b70) (argsL := [(.ref b49)]) (rest := [(.ref b70)]) (rm := ({ frames := 1, cells := 0, slots := 0, locals := 12 } : Room)) (h := h70) (rm1 l Z a0 hw b70 b49 h70 n0 Z79 F80 A70 ge74) e70 (W := 1) (by decide) (by decide) (by decide) (by decide) (g := (mkF m 222 #[.val (.long u0), .second, .val (.long u1), .second, .val (.long u2), .second, .val (.int sel), .val (.int (1 : Int32)), .val (.int x0), .val (.int x1), .val (.int x2), .val (.int y0), .val (.int y1), .val (.int y2), .val (.ref b44), .val (.ref b49), .val (.ref b57), .unset, .unset] [(.ref b49), (.ref b70), (.ref b70)])) rfl (by rw [hml]; rfl) (lenOf pd_0 rfl) rfl (by show 2 * 0 + _ ≤ _; exact Nat.le_of_eq rfl) (hb hby at_222) (fun v81 T81 h81 L81 X81 e81 hQ81 => ?_)
            obtain ⟨rfl, Nq81, Kq81, Fq81⟩ := hQ81
            have N81 := Fr.app N65 Nq81
            have F82 := OAr.keep F75 Kq81 (ninS ne71 nin0)
            have F83 := OAr.keep F76 Kq81 (ninS ne72 nin0)
            have F84 := Exa.keep F77 Kq81
            have F85 := Fld.keep F78 Kq81 (ninS ne73 nin0)
            have F86 := Exa.keep A70 Kq81
            have Z87 := Nat.le_trans Z79 Kq81.1
            show OwnWk _ _ _ _ (T81.setTop (mkF m 225 #[.val (.long u0), .second, .val (.long u1), .second, .val (.long u2), .second, .val (.int sel), .val (.int (1 : Int32)), .val (.int x0), .val (.int x1), .val (.int x2), .val (.int y0), .val (.int y1), .val (.int y2), .val (.ref b44), .val (.ref b49), .val (.ref b57), .unset, .unset] [(.ref b70)]))
            refine own_go (fun t k => XS.astore X81.here hx rfl (hb hby at_225) rfl rfl (l' := #[.val (.long u0), .second, .val (.long u1), .second, .val (.long u2), .second, .val (.int sel), .val (.int (1 : Int32)), .val (.int x0), .val (.int x1), .val (.int x2), .val (.int y0), .val (.int y1), .val (.int y2), .val (.ref b44), .val (.ref b49), .val (.ref b57), .val (.ref b70), .unset]) rfl k) ?_
            show OwnWk _ _ _ _ (T81.setTop (mkF m 227 #[.val (.long u0), .second, .val (.long u1), .second, .val (.long u2), .second, .val (.int sel), .val (.int (1 : Int32)), .val (.int x0), .val (.int x1), .val (.int x2), .val (.int y0), .val (.int y1), .val (.int y2), .val (.ref b44), .val (.ref b49), .val (.ref b57), .val (.ref b70), .unset] []))
            refine own_go (fun t k => XS.aload X81.here hx rfl (hb hby at_227) rfl rfl  k) ?_
            show OwnWk _ _ _ _ (T81.setTop (mkF m 229 #[.val (.long u0), .second, .val (.long u1), .second, .val (.long u2), .second, .val (.int sel), .val (.int (1 : Int32)), .val (.int x0), .val (.int x1), .val (.int x2), .val (.int y0), .val (.int y1), .val (.int y2), .val (.ref b44), .val (.ref b49), .val (.ref b57), .val (.ref b70), .unset] [(.ref b57)]))
            refine own_go (fun t k => XS.aload X81.here hx rfl (hb hby at_229) rfl rfl  k) ?_
            show OwnWk _ _ _ _ (T81.setTop (mkF m 231 #[.val (.long u0), .second, .val (.long u1), .second, .val (.long u2), .second, .val (.int sel), .val (.int (1 : Int32)), .val (.int x0), .val (.int x1), .val (.int x2), .val (.int y0), .val (.int y1), .val (.int y2), .val (.ref b44), .val (.ref b49), .val (.ref b57), .val (.ref b70), .unset] [(.ref b70), (.ref b57)]))
            refine own_callV X81 hx hZ (y := (⟨"com/example/antipode/antipode/net/Marking", "strictlyCovers", "(Lcom/example/antipode/antipode/net/Marking;)I"⟩ : MethodName)) (z := (⟨"com/example/antipode/antipode/net/Marking", "strictlyCovers", "(Lcom/example/antipode/antipode/net/Marking;)I"⟩ : MethodName)) hown (hw _ (List.mem_of_getElem? (i := 12) rfl)) (hw _ (List.mem_of_getElem? (i := 13) rfl)) (notFace_of_selects (args := #[]) (mvT hZ (hw _ (List.mem_of_getElem? (i := 15) rfl)))) (hw _ (List.mem_of_getElem? (i := 15) rfl)) (hw _ (List.mem_of_getElem? (i := 14) rfl)) (hw _ (List.mem_of_getElem? (i := 3) rfl)) (hw _ (List.mem_of_getElem? (i := 16) rfl)) (by decide) (a := b57) F84 (argsL := [(.ref b70)]) (rest := []) (rm := ({ frames := 0, cells := 0, slots := 0, locals := 0 } : Room)) (h := h81) (rm3 l Z a0 hw b57 b70 b44 b49 [x0] [y0] h81 n0 Z87 F85 Fq81 F82 F83 rfl (by simp)) e81 (W := 0) (by decide) (by decide) (by decide) (by decide) (g := (mkF m 231 #[.val (.long u0), .second, .val (.long u1), .second, .val (.long u2), .second, .val (.int sel), .val (.int (1 : Int32)), .val (.int x0), .val (.int x1), .val (.int x2), .val (.int y0), .val (.int y1), .val (.int y2), .val (.ref b44), .val (.ref b49), .val (.ref b57), .val (.ref b70), .unset] [(.ref b70), (.ref b57)])) rfl (by rw [hml]; rfl) (lenOf pd_1 rfl) rfl (by show 2 * 0 + _ ≤ _; exact Nat.le_of_eq rfl) (hb hby at_231) (fun v88 T88 h88 L88 X88 e88 hQ88 => ?_)
            obtain ⟨rfl, Nq88, q88⟩ := hQ88
            have N88 := Fr.app N81 Nq88
            rw [q88] at e88
            show OwnWk _ _ _ _ (T88.setTop (mkF m 234 #[.val (.long u0), .second, .val (.long u1), .second, .val (.long u2), .second, .val (.int sel), .val (.int (1 : Int32)), .val (.int x0), .val (.int x1), .val (.int x2), .val (.int y0), .val (.int y1), .val (.int y2), .val (.ref b44), .val (.ref b49), .val (.ref b57), .val (.ref b70), .unset] [(.int (own_cov [x0] [y0] 0 (-1)))]))
            refine own_go (fun t k => XS.istore X88.here hx rfl (hb hby at_234) rfl (l' := #[.val (.long u0), .second, .val (.long u1), .second, .val (.long u2), .second, .val (.int sel), .val (.int (1 : Int32)), .val (.int x0), .val (.int x1), .val (.int x2), .val (.int y0), .val (.int y1), .val (.int y2), .val (.ref b44), .val (.ref b49), .val (.ref b57), .val (.ref b70), .val (.int (own_cov [x0] [y0] 0 (-1)))]) rfl k) ?_
            show OwnWk _ _ _ _ (T88.setTop (mkF m 236 #[.val (.long u0), .second, .val (.long u1), .second, .val (.long u2), .second, .val (.int sel), .val (.int (1 : Int32)), .val (.int x0), .val (.int x1), .val (.int x2), .val (.int y0), .val (.int y1), .val (.int y2), .val (.ref b44), .val (.ref b49), .val (.ref b57), .val (.ref b70), .val (.int (own_cov [x0] [y0] 0 (-1)))] []))
            refine own_go (fun t k => XS.iload X88.here hx rfl (hb hby at_236) rfl  k) ?_
            show OwnWk _ _ _ _ (T88.setTop (mkF m 238 #[.val (.long u0), .second, .val (.long u1), .second, .val (.long u2), .second, .val (.int sel), .val (.int (1 : Int32)), .val (.int x0), .val (.int x1), .val (.int x2), .val (.int y0), .val (.int y1), .val (.int y2), .val (.ref b44), .val (.ref b49), .val (.ref b57), .val (.ref b70), .val (.int (own_cov [x0] [y0] 0 (-1)))] [(.int (own_cov [x0] [y0] 0 (-1)))]))
            refine own_go (fun t k => XS.iload X88.here hx rfl (hb hby at_238) rfl  k) ?_
            show OwnWk _ _ _ _ (T88.setTop (mkF m 240 #[.val (.long u0), .second, .val (.long u1), .second, .val (.long u2), .second, .val (.int sel), .val (.int (1 : Int32)), .val (.int x0), .val (.int x1), .val (.int x2), .val (.int y0), .val (.int y1), .val (.int y2), .val (.ref b44), .val (.ref b49), .val (.ref b57), .val (.ref b70), .val (.int (own_cov [x0] [y0] 0 (-1)))] [(.int (1 : Int32)), (.int (own_cov [x0] [y0] 0 (-1)))]))
            refine own_go (fun t k => XS.iload X88.here hx rfl (hb hby at_240) rfl  k) ?_
            show OwnWk _ _ _ _ (T88.setTop (mkF m 242 #[.val (.long u0), .second, .val (.long u1), .second, .val (.long u2), .second, .val (.int sel), .val (.int (1 : Int32)), .val (.int x0), .val (.int x1), .val (.int x2), .val (.int y0), .val (.int y1), .val (.int y2), .val (.ref b44), .val (.ref b49), .val (.ref b57), .val (.ref b70), .val (.int (own_cov [x0] [y0] 0 (-1)))] [(.int x0), (.int (1 : Int32)), (.int (own_cov [x0] [y0] 0 (-1)))]))
            refine own_go (fun t k => XS.iload X88.here hx rfl (hb hby at_242) rfl  k) ?_
            show OwnWk _ _ _ _ (T88.setTop (mkF m 244 #[.val (.long u0), .second, .val (.long u1), .second, .val (.long u2), .second, .val (.int sel), .val (.int (1 : Int32)), .val (.int x0), .val (.int x1), .val (.int x2), .val (.int y0), .val (.int y1), .val (.int y2), .val (.ref b44), .val (.ref b49), .val (.ref b57), .val (.ref b70), .val (.int (own_cov [x0] [y0] 0 (-1)))] [(.int x1), (.int x0), (.int (1 : Int32)), (.int (own_cov [x0] [y0] 0 (-1)))]))
            refine own_go (fun t k => XS.iload X88.here hx rfl (hb hby at_244) rfl  k) ?_
            show OwnWk _ _ _ _ (T88.setTop (mkF m 246 #[.val (.long u0), .second, .val (.long u1), .second, .val (.long u2), .second, .val (.int sel), .val (.int (1 : Int32)), .val (.int x0), .val (.int x1), .val (.int x2), .val (.int y0), .val (.int y1), .val (.int y2), .val (.ref b44), .val (.ref b49), .val (.ref b57), .val (.ref b70), .val (.int (own_cov [x0] [y0] 0 (-1)))] [(.int x2), (.int x1), (.int x0), (.int (1 : Int32)), (.int (own_cov [x0] [y0] 0 (-1)))]))
            refine own_go (fun t k => XS.iload X88.here hx rfl (hb hby at_246) rfl  k) ?_
            show OwnWk _ _ _ _ (T88.setTop (mkF m 248 #[.val (.long u0), .second, .val (.long u1), .second, .val (.long u2), .second, .val (.int sel), .val (.int (1 : Int32)), .val (.int x0), .val (.int x1), .val (.int x2), .val (.int y0), .val (.int y1), .val (.int y2), .val (.ref b44), .val (.ref b49), .val (.ref b57), .val (.ref b70), .val (.int (own_cov [x0] [y0] 0 (-1)))] [(.int y0), (.int x2), (.int x1), (.int x0), (.int (1 : Int32)), (.int (own_cov [x0] [y0] 0 (-1)))]))
            refine own_go (fun t k => XS.iload X88.here hx rfl (hb hby at_248) rfl  k) ?_
            show OwnWk _ _ _ _ (T88.setTop (mkF m 250 #[.val (.long u0), .second, .val (.long u1), .second, .val (.long u2), .second, .val (.int sel), .val (.int (1 : Int32)), .val (.int x0), .val (.int x1), .val (.int x2), .val (.int y0), .val (.int y1), .val (.int y2), .val (.ref b44), .val (.ref b49), .val (.ref b57), .val (.ref b70), .val (.int (own_cov [x0] [y0] 0 (-1)))] [(.int y1), (.int y0), (.int x2), (.int x1), (.int x0), (.int (1 : Int32)), (.int (own_cov [x0] [y0] 0 (-1)))]))
            refine own_go (fun t k => XS.iload X88.here hx rfl (hb hby at_250) rfl  k) ?_
            show OwnWk _ _ _ _ (T88.setTop (mkF m 252 #[.val (.long u0), .second, .val (.long u1), .second, .val (.long u2), .second, .val (.int sel), .val (.int (1 : Int32)), .val (.int x0), .val (.int x1), .val (.int x2), .val (.int y0), .val (.int y1), .val (.int y2), .val (.ref b44), .val (.ref b49), .val (.ref b57), .val (.ref b70), .val (.int (own_cov [x0] [y0] 0 (-1)))] [(.int y2), (.int y1), (.int y0), (.int x2), (.int x1), (.int x0), (.int (1 : Int32)), (.int (own_cov [x0] [y0] 0 (-1)))]))
            refine own_callS X88 hx hZ (y := (⟨"com/example/antipode/antipode/net/MarkingStrictlyCoversPinLaw", "reference", "(IIIIIII)I"⟩ : MethodName)) hown (hw _ (List.mem_of_getElem? (i := 17) rfl)) (hw _ (List.mem_of_getElem? (i := 18) rfl)) (hw _ (List.mem_of_getElem? (i := 19) rfl)) (hw _ (List.mem_of_getElem? (i := 20) rfl)) (by decide) (argsL := [(.int (1 : Int32)), (.int x0), (.int x1), (.int x2), (.int y0), (.int y1), (.int y2)]) (rest := [(.int (own_cov [x0] [y0] 0 (-1)))]) (rm := ({ frames := 0, cells := 0, slots := 0, locals := 0 } : Room)) (h := h81) (rm4 l Z a0 hw (1 : Int32) x0 x1 x2 y0 y1 y2 h81 n0 Z87) e88 (W := 1) (by decide) (by decide) (by decide) (by decide) (g := (mkF m 252 #[.val (.long u0), .second, .val (.long u1), .second, .val (.long u2), .second, .val (.int sel), .val (.int (1 : Int32)), .val (.int x0), .val (.int x1), .val (.int x2), .val (.int y0), .val (.int y1), .val (.int y2), .val (.ref b44), .val (.ref b49), .val (.ref b57), .val (.ref b70), .val (.int (own_cov [x0] [y0] 0 (-1)))] [(.int y2), (.int y1), (.int y0), (.int x2), (.int x1), (.int x0), (.int (1 : Int32)), (.int (own_cov [x0] [y0] 0 (-1)))])) rfl (by rw [hml]; rfl) (lenOf pd_2 rfl) rfl (by show 2 * 0 + _ ≤ _; exact Nat.le_of_eq rfl) (hb hby at_252) (fun v89 T89 h89 L89 X89 e89 hQ89 => ?_)
            obtain ⟨rfl, Nq89, q89⟩ := hQ89
            have N89 := Fr.app N88 Nq89
            rw [q89] at e89
            show OwnWk _ _ _ _ (T89.setTop (mkF m 255 #[.val (.long u0), .second, .val (.long u1), .second, .val (.long u2), .second, .val (.int sel), .val (.int (1 : Int32)), .val (.int x0), .val (.int x1), .val (.int x2), .val (.int y0), .val (.int y1), .val (.int y2), .val (.ref b44), .val (.ref b49), .val (.ref b57), .val (.ref b70), .val (.int (own_cov [x0] [y0] 0 (-1)))] [(.int (own_ref (1 : Int32) x0 x1 x2 y0 y1 y2)), (.int (own_cov [x0] [y0] 0 (-1)))]))
            refine own_go (fun t k => XS.icmpNo X89.here hx rfl (hb hby at_255) rfl (teq (own_last1 x0 x1 x2 y0 y1 y2)).2 k) ?_
            show OwnWk _ _ _ _ (T89.setTop (mkF m 258 #[.val (.long u0), .second, .val (.long u1), .second, .val (.long u2), .second, .val (.int sel), .val (.int (1 : Int32)), .val (.int x0), .val (.int x1), .val (.int x2), .val (.int y0), .val (.int y1), .val (.int y2), .val (.ref b44), .val (.ref b49), .val (.ref b57), .val (.ref b70), .val (.int (own_cov [x0] [y0] 0 (-1)))] []))
            refine own_go (fun t k => XS.iconst X89.here hx rfl (hb hby at_258) k) ?_
            show OwnWk _ _ _ _ (T89.setTop (mkF m 259 #[.val (.long u0), .second, .val (.long u1), .second, .val (.long u2), .second, .val (.int sel), .val (.int (1 : Int32)), .val (.int x0), .val (.int x1), .val (.int x2), .val (.int y0), .val (.int y1), .val (.int y2), .val (.ref b44), .val (.ref b49), .val (.ref b57), .val (.ref b70), .val (.int (own_cov [x0] [y0] 0 (-1)))] [(.int (1 : Int32))]))
            refine own_go (fun t k => XS.goto X89.here hx rfl (pc0 := 259) (pc' := 263) rfl (hb hby at_259) (by decide) (by decide) k) ?_
            show OwnWk _ _ _ _ (T89.setTop (mkF m 263 #[.val (.long u0), .second, .val (.long u1), .second, .val (.long u2), .second, .val (.int sel), .val (.int (1 : Int32)), .val (.int x0), .val (.int x1), .val (.int x2), .val (.int y0), .val (.int y1), .val (.int y2), .val (.ref b44), .val (.ref b49), .val (.ref b57), .val (.ref b70), .val (.int (own_cov [x0] [y0] 0 (-1)))] [(.int (1 : Int32))]))
            exact own_retZ X89 hx hlk hret (by simp) (z' := (1 : Int32)) rfl (hb hby at_263) (by decide) (by decide) (by rw [e89]; exact ⟨rfl, N89⟩)
          ·
            refine own_go (fun t k => XS.icmpYes X0.here hx rfl (pc0 := 100) (pc' := 126) rfl (hb hby at_100) rfl (feq hc43).2 (by decide) (by decide) k) ?_
            show OwnWk _ _ _ _ (s₁.setTop (mkF m 126 #[.val (.long u0), .second, .val (.long u1), .second, .val (.long u2), .second, .val (.int sel), .val (.int n1), .val (.int x0), .val (.int x1), .val (.int x2), .val (.int y0), .val (.int y1), .val (.int y2), .unset, .unset, .unset, .unset, .unset] []))
            refine own_go (fun t k => XS.iload X0.here hx rfl (hb hby at_126) rfl  k) ?_
            show OwnWk _ _ _ _ (s₁.setTop (mkF m 128 #[.val (.long u0), .second, .val (.long u1), .second, .val (.long u2), .second, .val (.int sel), .val (.int n1), .val (.int x0), .val (.int x1), .val (.int x2), .val (.int y0), .val (.int y1), .val (.int y2), .unset, .unset, .unset, .unset, .unset] [(.int n1)]))
            refine own_go (fun t k => XS.iconst X0.here hx rfl (hb hby at_128) k) ?_
            show OwnWk _ _ _ _ (s₁.setTop (mkF m 129 #[.val (.long u0), .second, .val (.long u1), .second, .val (.long u2), .second, .val (.int sel), .val (.int n1), .val (.int x0), .val (.int x1), .val (.int x2), .val (.int y0), .val (.int y1), .val (.int y2), .unset, .unset, .unset, .unset, .unset] [(.int (2 : Int32)), (.int n1)]))
            by_cases hc90 : n1 = (2 : Int32)
            ·
              refine own_go (fun t k => XS.icmpNo X0.here hx rfl (hb hby at_129) rfl (teq hc90).2 k) ?_
              show OwnWk _ _ _ _ (s₁.setTop (mkF m 132 #[.val (.long u0), .second, .val (.long u1), .second, .val (.long u2), .second, .val (.int sel), .val (.int n1), .val (.int x0), .val (.int x1), .val (.int x2), .val (.int y0), .val (.int y1), .val (.int y2), .unset, .unset, .unset, .unset, .unset] []))
              subst hc90
              show OwnWk _ _ _ _ (s₁.setTop (mkF m 132 #[.val (.long u0), .second, .val (.long u1), .second, .val (.long u2), .second, .val (.int sel), .val (.int (2 : Int32)), .val (.int x0), .val (.int x1), .val (.int x2), .val (.int y0), .val (.int y1), .val (.int y2), .unset, .unset, .unset, .unset, .unset] []))
              refine own_go (fun t k => XS.iconst X0.here hx rfl (hb hby at_132) k) ?_
              show OwnWk _ _ _ _ (s₁.setTop (mkF m 133 #[.val (.long u0), .second, .val (.long u1), .second, .val (.long u2), .second, .val (.int sel), .val (.int (2 : Int32)), .val (.int x0), .val (.int x1), .val (.int x2), .val (.int y0), .val (.int y1), .val (.int y2), .unset, .unset, .unset, .unset, .unset] [(.int (2 : Int32))]))
              refine own_newP X0 hx hZ (aty := .int) (hw _ (List.mem_of_getElem? (i := 0) rfl)) e0 (g := (mkF m 133 #[.val (.long u0), .second, .val (.long u1), .second, .val (.long u2), .second, .val (.int sel), .val (.int (2 : Int32)), .val (.int x0), .val (.int x1), .val (.int x2), .val (.int y0), .val (.int y1), .val (.int y2), .unset, .unset, .unset, .unset, .unset] [(.int (2 : Int32))])) rfl (hb hby at_133) rfl (by decide) (cap := 2) (by decide) (by decide) (by decide) (by decide) (fun T91 h91 b91 X91 e91 g91 E91 V91 => ?_)
              have ge92 : n0 ≤ b91 := Nat.le_trans Z0 (Nat.le_of_eq g91.symm)
              have Z93 := Nat.le_trans Z0 E91.1
              have V91b : OAr Z h91 b91 .int [(.int (0 : Int32)), (.int (0 : Int32))] := V91
              show OwnWk _ _ _ _ (T91.setTop (mkF m 135 #[.val (.long u0), .second, .val (.long u1), .second, .val (.long u2), .second, .val (.int sel), .val (.int (2 : Int32)), .val (.int x0), .val (.int x1), .val (.int x2), .val (.int y0), .val (.int y1), .val (.int y2), .unset, .unset, .unset, .unset, .unset] [(.ref b91)]))
              refine own_go (fun t k => XS.dup X91.here hx rfl (hb hby at_135) rfl rfl k) ?_
              show OwnWk _ _ _ _ (T91.setTop (mkF m 136 #[.val (.long u0), .second, .val (.long u1), .second, .val (.long u2), .second, .val (.int sel), .val (.int (2 : Int32)), .val (.int x0), .val (.int x1), .val (.int x2), .val (.int y0), .val (.int y1), .val (.int y2), .unset, .unset, .unset, .unset, .unset] [(.ref b91), (.ref b91)]))
              refine own_go (fun t k => XS.iconst X91.here hx rfl (hb hby at_136) k) ?_
              show OwnWk _ _ _ _ (T91.setTop (mkF m 137 #[.val (.long u0), .second, .val (.long u1), .second, .val (.long u2), .second, .val (.int sel), .val (.int (2 : Int32)), .val (.int x0), .val (.int x1), .val (.int x2), .val (.int y0), .val (.int y1), .val (.int y2), .unset, .unset, .unset, .unset, .unset] [(.int (0 : Int32)), (.ref b91), (.ref b91)]))
              refine own_go (fun t k => XS.iload X91.here hx rfl (hb hby at_137) rfl  k) ?_
              show OwnWk _ _ _ _ (T91.setTop (mkF m 139 #[.val (.long u0), .second, .val (.long u1), .second, .val (.long u2), .second, .val (.int sel), .val (.int (2 : Int32)), .val (.int x0), .val (.int x1), .val (.int x2), .val (.int y0), .val (.int y1), .val (.int y2), .unset, .unset, .unset, .unset, .unset] [(.int x0), (.int (0 : Int32)), (.ref b91), (.ref b91)]))
              refine own_stI X91 hx hZ e91 V91b (g := (mkF m 139 #[.val (.long u0), .second, .val (.long u1), .second, .val (.long u2), .second, .val (.int sel), .val (.int (2 : Int32)), .val (.int x0), .val (.int x1), .val (.int x2), .val (.int y0), .val (.int y1), .val (.int y2), .unset, .unset, .unset, .unset, .unset] [(.int x0), (.int (0 : Int32)), (.ref b91), (.ref b91)])) rfl rfl (hb hby at_139) (by decide) (Nat.le_of_ble_eq_true rfl) (fun T94 h94 X94 e94 W94 V94 => ?_)
              have N94 := Fr.snoc X94 N0 ge92
              have Z95 := Nat.le_trans Z93 (Keep.of_wr W94).1
              show OwnWk _ _ _ _ (T94.setTop (mkF m 140 #[.val (.long u0), .second, .val (.long u1), .second, .val (.long u2), .second, .val (.int sel), .val (.int (2 : Int32)), .val (.int x0), .val (.int x1), .val (.int x2), .val (.int y0), .val (.int y1), .val (.int y2), .unset, .unset, .unset, .unset, .unset] [(.ref b91)]))
              refine own_go (fun t k => XS.dup X94.here hx rfl (hb hby at_140) rfl rfl k) ?_
              show OwnWk _ _ _ _ (T94.setTop (mkF m 141 #[.val (.long u0), .second, .val (.long u1), .second, .val (.long u2), .second, .val (.int sel), .val (.int (2 : Int32)), .val (.int x0), .val (.int x1), .val (.int x2), .val (.int y0), .val (.int y1), .val (.int y2), .unset, .unset, .unset, .unset, .unset] [(.ref b91), (.ref b91)]))
              refine own_go (fun t k => XS.iconst X94.here hx rfl (hb hby at_141) k) ?_
              show OwnWk _ _ _ _ (T94.setTop (mkF m 142 #[.val (.long u0), .second, .val (.long u1), .second, .val (.long u2), .second, .val (.int sel), .val (.int (2 : Int32)), .val (.int x0), .val (.int x1), .val (.int x2), .val (.int y0), .val (.int y1), .val (.int y2), .unset, .unset, .unset, .unset, .unset] [(.int (1 : Int32)), (.ref b91), (.ref b91)]))
              refine own_go (fun t k => XS.iload X94.here hx rfl (hb hby at_142) rfl  k) ?_
              show OwnWk _ _ _ _ (T94.setTop (mkF m 144 #[.val (.long u0), .second, .val (.long u1), .second, .val (.long u2), .second, .val (.int sel), .val (.int (2 : Int32)), .val (.int x0), .val (.int x1), .val (.int x2), .val (.int y0), .val (.int y1), .val (.int y2), .unset, .unset, .unset, .unset, .unset] [(.int x1), (.int (1 : Int32)), (.ref b91), (.ref b91)]))
              refine own_stI X94 hx hZ e94 V94 (g := (mkF m 144 #[.val (.long u0), .second, .val (.long u1), .second, .val (.long u2), .second, .val (.int sel), .val (.int (2 : Int32)), .val (.int x0), .val (.int x1), .val (.int x2), .val (.int y0), .val (.int y1), .val (.int y2), .unset, .unset, .unset, .unset, .unset] [(.int x1), (.int (1 : Int32)), (.ref b91), (.ref b91)])) rfl rfl (hb hby at_144) (by decide) (Nat.le_of_ble_eq_true rfl) (fun T96 h96 X96 e96 W96 V96 => ?_)
              have N96 := Fr.snoc X96 N94 ge92
              have Z97 := Nat.le_trans Z95 (Keep.of_wr W96).1
              show OwnWk _ _ _ _ (T96.setTop (mkF m 145 #[.val (.long u0), .second, .val (.long u1), .second, .val (.long u2), .second, .val (.int sel), .val (.int (2 : Int32)), .val (.int x0), .val (.int x1), .val (.int x2), .val (.int y0), .val (.int y1), .val (.int y2), .unset, .unset, .unset, .unset, .unset] [(.ref b91)]))
              refine own_go (fun t k => XS.astore X96.here hx rfl (hb hby at_145) rfl rfl (l' := #[.val (.long u0), .second, .val (.long u1), .second, .val (.long u2), .second, .val (.int sel), .val (.int (2 : Int32)), .val (.int x0), .val (.int x1), .val (.int x2), .val (.int y0), .val (.int y1), .val (.int y2), .val (.ref b91), .unset, .unset, .unset, .unset]) rfl k) ?_
              show OwnWk _ _ _ _ (T96.setTop (mkF m 147 #[.val (.long u0), .second, .val (.long u1), .second, .val (.long u2), .second, .val (.int sel), .val (.int (2 : Int32)), .val (.int x0), .val (.int x1), .val (.int x2), .val (.int y0), .val (.int y1), .val (.int y2), .val (.ref b91), .unset, .unset, .unset, .unset] []))
              refine own_go (fun t k => XS.iconst X96.here hx rfl (hb hby at_147) k) ?_
              show OwnWk _ _ _ _ (T96.setTop (mkF m 148 #[.val (.long u0), .second, .val (.long u1), .second, .val (.long u2), .second, .val (.int sel), .val (.int (2 : Int32)), .val (.int x0), .val (.int x1), .val (.int x2), .val (.int y0), .val (.int y1), .val (.int y2), .val (.ref b91), .unset, .unset, .unset, .unset] [(.int (2 : Int32))]))
              refine own_newP X96 hx hZ (aty := .int) (hw _ (List.mem_of_getElem? (i := 0) rfl)) e96 (g := (mkF m 148 #[.val (.long u0), .second, .val (.long u1), .second, .val (.long u2), .second, .val (.int sel), .val (.int (2 : Int32)), .val (.int x0), .val (.int x1), .val (.int x2), .val (.int y0), .val (.int y1), .val (.int y2), .val (.ref b91), .unset, .unset, .unset, .unset] [(.int (2 : Int32))])) rfl (hb hby at_148) rfl (by decide) (cap := 2) (by decide) (by decide) (by decide) (by decide) (fun T98 h98 b98 X98 e98 g98 E98 V98 => ?_)
              have ne99 : b91 ≠ b98 := Nat.ne_of_lt (Nat.lt_of_lt_of_le V96.lt (Nat.le_of_eq g98.symm))
              have ge100 : n0 ≤ b98 := Nat.le_trans Z97 (Nat.le_of_eq g98.symm)
              have F101 := OAr.ext V96 E98
              have Z102 := Nat.le_trans Z97 E98.1
              have V98b : OAr Z h98 b98 .int [(.int (0 : Int32)), (.int (0 : Int32))] := V98
              show OwnWk _ _ _ _ (T98.setTop (mkF m 150 #[.val (.long u0), .second, .val (.long u1), .second, .val (.long u2), .second, .val (.int sel), .val (.int (2 : Int32)), .val (.int x0), .val (.int x1), .val (.int x2), .val (.int y0), .val (.int y1), .val (.int y2), .val (.ref b91), .unset, .unset, .unset, .unset] [(.ref b98)]))
              refine own_go (fun t k => XS.dup X98.here hx rfl (hb hby at_150) rfl rfl k) ?_
              show OwnWk _ _ _ _ (T98.setTop (mkF m 151 #[.val (.long u0), .second, .val (.long u1), .second, .val (.long u2), .second, .val (.int sel), .val (.int (2 : Int32)), .val (.int x0), .val (.int x1), .val (.int x2), .val (.int y0), .val (.int y1), .val (.int y2), .val (.ref b91), .unset, .unset, .unset, .unset] [(.ref b98), (.ref b98)]))
              refine own_go (fun t k => XS.iconst X98.here hx rfl (hb hby at_151) k) ?_
              show OwnWk _ _ _ _ (T98.setTop (mkF m 152 #[.val (.long u0), .second, .val (.long u1), .second, .val (.long u2), .second, .val (.int sel), .val (.int (2 : Int32)), .val (.int x0), .val (.int x1), .val (.int x2), .val (.int y0), .val (.int y1), .val (.int y2), .val (.ref b91), .unset, .unset, .unset, .unset] [(.int (0 : Int32)), (.ref b98), (.ref b98)]))
              refine own_go (fun t k => XS.iload X98.here hx rfl (hb hby at_152) rfl  k) ?_
              show OwnWk _ _ _ _ (T98.setTop (mkF m 154 #[.val (.long u0), .second, .val (.long u1), .second, .val (.long u2), .second, .val (.int sel), .val (.int (2 : Int32)), .val (.int x0), .val (.int x1), .val (.int x2), .val (.int y0), .val (.int y1), .val (.int y2), .val (.ref b91), .unset, .unset, .unset, .unset] [(.int y0), (.int (0 : Int32)), (.ref b98), (.ref b98)]))
              refine own_stI X98 hx hZ e98 V98b (g := (mkF m 154 #[.val (.long u0), .second, .val (.long u1), .second, .val (.long u2), .second, .val (.int sel), .val (.int (2 : Int32)), .val (.int x0), .val (.int x1), .val (.int x2), .val (.int y0), .val (.int y1), .val (.int y2), .val (.ref b91), .unset, .unset, .unset, .unset] [(.int y0), (.int (0 : Int32)), (.ref b98), (.ref b98)])) rfl rfl (hb hby at_154) (by decide) (Nat.le_of_ble_eq_true rfl) (fun T103 h103 X103 e103 W103 V103 => ?_)
              have N103 := Fr.snoc X103 N96 ge100
              have F104 := OAr.other F101 W103 ne99
              have Z105 := Nat.le_trans Z102 (Keep.of_wr W103).1
              show OwnWk _ _ _ _ (T103.setTop (mkF m 155 #[.val (.long u0), .second, .val (.long u1), .second, .val (.long u2), .second, .val (.int sel), .val (.int (2 : Int32)), .val (.int x0), .val (.int x1), .val (.int x2), .val (.int y0), .val (.int y1), .val (.int y2), .val (.ref b91), .unset, .unset, .unset, .unset] [(.ref b98)]))
              refine own_go (fun t k => XS.dup X103.here hx rfl (hb hby at_155) rfl rfl k) ?_
              show OwnWk _ _ _ _ (T103.setTop (mkF m 156 #[.val (.long u0), .second, .val (.long u1), .second, .val (.long u2), .second, .val (.int sel), .val (.int (2 : Int32)), .val (.int x0), .val (.int x1), .val (.int x2), .val (.int y0), .val (.int y1), .val (.int y2), .val (.ref b91), .unset, .unset, .unset, .unset] [(.ref b98), (.ref b98)]))
              refine own_go (fun t k => XS.iconst X103.here hx rfl (hb hby at_156) k) ?_
              show OwnWk _ _ _ _ (T103.setTop (mkF m 157 #[.val (.long u0), .second, .val (.long u1), .second, .val (.long u2), .second, .val (.int sel), .val (.int (2 : Int32)), .val (.int x0), .val (.int x1), .val (.int x2), .val (.int y0), .val (.int y1), .val (.int y2), .val (.ref b91), .unset, .unset, .unset, .unset] [(.int (1 : Int32)), (.ref b98), (.ref b98)]))
              refine own_go (fun t k => XS.iload X103.here hx rfl (hb hby at_157) rfl  k) ?_
              show OwnWk _ _ _ _ (T103.setTop (mkF m 159 #[.val (.long u0), .second, .val (.long u1), .second, .val (.long u2), .second, .val (.int sel), .val (.int (2 : Int32)), .val (.int x0), .val (.int x1), .val (.int x2), .val (.int y0), .val (.int y1), .val (.int y2), .val (.ref b91), .unset, .unset, .unset, .unset] [(.int y1), (.int (1 : Int32)), (.ref b98), (.ref b98)]))
              refine own_stI X103 hx hZ e103 V103 (g := (mkF m 159 #[.val (.long u0), .second, .val (.long u1), .second, .val (.long u2), .second, .val (.int sel), .val (.int (2 : Int32)), .val (.int x0), .val (.int x1), .val (.int x2), .val (.int y0), .val (.int y1), .val (.int y2), .val (.ref b91), .unset, .unset, .unset, .unset] [(.int y1), (.int (1 : Int32)), (.ref b98), (.ref b98)])) rfl rfl (hb hby at_159) (by decide) (Nat.le_of_ble_eq_true rfl) (fun T106 h106 X106 e106 W106 V106 => ?_)
              have N106 := Fr.snoc X106 N103 ge100
              have F107 := OAr.other F104 W106 ne99
              have Z108 := Nat.le_trans Z105 (Keep.of_wr W106).1
              show OwnWk _ _ _ _ (T106.setTop (mkF m 160 #[.val (.long u0), .second, .val (.long u1), .second, .val (.long u2), .second, .val (.int sel), .val (.int (2 : Int32)), .val (.int x0), .val (.int x1), .val (.int x2), .val (.int y0), .val (.int y1), .val (.int y2), .val (.ref b91), .unset, .unset, .unset, .unset] [(.ref b98)]))
              refine own_go (fun t k => XS.astore X106.here hx rfl (hb hby at_160) rfl rfl (l' := #[.val (.long u0), .second, .val (.long u1), .second, .val (.long u2), .second, .val (.int sel), .val (.int (2 : Int32)), .val (.int x0), .val (.int x1), .val (.int x2), .val (.int y0), .val (.int y1), .val (.int y2), .val (.ref b91), .val (.ref b98), .unset, .unset, .unset]) rfl k) ?_
              show OwnWk _ _ _ _ (T106.setTop (mkF m 162 #[.val (.long u0), .second, .val (.long u1), .second, .val (.long u2), .second, .val (.int sel), .val (.int (2 : Int32)), .val (.int x0), .val (.int x1), .val (.int x2), .val (.int y0), .val (.int y1), .val (.int y2), .val (.ref b91), .val (.ref b98), .unset, .unset, .unset] []))
              refine own_go (fun t k => XS.goto X106.here hx rfl (pc0 := 162) (pc' := 205) rfl (hb hby at_162) (by decide) (by decide) k) ?_
              show OwnWk _ _ _ _ (T106.setTop (mkF m 205 #[.val (.long u0), .second, .val (.long u1), .second, .val (.long u2), .second, .val (.int sel), .val (.int (2 : Int32)), .val (.int x0), .val (.int x1), .val (.int x2), .val (.int y0), .val (.int y1), .val (.int y2), .val (.ref b91), .val (.ref b98), .unset, .unset, .unset] []))
              obtain ⟨T109, h109, X109, e109, E109, A109, D109, -, st109⟩ := newO X106 hx hZ hown (hw _ (List.mem_of_getElem? (i := 1) rfl)) (hw _ (List.mem_of_getElem? (i := 2) rfl)) (hw _ (List.mem_of_getElem? (i := 3) rfl)) e106 (g := (mkF m 205 #[.val (.long u0), .second, .val (.long u1), .second, .val (.long u2), .second, .val (.int sel), .val (.int (2 : Int32)), .val (.int x0), .val (.int x1), .val (.int x2), .val (.int y0), .val (.int y1), .val (.int y2), .val (.ref b91), .val (.ref b98), .unset, .unset, .unset] [])) rfl (hb hby at_205) (by decide) (by decide)
              obtain ⟨b109, g109⟩ : ∃ z, z = h106.size := ⟨_, rfl⟩
              rw [← g109] at A109 D109 st109
              refine own_go st109 ?_
              have ne110 : b91 ≠ b109 := Nat.ne_of_lt (Nat.lt_of_lt_of_le F107.lt (Nat.le_of_eq g109.symm))
              have ne111 : b98 ≠ b109 := Nat.ne_of_lt (Nat.lt_of_lt_of_le V106.lt (Nat.le_of_eq g109.symm))
              have ge112 : n0 ≤ b109 := Nat.le_trans Z108 (Nat.le_of_eq g109.symm)
              have F113 := OAr.ext F107 E109
              have F114 := OAr.ext V106 E109
              have Z115 := Nat.le_trans Z108 E109.1
              have F116 : Fld Z h109 b109 "com/example/antipode/antipode/net/Marking" "tokens" "[I" .null := D109 (Or.inr (hw _ (List.mem_of_getElem? (i := 11) rfl))) (ty := (.array .int)) (by decide)
              show OwnWk _ _ _ _ (T109.setTop (mkF m 208 #[.val (.long u0), .second, .val (.long u1), .second, .val (.long u2), .second, .val (.int sel), .val (.int (2 : Int32)), .val (.int x0), .val (.int x1), .val (.int x2), .val (.int y0), .val (.int y1), .val (.int y2), .val (.ref b91), .val (.ref b98), .unset, .unset, .unset] [(.ref b109)]))
              refine own_go (fun t k => XS.dup X109.here hx rfl (hb hby at_208) rfl rfl k) ?_
              show OwnWk _ _ _ _ (T109.setTop (mkF m 209 #[.val (.long u0), .second, .val (.long u1), .second, .val (.long u2), .second, .val (.int sel), .val (.int (2 : Int32)), .val (.int x0), .val (.int x1), .val (.int x2), .val (.int y0), .val (.int y1), .val (.int y2), .val (.ref b91), .val (.ref b98), .unset, .unset, .unset] [(.ref b109), (.ref b109)]))
              refine own_go (fun t k => XS.aload X109.here hx rfl (hb hby at_209) rfl rfl  k) ?_
              show OwnWk _ _ _ _ (T109.setTop (mkF m 211 #[.val (.long u0), .second, .val (.long u1), .second, .val (.long u2), .second, .val (.int sel), .val (.int (2 : Int32)), .val (.int x0), .val (.int x1), .val (.int x2), .val (.int y0), .val (.int y1), .val (.int y2), .val (.ref b91), .val (.ref b98), .unset, .unset, .unset] [(.ref b91), (.ref b109), (.ref b109)]))
              refine own_callC X109 hx hZ (y := (⟨"com/example/antipode/antipode/net/Marking", "<init>", "([I)V"⟩ : MethodName)) hown rfl (hw _ (List.mem_of_getElem? (i := 4) rfl)) (hw _ (List.mem_of_getElem? (i := 5) rfl)) (hw _ (List.mem_of_getElem? (i := 3) rfl)) (hw _ (List.mem_of_getElem? (i := 6) rfl)) (by decide) (a := b109) (argsL := [(.ref b91)]) (rest := [(.ref b109)]) (rm := ({ frames := 1, cells := 0, slots := 0, locals := 12 } : Room)) (h := h109) (rm1 l Z a0 hw b109 b91 h109 n0 Z115 F116 A109 ge112) e109 (W := 1) (by decide) (by decide) (by decide) (by decide) (g := (mkF m 211 #[.val (.long u0), .second, .val (.long u1), .second, .val (.long u2), .second, .val (.int sel), .val (.int (2 : Int32)), .val (.int x0), .val (.int x1), .val (.int x2), .val (.int y0), .val (.int y1), .val (.int y2), .val (.ref b91), .val (.ref b98), .unset, .unset, .unset] [(.ref b91), (.ref b109), (.ref b109)])) rfl (by rw [hml]; rfl) (lenOf pd_0 rfl) rfl (by show 2 * 0 + _ ≤ _; exact Nat.le_of_eq rfl) (hb hby at_211) (fun v117 T117 h117 L117 X117 e117 hQ117 => ?_)
              obtain ⟨rfl, Nq117, Kq117, Fq117⟩ := hQ117
              have N117 := Fr.app N106 Nq117
              have F118 := OAr.keep F113 Kq117 (ninS ne110 nin0)
              have F119 := OAr.keep F114 Kq117 (ninS ne111 nin0)
              have F120 := Exa.keep A109 Kq117
              have Z121 := Nat.le_trans Z115 Kq117.1
              show OwnWk _ _ _ _ (T117.setTop (mkF m 214 #[.val (.long u0), .second, .val (.long u1), .second, .val (.long u2), .second, .val (.int sel), .val (.int (2 : Int32)), .val (.int x0), .val (.int x1), .val (.int x2), .val (.int y0), .val (.int y1), .val (.int y2), .val (.ref b91), .val (.ref b98), .unset, .unset, .unset] [(.ref b109)]))
              refine own_go (fun t k => XS.astore X117.here hx rfl (hb hby at_214) rfl rfl (l' := #[.val (.long u0), .second, .val (.long u1), .second, .val (.long u2), .second, .val (.int sel), .val (.int (2 : Int32)), .val (.int x0), .val (.int x1), .val (.int x2), .val (.int y0), .val (.int y1), .val (.int y2), .val (.ref b91), .val (.ref b98), .val (.ref b109), .unset, .unset]) rfl k) ?_
              show OwnWk _ _ _ _ (T117.setTop (mkF m 216 #[.val (.long u0), .second, .val (.long u1), .second, .val (.long u2), .second, .val (.int sel), .val (.int (2 : Int32)), .val (.int x0), .val (.int x1), .val (.int x2), .val (.int y0), .val (.int y1), .val (.int y2), .val (.ref b91), .val (.ref b98), .val (.ref b109), .unset, .unset] []))
              obtain ⟨T122, h122, X122, e122, E122, A122, D122, -, st122⟩ := newO X117 hx hZ hown (hw _ (List.mem_of_getElem? (i := 1) rfl)) (hw _ (List.mem_of_getElem? (i := 2) rfl)) (hw _ (List.mem_of_getElem? (i := 3) rfl)) e117 (g := (mkF m 216 #[.val (.long u0), .second, .val (.long u1), .second, .val (.long u2), .second, .val (.int sel), .val (.int (2 : Int32)), .val (.int x0), .val (.int x1), .val (.int x2), .val (.int y0), .val (.int y1), .val (.int y2), .val (.ref b91), .val (.ref b98), .val (.ref b109), .unset, .unset] [])) rfl (hb hby at_216) (by decide) (by decide)
              obtain ⟨b122, g122⟩ : ∃ z, z = h117.size := ⟨_, rfl⟩
              rw [← g122] at A122 D122 st122
              refine own_go st122 ?_
              have ne123 : b91 ≠ b122 := Nat.ne_of_lt (Nat.lt_of_lt_of_le F118.lt (Nat.le_of_eq g122.symm))
              have ne124 : b98 ≠ b122 := Nat.ne_of_lt (Nat.lt_of_lt_of_le F119.lt (Nat.le_of_eq g122.symm))
              have ne125 : b109 ≠ b122 := Nat.ne_of_lt (Nat.lt_of_lt_of_le F120.lt (Nat.le_of_eq g122.symm))
              have ge126 : n0 ≤ b122 := Nat.le_trans Z121 (Nat.le_of_eq g122.symm)
              have F127 := OAr.ext F118 E122
              have F128 := OAr.ext F119 E122
              have F129 := Exa.ext E122 F120
              have F130 := Fld.ext E122 Fq117
              have Z131 := Nat.le_trans Z121 E122.1
              have F132 : Fld Z h122 b122 "com/example/antipode/antipode/net/Marking" "tokens" "[I" .null := D122 (Or.inr (hw _ (List.mem_of_getElem? (i := 11) rfl))) (ty := (.array .int)) (by decide)
              show OwnWk _ _ _ _ (T122.setTop (mkF m 219 #[.val (.long u0), .second, .val (.long u1), .second, .val (.long u2), .second, .val (.int sel), .val (.int (2 : Int32)), .val (.int x0), .val (.int x1), .val (.int x2), .val (.int y0), .val (.int y1), .val (.int y2), .val (.ref b91), .val (.ref b98), .val (.ref b109), .unset, .unset] [(.ref b122)]))
              refine own_go (fun t k => XS.dup X122.here hx rfl (hb hby at_219) rfl rfl k) ?_
              show OwnWk _ _ _ _ (T122.setTop (mkF m 220 #[.val (.long u0), .second, .val (.long u1), .second, .val (.long u2), .second, .val (.int sel), .val (.int (2 : Int32)), .val (.int x0), .val (.int x1), .val (.int x2), .val (.int y0), .val (.int y1), .val (.int y2), .val (.ref b91), .val (.ref b98), .val (.ref b109), .unset, .unset] [(.ref b122), (.ref b122)]))
              refine own_go (fun t k => XS.aload X122.here hx rfl (hb hby at_220) rfl rfl  k) ?_
              show OwnWk _ _ _ _ (T122.setTop (mkF m 222 #[.val (.long u0), .second, .val (.long u1), .second, .val (.long u2), .second, .val (.int sel), .val (.int (2 : Int32)), .val (.int x0), .val (.int x1), .val (.int x2), .val (.int y0), .val (.int y1), .val (.int y2), .val (.ref b91), .val (.ref b98), .val (.ref b109), .unset, .unset] [(.ref b98), (.ref b122), (.ref b122)]))
              refine own_callC X122 hx hZ (y := (⟨"com/example/antipode/antipode/net/Marking", "<init>", "([I)V"⟩ : MethodName)) hown rfl (hw _ (List.mem_of_getElem? (i := 4) rfl)) (hw _ (List.mem_of_getElem? (i := 5) rfl)) (hw _ (List.mem_of_getElem? (i := 3) rfl)) (hw _ (List.mem_of_getElem? (i := 6) rfl)) (by decide) (a := b122) (argsL := [(.ref b98)]) (rest := [(.ref b122)]) (rm := ({ frames := 1, cells := 0, slots := 0, locals := 12 } : Room)) (h := h122) (rm1 l Z a0 hw b122 b98 h122 n0 Z131 F132 A122 ge126) e122 (W := 1) (by decide) (by decide) (by decide) (by decide) (g := (mkF m 222 #[.val (.long u0), .second, .val (.long u1), .second, .val (.long u2), .second, .val (.int sel), .val (.int (2 : Int32)), .val (.int x0), .val (.int x1), .val (.int x2), .val (.int y0), .val (.int y1), .val (.int y2), .val (.ref b91), .val (.ref b98), .val (.ref b109), .unset, .unset] [(.ref b98), (.ref b122), (.ref b122)])) rfl (by rw [hml]; rfl) (lenOf pd_0 rfl) rfl (by show 2 * 0 + _ ≤ _; exact Nat.le_of_eq rfl) (hb hby at_222) (fun v133 T133 h133 L133 X133 e133 hQ133 => ?_)
              obtain ⟨rfl, Nq133, Kq133, Fq133⟩ := hQ133
              have N133 := Fr.app N117 Nq133
              have F134 := OAr.keep F127 Kq133 (ninS ne123 nin0)
              have F135 := OAr.keep F128 Kq133 (ninS ne124 nin0)
              have F136 := Exa.keep F129 Kq133
              have F137 := Fld.keep F130 Kq133 (ninS ne125 nin0)
              have F138 := Exa.keep A122 Kq133
              have Z139 := Nat.le_trans Z131 Kq133.1
              show OwnWk _ _ _ _ (T133.setTop (mkF m 225 #[.val (.long u0), .second, .val (.long u1), .second, .val (.long u2), .second, .val (.int sel), .val (.int (2 : Int32)), .val (.int x0), .val (.int x1), .val (.int x2), .val (.int y0), .val (.int y1), .val (.int y2), .val (.ref b91), .val (.ref b98), .val (.ref b109), .unset, .unset] [(.ref b122)]))
              refine own_go (fun t k => XS.astore X133.here hx rfl (hb hby at_225) rfl rfl (l' := #[.val (.long u0), .second, .val (.long u1), .second, .val (.long u2), .second, .val (.int sel), .val (.int (2 : Int32)), .val (.int x0), .val (.int x1), .val (.int x2), .val (.int y0), .val (.int y1), .val (.int y2), .val (.ref b91), .val (.ref b98), .val (.ref b109), .val (.ref b122), .unset]) rfl k) ?_
              show OwnWk _ _ _ _ (T133.setTop (mkF m 227 #[.val (.long u0), .second, .val (.long u1), .second, .val (.long u2), .second, .val (.int sel), .val (.int (2 : Int32)), .val (.int x0), .val (.int x1), .val (.int x2), .val (.int y0), .val (.int y1), .val (.int y2), .val (.ref b91), .val (.ref b98), .val (.ref b109), .val (.ref b122), .unset] []))
              refine own_go (fun t k => XS.aload X133.here hx rfl (hb hby at_227) rfl rfl  k) ?_
              show OwnWk _ _ _ _ (T133.setTop (mkF m 229 #[.val (.long u0), .second, .val (.long u1), .second, .val (.long u2), .second, .val (.int sel), .val (.int (2 : Int32)), .val (.int x0), .val (.int x1), .val (.int x2), .val (.int y0), .val (.int y1), .val (.int y2), .val (.ref b91), .val (.ref b98), .val (.ref b109), .val (.ref b122), .unset] [(.ref b109)]))
              refine own_go (fun t k => XS.aload X133.here hx rfl (hb hby at_229) rfl rfl  k) ?_
              show OwnWk _ _ _ _ (T133.setTop (mkF m 231 #[.val (.long u0), .second, .val (.long u1), .second, .val (.long u2), .second, .val (.int sel), .val (.int (2 : Int32)), .val (.int x0), .val (.int x1), .val (.int x2), .val (.int y0), .val (.int y1), .val (.int y2), .val (.ref b91), .val (.ref b98), .val (.ref b109), .val (.ref b122), .unset] [(.ref b122), (.ref b109)]))
              refine own_callV X133 hx hZ (y := (⟨"com/example/antipode/antipode/net/Marking", "strictlyCovers", "(Lcom/example/antipode/antipode/net/Marking;)I"⟩ : MethodName)) (z := (⟨"com/example/antipode/antipode/net/Marking", "strictlyCovers", "(Lcom/example/antipode/antipode/net/Marking;)I"⟩ : MethodName)) hown (hw _ (List.mem_of_getElem? (i := 12) rfl)) (hw _ (List.mem_of_getElem? (i := 13) rfl)) (notFace_of_selects (args := #[]) (mvT hZ (hw _ (List.mem_of_getElem? (i := 15) rfl)))) (hw _ (List.mem_of_getElem? (i := 15) rfl)) (hw _ (List.mem_of_getElem? (i := 14) rfl)) (hw _ (List.mem_of_getElem? (i := 3) rfl)) (hw _ (List.mem_of_getElem? (i := 16) rfl)) (by decide) (a := b109) F136 (argsL := [(.ref b122)]) (rest := []) (rm := ({ frames := 0, cells := 0, slots := 0, locals := 0 } : Room)) (h := h133) (rm3 l Z a0 hw b109 b122 b91 b98 [x0, x1] [y0, y1] h133 n0 Z139 F137 Fq133 F134 F135 rfl (by simp)) e133 (W := 0) (by decide) (by decide) (by decide) (by decide) (g := (mkF m 231 #[.val (.long u0), .second, .val (.long u1), .second, .val (.long u2), .second, .val (.int sel), .val (.int (2 : Int32)), .val (.int x0), .val (.int x1), .val (.int x2), .val (.int y0), .val (.int y1), .val (.int y2), .val (.ref b91), .val (.ref b98), .val (.ref b109), .val (.ref b122), .unset] [(.ref b122), (.ref b109)])) rfl (by rw [hml]; rfl) (lenOf pd_1 rfl) rfl (by show 2 * 0 + _ ≤ _; exact Nat.le_of_eq rfl) (hb hby at_231) (fun v140 T140 h140 L140 X140 e140 hQ140 => ?_)
              obtain ⟨rfl, Nq140, q140⟩ := hQ140
              have N140 := Fr.app N133 Nq140
              rw [q140] at e140
              show OwnWk _ _ _ _ (T140.setTop (mkF m 234 #[.val (.long u0), .second, .val (.long u1), .second, .val (.long u2), .second, .val (.int sel), .val (.int (2 : Int32)), .val (.int x0), .val (.int x1), .val (.int x2), .val (.int y0), .val (.int y1), .val (.int y2), .val (.ref b91), .val (.ref b98), .val (.ref b109), .val (.ref b122), .unset] [(.int (own_cov [x0, x1] [y0, y1] 0 (-1)))]))
              refine own_go (fun t k => XS.istore X140.here hx rfl (hb hby at_234) rfl (l' := #[.val (.long u0), .second, .val (.long u1), .second, .val (.long u2), .second, .val (.int sel), .val (.int (2 : Int32)), .val (.int x0), .val (.int x1), .val (.int x2), .val (.int y0), .val (.int y1), .val (.int y2), .val (.ref b91), .val (.ref b98), .val (.ref b109), .val (.ref b122), .val (.int (own_cov [x0, x1] [y0, y1] 0 (-1)))]) rfl k) ?_
              show OwnWk _ _ _ _ (T140.setTop (mkF m 236 #[.val (.long u0), .second, .val (.long u1), .second, .val (.long u2), .second, .val (.int sel), .val (.int (2 : Int32)), .val (.int x0), .val (.int x1), .val (.int x2), .val (.int y0), .val (.int y1), .val (.int y2), .val (.ref b91), .val (.ref b98), .val (.ref b109), .val (.ref b122), .val (.int (own_cov [x0, x1] [y0, y1] 0 (-1)))] []))
              refine own_go (fun t k => XS.iload X140.here hx rfl (hb hby at_236) rfl  k) ?_
              show OwnWk _ _ _ _ (T140.setTop (mkF m 238 #[.val (.long u0), .second, .val (.long u1), .second, .val (.long u2), .second, .val (.int sel), .val (.int (2 : Int32)), .val (.int x0), .val (.int x1), .val (.int x2), .val (.int y0), .val (.int y1), .val (.int y2), .val (.ref b91), .val (.ref b98), .val (.ref b109), .val (.ref b122), .val (.int (own_cov [x0, x1] [y0, y1] 0 (-1)))] [(.int (own_cov [x0, x1] [y0, y1] 0 (-1)))]))
              refine own_go (fun t k => XS.iload X140.here hx rfl (hb hby at_238) rfl  k) ?_
              show OwnWk _ _ _ _ (T140.setTop (mkF m 240 #[.val (.long u0), .second, .val (.long u1), .second, .val (.long u2), .second, .val (.int sel), .val (.int (2 : Int32)), .val (.int x0), .val (.int x1), .val (.int x2), .val (.int y0), .val (.int y1), .val (.int y2), .val (.ref b91), .val (.ref b98), .val (.ref b109), .val (.ref b122), .val (.int (own_cov [x0, x1] [y0, y1] 0 (-1)))] [(.int (2 : Int32)), (.int (own_cov [x0, x1] [y0, y1] 0 (-1)))]))
              refine own_go (fun t k => XS.iload X140.here hx rfl (hb hby at_240) rfl  k) ?_
              show OwnWk _ _ _ _ (T140.setTop (mkF m 242 #[.val (.long u0), .second, .val (.long u1), .second, .val (.long u2), .second, .val (.int sel), .val (.int (2 : Int32)), .val (.int x0), .val (.int x1), .val (.int x2), .val (.int y0), .val (.int y1), .val (.int y2), .val (.ref b91), .val (.ref b98), .val (.ref b109), .val (.ref b122), .val (.int (own_cov [x0, x1] [y0, y1] 0 (-1)))] [(.int x0), (.int (2 : Int32)), (.int (own_cov [x0, x1] [y0, y1] 0 (-1)))]))
              refine own_go (fun t k => XS.iload X140.here hx rfl (hb hby at_242) rfl  k) ?_
              show OwnWk _ _ _ _ (T140.setTop (mkF m 244 #[.val (.long u0), .second, .val (.long u1), .second, .val (.long u2), .second, .val (.int sel), .val (.int (2 : Int32)), .val (.int x0), .val (.int x1), .val (.int x2), .val (.int y0), .val (.int y1), .val (.int y2), .val (.ref b91), .val (.ref b98), .val (.ref b109), .val (.ref b122), .val (.int (own_cov [x0, x1] [y0, y1] 0 (-1)))] [(.int x1), (.int x0), (.int (2 : Int32)), (.int (own_cov [x0, x1] [y0, y1] 0 (-1)))]))
              refine own_go (fun t k => XS.iload X140.here hx rfl (hb hby at_244) rfl  k) ?_
              show OwnWk _ _ _ _ (T140.setTop (mkF m 246 #[.val (.long u0), .second, .val (.long u1), .second, .val (.long u2), .second, .val (.int sel), .val (.int (2 : Int32)), .val (.int x0), .val (.int x1), .val (.int x2), .val (.int y0), .val (.int y1), .val (.int y2), .val (.ref b91), .val (.ref b98), .val (.ref b109), .val (.ref b122), .val (.int (own_cov [x0, x1] [y0, y1] 0 (-1)))] [(.int x2), (.int x1), (.int x0), (.int (2 : Int32)), (.int (own_cov [x0, x1] [y0, y1] 0 (-1)))]))
              refine own_go (fun t k => XS.iload X140.here hx rfl (hb hby at_246) rfl  k) ?_
              show OwnWk _ _ _ _ (T140.setTop (mkF m 248 #[.val (.long u0), .second, .val (.long u1), .second, .val (.long u2), .second, .val (.int sel), .val (.int (2 : Int32)), .val (.int x0), .val (.int x1), .val (.int x2), .val (.int y0), .val (.int y1), .val (.int y2), .val (.ref b91), .val (.ref b98), .val (.ref b109), .val (.ref b122), .val (.int (own_cov [x0, x1] [y0, y1] 0 (-1)))] [(.int y0), (.int x2), (.int x1), (.int x0), (.int (2 : Int32)), (.int (own_cov [x0, x1] [y0, y1] 0 (-1)))]))
              refine own_go (fun t k => XS.iload X140.here hx rfl (hb hby at_248) rfl  k) ?_
              show OwnWk _ _ _ _ (T140.setTop (mkF m 250 #[.val (.long u0), .second, .val (.long u1), .second, .val (.long u2), .second, .val (.int sel), .val (.int (2 : Int32)), .val (.int x0), .val (.int x1), .val (.int x2), .val (.int y0), .val (.int y1), .val (.int y2), .val (.ref b91), .val (.ref b98), .val (.ref b109), .val (.ref b122), .val (.int (own_cov [x0, x1] [y0, y1] 0 (-1)))] [(.int y1), (.int y0), (.int x2), (.int x1), (.int x0), (.int (2 : Int32)), (.int (own_cov [x0, x1] [y0, y1] 0 (-1)))]))
              refine own_go (fun t k => XS.iload X140.here hx rfl (hb hby at_250) rfl  k) ?_
              show OwnWk _ _ _ _ (T140.setTop (mkF m 252 #[.val (.long u0), .second, .val (.long u1), .second, .val (.long u2), .second, .val (.int sel), .val (.int (2 : Int32)), .val (.int x0), .val (.int x1), .val (.int x2), .val (.int y0), .val (.int y1), .val (.int y2), .val (.ref b91), .val (.ref b98), .val (.ref b109), .val (.ref b122), .val (.int (own_cov [x0, x1] [y0, y1] 0 (-1)))] [(.int y2), (.int y1), (.int y0), (.int x2), (.int x1), (.int x0), (.int (2 : Int32)), (.int (own_cov [x0, x1] [y0, y1] 0 (-1)))]))
              refine own_callS X140 hx hZ (y := (⟨"com/example/antipode/antipode/net/MarkingStrictlyCoversPinLaw", "reference", "(IIIIIII)I"⟩ : MethodName)) hown (hw _ (List.mem_of_getElem? (i := 17) rfl)) (hw _ (List.mem_of_getElem? (i := 18) rfl)) (hw _ (List.mem_of_getElem? (i := 19) rfl)) (hw _ (List.mem_of_getElem? (i := 20) rfl)) (by decide) (argsL := [(.int (2 : Int32)), (.int x0), (.int x1), (.int x2), (.int y0), (.int y1), (.int y2)]) (rest := [(.int (own_cov [x0, x1] [y0, y1] 0 (-1)))]) (rm := ({ frames := 0, cells := 0, slots := 0, locals := 0 } : Room)) (h := h133) (rm4 l Z a0 hw (2 : Int32) x0 x1 x2 y0 y1 y2 h133 n0 Z139) e140 (W := 1) (by decide) (by decide) (by decide) (by decide) (g := (mkF m 252 #[.val (.long u0), .second, .val (.long u1), .second, .val (.long u2), .second, .val (.int sel), .val (.int (2 : Int32)), .val (.int x0), .val (.int x1), .val (.int x2), .val (.int y0), .val (.int y1), .val (.int y2), .val (.ref b91), .val (.ref b98), .val (.ref b109), .val (.ref b122), .val (.int (own_cov [x0, x1] [y0, y1] 0 (-1)))] [(.int y2), (.int y1), (.int y0), (.int x2), (.int x1), (.int x0), (.int (2 : Int32)), (.int (own_cov [x0, x1] [y0, y1] 0 (-1)))])) rfl (by rw [hml]; rfl) (lenOf pd_2 rfl) rfl (by show 2 * 0 + _ ≤ _; exact Nat.le_of_eq rfl) (hb hby at_252) (fun v141 T141 h141 L141 X141 e141 hQ141 => ?_)
              obtain ⟨rfl, Nq141, q141⟩ := hQ141
              have N141 := Fr.app N140 Nq141
              rw [q141] at e141
              show OwnWk _ _ _ _ (T141.setTop (mkF m 255 #[.val (.long u0), .second, .val (.long u1), .second, .val (.long u2), .second, .val (.int sel), .val (.int (2 : Int32)), .val (.int x0), .val (.int x1), .val (.int x2), .val (.int y0), .val (.int y1), .val (.int y2), .val (.ref b91), .val (.ref b98), .val (.ref b109), .val (.ref b122), .val (.int (own_cov [x0, x1] [y0, y1] 0 (-1)))] [(.int (own_ref (2 : Int32) x0 x1 x2 y0 y1 y2)), (.int (own_cov [x0, x1] [y0, y1] 0 (-1)))]))
              refine own_go (fun t k => XS.icmpNo X141.here hx rfl (hb hby at_255) rfl (teq (own_last2 x0 x1 x2 y0 y1 y2)).2 k) ?_
              show OwnWk _ _ _ _ (T141.setTop (mkF m 258 #[.val (.long u0), .second, .val (.long u1), .second, .val (.long u2), .second, .val (.int sel), .val (.int (2 : Int32)), .val (.int x0), .val (.int x1), .val (.int x2), .val (.int y0), .val (.int y1), .val (.int y2), .val (.ref b91), .val (.ref b98), .val (.ref b109), .val (.ref b122), .val (.int (own_cov [x0, x1] [y0, y1] 0 (-1)))] []))
              refine own_go (fun t k => XS.iconst X141.here hx rfl (hb hby at_258) k) ?_
              show OwnWk _ _ _ _ (T141.setTop (mkF m 259 #[.val (.long u0), .second, .val (.long u1), .second, .val (.long u2), .second, .val (.int sel), .val (.int (2 : Int32)), .val (.int x0), .val (.int x1), .val (.int x2), .val (.int y0), .val (.int y1), .val (.int y2), .val (.ref b91), .val (.ref b98), .val (.ref b109), .val (.ref b122), .val (.int (own_cov [x0, x1] [y0, y1] 0 (-1)))] [(.int (1 : Int32))]))
              refine own_go (fun t k => XS.goto X141.here hx rfl (pc0 := 259) (pc' := 263) rfl (hb hby at_259) (by decide) (by decide) k) ?_
              show OwnWk _ _ _ _ (T141.setTop (mkF m 263 #[.val (.long u0), .second, .val (.long u1), .second, .val (.long u2), .second, .val (.int sel), .val (.int (2 : Int32)), .val (.int x0), .val (.int x1), .val (.int x2), .val (.int y0), .val (.int y1), .val (.int y2), .val (.ref b91), .val (.ref b98), .val (.ref b109), .val (.ref b122), .val (.int (own_cov [x0, x1] [y0, y1] 0 (-1)))] [(.int (1 : Int32))]))
              exact own_retZ X141 hx hlk hret (by simp) (z' := (1 : Int32)) rfl (hb hby at_263) (by decide) (by decide) (by rw [e141]; exact ⟨rfl, N141⟩)
            ·
              refine own_go (fun t k => XS.icmpYes X0.here hx rfl (pc0 := 129) (pc' := 165) rfl (hb hby at_129) rfl (feq hc90).2 (by decide) (by decide) k) ?_
              show OwnWk _ _ _ _ (s₁.setTop (mkF m 165 #[.val (.long u0), .second, .val (.long u1), .second, .val (.long u2), .second, .val (.int sel), .val (.int n1), .val (.int x0), .val (.int x1), .val (.int x2), .val (.int y0), .val (.int y1), .val (.int y2), .unset, .unset, .unset, .unset, .unset] []))
              have hn3 : n1 = 3 := own_three h_n1 hc1 hc43 hc90
              subst hn3
              show OwnWk _ _ _ _ (s₁.setTop (mkF m 165 #[.val (.long u0), .second, .val (.long u1), .second, .val (.long u2), .second, .val (.int sel), .val (.int (3 : Int32)), .val (.int x0), .val (.int x1), .val (.int x2), .val (.int y0), .val (.int y1), .val (.int y2), .unset, .unset, .unset, .unset, .unset] []))
              refine own_go (fun t k => XS.iconst X0.here hx rfl (hb hby at_165) k) ?_
              show OwnWk _ _ _ _ (s₁.setTop (mkF m 166 #[.val (.long u0), .second, .val (.long u1), .second, .val (.long u2), .second, .val (.int sel), .val (.int (3 : Int32)), .val (.int x0), .val (.int x1), .val (.int x2), .val (.int y0), .val (.int y1), .val (.int y2), .unset, .unset, .unset, .unset, .unset] [(.int (3 : Int32))]))
              refine own_newP X0 hx hZ (aty := .int) (hw _ (List.mem_of_getElem? (i := 0) rfl)) e0 (g := (mkF m 166 #[.val (.long u0), .second, .val (.long u1), .second, .val (.long u2), .second, .val (.int sel), .val (.int (3 : Int32)), .val (.int x0), .val (.int x1), .val (.int x2), .val (.int y0), .val (.int y1), .val (.int y2), .unset, .unset, .unset, .unset, .unset] [(.int (3 : Int32))])) rfl (hb hby at_166) rfl (by decide) (cap := 3) (by decide) (by decide) (by decide) (by decide) (fun T142 h142 b142 X142 e142 g142 E142 V142 => ?_)
              have ge143 : n0 ≤ b142 := Nat.le_trans Z0 (Nat.le_of_eq g142.symm)
              have Z144 := Nat.le_trans Z0 E142.1
              have V142b : OAr Z h142 b142 .int [(.int (0 : Int32)), (.int (0 : Int32)), (.int (0 : Int32))] := V142
              show OwnWk _ _ _ _ (T142.setTop (mkF m 168 #[.val (.long u0), .second, .val (.long u1), .second, .val (.long u2), .second, .val (.int sel), .val (.int (3 : Int32)), .val (.int x0), .val (.int x1), .val (.int x2), .val (.int y0), .val (.int y1), .val (.int y2), .unset, .unset, .unset, .unset, .unset] [(.ref b142)]))
              refine own_go (fun t k => XS.dup X142.here hx rfl (hb hby at_168) rfl rfl k) ?_
              show OwnWk _ _ _ _ (T142.setTop (mkF m 169 #[.val (.long u0), .second, .val (.long u1), .second, .val (.long u2), .second, .val (.int sel), .val (.int (3 : Int32)), .val (.int x0), .val (.int x1), .val (.int x2), .val (.int y0), .val (.int y1), .val (.int y2), .unset, .unset, .unset, .unset, .unset] [(.ref b142), (.ref b142)]))
              refine own_go (fun t k => XS.iconst X142.here hx rfl (hb hby at_169) k) ?_
              show OwnWk _ _ _ _ (T142.setTop (mkF m 170 #[.val (.long u0), .second, .val (.long u1), .second, .val (.long u2), .second, .val (.int sel), .val (.int (3 : Int32)), .val (.int x0), .val (.int x1), .val (.int x2), .val (.int y0), .val (.int y1), .val (.int y2), .unset, .unset, .unset, .unset, .unset] [(.int (0 : Int32)), (.ref b142), (.ref b142)]))
              refine own_go (fun t k => XS.iload X142.here hx rfl (hb hby at_170) rfl  k) ?_
              show OwnWk _ _ _ _ (T142.setTop (mkF m 172 #[.val (.long u0), .second, .val (.long u1), .second, .val (.long u2), .second, .val (.int sel), .val (.int (3 : Int32)), .val (.int x0), .val (.int x1), .val (.int x2), .val (.int y0), .val (.int y1), .val (.int y2), .unset, .unset, .unset, .unset, .unset] [(.int x0), (.int (0 : Int32)), (.ref b142), (.ref b142)]))
              refine own_stI X142 hx hZ e142 V142b (g := (mkF m 172 #[.val (.long u0), .second, .val (.long u1), .second, .val (.long u2), .second, .val (.int sel), .val (.int (3 : Int32)), .val (.int x0), .val (.int x1), .val (.int x2), .val (.int y0), .val (.int y1), .val (.int y2), .unset, .unset, .unset, .unset, .unset] [(.int x0), (.int (0 : Int32)), (.ref b142), (.ref b142)])) rfl rfl (hb hby at_172) (by decide) (Nat.le_of_ble_eq_true rfl) (fun T145 h145 X145 e145 W145 V145 => ?_)
              have N145 := Fr.snoc X145 N0 ge143
              have Z146 := Nat.le_trans Z144 (Keep.of_wr W145).1
              show OwnWk _ _ _ _ (T145.setTop (mkF m 173 #[.val (.long u0), .second, .val (.long u1), .second, .val (.long u2), .second, .val (.int sel), .val (.int (3 : Int32)), .val (.int x0), .val (.int x1), .val (.int x2), .val (.int y0), .val (.int y1), .val (.int y2), .unset, .unset, .unset, .unset, .unset] [(.ref b142)]))
              refine own_go (fun t k => XS.dup X145.here hx rfl (hb hby at_173) rfl rfl k) ?_
              show OwnWk _ _ _ _ (T145.setTop (mkF m 174 #[.val (.long u0), .second, .val (.long u1), .second, .val (.long u2), .second, .val (.int sel), .val (.int (3 : Int32)), .val (.int x0), .val (.int x1), .val (.int x2), .val (.int y0), .val (.int y1), .val (.int y2), .unset, .unset, .unset, .unset, .unset] [(.ref b142), (.ref b142)]))
              refine own_go (fun t k => XS.iconst X145.here hx rfl (hb hby at_174) k) ?_
              show OwnWk _ _ _ _ (T145.setTop (mkF m 175 #[.val (.long u0), .second, .val (.long u1), .second, .val (.long u2), .second, .val (.int sel), .val (.int (3 : Int32)), .val (.int x0), .val (.int x1), .val (.int x2), .val (.int y0), .val (.int y1), .val (.int y2), .unset, .unset, .unset, .unset, .unset] [(.int (1 : Int32)), (.ref b142), (.ref b142)]))
              refine own_go (fun t k => XS.iload X145.here hx rfl (hb hby at_175) rfl  k) ?_
              show OwnWk _ _ _ _ (T145.setTop (mkF m 177 #[.val (.long u0), .second, .val (.long u1), .second, .val (.long u2), .second, .val (.int sel), .val (.int (3 : Int32)), .val (.int x0), .val (.int x1), .val (.int x2), .val (.int y0), .val (.int y1), .val (.int y2), .unset, .unset, .unset, .unset, .unset] [(.int x1), (.int (1 : Int32)), (.ref b142), (.ref b142)]))
              refine own_stI X145 hx hZ e145 V145 (g := (mkF m 177 #[.val (.long u0), .second, .val (.long u1), .second, .val (.long u2), .second, .val (.int sel), .val (.int (3 : Int32)), .val (.int x0), .val (.int x1), .val (.int x2), .val (.int y0), .val (.int y1), .val (.int y2), .unset, .unset, .unset, .unset, .unset] [(.int x1), (.int (1 : Int32)), (.ref b142), (.ref b142)])) rfl rfl (hb hby at_177) (by decide) (Nat.le_of_ble_eq_true rfl) (fun T147 h147 X147 e147 W147 V147 => ?_)
              have N147 := Fr.snoc X147 N145 ge143
              have Z148 := Nat.le_trans Z146 (Keep.of_wr W147).1
              show OwnWk _ _ _ _ (T147.setTop (mkF m 178 #[.val (.long u0), .second, .val (.long u1), .second, .val (.long u2), .second, .val (.int sel), .val (.int (3 : Int32)), .val (.int x0), .val (.int x1), .val (.int x2), .val (.int y0), .val (.int y1), .val (.int y2), .unset, .unset, .unset, .unset, .unset] [(.ref b142)]))
              refine own_go (fun t k => XS.dup X147.here hx rfl (hb hby at_178) rfl rfl k) ?_
              show OwnWk _ _ _ _ (T147.setTop (mkF m 179 #[.val (.long u0), .second, .val (.long u1), .second, .val (.long u2), .second, .val (.int sel), .val (.int (3 : Int32)), .val (.int x0), .val (.int x1), .val (.int x2), .val (.int y0), .val (.int y1), .val (.int y2), .unset, .unset, .unset, .unset, .unset] [(.ref b142), (.ref b142)]))
              refine own_go (fun t k => XS.iconst X147.here hx rfl (hb hby at_179) k) ?_
              show OwnWk _ _ _ _ (T147.setTop (mkF m 180 #[.val (.long u0), .second, .val (.long u1), .second, .val (.long u2), .second, .val (.int sel), .val (.int (3 : Int32)), .val (.int x0), .val (.int x1), .val (.int x2), .val (.int y0), .val (.int y1), .val (.int y2), .unset, .unset, .unset, .unset, .unset] [(.int (2 : Int32)), (.ref b142), (.ref b142)]))
              refine own_go (fun t k => XS.iload X147.here hx rfl (hb hby at_180) rfl  k) ?_
              show OwnWk _ _ _ _ (T147.setTop (mkF m 182 #[.val (.long u0), .second, .val (.long u1), .second, .val (.long u2), .second, .val (.int sel), .val (.int (3 : Int32)), .val (.int x0), .val (.int x1), .val (.int x2), .val (.int y0), .val (.int y1), .val (.int y2), .unset, .unset, .unset, .unset, .unset] [(.int x2), (.int (2 : Int32)), (.ref b142), (.ref b142)]))
              refine own_stI X147 hx hZ e147 V147 (g := (mkF m 182 #[.val (.long u0), .second, .val (.long u1), .second, .val (.long u2), .second, .val (.int sel), .val (.int (3 : Int32)), .val (.int x0), .val (.int x1), .val (.int x2), .val (.int y0), .val (.int y1), .val (.int y2), .unset, .unset, .unset, .unset, .unset] [(.int x2), (.int (2 : Int32)), (.ref b142), (.ref b142)])) rfl rfl (hb hby at_182) (by decide) (Nat.le_of_ble_eq_true rfl) (fun T149 h149 X149 e149 W149 V149 => ?_)
              have N149 := Fr.snoc X149 N147 ge143
              have Z150 := Nat.le_trans Z148 (Keep.of_wr W149).1
              show OwnWk _ _ _ _ (T149.setTop (mkF m 183 #[.val (.long u0), .second, .val (.long u1), .second, .val (.long u2), .second, .val (.int sel), .val (.int (3 : Int32)), .val (.int x0), .val (.int x1), .val (.int x2), .val (.int y0), .val (.int y1), .val (.int y2), .unset, .unset, .unset, .unset, .unset] [(.ref b142)]))
              refine own_go (fun t k => XS.astore X149.here hx rfl (hb hby at_183) rfl rfl (l' := #[.val (.long u0), .second, .val (.long u1), .second, .val (.long u2), .second, .val (.int sel), .val (.int (3 : Int32)), .val (.int x0), .val (.int x1), .val (.int x2), .val (.int y0), .val (.int y1), .val (.int y2), .val (.ref b142), .unset, .unset, .unset, .unset]) rfl k) ?_
              show OwnWk _ _ _ _ (T149.setTop (mkF m 185 #[.val (.long u0), .second, .val (.long u1), .second, .val (.long u2), .second, .val (.int sel), .val (.int (3 : Int32)), .val (.int x0), .val (.int x1), .val (.int x2), .val (.int y0), .val (.int y1), .val (.int y2), .val (.ref b142), .unset, .unset, .unset, .unset] []))
              refine own_go (fun t k => XS.iconst X149.here hx rfl (hb hby at_185) k) ?_
              show OwnWk _ _ _ _ (T149.setTop (mkF m 186 #[.val (.long u0), .second, .val (.long u1), .second, .val (.long u2), .second, .val (.int sel), .val (.int (3 : Int32)), .val (.int x0), .val (.int x1), .val (.int x2), .val (.int y0), .val (.int y1), .val (.int y2), .val (.ref b142), .unset, .unset, .unset, .unset] [(.int (3 : Int32))]))
              refine own_newP X149 hx hZ (aty := .int) (hw _ (List.mem_of_getElem? (i := 0) rfl)) e149 (g := (mkF m 186 #[.val (.long u0), .second, .val (.long u1), .second, .val (.long u2), .second, .val (.int sel), .val (.int (3 : Int32)), .val (.int x0), .val (.int x1), .val (.int x2), .val (.int y0), .val (.int y1), .val (.int y2), .val (.ref b142), .unset, .unset, .unset, .unset] [(.int (3 : Int32))])) rfl (hb hby at_186) rfl (by decide) (cap := 3) (by decide) (by decide) (by decide) (by decide) (fun T151 h151 b151 X151 e151 g151 E151 V151 => ?_)
              have ne152 : b142 ≠ b151 := Nat.ne_of_lt (Nat.lt_of_lt_of_le V149.lt (Nat.le_of_eq g151.symm))
              have ge153 : n0 ≤ b151 := Nat.le_trans Z150 (Nat.le_of_eq g151.symm)
              have F154 := OAr.ext V149 E151
              have Z155 := Nat.le_trans Z150 E151.1
              have V151b : OAr Z h151 b151 .int [(.int (0 : Int32)), (.int (0 : Int32)), (.int (0 : Int32))] := V151
              show OwnWk _ _ _ _ (T151.setTop (mkF m 188 #[.val (.long u0), .second, .val (.long u1), .second, .val (.long u2), .second, .val (.int sel), .val (.int (3 : Int32)), .val (.int x0), .val (.int x1), .val (.int x2), .val (.int y0), .val (.int y1), .val (.int y2), .val (.ref b142), .unset, .unset, .unset, .unset] [(.ref b151)]))
              refine own_go (fun t k => XS.dup X151.here hx rfl (hb hby at_188) rfl rfl k) ?_
              show OwnWk _ _ _ _ (T151.setTop (mkF m 189 #[.val (.long u0), .second, .val (.long u1), .second, .val (.long u2), .second, .val (.int sel), .val (.int (3 : Int32)), .val (.int x0), .val (.int x1), .val (.int x2), .val (.int y0), .val (.int y1), .val (.int y2), .val (.ref b142), .unset, .unset, .unset, .unset] [(.ref b151), (.ref b151)]))
              refine own_go (fun t k => XS.iconst X151.here hx rfl (hb hby at_189) k) ?_
              show OwnWk _ _ _ _ (T151.setTop (mkF m 190 #[.val (.long u0), .second, .val (.long u1), .second, .val (.long u2), .second, .val (.int sel), .val (.int (3 : Int32)), .val (.int x0), .val (.int x1), .val (.int x2), .val (.int y0), .val (.int y1), .val (.int y2), .val (.ref b142), .unset, .unset, .unset, .unset] [(.int (0 : Int32)), (.ref b151), (.ref b151)]))
              refine own_go (fun t k => XS.iload X151.here hx rfl (hb hby at_190) rfl  k) ?_
              show OwnWk _ _ _ _ (T151.setTop (mkF m 192 #[.val (.long u0), .second, .val (.long u1), .second, .val (.long u2), .second, .val (.int sel), .val (.int (3 : Int32)), .val (.int x0), .val (.int x1), .val (.int x2), .val (.int y0), .val (.int y1), .val (.int y2), .val (.ref b142), .unset, .unset, .unset, .unset] [(.int y0), (.int (0 : Int32)), (.ref b151), (.ref b151)]))
              refine own_stI X151 hx hZ e151 V151b (g := (mkF m 192 #[.val (.long u0), .second, .val (.long u1), .second, .val (.long u2), .second, .val (.int sel), .val (.int (3 : Int32)), .val (.int x0), .val (.int x1), .val (.int x2), .val (.int y0), .val (.int y1), .val (.int y2), .val (.ref b142), .unset, .unset, .unset, .unset] [(.int y0), (.int (0 : Int32)), (.ref b151), (.ref b151)])) rfl rfl (hb hby at_192) (by decide) (Nat.le_of_ble_eq_true rfl) (fun T156 h156 X156 e156 W156 V156 => ?_)
              have N156 := Fr.snoc X156 N149 ge153
              have F157 := OAr.other F154 W156 ne152
              have Z158 := Nat.le_trans Z155 (Keep.of_wr W156).1
              show OwnWk _ _ _ _ (T156.setTop (mkF m 193 #[.val (.long u0), .second, .val (.long u1), .second, .val (.long u2), .second, .val (.int sel), .val (.int (3 : Int32)), .val (.int x0), .val (.int x1), .val (.int x2), .val (.int y0), .val (.int y1), .val (.int y2), .val (.ref b142), .unset, .unset, .unset, .unset] [(.ref b151)]))
              refine own_go (fun t k => XS.dup X156.here hx rfl (hb hby at_193) rfl rfl k) ?_
              show OwnWk _ _ _ _ (T156.setTop (mkF m 194 #[.val (.long u0), .second, .val (.long u1), .second, .val (.long u2), .second, .val (.int sel), .val (.int (3 : Int32)), .val (.int x0), .val (.int x1), .val (.int x2), .val (.int y0), .val (.int y1), .val (.int y2), .val (.ref b142), .unset, .unset, .unset, .unset] [(.ref b151), (.ref b151)]))
              refine own_go (fun t k => XS.iconst X156.here hx rfl (hb hby at_194) k) ?_
              show OwnWk _ _ _ _ (T156.setTop (mkF m 195 #[.val (.long u0), .second, .val (.long u1), .second, .val (.long u2), .second, .val (.int sel), .val (.int (3 : Int32)), .val (.int x0), .val (.int x1), .val (.int x2), .val (.int y0), .val (.int y1), .val (.int y2), .val (.ref b142), .unset, .unset, .unset, .unset] [(.int (1 : Int32)), (.ref b151), (.ref b151)]))
              refine own_go (fun t k => XS.iload X156.here hx rfl (hb hby at_195) rfl  k) ?_
              show OwnWk _ _ _ _ (T156.setTop (mkF m 197 #[.val (.long u0), .second, .val (.long u1), .second, .val (.long u2), .second, .val (.int sel), .val (.int (3 : Int32)), .val (.int x0), .val (.int x1), .val (.int x2), .val (.int y0), .val (.int y1), .val (.int y2), .val (.ref b142), .unset, .unset, .unset, .unset] [(.int y1), (.int (1 : Int32)), (.ref b151), (.ref b151)]))
              refine own_stI X156 hx hZ e156 V156 (g := (mkF m 197 #[.val (.long u0), .second, .val (.long u1), .second, .val (.long u2), .second, .val (.int sel), .val (.int (3 : Int32)), .val (.int x0), .val (.int x1), .val (.int x2), .val (.int y0), .val (.int y1), .val (.int y2), .val (.ref b142), .unset, .unset, .unset, .unset] [(.int y1), (.int (1 : Int32)), (.ref b151), (.ref b151)])) rfl rfl (hb hby at_197) (by decide) (Nat.le_of_ble_eq_true rfl) (fun T159 h159 X159 e159 W159 V159 => ?_)
              have N159 := Fr.snoc X159 N156 ge153
              have F160 := OAr.other F157 W159 ne152
              have Z161 := Nat.le_trans Z158 (Keep.of_wr W159).1
              show OwnWk _ _ _ _ (T159.setTop (mkF m 198 #[.val (.long u0), .second, .val (.long u1), .second, .val (.long u2), .second, .val (.int sel), .val (.int (3 : Int32)), .val (.int x0), .val (.int x1), .val (.int x2), .val (.int y0), .val (.int y1), .val (.int y2), .val (.ref b142), .unset, .unset, .unset, .unset] [(.ref b151)]))
              refine own_go (fun t k => XS.dup X159.here hx rfl (hb hby at_198) rfl rfl k) ?_
              show OwnWk _ _ _ _ (T159.setTop (mkF m 199 #[.val (.long u0), .second, .val (.long u1), .second, .val (.long u2), .second, .val (.int sel), .val (.int (3 : Int32)), .val (.int x0), .val (.int x1), .val (.int x2), .val (.int y0), .val (.int y1), .val (.int y2), .val (.ref b142), .unset, .unset, .unset, .unset] [(.ref b151), (.ref b151)]))
              refine own_go (fun t k => XS.iconst X159.here hx rfl (hb hby at_199) k) ?_
              show OwnWk _ _ _ _ (T159.setTop (mkF m 200 #[.val (.long u0), .second, .val (.long u1), .second, .val (.long u2), .second, .val (.int sel), .val (.int (3 : Int32)), .val (.int x0), .val (.int x1), .val (.int x2), .val (.int y0), .val (.int y1), .val (.int y2), .val (.ref b142), .unset, .unset, .unset, .unset] [(.int (2 : Int32)), (.ref b151), (.ref b151)]))
              refine own_go (fun t k => XS.iload X159.here hx rfl (hb hby at_200) rfl  k) ?_
              show OwnWk _ _ _ _ (T159.setTop (mkF m 202 #[.val (.long u0), .second, .val (.long u1), .second, .val (.long u2), .second, .val (.int sel), .val (.int (3 : Int32)), .val (.int x0), .val (.int x1), .val (.int x2), .val (.int y0), .val (.int y1), .val (.int y2), .val (.ref b142), .unset, .unset, .unset, .unset] [(.int y2), (.int (2 : Int32)), (.ref b151), (.ref b151)]))
              refine own_stI X159 hx hZ e159 V159 (g := (mkF m 202 #[.val (.long u0), .second, .val (.long u1), .second, .val (.long u2), .second, .val (.int sel), .val (.int (3 : Int32)), .val (.int x0), .val (.int x1), .val (.int x2), .val (.int y0), .val (.int y1), .val (.int y2), .val (.ref b142), .unset, .unset, .unset, .unset] [(.int y2), (.int (2 : Int32)), (.ref b151), (.ref b151)])) rfl rfl (hb hby at_202) (by decide) (Nat.le_of_ble_eq_true rfl) (fun T162 h162 X162 e162 W162 V162 => ?_)
              have N162 := Fr.snoc X162 N159 ge153
              have F163 := OAr.other F160 W162 ne152
              have Z164 := Nat.le_trans Z161 (Keep.of_wr W162).1
              show OwnWk _ _ _ _ (T162.setTop (mkF m 203 #[.val (.long u0), .second, .val (.long u1), .second, .val (.long u2), .second, .val (.int sel), .val (.int (3 : Int32)), .val (.int x0), .val (.int x1), .val (.int x2), .val (.int y0), .val (.int y1), .val (.int y2), .val (.ref b142), .unset, .unset, .unset, .unset] [(.ref b151)]))
              refine own_go (fun t k => XS.astore X162.here hx rfl (hb hby at_203) rfl rfl (l' := #[.val (.long u0), .second, .val (.long u1), .second, .val (.long u2), .second, .val (.int sel), .val (.int (3 : Int32)), .val (.int x0), .val (.int x1), .val (.int x2), .val (.int y0), .val (.int y1), .val (.int y2), .val (.ref b142), .val (.ref b151), .unset, .unset, .unset]) rfl k) ?_
              show OwnWk _ _ _ _ (T162.setTop (mkF m 205 #[.val (.long u0), .second, .val (.long u1), .second, .val (.long u2), .second, .val (.int sel), .val (.int (3 : Int32)), .val (.int x0), .val (.int x1), .val (.int x2), .val (.int y0), .val (.int y1), .val (.int y2), .val (.ref b142), .val (.ref b151), .unset, .unset, .unset] []))
              obtain ⟨T165, h165, X165, e165, E165, A165, D165, -, st165⟩ := newO X162 hx hZ hown (hw _ (List.mem_of_getElem? (i := 1) rfl)) (hw _ (List.mem_of_getElem? (i := 2) rfl)) (hw _ (List.mem_of_getElem? (i := 3) rfl)) e162 (g := (mkF m 205 #[.val (.long u0), .second, .val (.long u1), .second, .val (.long u2), .second, .val (.int sel), .val (.int (3 : Int32)), .val (.int x0), .val (.int x1), .val (.int x2), .val (.int y0), .val (.int y1), .val (.int y2), .val (.ref b142), .val (.ref b151), .unset, .unset, .unset] [])) rfl (hb hby at_205) (by decide) (by decide)
              obtain ⟨b165, g165⟩ : ∃ z, z = h162.size := ⟨_, rfl⟩
              rw [← g165] at A165 D165 st165
              refine own_go st165 ?_
              have ne166 : b142 ≠ b165 := Nat.ne_of_lt (Nat.lt_of_lt_of_le F163.lt (Nat.le_of_eq g165.symm))
              have ne167 : b151 ≠ b165 := Nat.ne_of_lt (Nat.lt_of_lt_of_le V162.lt (Nat.le_of_eq g165.symm))
              have ge168 : n0 ≤ b165 := Nat.le_trans Z164 (Nat.le_of_eq g165.symm)
              have F169 := OAr.ext F163 E165
              have F170 := OAr.ext V162 E165
              have Z171 := Nat.le_trans Z164 E165.1
              have F172 : Fld Z h165 b165 "com/example/antipode/antipode/net/Marking" "tokens" "[I" .null := D165 (Or.inr (hw _ (List.mem_of_getElem? (i := 11) rfl))) (ty := (.array .int)) (by decide)
              show OwnWk _ _ _ _ (T165.setTop (mkF m 208 #[.val (.long u0), .second, .val (.long u1), .second, .val (.long u2), .second, .val (.int sel), .val (.int (3 : Int32)), .val (.int x0), .val (.int x1), .val (.int x2), .val (.int y0), .val (.int y1), .val (.int y2), .val (.ref b142), .val (.ref b151), .unset, .unset, .unset] [(.ref b165)]))
              refine own_go (fun t k => XS.dup X165.here hx rfl (hb hby at_208) rfl rfl k) ?_
              show OwnWk _ _ _ _ (T165.setTop (mkF m 209 #[.val (.long u0), .second, .val (.long u1), .second, .val (.long u2), .second, .val (.int sel), .val (.int (3 : Int32)), .val (.int x0), .val (.int x1), .val (.int x2), .val (.int y0), .val (.int y1), .val (.int y2), .val (.ref b142), .val (.ref b151), .unset, .unset, .unset] [(.ref b165), (.ref b165)]))
              refine own_go (fun t k => XS.aload X165.here hx rfl (hb hby at_209) rfl rfl  k) ?_
              show OwnWk _ _ _ _ (T165.setTop (mkF m 211 #[.val (.long u0), .second, .val (.long u1), .second, .val (.long u2), .second, .val (.int sel), .val (.int (3 : Int32)), .val (.int x0), .val (.int x1), .val (.int x2), .val (.int y0), .val (.int y1), .val (.int y2), .val (.ref b142), .val (.ref b151), .unset, .unset, .unset] [(.ref b142), (.ref b165), (.ref b165)]))
              refine own_callC X165 hx hZ (y := (⟨"com/example/antipode/antipode/net/Marking", "<init>", "([I)V"⟩ : MethodName)) hown rfl (hw _ (List.mem_of_getElem? (i := 4) rfl)) (hw _ (List.mem_of_getElem? (i := 5) rfl)) (hw _ (List.mem_of_getElem? (i := 3) rfl)) (hw _ (List.mem_of_getElem? (i := 6) rfl)) (by decide) (a := b165) (argsL := [(.ref b142)]) (rest := [(.ref b165)]) (rm := ({ frames := 1, cells := 0, slots := 0, locals := 12 } : Room)) (h := h165) (rm1 l Z a0 hw b165 b142 h165 n0 Z171 F172 A165 ge168) e165 (W := 1) (by decide) (by decide) (by decide) (by decide) (g := (mkF m 211 #[.val (.long u0), .second, .val (.long u1), .second, .val (.long u2), .second, .val (.int sel), .val (.int (3 : Int32)), .val (.int x0), .val (.int x1), .val (.int x2), .val (.int y0), .val (.int y1), .val (.int y2), .val (.ref b142), .val (.ref b151), .unset, .unset, .unset] [(.ref b142), (.ref b165), (.ref b165)])) rfl (by rw [hml]; rfl) (lenOf pd_0 rfl) rfl (by show 2 * 0 + _ ≤ _; exact Nat.le_of_eq rfl) (hb hby at_211) (fun v173 T173 h173 L173 X173 e173 hQ173 => ?_)
              obtain ⟨rfl, Nq173, Kq173, Fq173⟩ := hQ173
              have N173 := Fr.app N162 Nq173
              have F174 := OAr.keep F169 Kq173 (ninS ne166 nin0)
              have F175 := OAr.keep F170 Kq173 (ninS ne167 nin0)
              have F176 := Exa.keep A165 Kq173
              have Z177 := Nat.le_trans Z171 Kq173.1
              show OwnWk _ _ _ _ (T173.setTop (mkF m 214 #[.val (.long u0), .second, .val (.long u1), .second, .val (.long u2), .second, .val (.int sel), .val (.int (3 : Int32)), .val (.int x0), .val (.int x1), .val (.int x2), .val (.int y0), .val (.int y1), .val (.int y2), .val (.ref b142), .val (.ref b151), .unset, .unset, .unset] [(.ref b165)]))
              refine own_go (fun t k => XS.astore X173.here hx rfl (hb hby at_214) rfl rfl (l' := #[.val (.long u0), .second, .val (.long u1), .second, .val (.long u2), .second, .val (.int sel), .val (.int (3 : Int32)), .val (.int x0), .val (.int x1), .val (.int x2), .val (.int y0), .val (.int y1), .val (.int y2), .val (.ref b142), .val (.ref b151), .val (.ref b165), .unset, .unset]) rfl k) ?_
              show OwnWk _ _ _ _ (T173.setTop (mkF m 216 #[.val (.long u0), .second, .val (.long u1), .second, .val (.long u2), .second, .val (.int sel), .val (.int (3 : Int32)), .val (.int x0), .val (.int x1), .val (.int x2), .val (.int y0), .val (.int y1), .val (.int y2), .val (.ref b142), .val (.ref b151), .val (.ref b165), .unset, .unset] []))
              obtain ⟨T178, h178, X178, e178, E178, A178, D178, -, st178⟩ := newO X173 hx hZ hown (hw _ (List.mem_of_getElem? (i := 1) rfl)) (hw _ (List.mem_of_getElem? (i := 2) rfl)) (hw _ (List.mem_of_getElem? (i := 3) rfl)) e173 (g := (mkF m 216 #[.val (.long u0), .second, .val (.long u1), .second, .val (.long u2), .second, .val (.int sel), .val (.int (3 : Int32)), .val (.int x0), .val (.int x1), .val (.int x2), .val (.int y0), .val (.int y1), .val (.int y2), .val (.ref b142), .val (.ref b151), .val (.ref b165), .unset, .unset] [])) rfl (hb hby at_216) (by decide) (by decide)
              obtain ⟨b178, g178⟩ : ∃ z, z = h173.size := ⟨_, rfl⟩
              rw [← g178] at A178 D178 st178
              refine own_go st178 ?_
              have ne179 : b142 ≠ b178 := Nat.ne_of_lt (Nat.lt_of_lt_of_le F174.lt (Nat.le_of_eq g178.symm))
              have ne180 : b151 ≠ b178 := Nat.ne_of_lt (Nat.lt_of_lt_of_le F175.lt (Nat.le_of_eq g178.symm))
              have ne181 : b165 ≠ b178 := Nat.ne_of_lt (Nat.lt_of_lt_of_le F176.lt (Nat.le_of_eq g178.symm))
              have ge182 : n0 ≤ b178 := Nat.le_trans Z177 (Nat.le_of_eq g178.symm)
              have F183 := OAr.ext F174 E178
              have F184 := OAr.ext F175 E178
              have F185 := Exa.ext E178 F176
              have F186 := Fld.ext E178 Fq173
              have Z187 := Nat.le_trans Z177 E178.1
              have F188 : Fld Z h178 b178 "com/example/antipode/antipode/net/Marking" "tokens" "[I" .null := D178 (Or.inr (hw _ (List.mem_of_getElem? (i := 11) rfl))) (ty := (.array .int)) (by decide)
              show OwnWk _ _ _ _ (T178.setTop (mkF m 219 #[.val (.long u0), .second, .val (.long u1), .second, .val (.long u2), .second, .val (.int sel), .val (.int (3 : Int32)), .val (.int x0), .val (.int x1), .val (.int x2), .val (.int y0), .val (.int y1), .val (.int y2), .val (.ref b142), .val (.ref b151), .val (.ref b165), .unset, .unset] [(.ref b178)]))
              refine own_go (fun t k => XS.dup X178.here hx rfl (hb hby at_219) rfl rfl k) ?_
              show OwnWk _ _ _ _ (T178.setTop (mkF m 220 #[.val (.long u0), .second, .val (.long u1), .second, .val (.long u2), .second, .val (.int sel), .val (.int (3 : Int32)), .val (.int x0), .val (.int x1), .val (.int x2), .val (.int y0), .val (.int y1), .val (.int y2), .val (.ref b142), .val (.ref b151), .val (.ref b165), .unset, .unset] [(.ref b178), (.ref b178)]))
              refine own_go (fun t k => XS.aload X178.here hx rfl (hb hby at_220) rfl rfl  k) ?_
              show OwnWk _ _ _ _ (T178.setTop (mkF m 222 #[.val (.long u0), .second, .val (.long u1), .second, .val (.long u2), .second, .val (.int sel), .val (.int (3 : Int32)), .val (.int x0), .val (.int x1), .val (.int x2), .val (.int y0), .val (.int y1), .val (.int y2), .val (.ref b142), .val (.ref b151), .val (.ref b165), .unset, .unset] [(.ref b151), (.ref b178), (.ref b178)]))
              refine own_callC X178 hx hZ (y := (⟨"com/example/antipode/antipode/net/Marking", "<init>", "([I)V"⟩ : MethodName)) hown rfl (hw _ (List.mem_of_getElem? (i := 4) rfl)) (hw _ (List.mem_of_getElem? (i := 5) rfl)) (hw _ (List.mem_of_getElem? (i := 3) rfl)) (hw _ (List.mem_of_getElem? (i := 6) rfl)) (by decide) (a := b178) (argsL := [(.ref b151)]) (rest := [(.ref b178)]) (rm := ({ frames := 1, cells := 0, slots := 0, locals := 12 } : Room)) (h := h178) (rm1 l Z a0 hw b178 b151 h178 n0 Z187 F188 A178 ge182) e178 (W := 1) (by decide) (by decide) (by decide) (by decide) (g := (mkF m 222 #[.val (.long u0), .second, .val (.long u1), .second, .val (.long u2), .second, .val (.int sel), .val (.int (3 : Int32)), .val (.int x0), .val (.int x1), .val (.int x2), .val (.int y0), .val (.int y1), .val (.int y2), .val (.ref b142), .val (.ref b151), .val (.ref b165), .unset, .unset] [(.ref b151), (.ref b178), (.ref b178)])) rfl (by rw [hml]; rfl) (lenOf pd_0 rfl) rfl (by show 2 * 0 + _ ≤ _; exact Nat.le_of_eq rfl) (hb hby at_222) (fun v189 T189 h189 L189 X189 e189 hQ189 => ?_)
              obtain ⟨rfl, Nq189, Kq189, Fq189⟩ := hQ189
              have N189 := Fr.app N173 Nq189
              have F190 := OAr.keep F183 Kq189 (ninS ne179 nin0)
              have F191 := OAr.keep F184 Kq189 (ninS ne180 nin0)
              have F192 := Exa.keep F185 Kq189
              have F193 := Fld.keep F186 Kq189 (ninS ne181 nin0)
              have F194 := Exa.keep A178 Kq189
              have Z195 := Nat.le_trans Z187 Kq189.1
              show OwnWk _ _ _ _ (T189.setTop (mkF m 225 #[.val (.long u0), .second, .val (.long u1), .second, .val (.long u2), .second, .val (.int sel), .val (.int (3 : Int32)), .val (.int x0), .val (.int x1), .val (.int x2), .val (.int y0), .val (.int y1), .val (.int y2), .val (.ref b142), .val (.ref b151), .val (.ref b165), .unset, .unset] [(.ref b178)]))
              refine own_go (fun t k => XS.astore X189.here hx rfl (hb hby at_225) rfl rfl (l' := #[.val (.long u0), .second, .val (.long u1), .second, .val (.long u2), .second, .val (.int sel), .val (.int (3 : Int32)), .val (.int x0), .val (.int x1), .val (.int x2), .val (.int y0), .val (.int y1), .val (.int y2), .val (.ref b142), .val (.ref b151), .val (.ref b165), .val (.ref b178), .unset]) rfl k) ?_
              show OwnWk _ _ _ _ (T189.setTop (mkF m 227 #[.val (.long u0), .second, .val (.long u1), .second, .val (.long u2), .second, .val (.int sel), .val (.int (3 : Int32)), .val (.int x0), .val (.int x1), .val (.int x2), .val (.int y0), .val (.int y1), .val (.int y2), .val (.ref b142), .val (.ref b151), .val (.ref b165), .val (.ref b178), .unset] []))
              refine own_go (fun t k => XS.aload X189.here hx rfl (hb hby at_227) rfl rfl  k) ?_
              show OwnWk _ _ _ _ (T189.setTop (mkF m 229 #[.val (.long u0), .second, .val (.long u1), .second, .val (.long u2), .second, .val (.int sel), .val (.int (3 : Int32)), .val (.int x0), .val (.int x1), .val (.int x2), .val (.int y0), .val (.int y1), .val (.int y2), .val (.ref b142), .val (.ref b151), .val (.ref b165), .val (.ref b178), .unset] [(.ref b165)]))
              refine own_go (fun t k => XS.aload X189.here hx rfl (hb hby at_229) rfl rfl  k) ?_
              show OwnWk _ _ _ _ (T189.setTop (mkF m 231 #[.val (.long u0), .second, .val (.long u1), .second, .val (.long u2), .second, .val (.int sel), .val (.int (3 : Int32)), .val (.int x0), .val (.int x1), .val (.int x2), .val (.int y0), .val (.int y1), .val (.int y2), .val (.ref b142), .val (.ref b151), .val (.ref b165), .val (.ref b178), .unset] [(.ref b178), (.ref b165)]))
              refine own_callV X189 hx hZ (y := (⟨"com/example/antipode/antipode/net/Marking", "strictlyCovers", "(Lcom/example/antipode/antipode/net/Marking;)I"⟩ : MethodName)) (z := (⟨"com/example/antipode/antipode/net/Marking", "strictlyCovers", "(Lcom/example/antipode/antipode/net/Marking;)I"⟩ : MethodName)) hown (hw _ (List.mem_of_getElem? (i := 12) rfl)) (hw _ (List.mem_of_getElem? (i := 13) rfl)) (notFace_of_selects (args := #[]) (mvT hZ (hw _ (List.mem_of_getElem? (i := 15) rfl)))) (hw _ (List.mem_of_getElem? (i := 15) rfl)) (hw _ (List.mem_of_getElem? (i := 14) rfl)) (hw _ (List.mem_of_getElem? (i := 3) rfl)) (hw _ (List.mem_of_getElem? (i := 16) rfl)) (by decide) (a := b165) F192 (argsL := [(.ref b178)]) (rest := []) (rm := ({ frames := 0, cells := 0, slots := 0, locals := 0 } : Room)) (h := h189) (rm3 l Z a0 hw b165 b178 b142 b151 [x0, x1, x2] [y0, y1, y2] h189 n0 Z195 F193 Fq189 F190 F191 rfl (by simp)) e189 (W := 0) (by decide) (by decide) (by decide) (by decide) (g := (mkF m 231 #[.val (.long u0), .second, .val (.long u1), .second, .val (.long u2), .second, .val (.int sel), .val (.int (3 : Int32)), .val (.int x0), .val (.int x1), .val (.int x2), .val (.int y0), .val (.int y1), .val (.int y2), .val (.ref b142), .val (.ref b151), .val (.ref b165), .val (.ref b178), .unset] [(.ref b178), (.ref b165)])) rfl (by rw [hml]; rfl) (lenOf pd_1 rfl) rfl (by show 2 * 0 + _ ≤ _; exact Nat.le_of_eq rfl) (hb hby at_231) (fun v196 T196 h196 L196 X196 e196 hQ196 => ?_)
              obtain ⟨rfl, Nq196, q196⟩ := hQ196
              have N196 := Fr.app N189 Nq196
              rw [q196] at e196
              show OwnWk _ _ _ _ (T196.setTop (mkF m 234 #[.val (.long u0), .second, .val (.long u1), .second, .val (.long u2), .second, .val (.int sel), .val (.int (3 : Int32)), .val (.int x0), .val (.int x1), .val (.int x2), .val (.int y0), .val (.int y1), .val (.int y2), .val (.ref b142), .val (.ref b151), .val (.ref b165), .val (.ref b178), .unset] [(.int (own_cov [x0, x1, x2] [y0, y1, y2] 0 (-1)))]))
              refine own_go (fun t k => XS.istore X196.here hx rfl (hb hby at_234) rfl (l' := #[.val (.long u0), .second, .val (.long u1), .second, .val (.long u2), .second, .val (.int sel), .val (.int (3 : Int32)), .val (.int x0), .val (.int x1), .val (.int x2), .val (.int y0), .val (.int y1), .val (.int y2), .val (.ref b142), .val (.ref b151), .val (.ref b165), .val (.ref b178), .val (.int (own_cov [x0, x1, x2] [y0, y1, y2] 0 (-1)))]) rfl k) ?_
              show OwnWk _ _ _ _ (T196.setTop (mkF m 236 #[.val (.long u0), .second, .val (.long u1), .second, .val (.long u2), .second, .val (.int sel), .val (.int (3 : Int32)), .val (.int x0), .val (.int x1), .val (.int x2), .val (.int y0), .val (.int y1), .val (.int y2), .val (.ref b142), .val (.ref b151), .val (.ref b165), .val (.ref b178), .val (.int (own_cov [x0, x1, x2] [y0, y1, y2] 0 (-1)))] []))
              refine own_go (fun t k => XS.iload X196.here hx rfl (hb hby at_236) rfl  k) ?_
              show OwnWk _ _ _ _ (T196.setTop (mkF m 238 #[.val (.long u0), .second, .val (.long u1), .second, .val (.long u2), .second, .val (.int sel), .val (.int (3 : Int32)), .val (.int x0), .val (.int x1), .val (.int x2), .val (.int y0), .val (.int y1), .val (.int y2), .val (.ref b142), .val (.ref b151), .val (.ref b165), .val (.ref b178), .val (.int (own_cov [x0, x1, x2] [y0, y1, y2] 0 (-1)))] [(.int (own_cov [x0, x1, x2] [y0, y1, y2] 0 (-1)))]))
              refine own_go (fun t k => XS.iload X196.here hx rfl (hb hby at_238) rfl  k) ?_
              show OwnWk _ _ _ _ (T196.setTop (mkF m 240 #[.val (.long u0), .second, .val (.long u1), .second, .val (.long u2), .second, .val (.int sel), .val (.int (3 : Int32)), .val (.int x0), .val (.int x1), .val (.int x2), .val (.int y0), .val (.int y1), .val (.int y2), .val (.ref b142), .val (.ref b151), .val (.ref b165), .val (.ref b178), .val (.int (own_cov [x0, x1, x2] [y0, y1, y2] 0 (-1)))] [(.int (3 : Int32)), (.int (own_cov [x0, x1, x2] [y0, y1, y2] 0 (-1)))]))
              refine own_go (fun t k => XS.iload X196.here hx rfl (hb hby at_240) rfl  k) ?_
              show OwnWk _ _ _ _ (T196.setTop (mkF m 242 #[.val (.long u0), .second, .val (.long u1), .second, .val (.long u2), .second, .val (.int sel), .val (.int (3 : Int32)), .val (.int x0), .val (.int x1), .val (.int x2), .val (.int y0), .val (.int y1), .val (.int y2), .val (.ref b142), .val (.ref b151), .val (.ref b165), .val (.ref b178), .val (.int (own_cov [x0, x1, x2] [y0, y1, y2] 0 (-1)))] [(.int x0), (.int (3 : Int32)), (.int (own_cov [x0, x1, x2] [y0, y1, y2] 0 (-1)))]))
              refine own_go (fun t k => XS.iload X196.here hx rfl (hb hby at_242) rfl  k) ?_
              show OwnWk _ _ _ _ (T196.setTop (mkF m 244 #[.val (.long u0), .second, .val (.long u1), .second, .val (.long u2), .second, .val (.int sel), .val (.int (3 : Int32)), .val (.int x0), .val (.int x1), .val (.int x2), .val (.int y0), .val (.int y1), .val (.int y2), .val (.ref b142), .val (.ref b151), .val (.ref b165), .val (.ref b178), .val (.int (own_cov [x0, x1, x2] [y0, y1, y2] 0 (-1)))] [(.int x1), (.int x0), (.int (3 : Int32)), (.int (own_cov [x0, x1, x2] [y0, y1, y2] 0 (-1)))]))
              refine own_go (fun t k => XS.iload X196.here hx rfl (hb hby at_244) rfl  k) ?_
              show OwnWk _ _ _ _ (T196.setTop (mkF m 246 #[.val (.long u0), .second, .val (.long u1), .second, .val (.long u2), .second, .val (.int sel), .val (.int (3 : Int32)), .val (.int x0), .val (.int x1), .val (.int x2), .val (.int y0), .val (.int y1), .val (.int y2), .val (.ref b142), .val (.ref b151), .val (.ref b165), .val (.ref b178), .val (.int (own_cov [x0, x1, x2] [y0, y1, y2] 0 (-1)))] [(.int x2), (.int x1), (.int x0), (.int (3 : Int32)), (.int (own_cov [x0, x1, x2] [y0, y1, y2] 0 (-1)))]))
              refine own_go (fun t k => XS.iload X196.here hx rfl (hb hby at_246) rfl  k) ?_
              show OwnWk _ _ _ _ (T196.setTop (mkF m 248 #[.val (.long u0), .second, .val (.long u1), .second, .val (.long u2), .second, .val (.int sel), .val (.int (3 : Int32)), .val (.int x0), .val (.int x1), .val (.int x2), .val (.int y0), .val (.int y1), .val (.int y2), .val (.ref b142), .val (.ref b151), .val (.ref b165), .val (.ref b178), .val (.int (own_cov [x0, x1, x2] [y0, y1, y2] 0 (-1)))] [(.int y0), (.int x2), (.int x1), (.int x0), (.int (3 : Int32)), (.int (own_cov [x0, x1, x2] [y0, y1, y2] 0 (-1)))]))
              refine own_go (fun t k => XS.iload X196.here hx rfl (hb hby at_248) rfl  k) ?_
              show OwnWk _ _ _ _ (T196.setTop (mkF m 250 #[.val (.long u0), .second, .val (.long u1), .second, .val (.long u2), .second, .val (.int sel), .val (.int (3 : Int32)), .val (.int x0), .val (.int x1), .val (.int x2), .val (.int y0), .val (.int y1), .val (.int y2), .val (.ref b142), .val (.ref b151), .val (.ref b165), .val (.ref b178), .val (.int (own_cov [x0, x1, x2] [y0, y1, y2] 0 (-1)))] [(.int y1), (.int y0), (.int x2), (.int x1), (.int x0), (.int (3 : Int32)), (.int (own_cov [x0, x1, x2] [y0, y1, y2] 0 (-1)))]))
              refine own_go (fun t k => XS.iload X196.here hx rfl (hb hby at_250) rfl  k) ?_
              show OwnWk _ _ _ _ (T196.setTop (mkF m 252 #[.val (.long u0), .second, .val (.long u1), .second, .val (.long u2), .second, .val (.int sel), .val (.int (3 : Int32)), .val (.int x0), .val (.int x1), .val (.int x2), .val (.int y0), .val (.int y1), .val (.int y2), .val (.ref b142), .val (.ref b151), .val (.ref b165), .val (.ref b178), .val (.int (own_cov [x0, x1, x2] [y0, y1, y2] 0 (-1)))] [(.int y2), (.int y1), (.int y0), (.int x2), (.int x1), (.int x0), (.int (3 : Int32)), (.int (own_cov [x0, x1, x2] [y0, y1, y2] 0 (-1)))]))
              refine own_callS X196 hx hZ (y := (⟨"com/example/antipode/antipode/net/MarkingStrictlyCoversPinLaw", "reference", "(IIIIIII)I"⟩ : MethodName)) hown (hw _ (List.mem_of_getElem? (i := 17) rfl)) (hw _ (List.mem_of_getElem? (i := 18) rfl)) (hw _ (List.mem_of_getElem? (i := 19) rfl)) (hw _ (List.mem_of_getElem? (i := 20) rfl)) (by decide) (argsL := [(.int (3 : Int32)), (.int x0), (.int x1), (.int x2), (.int y0), (.int y1), (.int y2)]) (rest := [(.int (own_cov [x0, x1, x2] [y0, y1, y2] 0 (-1)))]) (rm := ({ frames := 0, cells := 0, slots := 0, locals := 0 } : Room)) (h := h189) (rm4 l Z a0 hw (3 : Int32) x0 x1 x2 y0 y1 y2 h189 n0 Z195) e196 (W := 1) (by decide) (by decide) (by decide) (by decide) (g := (mkF m 252 #[.val (.long u0), .second, .val (.long u1), .second, .val (.long u2), .second, .val (.int sel), .val (.int (3 : Int32)), .val (.int x0), .val (.int x1), .val (.int x2), .val (.int y0), .val (.int y1), .val (.int y2), .val (.ref b142), .val (.ref b151), .val (.ref b165), .val (.ref b178), .val (.int (own_cov [x0, x1, x2] [y0, y1, y2] 0 (-1)))] [(.int y2), (.int y1), (.int y0), (.int x2), (.int x1), (.int x0), (.int (3 : Int32)), (.int (own_cov [x0, x1, x2] [y0, y1, y2] 0 (-1)))])) rfl (by rw [hml]; rfl) (lenOf pd_2 rfl) rfl (by show 2 * 0 + _ ≤ _; exact Nat.le_of_eq rfl) (hb hby at_252) (fun v197 T197 h197 L197 X197 e197 hQ197 => ?_)
              obtain ⟨rfl, Nq197, q197⟩ := hQ197
              have N197 := Fr.app N196 Nq197
              rw [q197] at e197
              show OwnWk _ _ _ _ (T197.setTop (mkF m 255 #[.val (.long u0), .second, .val (.long u1), .second, .val (.long u2), .second, .val (.int sel), .val (.int (3 : Int32)), .val (.int x0), .val (.int x1), .val (.int x2), .val (.int y0), .val (.int y1), .val (.int y2), .val (.ref b142), .val (.ref b151), .val (.ref b165), .val (.ref b178), .val (.int (own_cov [x0, x1, x2] [y0, y1, y2] 0 (-1)))] [(.int (own_ref (3 : Int32) x0 x1 x2 y0 y1 y2)), (.int (own_cov [x0, x1, x2] [y0, y1, y2] 0 (-1)))]))
              refine own_go (fun t k => XS.icmpNo X197.here hx rfl (hb hby at_255) rfl (teq (own_last3 x0 x1 x2 y0 y1 y2)).2 k) ?_
              show OwnWk _ _ _ _ (T197.setTop (mkF m 258 #[.val (.long u0), .second, .val (.long u1), .second, .val (.long u2), .second, .val (.int sel), .val (.int (3 : Int32)), .val (.int x0), .val (.int x1), .val (.int x2), .val (.int y0), .val (.int y1), .val (.int y2), .val (.ref b142), .val (.ref b151), .val (.ref b165), .val (.ref b178), .val (.int (own_cov [x0, x1, x2] [y0, y1, y2] 0 (-1)))] []))
              refine own_go (fun t k => XS.iconst X197.here hx rfl (hb hby at_258) k) ?_
              show OwnWk _ _ _ _ (T197.setTop (mkF m 259 #[.val (.long u0), .second, .val (.long u1), .second, .val (.long u2), .second, .val (.int sel), .val (.int (3 : Int32)), .val (.int x0), .val (.int x1), .val (.int x2), .val (.int y0), .val (.int y1), .val (.int y2), .val (.ref b142), .val (.ref b151), .val (.ref b165), .val (.ref b178), .val (.int (own_cov [x0, x1, x2] [y0, y1, y2] 0 (-1)))] [(.int (1 : Int32))]))
              refine own_go (fun t k => XS.goto X197.here hx rfl (pc0 := 259) (pc' := 263) rfl (hb hby at_259) (by decide) (by decide) k) ?_
              show OwnWk _ _ _ _ (T197.setTop (mkF m 263 #[.val (.long u0), .second, .val (.long u1), .second, .val (.long u2), .second, .val (.int sel), .val (.int (3 : Int32)), .val (.int x0), .val (.int x1), .val (.int x2), .val (.int y0), .val (.int y1), .val (.int y2), .val (.ref b142), .val (.ref b151), .val (.ref b165), .val (.ref b178), .val (.int (own_cov [x0, x1, x2] [y0, y1, y2] 0 (-1)))] [(.int (1 : Int32))]))
              exact own_retZ X197 hx hlk hret (by simp) (z' := (1 : Int32)) rfl (hb hby at_263) (by decide) (by decide) (by rw [e197]; exact ⟨rfl, N197⟩)
      by_cases hc198 : (sel &&& (16 : Int32)) = (0 : Int32)
      ·
        refine own_go (fun t k => XS.ifYes X0.here hx rfl (pc0 := 66) (pc' := 74) rfl (hb hby at_66) rfl ((if0 _ _).trans (teq hc198).1) (by decide) (by decide) k) ?_
        show OwnWk _ _ _ _ (s₁.setTop (mkF m 74 #[.val (.long u0), .second, .val (.long u1), .second, .val (.long u2), .second, .val (.int sel), .val (.int n1), .val (.int x0), .val (.int x1), .val (.int x2), .val (.int y0), .val (.int y1), .unset, .unset, .unset, .unset, .unset, .unset] []))
        refine own_go (fun t k => XS.lload X0.here hx rfl (hb hby at_74) rfl  k) ?_
        show OwnWk _ _ _ _ (s₁.setTop (mkF m 76 #[.val (.long u0), .second, .val (.long u1), .second, .val (.long u2), .second, .val (.int sel), .val (.int n1), .val (.int x0), .val (.int x1), .val (.int x2), .val (.int y0), .val (.int y1), .unset, .unset, .unset, .unset, .unset, .unset] [(.long u2)]))
        refine own_go (fun t k => XS.l2i X0.here hx rfl (hb hby at_76) rfl k) ?_
        show OwnWk _ _ _ _ (s₁.setTop (mkF m 77 #[.val (.long u0), .second, .val (.long u1), .second, .val (.long u2), .second, .val (.int sel), .val (.int n1), .val (.int x0), .val (.int x1), .val (.int x2), .val (.int y0), .val (.int y1), .unset, .unset, .unset, .unset, .unset, .unset] [(.int (u2.toInt32))]))
        exact Jy2 _
      ·
        refine own_go (fun t k => XS.ifNo X0.here hx rfl (hb hby at_66) rfl ((if0 _ _).trans (feq hc198).1) k) ?_
        show OwnWk _ _ _ _ (s₁.setTop (mkF m 69 #[.val (.long u0), .second, .val (.long u1), .second, .val (.long u2), .second, .val (.int sel), .val (.int n1), .val (.int x0), .val (.int x1), .val (.int x2), .val (.int y0), .val (.int y1), .unset, .unset, .unset, .unset, .unset, .unset] []))
        refine own_go (fun t k => XS.iload X0.here hx rfl (hb hby at_69) rfl  k) ?_
        show OwnWk _ _ _ _ (s₁.setTop (mkF m 71 #[.val (.long u0), .second, .val (.long u1), .second, .val (.long u2), .second, .val (.int sel), .val (.int n1), .val (.int x0), .val (.int x1), .val (.int x2), .val (.int y0), .val (.int y1), .unset, .unset, .unset, .unset, .unset, .unset] [(.int x2)]))
        refine own_go (fun t k => XS.goto X0.here hx rfl (pc0 := 71) (pc' := 77) rfl (hb hby at_71) (by decide) (by decide) k) ?_
        show OwnWk _ _ _ _ (s₁.setTop (mkF m 77 #[.val (.long u0), .second, .val (.long u1), .second, .val (.long u2), .second, .val (.int sel), .val (.int n1), .val (.int x0), .val (.int x1), .val (.int x2), .val (.int y0), .val (.int y1), .unset, .unset, .unset, .unset, .unset, .unset] [(.int x2)]))
        exact Jy2 _
    by_cases hc199 : (sel &&& (8 : Int32)) = (0 : Int32)
    ·
      refine own_go (fun t k => XS.ifYes X0.here hx rfl (pc0 := 49) (pc' := 57) rfl (hb hby at_49) rfl ((if0 _ _).trans (teq hc199).1) (by decide) (by decide) k) ?_
      show OwnWk _ _ _ _ (s₁.setTop (mkF m 57 #[.val (.long u0), .second, .val (.long u1), .second, .val (.long u2), .second, .val (.int sel), .val (.int n1), .val (.int x0), .val (.int x1), .val (.int x2), .val (.int y0), .unset, .unset, .unset, .unset, .unset, .unset, .unset] []))
      refine own_go (fun t k => XS.lloadN X0.here hx rfl (hb hby at_57) rfl  k) ?_
      show OwnWk _ _ _ _ (s₁.setTop (mkF m 58 #[.val (.long u0), .second, .val (.long u1), .second, .val (.long u2), .second, .val (.int sel), .val (.int n1), .val (.int x0), .val (.int x1), .val (.int x2), .val (.int y0), .unset, .unset, .unset, .unset, .unset, .unset, .unset] [(.long u1)]))
      refine own_go (fun t k => XS.l2i X0.here hx rfl (hb hby at_58) rfl k) ?_
      show OwnWk _ _ _ _ (s₁.setTop (mkF m 59 #[.val (.long u0), .second, .val (.long u1), .second, .val (.long u2), .second, .val (.int sel), .val (.int n1), .val (.int x0), .val (.int x1), .val (.int x2), .val (.int y0), .unset, .unset, .unset, .unset, .unset, .unset, .unset] [(.int (u1.toInt32))]))
      exact Jy1 _
    ·
      refine own_go (fun t k => XS.ifNo X0.here hx rfl (hb hby at_49) rfl ((if0 _ _).trans (feq hc199).1) k) ?_
      show OwnWk _ _ _ _ (s₁.setTop (mkF m 52 #[.val (.long u0), .second, .val (.long u1), .second, .val (.long u2), .second, .val (.int sel), .val (.int n1), .val (.int x0), .val (.int x1), .val (.int x2), .val (.int y0), .unset, .unset, .unset, .unset, .unset, .unset, .unset] []))
      refine own_go (fun t k => XS.iload X0.here hx rfl (hb hby at_52) rfl  k) ?_
      show OwnWk _ _ _ _ (s₁.setTop (mkF m 54 #[.val (.long u0), .second, .val (.long u1), .second, .val (.long u2), .second, .val (.int sel), .val (.int n1), .val (.int x0), .val (.int x1), .val (.int x2), .val (.int y0), .unset, .unset, .unset, .unset, .unset, .unset, .unset] [(.int x1)]))
      refine own_go (fun t k => XS.goto X0.here hx rfl (pc0 := 54) (pc' := 59) rfl (hb hby at_54) (by decide) (by decide) k) ?_
      show OwnWk _ _ _ _ (s₁.setTop (mkF m 59 #[.val (.long u0), .second, .val (.long u1), .second, .val (.long u2), .second, .val (.int sel), .val (.int n1), .val (.int x0), .val (.int x1), .val (.int x2), .val (.int y0), .unset, .unset, .unset, .unset, .unset, .unset, .unset] [(.int x1)]))
      exact Jy1 _
  by_cases hc200 : (sel &&& (4 : Int32)) = (0 : Int32)
  ·
    refine own_go (fun t k => XS.ifYes X0.here hx rfl (pc0 := 32) (pc' := 40) rfl (hb hby at_32) rfl ((if0 _ _).trans (teq hc200).1) (by decide) (by decide) k) ?_
    show OwnWk _ _ _ _ (s₁.setTop (mkF m 40 #[.val (.long u0), .second, .val (.long u1), .second, .val (.long u2), .second, .val (.int sel), .val (.int n1), .val (.int x0), .val (.int x1), .val (.int x2), .unset, .unset, .unset, .unset, .unset, .unset, .unset, .unset] []))
    refine own_go (fun t k => XS.lloadN X0.here hx rfl (hb hby at_40) rfl  k) ?_
    show OwnWk _ _ _ _ (s₁.setTop (mkF m 41 #[.val (.long u0), .second, .val (.long u1), .second, .val (.long u2), .second, .val (.int sel), .val (.int n1), .val (.int x0), .val (.int x1), .val (.int x2), .unset, .unset, .unset, .unset, .unset, .unset, .unset, .unset] [(.long u0)]))
    refine own_go (fun t k => XS.l2i X0.here hx rfl (hb hby at_41) rfl k) ?_
    show OwnWk _ _ _ _ (s₁.setTop (mkF m 42 #[.val (.long u0), .second, .val (.long u1), .second, .val (.long u2), .second, .val (.int sel), .val (.int n1), .val (.int x0), .val (.int x1), .val (.int x2), .unset, .unset, .unset, .unset, .unset, .unset, .unset, .unset] [(.int (u0.toInt32))]))
    exact Jy0 _
  ·
    refine own_go (fun t k => XS.ifNo X0.here hx rfl (hb hby at_32) rfl ((if0 _ _).trans (feq hc200).1) k) ?_
    show OwnWk _ _ _ _ (s₁.setTop (mkF m 35 #[.val (.long u0), .second, .val (.long u1), .second, .val (.long u2), .second, .val (.int sel), .val (.int n1), .val (.int x0), .val (.int x1), .val (.int x2), .unset, .unset, .unset, .unset, .unset, .unset, .unset, .unset] []))
    refine own_go (fun t k => XS.iload X0.here hx rfl (hb hby at_35) rfl  k) ?_
    show OwnWk _ _ _ _ (s₁.setTop (mkF m 37 #[.val (.long u0), .second, .val (.long u1), .second, .val (.long u2), .second, .val (.int sel), .val (.int n1), .val (.int x0), .val (.int x1), .val (.int x2), .unset, .unset, .unset, .unset, .unset, .unset, .unset, .unset] [(.int x0)]))
    refine own_go (fun t k => XS.goto X0.here hx rfl (pc0 := 37) (pc' := 42) rfl (hb hby at_37) (by decide) (by decide) k) ?_
    show OwnWk _ _ _ _ (s₁.setTop (mkF m 42 #[.val (.long u0), .second, .val (.long u1), .second, .val (.long u2), .second, .val (.int sel), .val (.int n1), .val (.int x0), .val (.int x1), .val (.int x2), .unset, .unset, .unset, .unset, .unset, .unset, .unset, .unset] [(.int x0)]))
    exact Jy0 _
set_option maxRecDepth 65536 in
set_option maxHeartbeats 40000000 in
theorem comes_1 {Post : Tables → Env → Array Value → State → Outcome → State → Prop} (hpost : ∀ tb e args s v u, (limb_1_1.after args s (.returned v) u = true ∧ limb_1_2.after args s (.returned v) u = true) → FrameEnd s (.returned v) u (Jvm.fieldLocs frame_1_writes args s ++ Jvm.arrayLocs frame_1_arrays args s ++ Jvm.staticLocs frame_1_statics s) 16 128 → Post tb e args s (.returned v) u) :
    ArmFor flags0 classFile x code maxLocals ret World_1 tables_1 room_1 Calls_1 rest_1 Pre_1 Post := by
  intro l hfl _ _ p e ha hc hk s m args below hf hA hF happ hP
  obtain ⟨hcalls, hrest, hpre⟩ := hP
  obtain ⟨-, -, -, hnamed, -, -, -, hat⟩ := (Spec.applies_iff hf).mp happ
  obtain ⟨hg, hn⟩ := and_e (Cond.before_iff.mp (show (Jvm.Cond.and given_1 narrow_1).before args s = true from hpre))
  obtain ⟨g0, r0⟩ := and_e hg
  obtain ⟨g1, r1⟩ := and_e r0
  obtain ⟨g2, r2⟩ := and_e r1
  obtain ⟨g3, r3⟩ := and_e r2
  obtain ⟨w0, w1, w2, w3, rfl⟩ : ∃ w0 w1 w2 w3 : Value, args = #[w0, w1, w2, w3] := by
    have hs : args.size = 4 := by simpa [Cond.value, given_1] using g0
    obtain ⟨L⟩ := args
    match L, hs with
    | [w0, w1, w2, w3], _ => exact ⟨w0, w1, w2, w3, rfl⟩
  have hw := fun d (hd : d ∈ tables_1) => atoms_spec (ws := Jvm.Cond.code x code maxLocals ret :: tables_1) hat d (List.mem_cons_of_mem _ hd)
  obtain ⟨i0, ei0⟩ := isL_v g1
  obtain rfl : w0 = (.long i0) := Option.some.inj ei0
  obtain ⟨i1, ei1⟩ := isL_v g2
  obtain rfl : w1 = (.long i1) := Option.some.inj ei1
  obtain ⟨i2, ei2⟩ := isL_v g3
  obtain rfl : w2 = (.long i2) := Option.some.inj ei2
  obtain ⟨i3, ei3⟩ := is_v r3
  obtain rfl : w3 = (.int i3) := Option.some.inj ei3
  obtain ⟨n, o, h1, h2, h3, _, L, rfl, ⟨rfl, N⟩, hq⟩ := rm0 l s _ hw i0 i1 i2 i3 s.heap s.heap.size (Nat.le_refl _)  p e ha hc hk s m _ below hf ((Spec.applies_iff_loose hf).mp happ).1 ⟨rfl, State.Warmed39.refl s, rfl⟩ trivial
  refine ⟨n, _, h1, h2, h3, hpost _ _ _ _ _ _ ⟨Cond.after_iff.mpr rfl, Cond.after_iff.mpr (eq_i res_at (Term.int_eval (1)) rfl)⟩ ⟨hq.1, hq.2.1, (hq.2.2.sift fun y hy => Or.inr (N y hy)).mono (by decide) (by decide)⟩⟩
theorem main_1_1 : Claimed_1_1 := comes_1 fun _ _ _ _ _ _ h hF => ⟨h.1, hF⟩
theorem main_1_2 : Claimed_1_2 := comes_1 fun _ _ _ _ _ _ h hF => ⟨h.2, hF⟩
end Jvm.Pilot.@@N@@
namespace Jvm.Pilot.@@N@@
open Jvm Jvm.ClassFile Sem Op Lib Jvm.Free Jvm.Stand Jvm.Pilot.@@N@@.Jvm.D
/-! MADE BY PROGRAM (witnessworld.py) out of the Statement's table words and the real class files: 9 classes; the members and pool entries that the words name. The judged class is class 1, her method 1. -/
namespace start1
open Jvm.ClassFile
def u (s : String) : CpInfo := .utf8 (stringToUtf16 s)
/-- a pool by its gaps: so many unusable entries, then the entry; so many at the end -/
def gap : Nat → List CpInfo → List CpInfo
  | 0, r => r
  | n + 1, r => .unusable :: gap n r
def poolList (es : List (Nat × CpInfo)) (last : Nat) : List CpInfo := es.foldr (fun e r => gap e.1 (e.2 :: r)) (gap last [])
def pool (es : List (Nat × CpInfo)) (last : Nat) : Array CpInfo := ⟨poolList es last⟩
def fileOf (pool : Array CpInfo) (this : Nat) (attrs : Array Attribute := #[]) (ms : Array MethodInfo := #[]) (fl : Nat := 33) (sup : Nat := 0) (ifs : Array Nat := #[]) (fds : Array FieldInfo := #[]) : ClassFile where
  minorVersion := 0
  majorVersion := 65
  constantPool := pool
  accessFlags := fl
  thisClass := this
  superClass := sup
  interfaces := ifs
  fields := fds
  methods := ms
  attributes := attrs
def plain (name : String) (sup : Option ClassId) : Class where
  name := name
  kind := .ordinary
  loader := none
  accessFlags := 33
  super := sup
  interfaces := #[]
  cf := none
  fields := #[]
  methods := #[]
  instanceTypes := #[]
  staticTypes := #[]
  resolved := #[]
  callSites := []
  init := .initialized
  statics := none
  mirror := none

def pool0 : Array CpInfo := pool [(5, u "<init>"), (0, u "()V"), (1, .class_ 10), (1, u "java/lang/Object")] 113

def k0c0 : Code := { maxStack := 0, maxLocals := 1, code := object_method_1_code, exceptionTable := #[], attributes := #[] }
def k0m0 : Method := { name := "<init>", desc := "()V", sig := { parameters := [], returnType := none }, accessFlags := 1, code := some k0c0 }
/-- java/lang/Object -/
def k0 : Class := { plain "java/lang/Object" none with
  accessFlags := 33
  interfaces := #[]
  cf := some (fileOf pool0 8 #[] #[{ accessFlags := 1, nameIndex := 5, descriptorIndex := 6, attributes := #[] }] 33 0 #[] #[])
  fields := #[]
  methods := #[k0m0]
  instanceTypes := #[]
  staticTypes := #[]
  resolved := Array.replicate 124 none
  statics := none }

def pool1 : Array CpInfo := pool [(2, .class_ 4), (1, u "java/lang/Object"), (0, u "<init>"), (0, u "()V"), (0, .class_ 8), (0, u "com/example/antipode/antipode/net/Marking"), (0, .methodref 7 10), (0, .nameAndType 5 11), (0, u "([I)V"), (0, .methodref 7 13), (0, .nameAndType 14 15), (0, u "strictlyCovers"), (0, u "(Lcom/example/antipode/antipode/net/Marking;)I"), (0, .methodref 17 18), (0, .class_ 19), (0, .nameAndType 20 21), (0, u "com/example/antipode/antipode/net/MarkingStrictlyCoversPinLaw"), (0, u "reference"), (0, u "(IIIIIII)I"), (2, u "law"), (0, u "(JJJI)Z")] 5

def k1m0 : Method := { name := "<init>", desc := "()V", sig := { parameters := [], returnType := none }, accessFlags := 1, code := none }
def k1c1 : Code := { maxStack := 8, maxLocals := 19, code := code, exceptionTable := #[], attributes := #[] }
def k1m1 : Method := { name := "law", desc := "(JJJI)Z", sig := { parameters := [.long, .long, .long, .int], returnType := some .boolean }, accessFlags := 9, code := some k1c1 }
def k1c2 : Code := { maxStack := 2, maxLocals := 7, code := method_3_code, exceptionTable := #[], attributes := #[] }
def k1m2 : Method := { name := "reference", desc := "(IIIIIII)I", sig := { parameters := [.int, .int, .int, .int, .int, .int, .int], returnType := some .int }, accessFlags := 10, code := some k1c2 }
/-- com/example/antipode/antipode/net/MarkingStrictlyCoversPinLaw -/
def k1 : Class := { plain "com/example/antipode/antipode/net/MarkingStrictlyCoversPinLaw" (some 0) with
  accessFlags := 49
  interfaces := #[]
  cf := some (fileOf pool1 17 #[] #[{ accessFlags := 1, nameIndex := 5, descriptorIndex := 6, attributes := #[] }, { accessFlags := 9, nameIndex := 24, descriptorIndex := 25, attributes := #[] }, { accessFlags := 10, nameIndex := 20, descriptorIndex := 21, attributes := #[] }] 49 2 #[] #[])
  fields := #[]
  methods := #[k1m0, k1m1, k1m2]
  instanceTypes := #[]
  staticTypes := #[]
  resolved := Array.replicate 31 none
  statics := none }

def pool2 : Array CpInfo := pool [(1, .methodref 2 3), (0, .class_ 4), (0, .nameAndType 5 6), (0, u "java/lang/Object"), (0, u "<init>"), (0, u "()V"), (0, .fieldref 8 9), (0, .class_ 10), (0, .nameAndType 11 12), (0, u "com/example/antipode/antipode/net/Marking"), (0, u "tokens"), (0, u "[I"), (15, u "([I)V"), (27, u "strictlyCovers"), (0, u "(Lcom/example/antipode/antipode/net/Marking;)I")] 6

def k2c0 : Code := { maxStack := 2, maxLocals := 2, code := prog_109_method_1_code, exceptionTable := #[], attributes := #[] }
def k2m0 : Method := { name := "<init>", desc := "([I)V", sig := { parameters := [(.array .int)], returnType := none }, accessFlags := 0, code := some k2c0 }
def k2c1 : Code := { maxStack := 3, maxLocals := 4, code := prog_109_method_5_code, exceptionTable := #[], attributes := #[] }
def k2m1 : Method := { name := "strictlyCovers", desc := "(Lcom/example/antipode/antipode/net/Marking;)I", sig := { parameters := [(.object "com/example/antipode/antipode/net/Marking")], returnType := some .int }, accessFlags := 0, code := some k2c1 }
/-- com/example/antipode/antipode/net/Marking -/
def k2 : Class := { plain "com/example/antipode/antipode/net/Marking" (some 0) with
  accessFlags := 49
  interfaces := #[]
  cf := some (fileOf pool2 8 #[] #[{ accessFlags := 0, nameIndex := 5, descriptorIndex := 28, attributes := #[] }, { accessFlags := 0, nameIndex := 56, descriptorIndex := 57, attributes := #[] }] 49 2 #[] #[{ accessFlags := 18, nameIndex := 11, descriptorIndex := 12, attributes := #[] }])
  fields := #[{ name := "tokens", type := (.array .int), accessFlags := 18, slot := 0, constantValue := 0 }]
  methods := #[k2m0, k2m1]
  instanceTypes := #[(.array .int)]
  staticTypes := #[]
  resolved := Array.replicate 64 none
  statics := none }

def pool3 : Array CpInfo := pool [(1, u "java/lang/Cloneable"), (0, .class_ 1), (0, u "java/lang/Object"), (0, .class_ 3)] 3

/-- java/lang/Cloneable -/
def k3 : Class := { plain "java/lang/Cloneable" (some 0) with
  accessFlags := 1537
  interfaces := #[]
  cf := some (fileOf pool3 2 #[] #[] 1537 4 #[] #[])
  fields := #[]
  methods := #[]
  instanceTypes := #[]
  staticTypes := #[]
  resolved := Array.replicate 8 none
  statics := none }

def pool4 : Array CpInfo := pool [(1, u "java/io/Serializable"), (0, .class_ 1), (0, u "java/lang/Object"), (0, .class_ 3)] 3

/-- java/io/Serializable -/
def k4 : Class := { plain "java/io/Serializable" (some 0) with
  accessFlags := 1537
  interfaces := #[]
  cf := some (fileOf pool4 2 #[] #[] 1537 4 #[] #[])
  fields := #[]
  methods := #[]
  instanceTypes := #[]
  staticTypes := #[]
  resolved := Array.replicate 8 none
  statics := none }

/-- the primitive byte -/
def k5 : Class := { plain "byte" none with kind := .primitive 'B', accessFlags := 0x411 }
/-- [B -/
def k6 : Class := { plain "[B" (some 0) with kind := .array 5 .byte, interfaces := #[3, 4], accessFlags := 1041 }

/-- the primitive int -/
def k7 : Class := { plain "int" none with kind := .primitive 'I', accessFlags := 0x411 }
/-- [I -/
def k8 : Class := { plain "[I" (some 0) with kind := .array 7 .int, interfaces := #[3, 4], accessFlags := 1041 }

def heap : Heap := #[]
def classes : Array Class := #[k0, k1, k2, k3, k4, k5, k6, k7, k8]
def interned : List (Array UInt16 × Addr) := []
def slotsUsed : Nat := 0
def theMethod : MethodId := ⟨1, 1⟩
def args0 : Array Value := #[.long 5, .long 6, .long 7, .int 3]
def aboutOver (below : List Frame) : State where
  vm := { classes := classes, interned := interned.toArray }
  heap := heap
  slotsUsed := slotsUsed
  threads := #[{ frames := .invoking theMethod args0 :: below }]
def below0 : List Frame := [.native { method := ⟨0, 0⟩, args := #[] }]
def about1 : State := aboutOver below0
def p0 : Program := .bare "" "" ""
def e0 : Env := launch0.env 0 0 0
theorem w_frames : about1.frames = Frame.invoking theMethod args0 :: below0 := rfl
set_option maxRecDepth 65536 in
theorem w_args : argsFit about1.vm theMethod args0 = true := by decide +kernel
set_option maxRecDepth 65536 in
theorem w_heap : heapFits about1 = true := by decide +kernel
set_option maxRecDepth 65536 in
theorem w_runnable : about1.curStatus? = some .runnable := by decide +kernel
set_option maxRecDepth 65536 in
theorem w_alone : about1.alone = true := by decide +kernel
set_option maxRecDepth 65536 in
theorem w_named : about1.methodNamed? x = some theMethod := by decide +kernel
set_option maxRecDepth 65536 in
theorem w_hears : about1.hears theMethod below0 = true := by decide +kernel
set_option maxRecDepth 65536 in
theorem w_ripe : about1.ripe theMethod args0 below0 = true := by decide +kernel
theorem w_running : about1.status = .running := rfl
set_option maxRecDepth 65536 in
theorem w_room : about1.hasRoom e0.platform room_1 = true :=
  launch0.hasRoom_least _ room_1 (by decide +kernel) (by decide +kernel) (by decide +kernel) (by decide +kernel) (by decide +kernel) (by decide +kernel)
theorem allAtoms_all (ts : List Jvm.Cond) (a : Array Jvm.Value) (st : Jvm.State) : (allAtoms ts).before a st = ts.all (fun c => c.before a st) := by
  induction ts with
  | nil => rfl
  | cons c t ih =>
    show (Jvm.Cond.and c (allAtoms t)).before a st = _
    rw [Jvm.Cond.before_and, ih, List.all_cons]
def words1 : List Jvm.Cond := Jvm.Cond.code x code maxLocals ret :: tables_1
/-- a 'code' word, met by the world's own term for the bytes: nothing is compared byte by byte -/
theorem code_word {y : MethodName} {bytes : ByteArray} {mx : Nat} {rt : Option FieldType} {a : Array Value} {s : State} {m : MethodId} {meth : Method} {c : Code} (h1 : s.methodNamed? y = some m) (h2 : s.vm.method? m = some meth) (h3 : meth.code = some c) (h4 : c.code = bytes)
    (h5 : (c.maxLocals == mx && c.exceptionTable.isEmpty && decide (c.maxStack ≤ mostOperands) && decide (meth.sig.returnType = rt) && !meth.locks && decide (parseMethodDescriptor y.desc = some meth.sig)) = true) : (Jvm.Cond.code y bytes mx rt).before a s = true := by
  simp only [Bool.and_eq_true, beq_iff_eq, Bool.not_eq_true', decide_eq_true_eq] at h5
  obtain ⟨⟨⟨⟨⟨g1, g2⟩, g3⟩, g4⟩, g5⟩, g6⟩ := h5
  simp [Cond.before, Cond.holds, Cond.value, h1, h2, h3, h4, g1, g2, g3, g4, g5, g6]
def isCode : Jvm.Cond → Bool
  | .code _ _ _ _ => true
  | _ => false
theorem all_split {L : List Jvm.Cond} {P : Jvm.Cond → Bool} (h1 : L.all (fun c => isCode c || P c) = true) (h2 : ∀ c ∈ L.filter isCode, P c = true) : L.all P = true := by
  refine List.all_eq_true.mpr fun c hc => ?_
  have h := List.all_eq_true.mp h1 c hc
  rcases Bool.eq_false_or_eq_true (isCode c) with hi | hi
  · exact h2 c (List.mem_filter.mpr ⟨hc, hi⟩)
  · simpa [hi] using h
set_option maxRecDepth 65536 in
theorem w_c0 : (Jvm.Cond.code x code maxLocals ret).before args0 about1 = true := code_word (m := ⟨1, 1⟩) (meth := k1m1) (c := k1c1) (by decide +kernel) rfl rfl rfl (by decide +kernel)
set_option maxRecDepth 65536 in
theorem w_c1 : (Jvm.Cond.code ({ cls := "com/example/antipode/antipode/net/Marking", name := "<init>", desc := "([I)V" } : Jvm.MethodName) prog_109_method_1_code (2 : Nat) (Option.none : Option Jvm.ClassFile.FieldType)).before args0 about1 = true := code_word (m := ⟨2, 0⟩) (meth := k2m0) (c := k2c0) (by decide +kernel) rfl rfl rfl (by decide +kernel)
set_option maxRecDepth 65536 in
theorem w_c2 : (Jvm.Cond.code ({ cls := "java/lang/Object", name := "<init>", desc := "()V" } : Jvm.MethodName) object_method_1_code (1 : Nat) (Option.none : Option Jvm.ClassFile.FieldType)).before args0 about1 = true := code_word (m := ⟨0, 0⟩) (meth := k0m0) (c := k0c0) (by decide +kernel) rfl rfl rfl (by decide +kernel)
set_option maxRecDepth 65536 in
theorem w_c3 : (Jvm.Cond.code ({ cls := "com/example/antipode/antipode/net/Marking", name := "strictlyCovers", desc := "(Lcom/example/antipode/antipode/net/Marking;)I" } : Jvm.MethodName) prog_109_method_5_code (4 : Nat) (Option.some Jvm.ClassFile.FieldType.int)).before args0 about1 = true := code_word (m := ⟨2, 1⟩) (meth := k2m1) (c := k2c1) (by decide +kernel) rfl rfl rfl (by decide +kernel)
set_option maxRecDepth 65536 in
theorem w_c4 : (Jvm.Cond.code ({ cls := "com/example/antipode/antipode/net/MarkingStrictlyCoversPinLaw", name := "reference", desc := "(IIIIIII)I" } : Jvm.MethodName) method_3_code (7 : Nat) (Option.some Jvm.ClassFile.FieldType.int)).before args0 about1 = true := code_word (m := ⟨1, 2⟩) (meth := k1m2) (c := k1c2) (by decide +kernel) rfl rfl rfl (by decide +kernel)
def codes1 : List Jvm.Cond := [Jvm.Cond.code x code maxLocals ret, Jvm.Cond.code ({ cls := "com/example/antipode/antipode/net/Marking", name := "<init>", desc := "([I)V" } : Jvm.MethodName) prog_109_method_1_code (2 : Nat) (Option.none : Option Jvm.ClassFile.FieldType), Jvm.Cond.code ({ cls := "java/lang/Object", name := "<init>", desc := "()V" } : Jvm.MethodName) object_method_1_code (1 : Nat) (Option.none : Option Jvm.ClassFile.FieldType), Jvm.Cond.code ({ cls := "com/example/antipode/antipode/net/Marking", name := "strictlyCovers", desc := "(Lcom/example/antipode/antipode/net/Marking;)I" } : Jvm.MethodName) prog_109_method_5_code (4 : Nat) (Option.some Jvm.ClassFile.FieldType.int), Jvm.Cond.code ({ cls := "com/example/antipode/antipode/net/MarkingStrictlyCoversPinLaw", name := "reference", desc := "(IIIIIII)I" } : Jvm.MethodName) method_3_code (7 : Nat) (Option.some Jvm.ClassFile.FieldType.int)]
set_option maxRecDepth 65536 in
theorem codes_eq : words1.filter isCode = codes1 := rfl
theorem w_codes : ∀ c ∈ words1.filter isCode, c.before args0 about1 = true := by
  rw [codes_eq]
  intro c hc
  simp only [codes1, List.mem_cons, List.not_mem_nil, or_false] at hc
  rcases hc with rfl | rfl | rfl | rfl | rfl
  · exact w_c0
  · exact w_c1
  · exact w_c2
  · exact w_c3
  · exact w_c4
set_option maxRecDepth 65536 in
theorem w_t1 : words1.all (fun c => isCode c || c.before args0 about1) = true := by decide +kernel
theorem w_tables : (allAtoms (Jvm.Cond.code x code maxLocals ret :: tables_1)).before args0 about1 = true := by
  rw [allAtoms_all]
  show words1.all (fun c => c.before args0 about1) = true
  refine all_split ?_ w_codes
  rw [w_t1]
set_option maxRecDepth 65536 in
theorem w_case : (Jvm.Cond.and given_1 narrow_1).before args0 about1 = true := by decide +kernel
theorem w_applies : (headSpec (Jvm.Cond.code x code maxLocals ret :: tables_1) room_1).applies x e0.platform about1 = true :=
  (Spec.applies_iff w_frames).mpr ⟨w_running, w_runnable, w_alone, w_named, w_hears, w_ripe, w_room, w_tables⟩
theorem atStart : AtStart classFile x code maxLocals ret World_1 tables_1 room_1 Calls_1 rest_1 Pre_1 launch0 p0 e0 about1 theMethod args0 below0 :=
  ⟨lists_1, trivial, launch0.admits_env _ _ _, launch0.least_env, fairChoices_fair.cas, fairChoices_fair.clock, w_frames, w_args, w_heap, w_applies, trivial, trivial, w_case⟩
end start1
theorem witness_1 : WitnessClaimed_1 := ⟨start1.p0, start1.e0, start1.about1, start1.theMethod, start1.args0, start1.below0, start1.atStart⟩
end Jvm.Pilot.@@N@@
