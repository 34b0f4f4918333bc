import JvmDerived
import JvmDerived.Pilot.@@N@@Statement
import JvmDerived.Pilot.@@N@@Code
set_option linter.unusedVariables false
set_option linter.unusedSimpArgs false
namespace Jvm.Pilot.@@N@@
open Jvm Jvm.ClassFile Sem Op Lib Jvm.Free Jvm.Stand Jvm.LawKit Jvm.RoadKit Bundle Jvm.Pilot.@@N@@.Jvm.D
/-! own: the walk in continuation form: 'from the state A the body ends, and then Q' -/
def OwnWk (p : Program) (e : Env) (below : List Frame) (P : Option Value → State → List Loc → Prop) (A : State) : Prop :=
  ∃ s₂ v L, Steps p.tables e below A s₂ ∧ s₂.status = .running ∧ Ended s₂ below (.returned v) ∧ P v s₂ L
abbrev OwnP (s : State) (Q : Option Value → Heap → List Loc → Prop) (k n : Nat) : Option Value → State → List Loc → Prop := fun v t L => Q v t.heap L ∧ FrameEnd s (.returned v) t L k n
def OwnMet (l : Launch) (y : MethodName) (bytes : ByteArray) (maxL : Nat) (ret : Option FieldType) (ws : List Jvm.Cond) (rm : Room) (Z : State) (as' : Array Value) (h0 : Heap) (Q : Option Value → Heap → List Loc → Prop) : Prop :=
  MetFree l y (head1 (Jvm.Cond.code y bytes maxL ret :: ws) rm) (fun a U => a = as' ∧ Z.Warmed39 U.vm ∧ U.heap = h0) (fun _ _ _ _ _ => True)
    (fun _ U o U' => ∃ v L, o = .returned v ∧ Q v U'.heap L ∧ FrameEnd U o U' L rm.cells rm.slots)
def OAr (Z : State) (h : Heap) (a : Addr) (ty : FieldType) (vs : List Value) : Prop := ∃ c : Cell, Arr Z h a c ty ∧ c.slots = vs.toArray
theorem OAr.ext {Z : State} {h h' : Heap} {a : Addr} {ty : FieldType} {vs : List Value} (A : OAr Z h a ty vs) (E : Ext h h') : OAr Z h' a ty vs := by
  obtain ⟨c, A, e⟩ := A; exact ⟨c, A.ext E, e⟩
theorem OAr.other {Z : State} {h h' : Heap} {a b : Addr} {ty : FieldType} {vs : List Value} {sl : Nat} {v : Value} (A : OAr Z h b ty vs) (W : Wr h h' a sl v) (q : b ≠ a) : OAr Z h' b ty vs := by
  obtain ⟨c, A, e⟩ := A; exact ⟨c, A.other W q, e⟩
theorem OAr.keep {Z : State} {h h' : Heap} {a : Addr} {ty : FieldType} {vs : List Value} {ws : List Addr} (A : OAr Z h a ty vs) (K : Keep h h' ws) (q : a ∉ ws) : OAr Z h' a ty vs := by
  obtain ⟨c, A, e⟩ := A; exact ⟨c, ⟨K.2.1 a c A.1 q, A.2⟩, e⟩
theorem OAr.lt {Z : State} {h : Heap} {a : Addr} {ty : FieldType} {vs : List Value} (A : OAr Z h a ty vs) : a < h.size := by
  obtain ⟨c, A, e⟩ := A; exact A.lt
theorem OAr.set {Z : State} {h h' : Heap} {a : Addr} {ty : FieldType} {vs : List Value} {sl : Nat} {v : Value} (A : OAr Z h a ty vs) (W : Wr h h' a sl v) : OAr Z h' a ty (vs.set sl v) := by
  obtain ⟨c, A, e⟩ := A
  refine ⟨_, A.same W, ?_⟩
  show c.slots.setIfInBounds sl v = _
  rw [e]; simp
theorem own_plE {Z : State} {h : Heap} {a : Addr} {C : String} (E : Exa Z h a C) : ∀ c : Cell, h[a]? = some c → c.vm.isStatics = false := fun c hc => by
  obtain ⟨c', k, h1, -, -, h4, -⟩ := E; cases h1.symm.trans hc; exact h4
theorem own_plV {Z : State} {h : Heap} {a : Addr} {ty : FieldType} {vs : List Value} (A : OAr Z h a ty vs) : ∀ c : Cell, h[a]? = some c → c.vm.isStatics = false := fun c hc => by
  obtain ⟨c', A, -⟩ := A; cases A.1.symm.trans hc; exact A.plain
theorem own_sta_keep {Z : State} {h h' : Heap} {ws : List Addr} {O f d : String} {v : Value} (F : Sta Z h O f d v) (K : Keep h h' ws) (q : ∀ x ∈ ws, ∀ c : Cell, h[x]? = some c → c.vm.isStatics = false) : Sta Z h' O f d v := by
  obtain ⟨cf, i, k, f, st, cell, h1, h2, h3, h4, h5, h6, h7⟩ := F
  refine ⟨cf, i, k, f, st, cell, h1, h2, h3, h4, K.2.1 st cell h5 (fun m => ?_), h6, h7⟩
  have := q st m cell h5
  rw [h6] at this; cases this
theorem own_ins_keep {Z : State} {h h' : Heap} {ws : List Addr} {a : Addr} {C : String} {b : Bool} (F : Ins Z h a C b) (K : Keep h h' ws) : Ins Z h' a C b := by
  obtain ⟨cell, cT, h1, h2, h3⟩ := F
  obtain ⟨c', q, r1, r2, -⟩ := K.2.2 a cell h1
  exact ⟨c', cT, q, h2, by rw [r1, r2]; exact h3⟩
section Own
variable {p : Program} {l : Launch} {e : Env} {R : Room} {s : State} {m : MethodId} {args : Array Value} {below : List Frame} {meth : Method} {c : Code} {T : State} {locs : List Loc} {cells slots : Nat}
  {P : Option Value → State → List Loc → Prop} {Q : Option Value → Heap → List Loc → Prop} {k n : Nat} {Z : State} {a0 : Array Value} {h : Heap} {g : JFrame} {rest : List Value}
theorem own_go {A B : State} (st : ∀ t, Steps p.tables e below B t → Steps p.tables e below A t) (h : OwnWk p e below P B) : OwnWk p e below P A := by
  obtain ⟨s₂, v, L, h1, r⟩ := h; exact ⟨s₂, v, L, st _ h1, r⟩
theorem own_met {y : MethodName} {bytes : ByteArray} {maxL : Nat} {ret : Option FieldType} {ws : List Jvm.Cond} {rm : Room} {as' : Array Value} {h0 : Heap} (hpl : plainFor y = true)
    (body : ∀ (p : Program) (e : Env) (s : State) (m : MethodId) (below : List Frame) (meth : Method) (c : Code) (s₁ : State), p.tables.exec = Jvm.exec → c.code = bytes → c.maxLocals = maxL → s.vm.findClass y.cls = some m.cls → meth.name = y.name → meth.sig.returnType = ret → meth.locks = false → Z.Warmed39 s.vm →
      Stand p l e rm s m as' below meth c s₁ [] 0 0 → s₁.heap = h0 → OwnWk p e below (OwnP s Q rm.cells rm.slots) (s₁.setTop (entryFrame m as' maxL))) : OwnMet l y bytes maxL ret ws rm Z as' h0 Q := by
  refine MetFree.of_bodySF hpl hisR ?_
  intro p e s m args below meth c s₁ Bd hml0 hP hK
  obtain ⟨rfl, hZ, hh⟩ := hP
  obtain ⟨s₂, v, L, h1, h2, h3, h4, h5⟩ := body p e s m below meth c s₁ Bd.exec Bd.bytes hml0 (findClass_of_methodNamed Bd.named) (name_of_methodNamed Bd.named Bd.method).1 Bd.returns (BodyLoose.notSynchronized Bd) hZ (Stand.of_body Bd) (by rw [← hh, Bd.state]; rfl)
  exact ⟨s₂, _, h1, h2, h3, v, L, rfl, h4, h5⟩
theorem own_out0 {A : State} {v : Option Value} (X : Stand p l e R s m args below meth c T locs cells slots) (hlk : meth.locks = false) (hv : meth.sig.returnType = none → v = none)
    (st : ∀ fs, (∀ (f : JFrame) (acts : List Action), f.method = m → f.locked = none → f.entered = [] → (doReturn e (T.setTop f) acts v).1 = T.setFrames fs) → Steps p.tables e below A (T.setFrames fs))
    (hq : ∀ t : State, t.heap = T.heap → FrameEnd s (.returned v) t locs cells slots → P v t locs) : OwnWk p e below P A := by
  obtain ⟨fs, hr, hrun, hended, hW, hsame⟩ := X.leave (v := v) hv hlk
  exact ⟨_, v, locs, st fs hr, hrun, hended, hq _ rfl ⟨⟨v, rfl⟩, hW, hsame⟩⟩
theorem own_out {A : State} {v : Option Value} (X : Stand p l e R s m args below meth c T locs cells slots) (hlk : meth.locks = false) (hv : meth.sig.returnType = none → v = none)
    (st : ∀ fs, (∀ (f : JFrame) (acts : List Action), f.method = m → f.locked = none → f.entered = [] → (doReturn e (T.setTop f) acts v).1 = T.setFrames fs) → Steps p.tables e below A (T.setFrames fs))
    (hc : cells ≤ k) (hs : slots ≤ n) (hq : Q v T.heap locs) : OwnWk p e below (OwnP s Q k n) A :=
  own_out0 X hlk hv st fun t ht hF => ⟨by rw [ht]; exact hq, hF.1, hF.2.1, hF.2.2.mono hc hs⟩
theorem own_retI (X : Stand p l e R s m args below meth c T locs cells slots) (hx : p.tables.exec = Jvm.exec) (hlk : meth.locks = false) (hret : meth.sig.returnType = some .int) {pc : Nat} {Ls : Array Slot} {z : Int32} (hd : decode c.code pc = .ok (.ireturn, 1)) (hc : cells ≤ k) (hs : slots ≤ n)
    (hq : Q (some (.int z)) T.heap locs) : OwnWk p e below (OwnP s Q k n) (T.setTop (mkF m pc Ls (.int z :: rest))) :=
  own_out X hlk (fun q => by rw [hret] at q; cases q) (fun fs hr => retOut X hx hret rfl (Or.inl ⟨rfl, Or.inl rfl, z, rfl⟩) hd hr) hc hs hq
theorem own_retZ (X : Stand p l e R s m args below meth c T locs cells slots) (hx : p.tables.exec = Jvm.exec) (hlk : meth.locks = false) {t : FieldType} (hret : meth.sig.returnType = some t) (ht : t = .boolean ∨ t = .byte ∨ t = .char ∨ t = .short) {pc : Nat} {Ls : Array Slot} {z z' : Int32} (hz : nar t z = z') (hd : decode c.code pc = .ok (.ireturn, 1)) (hc : cells ≤ k) (hs : slots ≤ n)
    (hq : Q (some (.int z')) T.heap locs) : OwnWk p e below (OwnP s Q k n) (T.setTop (mkF m pc Ls (.int z :: rest))) := by
  subst hz
  exact own_out X hlk (fun q => by rw [hret] at q; cases q) (fun fs hr => retN X hx hret ht hd hr) hc hs hq
theorem own_retJ (X : Stand p l e R s m args below meth c T locs cells slots) (hx : p.tables.exec = Jvm.exec) (hlk : meth.locks = false) (hret : meth.sig.returnType = some .long) {pc : Nat} {Ls : Array Slot} {z : Int64} (hd : decode c.code pc = .ok (.lreturn, 1)) (hc : cells ≤ k) (hs : slots ≤ n)
    (hq : Q (some (.long z)) T.heap locs) : OwnWk p e below (OwnP s Q k n) (T.setTop (mkF m pc Ls (.long z :: rest))) :=
  own_out X hlk (fun q => by rw [hret] at q; cases q) (fun fs hr => retOut X hx hret rfl (Or.inr (Or.inl ⟨rfl, rfl, z, rfl⟩)) hd hr) hc hs hq
theorem own_retA (X : Stand p l e R s m args below meth c T locs cells slots) (hx : p.tables.exec = Jvm.exec) (hlk : meth.locks = false) {t : FieldType} (hret : meth.sig.returnType = some t) (ht : t.isReference = true) {pc : Nat} {Ls : Array Slot} {v : Value} (hv : v.isRef = true) (hn : narrow t v = v) (hd : decode c.code pc = .ok (.areturn, 1)) (hc : cells ≤ k) (hs : slots ≤ n)
    (hq : Q (some v) T.heap locs) : OwnWk p e below (OwnP s Q k n) (T.setTop (mkF m pc Ls (v :: rest))) :=
  own_out X hlk (fun q => by rw [hret] at q; cases q) (fun fs hr => retOut X hx hret hn (Or.inr (Or.inr (Or.inr (Or.inr ⟨rfl, ht, hv⟩)))) hd hr) hc hs hq
theorem own_retV (X : Stand p l e R s m args below meth c T locs cells slots) (hx : p.tables.exec = Jvm.exec) (hlk : meth.locks = false) (hret : meth.sig.returnType = none) {pc : Nat} {Ls : Array Slot} (hd : decode c.code pc = .ok (.return_, 1)) (hc : cells ≤ k) (hs : slots ≤ n)
    (hq : Q none T.heap locs) : OwnWk p e below (OwnP s Q k n) (T.setTop (mkF m pc Ls [])) :=
  own_out X hlk (fun _ => rfl) (fun fs hr => X.returnOut hx hret hd hr) hc hs hq
/-! calls by a contract -/
variable {own C : String} {idx cnt : Nat} {y z : MethodName} {bytes : ByteArray} {maxL : Nat} {ret : Option FieldType} {rm : Room} {Q' : Option Value → Heap → List Loc → Prop} {W : Nat} {argsL : List Value} {a b : Addr}
theorem OwnMet.back {len : Nat} {as' : Array Value} (hM : OwnMet l y bytes maxL ret [] rm Z as' h Q') (hZ : Z.Warmed39 s.vm) (wc : (Jvm.Cond.code y bytes maxL ret).before a0 Z = true) (wz : (Jvm.Cond.initialized y.cls).before a0 Z = true) (hf : rm.frames + 1 ≤ R.frames) (hl : W + (maxL + 11) + rm.locals ≤ R.locals) :
    Back l R p e below s args y len W (fun A a => a = as' ∧ A.U.heap = h ∧ A.cells + rm.cells ≤ R.cells ∧ A.slots + rm.slots ≤ R.slots)
      (fun A _ v B => ∃ L, Q' v B.U.heap L ∧ B.locs = A.locs ++ L ∧ B.cells = A.cells + rm.cells ∧ B.slots = A.slots + rm.slots) := backOf (Q := Q') hM hZ wc wz hf hl
theorem own_callS (X : Stand p l e R s m args below meth c T locs cells slots) (hx : p.tables.exec = Jvm.exec) (hZ : Z.Warmed39 s.vm) (hown : s.vm.findClass own = some m.cls)
    (w1 : (Jvm.Cond.methodLink own idx y).before a0 Z = true) (w2 : (Jvm.Cond.static y).before a0 Z = true) (w3 : (Jvm.Cond.initialized y.cls).before a0 Z = true) (w4 : (Jvm.Cond.code y bytes maxL ret).before a0 Z = true)
    (hy : y.cls ≠ "java/lang/invoke/MethodHandle" ∧ y.cls ≠ "java/lang/invoke/VarHandle") (hM : OwnMet l y bytes maxL ret [] rm Z argsL.toArray h Q') (eT : T.heap = h)
    (hf : rm.frames + 1 ≤ R.frames) (hl : W + (maxL + 11) + rm.locals ≤ R.locals) (hc : cells + rm.cells ≤ R.cells) (hs : slots + rm.slots ≤ R.slots)
    (hg : g.method = m) (hsize : g.locals.size = c.maxLocals) (hlen : ∀ sig, parseMethodDescriptor y.desc = some sig → argsL.length = sig.parameters.length) (hstack : g.stack = argsL.reverse ++ rest)
    (hW : 2 * g.monitorRoom + (rest.map fun v => v.category).sum ≤ W) (hd : decode c.code g.pc = .ok (.invokestatic idx, 3))
    (K : ∀ v T' h' L, Stand p l e R s m args below meth c T' (locs ++ L) (cells + rm.cells) (slots + rm.slots) → T'.heap = h' → Q' v h' L → OwnWk p e below P (T'.setTop { g with pc := g.pc + 3, stack := v.toList ++ rest })) :
    OwnWk p e below P (T.setTop g) := by
  obtain ⟨v, vm₁, ⟨T', L', k', n'⟩, -, X', ⟨L, hQ, e1, e2, e3⟩, st⟩ := Jvm.LawKit.callS X hx hown (mvT hZ w1) (mvT hZ w2) (mvT hZ w3) (mvT hZ w4) hy (hM.back hZ w4 w3 hf hl) hg hsize hlen hstack hW hd (fun _ _ => ⟨rfl, eT, hc, hs⟩)
  dsimp only [Pt.U, Pt.locs, Pt.cells, Pt.slots] at X' e1 e2 e3 st hQ
  subst e1 e2 e3
  exact own_go st (K v T' _ L X' rfl hQ)
theorem own_callC (X : Stand p l e R s m args below meth c T locs cells slots) (hx : p.tables.exec = Jvm.exec) (hZ : Z.Warmed39 s.vm) (hown : s.vm.findClass own = some m.cls) (hy1 : y.name = "<init>")
    (w1 : (Jvm.Cond.methodLink own idx y).before a0 Z = true) (w2 : (Jvm.Cond.instanceMethod y).before a0 Z = true) (w3 : (Jvm.Cond.initialized y.cls).before a0 Z = true) (w4 : (Jvm.Cond.code y bytes maxL none).before a0 Z = true)
    (hy : y.cls ≠ "java/lang/invoke/MethodHandle" ∧ y.cls ≠ "java/lang/invoke/VarHandle") (hM : OwnMet l y bytes maxL none [] rm Z (.ref a :: argsL).toArray h Q') (eT : T.heap = h)
    (hf : rm.frames + 1 ≤ R.frames) (hl : W + (maxL + 11) + rm.locals ≤ R.locals) (hc : cells + rm.cells ≤ R.cells) (hs : slots + rm.slots ≤ R.slots)
    (hg : g.method = m) (hsize : g.locals.size = c.maxLocals) (hlen : ∀ sig, parseMethodDescriptor y.desc = some sig → argsL.length = sig.parameters.length) (hstack : g.stack = argsL.reverse ++ .ref a :: rest)
    (hW : 2 * g.monitorRoom + (rest.map fun v => v.category).sum ≤ W) (hd : decode c.code g.pc = .ok (.invokespecial idx, 3))
    (K : ∀ v T' h' L, Stand p l e R s m args below meth c T' (locs ++ L) (cells + rm.cells) (slots + rm.slots) → T'.heap = h' → Q' v h' L → OwnWk p e below P (T'.setTop { g with pc := g.pc + 3, stack := v.toList ++ rest })) :
    OwnWk p e below P (T.setTop g) := by
  obtain ⟨v, vm₁, ⟨T', L', k', n'⟩, -, X', ⟨L, hQ, e1, e2, e3⟩, st⟩ := X.specialBack hx hy1 hown (mvT hZ w1) (mvT hZ w2) (mvT hZ w4) hy (hM.back hZ w4 w3 hf hl) hg hsize (Steps.refl _) hlen hstack hW hd (fun _ _ => ⟨rfl, eT, hc, hs⟩)
  dsimp only [Pt.U, Pt.locs, Pt.cells, Pt.slots] at X' e1 e2 e3 st hQ
  subst e1 e2 e3
  exact own_go (fun t q => st.trans q) (K v T' _ L X' rfl hQ)
theorem own_callV (X : Stand p l e R s m args below meth c T locs cells slots) (hx : p.tables.exec = Jvm.exec) (hZ : Z.Warmed39 s.vm) (hown : s.vm.findClass own = some m.cls)
    (w1 : (Jvm.Cond.methodLink own idx y).before a0 Z = true) (w2 : (Jvm.Cond.declares y).before a0 Z = true) (nf : NotFace s y) (w5 : (Jvm.Cond.selects C y z).before a0 Z = true) (w6 : (Jvm.Cond.instanceMethod z).before a0 Z = true) (w3 : (Jvm.Cond.initialized z.cls).before a0 Z = true) (w4 : (Jvm.Cond.code z bytes maxL ret).before a0 Z = true)
    (hy : y.cls ≠ "java/lang/invoke/MethodHandle" ∧ y.cls ≠ "java/lang/invoke/VarHandle") (E : Exa Z h a C) (hM : OwnMet l z bytes maxL ret [] rm Z (.ref a :: argsL).toArray h Q') (eT : T.heap = h)
    (hf : rm.frames + 1 ≤ R.frames) (hl : W + (maxL + 11) + rm.locals ≤ R.locals) (hc : cells + rm.cells ≤ R.cells) (hs : slots + rm.slots ≤ R.slots)
    (hg : g.method = m) (hsize : g.locals.size = c.maxLocals) (hlen : ∀ sig, parseMethodDescriptor y.desc = some sig → argsL.length = sig.parameters.length) (hstack : g.stack = argsL.reverse ++ .ref a :: rest)
    (hW : 2 * g.monitorRoom + (rest.map fun v => v.category).sum ≤ W) (hd : decode c.code g.pc = .ok (.invokevirtual idx, 3))
    (K : ∀ v T' h' L, Stand p l e R s m args below meth c T' (locs ++ L) (cells + rm.cells) (slots + rm.slots) → T'.heap = h' → Q' v h' L → OwnWk p e below P (T'.setTop { g with pc := g.pc + 3, stack := v.toList ++ rest })) :
    OwnWk p e below P (T.setTop g) := by
  obtain ⟨cq, kq, q1, q2, q3⟩ := isOf hZ eT E
  obtain ⟨v, vm₁, ⟨T', L', k', n'⟩, -, X', ⟨L, hQ, e1, e2, e3⟩, st⟩ := X.virtualBack hx hown (mvT hZ w1) (mvT hZ w2) nf (mvT hZ w5) (mvT hZ w6) hy (hM.back hZ w4 w3 hf hl) q1 q3 hg hsize (Steps.refl _) hlen hstack hW hd (fun _ _ => ⟨rfl, eT, hc, hs⟩)
  dsimp only [Pt.U, Pt.locs, Pt.cells, Pt.slots] at X' e1 e2 e3 st hQ
  subst e1 e2 e3
  exact own_go (fun t q => st.trans q) (K v T' _ L X' rfl hQ)
theorem own_callI (X : Stand p l e R s m args below meth c T locs cells slots) (hx : p.tables.exec = Jvm.exec) (hZ : Z.Warmed39 s.vm) (hown : s.vm.findClass own = some m.cls)
    (w1 : (Jvm.Cond.methodLink own idx y).before a0 Z = true) (w2 : (Jvm.Cond.declares y).before a0 Z = true) (w7 : (Jvm.Cond.interfaceMethod y.cls y.cls y.name y.desc).before args s = true) (w5 : (Jvm.Cond.selects C y z).before a0 Z = true) (w6 : (Jvm.Cond.instanceMethod z).before a0 Z = true)
    (w8 : (Jvm.Cond.publicMethod z).before a0 Z = true) (w9 : (Jvm.Cond.unhidden C y.name y.desc).before a0 Z = true) (w10 : (Jvm.Cond.castable C y.cls).before a0 Z = true) (w3 : (Jvm.Cond.initialized z.cls).before a0 Z = true) (w4 : (Jvm.Cond.code z bytes maxL ret).before a0 Z = true)
    (hy : y.cls ≠ "java/lang/invoke/MethodHandle" ∧ y.cls ≠ "java/lang/invoke/VarHandle") (E : Exa Z h a C) (hM : OwnMet l z bytes maxL ret [] rm Z (.ref a :: argsL).toArray h Q') (eT : T.heap = h)
    (hf : rm.frames + 1 ≤ R.frames) (hl : W + (maxL + 11) + rm.locals ≤ R.locals) (hc : cells + rm.cells ≤ R.cells) (hs : slots + rm.slots ≤ R.slots)
    (hg : g.method = m) (hsize : g.locals.size = c.maxLocals) (hlen : ∀ sig, parseMethodDescriptor y.desc = some sig → argsL.length = sig.parameters.length) (hstack : g.stack = argsL.reverse ++ .ref a :: rest)
    (hW : 2 * g.monitorRoom + (rest.map fun v => v.category).sum ≤ W) (hd : decode c.code g.pc = .ok (.invokeinterface idx cnt, 5))
    (K : ∀ v T' h' L, Stand p l e R s m args below meth c T' (locs ++ L) (cells + rm.cells) (slots + rm.slots) → T'.heap = h' → Q' v h' L → OwnWk p e below P (T'.setTop { g with pc := g.pc + 5, stack := v.toList ++ rest })) :
    OwnWk p e below P (T.setTop g) := by
  obtain ⟨cq, kq, q1, q2, q3⟩ := isOf hZ eT E
  obtain ⟨v, vm₁, ⟨T', L', k', n'⟩, -, X', ⟨L, hQ, e1, e2, e3⟩, st⟩ := X.interfaceBack hx hown (mvT hZ w1) (mvT hZ w2) w7 (mvT hZ w5) (mvT hZ w6) (mvT hZ w8) (mvT hZ w9) (mvT hZ w10) hy (hM.back hZ w4 w3 hf hl) q1 q2 q3 hg hsize (Steps.refl _) hlen hstack hW hd (fun _ _ => ⟨rfl, eT, hc, hs⟩)
  dsimp only [Pt.U, Pt.locs, Pt.cells, Pt.slots] at X' e1 e2 e3 st hQ
  subst e1 e2 e3
  exact own_go (fun t q => st.trans q) (K v T' _ L X' rfl hQ)
theorem own_callP (X : Stand p l e R s m args below meth c T locs cells slots) (hx : p.tables.exec = Jvm.exec) (hZ : Z.Warmed39 s.vm) (hown : s.vm.findClass own = some m.cls)
    (w1 : (Jvm.Cond.methodLink own idx y).before a0 Z = true) (w2 : (Jvm.Cond.instanceMethod y).before a0 Z = true) (w5 : (Jvm.Cond.selects y.cls y y).before a0 Z = true) (w6 : (Jvm.Cond.privateMethod y).before a0 Z = true) (w3 : (Jvm.Cond.initialized y.cls).before a0 Z = true) (w4 : (Jvm.Cond.code y bytes maxL ret).before a0 Z = true)
    (hy : y.cls ≠ "java/lang/invoke/MethodHandle" ∧ y.cls ≠ "java/lang/invoke/VarHandle") (E : Exa Z h a C) (hM : OwnMet l y bytes maxL ret [] rm Z (.ref a :: argsL).toArray h Q') (eT : T.heap = h)
    (hf : rm.frames + 1 ≤ R.frames) (hl : W + (maxL + 11) + rm.locals ≤ R.locals) (hc : cells + rm.cells ≤ R.cells) (hs : slots + rm.slots ≤ R.slots)
    (hg : g.method = m) (hsize : g.locals.size = c.maxLocals) (hlen : ∀ sig, parseMethodDescriptor y.desc = some sig → argsL.length = sig.parameters.length) (hstack : g.stack = argsL.reverse ++ .ref a :: rest)
    (hW : 2 * g.monitorRoom + (rest.map fun v => v.category).sum ≤ W) (hd : decode c.code g.pc = .ok (.invokevirtual idx, 3))
    (K : ∀ v T' h' L, Stand p l e R s m args below meth c T' (locs ++ L) (cells + rm.cells) (slots + rm.slots) → T'.heap = h' → Q' v h' L → OwnWk p e below P (T'.setTop { g with pc := g.pc + 3, stack := v.toList ++ rest })) :
    OwnWk p e below P (T.setTop g) := by
  obtain ⟨cq, q, q'⟩ := E.cell
  obtain ⟨v, vm₁, ⟨T', L', k', n'⟩, -, X', ⟨L, hQ, e1, e2, e3⟩, st⟩ := X.privateBack hx hown (mvT hZ w1) (mvT hZ w2) (mvT hZ w5) (Cond.privateMethod_at (mvP hZ w6 (args := #[]))) (mvT hZ w4) hy (hM.back hZ w4 w3 hf hl) hg hsize (Steps.refl _) (by rw [eT]; exact q) q' hlen hstack hW hd (fun _ _ => ⟨rfl, eT, hc, hs⟩)
  dsimp only [Pt.U, Pt.locs, Pt.cells, Pt.slots] at X' e1 e2 e3 st hQ
  subst e1 e2 e3
  exact own_go (fun t q => st.trans q) (K v T' _ L X' rfl hQ)
/-! arrays by their lists -/
variable {vs : List Value} {ty : FieldType} {j : Int32} {v : Value}
theorem own_in (c : Cell) (e : c.slots = vs.toArray) (h0 : ¬ j < 0) (hj : j.toNatClampNeg < vs.length) : ¬ (j < 0 ∨ c.slots.size ≤ j.toNatClampNeg) := by
  rw [e]; simp only [List.size_toArray]
  rintro (q | q)
  · exact h0 q
  · omega
theorem own_len (X : Stand p l e R s m args below meth c T locs cells slots) (hx : p.tables.exec = Jvm.exec) (hZ : Z.Warmed39 s.vm) (eT : T.heap = h) (A : OAr Z h a ty vs) (hg : g.method = m) (hs : g.stack = .ref a :: rest) (hd : decode c.code g.pc = .ok (.arraylength, 1)) {N : Int32} (hN : vs.length.toInt32 = N)
    (K : OwnWk p e below P (T.setTop { g with pc := g.pc + 1, stack := .int N :: rest })) : OwnWk p e below P (T.setTop g) := by
  obtain ⟨cl, A, ec⟩ := A
  refine own_go (fun t q => X.arraylength hx (by rw [eT]; exact A.1) (State.isArrayOf_alike hZ.alike A.2.1) hg hs hd _ q) ?_
  rw [ec, List.size_toArray, hN]; exact K
theorem own_ldI (X : Stand p l e R s m args below meth c T locs cells slots) (hx : p.tables.exec = Jvm.exec) (hZ : Z.Warmed39 s.vm) (eT : T.heap = h) (A : OAr Z h a .int vs) (hg : g.method = m) (hs : g.stack = .int j :: .ref a :: rest) (hd : decode c.code g.pc = .ok (.iaload, 1)) (h0 : ¬ j < 0) (hj : vs[j.toNatClampNeg]? = some v)
    (K : OwnWk p e below P (T.setTop { g with pc := g.pc + 1, stack := v :: rest })) : OwnWk p e below P (T.setTop g) := by
  obtain ⟨cl, A, ec⟩ := A
  exact own_go (fun t q => X.iaload hx (by rw [eT]; exact A.1) (State.isArrayOf_alike hZ.alike A.2.1) A.2.2 (own_in cl ec h0 (List.getElem?_eq_some_iff.mp hj).1) (by rw [ec]; simpa using hj) hg hs hd _ q) K
theorem own_ldJ (X : Stand p l e R s m args below meth c T locs cells slots) (hx : p.tables.exec = Jvm.exec) (hZ : Z.Warmed39 s.vm) (eT : T.heap = h) (A : OAr Z h a .long vs) (hg : g.method = m) (hs : g.stack = .int j :: .ref a :: rest) (hd : decode c.code g.pc = .ok (.laload, 1)) (h0 : ¬ j < 0) (hj : vs[j.toNatClampNeg]? = some v)
    (K : OwnWk p e below P (T.setTop { g with pc := g.pc + 1, stack := v :: rest })) : OwnWk p e below P (T.setTop g) := by
  obtain ⟨cl, A, ec⟩ := A
  exact own_go (fun t q => X.laload hx (by rw [eT]; exact A.1) (State.isArrayOf_alike hZ.alike A.2.1) A.2.2 (own_in cl ec h0 (List.getElem?_eq_some_iff.mp hj).1) (by rw [ec]; simpa using hj) hg hs hd _ q) K
theorem own_ldA (X : Stand p l e R s m args below meth c T locs cells slots) (hx : p.tables.exec = Jvm.exec) (hZ : Z.Warmed39 s.vm) (eT : T.heap = h) (A : OAr Z h a ty vs) (hty : ty.isReference = true) (hg : g.method = m) (hs : g.stack = .int j :: .ref a :: rest) (hd : decode c.code g.pc = .ok (.aaload, 1)) (h0 : ¬ j < 0) (hj : vs[j.toNatClampNeg]? = some v)
    (K : OwnWk p e below P (T.setTop { g with pc := g.pc + 1, stack := v :: rest })) : OwnWk p e below P (T.setTop g) := by
  obtain ⟨cl, A, ec⟩ := A
  exact own_go (fun t q => X.aaload hx (by rw [eT]; exact A.1) (State.isArrayOf_alike hZ.alike A.2.1) hty A.2.2 (own_in cl ec h0 (List.getElem?_eq_some_iff.mp hj).1) (by rw [ec]; simpa using hj) hg hs hd _ q) K
theorem own_stI (X : Stand p l e R s m args below meth c T locs cells slots) (hx : p.tables.exec = Jvm.exec) (hZ : Z.Warmed39 s.vm) (eT : T.heap = h) (A : OAr Z h a .int vs) {x : Int32} (hg : g.method = m) (hs : g.stack = .int x :: .int j :: .ref a :: rest) (hd : decode c.code g.pc = .ok (.iastore, 1)) (h0 : ¬ j < 0) (hj : j.toNatClampNeg < vs.length)
    (K : ∀ T' h', Stand p l e R s m args below meth c T' (locs ++ [⟨a, j.toNatClampNeg⟩]) cells slots → T'.heap = h' → Wr h h' a j.toNatClampNeg (.int x) → OAr Z h' a .int (vs.set j.toNatClampNeg (.int x)) → OwnWk p e below P (T'.setTop { g with pc := g.pc + 1, stack := rest })) : OwnWk p e below P (T.setTop g) := by
  obtain ⟨cl, A', ec⟩ := A
  obtain ⟨T', h', X', e', W', st⟩ := stI X hx hZ eT A' (j := j) (own_in cl ec h0 hj) hg hs hd
  exact own_go st (K T' h' X' e' W' (OAr.set ⟨cl, A', ec⟩ W'))
theorem own_stJ (X : Stand p l e R s m args below meth c T locs cells slots) (hx : p.tables.exec = Jvm.exec) (hZ : Z.Warmed39 s.vm) (eT : T.heap = h) (A : OAr Z h a .long vs) {x : Int64} (hg : g.method = m) (hs : g.stack = .long x :: .int j :: .ref a :: rest) (hd : decode c.code g.pc = .ok (.lastore, 1)) (h0 : ¬ j < 0) (hj : j.toNatClampNeg < vs.length)
    (K : ∀ T' h', Stand p l e R s m args below meth c T' (locs ++ [⟨a, j.toNatClampNeg⟩]) cells slots → T'.heap = h' → Wr h h' a j.toNatClampNeg (.long x) → OAr Z h' a .long (vs.set j.toNatClampNeg (.long x)) → OwnWk p e below P (T'.setTop { g with pc := g.pc + 1, stack := rest })) : OwnWk p e below P (T.setTop g) := by
  obtain ⟨cl, A', ec⟩ := A
  obtain ⟨T', h', X', e', W', st⟩ := stJ X hx hZ eT A' (j := j) (own_in cl ec h0 hj) hg hs hd
  exact own_go st (K T' h' X' e' W' (OAr.set ⟨cl, A', ec⟩ W'))
theorem own_newP {aty : ArrayType} (X : Stand p l e R s m args below meth c T locs cells slots) (hx : p.tables.exec = Jvm.exec) (hZ : Z.Warmed39 s.vm) (w : (Jvm.Cond.arrayClass (newarray.typeOf aty)).before a0 Z = true) (eT : T.heap = h) (hg : g.method = m) (hd : decode c.code g.pc = .ok (.newarray aty, 2)) {N : Int32} (hs : g.stack = .int N :: rest)
    (hn : ¬ N < 0) {cap : Nat} (hcap : N.toNatClampNeg ≤ cap) (hb : cap * 8 ≤ 536870912) (hc : cells + 1 ≤ R.cells) (hl : slots + cap ≤ R.slots)
    (K : ∀ T' h' b, Stand p l e R s m args below meth c T' locs (cells + 1) (slots + cap) → T'.heap = h' → b = h.size → Ext h h' → OAr Z h' b (newarray.typeOf aty) (List.replicate N.toNatClampNeg (defaultValue (newarray.typeOf aty))) → OwnWk p e below P (T'.setTop { g with pc := g.pc + 2, stack := .ref b :: rest })) : OwnWk p e below P (T.setTop g) := by
  obtain ⟨T', h', cA, X', e', E', A', st⟩ := newP X hx hZ w eT hg hd hs hn hcap hb hc hl
  exact own_go st (K T' h' _ X' e' rfl E' ⟨_, A', by simp [newA]⟩)
theorem own_newPE {aty : ArrayType} {ad : String} (X : Stand p l e R s m args below meth c T locs cells slots) (hx : p.tables.exec = Jvm.exec) (hZ : Z.Warmed39 s.vm) (w : (Jvm.Cond.arrayClass (newarray.typeOf aty)).before a0 Z = true) (eT : T.heap = h) (hg : g.method = m) (hd : decode c.code g.pc = .ok (.newarray aty, 2)) {N : Int32} (hs : g.stack = .int N :: rest)
    (hn : ¬ N < 0) {cap : Nat} (hcap : N.toNatClampNeg ≤ cap) (hb : cap * 8 ≤ 536870912) (hc : cells + 1 ≤ R.cells) (hl : slots + cap ≤ R.slots) (had : "[" ++ (newarray.typeOf aty).toString = ad)
    (K : ∀ T' h' b, Stand p l e R s m args below meth c T' locs (cells + 1) (slots + cap) → T'.heap = h' → b = h.size → Ext h h' → OAr Z h' b (newarray.typeOf aty) (List.replicate N.toNatClampNeg (defaultValue (newarray.typeOf aty))) → Exa Z h' b ad → OwnWk p e below P (T'.setTop { g with pc := g.pc + 2, stack := .ref b :: rest })) : OwnWk p e below P (T.setTop g) := by
  obtain ⟨T', h', cA, X', e', E', A', Ex, st⟩ := newPE X hx hZ w eT hg hd hs hn hcap hb hc hl had
  exact own_go st (K T' h' _ X' e' rfl E' ⟨_, A', by simp [newA]⟩ Ex)
theorem own_clone {ad : String} (X : Stand p l e R s m args below meth c T locs cells slots) (hx : p.tables.exec = Jvm.exec) (hZ : Z.Warmed39 s.vm) (hown : s.vm.findClass own = some m.cls)
    (w1 : (Jvm.Cond.methodLink own idx ⟨ad, "clone", "()Ljava/lang/Object;"⟩).before a0 Z = true) (w2 : (Jvm.Cond.sameMethod ad "java/lang/Object" "clone" "()Ljava/lang/Object;").before a0 Z = true) (w3 : (Jvm.Cond.native ⟨"java/lang/Object", "clone", "()Ljava/lang/Object;"⟩).before a0 Z = true)
    (w4 : (Jvm.Cond.instanceMethod ⟨"java/lang/Object", "clone", "()Ljava/lang/Object;"⟩).before a0 Z = true) (w5 : (Jvm.Cond.selects ad ⟨ad, "clone", "()Ljava/lang/Object;"⟩ ⟨"java/lang/Object", "clone", "()Ljava/lang/Object;"⟩).before a0 Z = true) (w6 : (Jvm.Cond.castable ad "java/lang/Cloneable").before a0 Z = true)
    (eT : T.heap = h) (A : OAr Z h a ty vs) (E : Exa Z h a ad) (F : ∀ v ∈ vs, fits ty v = true) (hg : g.method = m) (hsize : g.locals.size = c.maxLocals) (hs : g.stack = .ref a :: rest) (hd : decode c.code g.pc = .ok (.invokevirtual idx, 3))
    (hf : 1 ≤ R.frames) {cap : Nat} (hW : 2 * g.monitorRoom + (rest.map fun v => v.category).sum ≤ W) (hl : W + 14 ≤ R.locals) (hcap : vs.length ≤ cap) (hc : cells + 1 ≤ R.cells) (hsl : slots + cap ≤ R.slots)
    (K : ∀ T' h' b, Stand p l e R s m args below meth c T' locs (cells + 1) (slots + cap) → T'.heap = h' → b = h.size → Ext h h' → OAr Z h' b ty vs → Exa Z h' b ad → OwnWk p e below P (T'.setTop { g with pc := g.pc + 3, stack := .ref b :: rest })) : OwnWk p e below P (T.setTop g) := by
  obtain ⟨cl, A, ec⟩ := A
  have FC : FitC Z cl := fitC_of A fun i hi v hv => by
    rw [ec] at hv
    exact F v (List.mem_of_getElem? (by simpa using hv))
  obtain ⟨T', h', X', e', E', A', Ex, st⟩ := cloneA X hx hZ hown w1 w2 w3 w4 w5 w6 eT A E FC hg hsize hs hd hf hW hl (by rw [ec]; simpa using hcap) hc hsl
  exact own_go st (K T' h' _ X' e' rfl E' ⟨_, A', ec⟩ Ex)
end Own
/-! comparisons of longs -/
theorem own_tri (x y : Int64) : x < y ∨ x = y ∨ y < x := by
  rcases Int.lt_trichotomy x.toInt y.toInt with h | h | h
  · exact Or.inl (Int64.lt_iff_toInt_lt.mpr h)
  · exact Or.inr (Or.inl (Int64.toInt_inj.mp h))
  · exact Or.inr (Or.inr (Int64.lt_iff_toInt_lt.mpr h))
theorem own_lc_lt {x y : Int64} : (lcmpW x y < 0) ↔ x < y := by
  unfold lcmpW
  rcases own_tri x y with h | h | h
  · have h1 : ¬ x > y := Int64.lt_asymm h
    have h2 : ¬ x = y := Int64.ne_of_lt h
    simp [h1, h2, h]
  · subst h; simp
  · have h1 : ¬ x < y := Int64.lt_asymm h
    simp [h, h1]
theorem own_lc_gt {x y : Int64} : (0 < lcmpW x y) ↔ y < x := by
  unfold lcmpW
  rcases own_tri x y with h | h | h
  · have h1 : ¬ x > y := Int64.lt_asymm h
    have h2 : ¬ x = y := Int64.ne_of_lt h
    have h3 : ¬ y < x := h1
    simp [h1, h2, h3]
  · subst h; simp
  · simp [h]
theorem own_lc_eq {x y : Int64} : (lcmpW x y = 0) ↔ x = y := by
  unfold lcmpW
  rcases own_tri x y with h | h | h
  · have h1 : ¬ x > y := Int64.lt_asymm h
    have h2 : ¬ x = y := Int64.ne_of_lt h
    simp [h1, h2]
  · subst h; simp
  · have h2 : ¬ x = y := (Int64.ne_of_lt h).symm
    simp [h, h2]
def own_mix (z0 : Int64) : Int64 :=
  let z1 := (z0 ^^^ (z0.toUInt64 >>> ((30 : Int32) &&& 0x3f).toInt64.toUInt64).toInt64) * (-4658895280553007687 : Int64)
  let z2 := (z1 ^^^ (z1.toUInt64 >>> ((27 : Int32) &&& 0x3f).toInt64.toUInt64).toInt64) * (-7723592293110705685 : Int64)
  z2 ^^^ (z2.toUInt64 >>> ((31 : Int32) &&& 0x3f).toInt64.toUInt64).toInt64
def own_nwt (a x : Int64) : Int64 := x * ((2 : Int64) - a * x)
def own_inv (a : Int64) : Int64 := own_nwt a (own_nwt a (own_nwt a (own_nwt a (own_nwt a a))))
def own_sh (y : Int64) (i j : Int32) : Int64 := (y ^^^ (y.toUInt64 >>> (i &&& 0x3f).toInt64.toUInt64).toInt64) ^^^ (y.toUInt64 >>> (j &&& 0x3f).toInt64.toUInt64).toInt64
def own_unmix (y : Int64) : Int64 :=
  own_sh (own_sh (own_sh y 31 62 * own_inv (-7723592293110705685 : Int64)) 27 54 * own_inv (-4658895280553007687 : Int64)) 30 60
theorem own_xs {z : BitVec 64} (i j : Nat) (hj : j = 2 * i) (h3 : 64 ≤ 3 * i) : (z ^^^ (z >>> i)) ^^^ ((z ^^^ (z >>> i)) >>> i) ^^^ ((z ^^^ (z >>> i)) >>> j) = z := by
  subst hj
  rw [BitVec.ushiftRight_xor_distrib, BitVec.ushiftRight_xor_distrib, ← BitVec.shiftRight_add, ← BitVec.shiftRight_add]
  have e0 : z >>> (i + 2 * i) = 0#64 := by
    apply BitVec.ushiftRight_eq_zero; omega
  have e1 : i + i = 2 * i := by omega
  rw [e1, e0]
  generalize z >>> i = a
  generalize z >>> (2 * i) = b
  rw [BitVec.xor_zero]
  ext k hk
  simp
theorem own_us (y : Int64) (k : Int32) {K : Nat} (hk : (k &&& 0x3f).toInt64.toUInt64.toBitVec % 64#64 = BitVec.ofNat 64 K) (hK : K < 64) : (y.toUInt64 >>> (k &&& 0x3f).toInt64.toUInt64).toInt64.toBitVec = y.toBitVec >>> K := by
  show y.toUInt64.toBitVec >>> ((k &&& 0x3f).toInt64.toUInt64.toBitVec % 64#64) = _
  rw [hk]
  show y.toBitVec >>> (BitVec.ofNat 64 K) = _
  rw [BitVec.ushiftRight_eq']
  congr 1
  simp; omega
theorem own_step (z : Int64) (i j : Int32) {K J : Nat} (hi : (i &&& 0x3f).toInt64.toUInt64.toBitVec % 64#64 = BitVec.ofNat 64 K) (hj : (j &&& 0x3f).toInt64.toUInt64.toBitVec % 64#64 = BitVec.ofNat 64 J) (hK : K < 64) (hJ : J < 64) (e : J = 2 * K) (h3 : 64 ≤ 3 * K) :
    own_sh (z ^^^ (z.toUInt64 >>> (i &&& 0x3f).toInt64.toUInt64).toInt64) i j = z := by
  apply Int64.toBitVec_inj.mp
  unfold own_sh
  rw [Int64.toBitVec_xor, Int64.toBitVec_xor, own_us _ i hi hK, own_us _ j hj hJ, Int64.toBitVec_xor, own_us _ i hi hK]
  exact own_xs K J e h3
theorem own_um (z : Int64) : own_unmix (own_mix z) = z := by
  unfold own_unmix own_mix
  simp only []
  rw [own_step _ 31 62 (K := 31) (J := 62) (by decide) (by decide) (by decide) (by decide) rfl (by decide)]
  have i1 : (-7723592293110705685 : Int64) * own_inv (-7723592293110705685) = 1 := by decide +kernel
  have i2 : (-4658895280553007687 : Int64) * own_inv (-4658895280553007687) = 1 := by decide +kernel
  rw [Int64.mul_assoc, i1, Int64.mul_one]
  rw [own_step _ 27 54 (K := 27) (J := 54) (by decide) (by decide) (by decide) (by decide) rfl (by decide)]
  rw [Int64.mul_assoc, i2, Int64.mul_one]
  exact own_step _ 30 60 (K := 30) (J := 60) (by decide) (by decide) (by decide) (by decide) rfl (by decide)
def own_prod (st : Int64) (b : Int32) : Int64 := (((own_mix st).toUInt64 >>> ((32 : Int32) &&& 0x3f).toInt64.toUInt64).toInt64) * b.toInt64
def own_bias (b : Int32) : Int64 := ((4294967296 : Int64) - b.toInt64) - ((4294967296 : Int64) - b.toInt64) / b.toInt64 * b.toInt64
def own_r (st : Int64) (b : Int32) : Int32 := ((own_prod st b).toUInt64 >>> ((32 : Int32) &&& 0x3f).toInt64.toUInt64).toInt64.toInt32
def own_M (st : Int64) : Nat := (((-6857235525900058748 : Int64) - st) * (-1018231460777725123 : Int64)).toUInt64.toNat
def own_iter : Nat → Int64 → Int32 → Int64
  | 0, st, _ => st
  | n + 1, st, b => if (own_prod st b &&& (4294967295 : Int64)) < own_bias b then own_iter n (st + (-7046029254386353131 : Int64)) b else st
def own_land (q : Int64) (b : Int32) : Int64 := own_iter (own_M (q + (-7046029254386353131 : Int64))) (q + (-7046029254386353131 : Int64)) b
theorem own_bm {z : Int} (h1 : -9223372036854775808 ≤ z) (h2 : z < 9223372036854775808) : z.bmod (2 ^ 64) = z := by
  apply Int.bmod_eq_of_le <;> omega
theorem own_bpos {b : Int32} (h : 0 < b) : ∃ n : Nat, 0 < n ∧ n < 2 ^ 31 ∧ b.toInt = (n : Int) := by
  rw [Int32.lt_iff_toInt_lt] at h
  have e0 : (0 : Int32).toInt = 0 := rfl
  rw [e0] at h
  have := Int32.toInt_lt b
  exact ⟨b.toInt.toNat, by omega, by omega, by omega⟩
theorem own_nz {b : Int32} (h : 0 < b) : b.toInt64 ≠ 0 := fun q => by
  obtain ⟨n, h1, h2, h3⟩ := own_bpos h
  have := congrArg Int64.toInt q
  rw [Int32.toInt_toInt64, h3] at this
  have e0 : (0 : Int64).toInt = 0 := rfl
  rw [e0] at this; omega
theorem own_rem {x y : Int64} {X Y : Nat} (hx : x.toInt = (X : Int)) (hy : y.toInt = (Y : Int)) (hX : X < 2 ^ 63) (hY : 0 < Y) (hY2 : Y < 2 ^ 63) : (x - x / y * y).toInt = ((X % Y : Nat) : Int) := by
  have l1 : X / Y ≤ X := Nat.div_le_self X Y
  have l2 : X / Y * Y ≤ X := Nat.div_mul_le_self X Y
  have d : (x / y).toInt = ((X / Y : Nat) : Int) := by
    rw [Int64.toInt_div, hx, hy]
    have q : ((X : Int)).tdiv (Y : Int) = ((X / Y : Nat) : Int) := by rw [Int.tdiv_eq_ediv_of_nonneg (by omega)]; norm_cast
    rw [q]; clear q l2; generalize X / Y = D at l1 ⊢; exact own_bm (by omega) (by omega)
  have m : (x / y * y).toInt = ((X / Y * Y : Nat) : Int) := by
    rw [Int64.toInt_mul, d, hy, ← Int.natCast_mul]; generalize X / Y * Y = E at l2 ⊢; exact own_bm (by omega) (by omega)
  rw [Int64.toInt_sub, hx, m]
  have e : X % Y = X - X / Y * Y := by rw [Nat.mod_eq_sub, Nat.mul_comm]
  rw [e]; clear e m d; generalize X / Y * Y = E at l2 ⊢; exact (own_bm (by omega) (by omega)).trans (by omega)
theorem own_bias_int {b : Int32} {n : Nat} (h1 : 0 < n) (h2 : n < 2 ^ 31) (h3 : b.toInt = (n : Int)) : (own_bias b).toInt = ((4294967296 % n : Nat) : Int) := by
  unfold own_bias
  have e : ((4294967296 : Int64) - b.toInt64).toInt = ((4294967296 - n : Nat) : Int) := by
    rw [Int64.toInt_sub, Int32.toInt_toInt64, h3]
    have e0 : (4294967296 : Int64).toInt = 4294967296 := rfl
    rw [e0]; exact (own_bm (by omega) (by omega)).trans (by omega)
  rw [own_rem e ((Int32.toInt_toInt64 b).trans h3) (by omega) h1 (by omega), show (4294967296 - n) % n = 4294967296 % n from (Nat.mod_eq_sub_mod (by omega)).symm]
theorem own_thr {b : Int32} (h : 0 < b) : ((4294967296 : Int64) - (4294967296 : Int64) / (b.toInt64) * (b.toInt64)) = own_bias b := by
  obtain ⟨n, h1, h2, h3⟩ := own_bpos h
  apply Int64.toInt_inj.mp
  rw [own_bias_int h1 h2 h3]
  exact own_rem (X := 4294967296) rfl ((Int32.toInt_toInt64 b).trans h3) (by decide) h1 (by omega)
theorem own_not_lt {b : Int32} {w : Int64} (h : 0 < b) (q : ¬ w < b.toInt64) : ¬ w < own_bias b := by
  obtain ⟨n, h1, h2, h3⟩ := own_bpos h
  rw [Int64.lt_iff_toInt_lt, Int32.toInt_toInt64, h3] at q
  rw [Int64.lt_iff_toInt_lt, own_bias_int h1 h2 h3]
  have := Nat.mod_lt 4294967296 h1
  omega
theorem own_land_1 {q : Int64} {b : Int32} (h : ¬ (own_prod (q + (-7046029254386353131 : Int64)) b &&& (4294967295 : Int64)) < own_bias b) : own_land q b = q + (-7046029254386353131 : Int64) := by
  unfold own_land
  cases own_M (q + (-7046029254386353131 : Int64)) with
  | zero => rfl
  | succ n => exact if_neg h
theorem own_zero {st : Int64} {b : Int32} (hb : 0 < b) (hM : own_M st = 0) : ¬ (own_prod st b &&& (4294967295 : Int64)) < own_bias b := by
  have e : st = (-6857235525900058748 : Int64) := by
    unfold own_M at hM
    have q : ((-6857235525900058748 : Int64) - st) * (-1018231460777725123 : Int64) = 0 := by
      apply Int64.toBitVec_inj.mp; apply BitVec.eq_of_toNat_eq; exact hM
    have q2 := congrArg (· * (-7046029254386353131 : Int64)) q
    simp only [Int64.mul_assoc, show (-1018231460777725123 : Int64) * (-7046029254386353131 : Int64) = 1 from by decide, Int64.mul_one, Int64.zero_mul] at q2
    have q3 := congrArg (· + st) q2
    simp only [Int64.sub_add_cancel, Int64.zero_add] at q3
    exact q3.symm
  subst e
  apply own_not_lt hb
  have m : own_mix (-6857235525900058748 : Int64) = (4294967296 : Int64) := by decide +kernel
  have p : own_prod (-6857235525900058748 : Int64) b = b.toInt64 := by
    unfold own_prod
    rw [m]
    have : (((4294967296 : Int64).toUInt64 >>> ((32 : Int32) &&& 0x3f).toInt64.toUInt64).toInt64) = 1 := by decide
    rw [this, Int64.one_mul]
  rw [p]
  obtain ⟨n, h1, h2, h3⟩ := own_bpos hb
  have a : b.toInt64 &&& (4294967295 : Int64) = b.toInt64 := by
    have bn : b.toInt64.toBitVec.toNat = n := by
      have q : b.toInt64.toInt = (n : Int) := (Int32.toInt_toInt64 b).trans h3
      have q2 : b.toInt64.toBitVec.toInt = (n : Int) := q
      rw [BitVec.toInt_eq_toNat_cond] at q2
      have := b.toInt64.toBitVec.isLt
      split at q2 <;> omega
    apply Int64.toBitVec_inj.mp; apply BitVec.eq_of_toNat_eq
    rw [Int64.toBitVec_and, BitVec.toNat_and, bn]
    show n &&& (2 ^ 32 - 1) = n
    rw [Nat.and_two_pow_sub_one_eq_mod]; omega
  rw [a]
  exact Int64.lt_irrefl
theorem own_succ {st : Int64} {n : Nat} (hM : own_M st = n + 1) : own_M (st + (-7046029254386353131 : Int64)) = n := by
  unfold own_M at hM ⊢
  have e : ((-6857235525900058748 : Int64) - (st + (-7046029254386353131 : Int64))) * (-1018231460777725123 : Int64) = ((-6857235525900058748 : Int64) - st) * (-1018231460777725123 : Int64) - 1 := by
    have : (-6857235525900058748 : Int64) - (st + (-7046029254386353131 : Int64)) = ((-6857235525900058748 : Int64) - st) - (-7046029254386353131 : Int64) := by
      exact (Int64.sub_sub _ _ _).symm
    rw [this, Int64.sub_mul]
    rfl
  rw [e]
  generalize ((-6857235525900058748 : Int64) - st) * (-1018231460777725123 : Int64) = x at *
  have hx : x.toBitVec.toNat = n + 1 := hM
  show (x - 1).toBitVec.toNat = n
  rw [Int64.toBitVec_sub, BitVec.toNat_sub, hx]
  have : x.toBitVec.toNat < 2 ^ 64 := x.toBitVec.isLt
  have o : (1 : Int64).toBitVec.toNat = 1 := rfl
  rw [o]; omega
theorem own_land_2 {q : Int64} {b : Int32} (hb : 0 < b) (h1 : (own_prod (q + (-7046029254386353131 : Int64)) b &&& (4294967295 : Int64)) < own_bias b)
    (h2 : ¬ (own_prod ((q + (-7046029254386353131 : Int64)) + (-7046029254386353131 : Int64)) b &&& (4294967295 : Int64)) < own_bias b) : own_land q b = (q + (-7046029254386353131 : Int64)) + (-7046029254386353131 : Int64) := by
  unfold own_land
  cases hM : own_M (q + (-7046029254386353131 : Int64)) with
  | zero => exact absurd h1 (own_zero hb hM)
  | succ n =>
    rw [show own_iter (n + 1) (q + (-7046029254386353131 : Int64)) b = own_iter n ((q + (-7046029254386353131 : Int64)) + (-7046029254386353131 : Int64)) b from if_pos h1]
    cases n with
    | zero => rfl
    | succ n => exact if_neg h2
theorem own_r_nat {st : Int64} {b : Int32} {n : Nat} (h1 : 0 < n) (h2 : n < 2 ^ 31) (h3 : b.toInt = (n : Int)) : ∃ k : Nat, k < n ∧ (own_r st b).toInt = (k : Int) := by
  obtain ⟨H, hH⟩ : ∃ H, H = ((own_mix st).toUInt64 >>> ((32 : Int32) &&& 0x3f).toInt64.toUInt64).toNat := ⟨_, rfl⟩
  have hlt : H < 2 ^ 32 := by
    rw [hH, UInt64.toNat_shiftRight]
    have : ((32 : Int32) &&& 0x3f).toInt64.toUInt64.toNat % 64 = 32 := by decide
    rw [this, Nat.shiftRight_eq_div_pow]
    have := (own_mix st).toUInt64.toNat_lt
    omega
  have bn : b.toInt64.toBitVec.toNat = n := by
    have q2 : b.toInt64.toBitVec.toInt = (n : Int) := (Int32.toInt_toInt64 b).trans h3
    rw [BitVec.toInt_eq_toNat_cond] at q2
    have := b.toInt64.toBitVec.isLt
    split at q2 <;> omega
  have hm : H * n < 2 ^ 63 := by
    have a : H * n ≤ (2 ^ 32 - 1) * n := Nat.mul_le_mul_right n (by omega)
    omega
  have pn : (own_prod st b).toBitVec.toNat = H * n := by
    unfold own_prod
    rw [Int64.toBitVec_mul, BitVec.toNat_mul, bn]
    show (((own_mix st).toUInt64 >>> ((32 : Int32) &&& 0x3f).toInt64.toUInt64).toNat * n) % 2 ^ 64 = H * n
    rw [← hH]; omega
  have k1 : H * n / 2 ^ 32 < n := by
    rw [Nat.div_lt_iff_lt_mul (by decide), Nat.mul_comm]
    exact Nat.mul_lt_mul_of_pos_left hlt h1
  refine ⟨H * n / 2 ^ 32, k1, ?_⟩
  unfold own_r
  have s : ((own_prod st b).toUInt64 >>> ((32 : Int32) &&& 0x3f).toInt64.toUInt64).toNat = H * n / 2 ^ 32 := by
    rw [UInt64.toNat_shiftRight]
    have : ((32 : Int32) &&& 0x3f).toInt64.toUInt64.toNat % 64 = 32 := by decide
    rw [this, Nat.shiftRight_eq_div_pow]
    show (own_prod st b).toBitVec.toNat / 2 ^ 32 = _
    rw [pn]
  generalize ((own_prod st b).toUInt64 >>> ((32 : Int32) &&& 0x3f).toInt64.toUInt64) = w at s
  show (w.toInt64.toInt32).toBitVec.toInt = _
  have t : (w.toInt64.toInt32).toBitVec.toNat = H * n / 2 ^ 32 := by
    have : (w.toInt64.toInt32).toBitVec = w.toBitVec.signExtend 32 := rfl
    rw [this, BitVec.signExtend_eq_setWidth_of_le _ (by decide), BitVec.toNat_setWidth]
    show w.toNat % 2 ^ 32 = _
    rw [s]; omega
  rw [BitVec.toInt_eq_toNat_cond, t, if_pos (by omega)]
theorem own_r_nn {st : Int64} {b : Int32} (h : 0 < b) : ¬ own_r st b < 0 := by
  obtain ⟨n, h1, h2, h3⟩ := own_bpos h
  obtain ⟨k, k1, k2⟩ := own_r_nat (st := st) h1 h2 h3
  rw [Int32.lt_iff_toInt_lt, k2]
  have e0 : (0 : Int32).toInt = 0 := rfl
  omega
theorem own_r_lt {st : Int64} {b : Int32} (h : 0 < b) : own_r st b < b := by
  obtain ⟨n, h1, h2, h3⟩ := own_bpos h
  obtain ⟨k, k1, k2⟩ := own_r_nat (st := st) h1 h2 h3
  rw [Int32.lt_iff_toInt_lt, k2, h3]; omega
def own_max (u r : Int32) : Int32 := if u < r then r else u
theorem own_pos {bd r : Int32} (h : bd = own_max (1 : Int32) (r &&& (2147483647 : Int32))) : 0 < bd := by
  subst h
  unfold own_max
  split
  · rename_i q
    rw [Int32.lt_iff_toInt_lt] at q ⊢
    have e0 : (0 : Int32).toInt = 0 := rfl
    have e1 : (1 : Int32).toInt = 1 := rfl
    omega
  · decide
theorem pn_1 : plainFor (⟨"java/lang/Math", "max", "(II)I"⟩ : MethodName) = true := Jvm.Free.JP.mathPlain rfl (by decide +kernel)
theorem d1_0 : decode jdk_29_method_65_code 0 = .ok (.iload_n 0, 1) := by decide +kernel
theorem d1_1 : decode jdk_29_method_65_code 1 = .ok (.iload_n 1, 1) := by decide +kernel
theorem d1_2 : decode jdk_29_method_65_code 2 = .ok (.if_icmp .lt 7, 3) := by decide +kernel
theorem d1_9 : decode jdk_29_method_65_code 9 = .ok (.iload_n 1, 1) := by decide +kernel
theorem d1_10 : decode jdk_29_method_65_code 10 = .ok (.ireturn, 1) := by decide +kernel
theorem d1_5 : decode jdk_29_method_65_code 5 = .ok (.iload_n 0, 1) := by decide +kernel
theorem d1_6 : decode jdk_29_method_65_code 6 = .ok (.goto 4, 3) := by decide +kernel
theorem ef_rm1 (m : MethodId) (x0 : Int32) (x1 : Int32) : entryFrame m #[(.int x0), (.int x1)] 2 = mkF m 0 #[.val (.int x0), .val (.int x1)] [] := by first | (simp [entryFrame, mkF, argsToLocals, Value.category]; done) | rfl
def Q_rm1 (Z : State) (u r : Int32) (h0 : Heap) (n0 : Nat) (v : Option Value) (h : Heap) (L : List Loc) : Prop := v = some (.int (own_max u r)) ∧ Fr n0 L ∧ h = h0
set_option maxRecDepth 65536 in
set_option maxHeartbeats 40000000 in
theorem rm1 (l : Launch) (Z : State) (a0 : Array Value) (hw : ∀ d ∈ tables_1, d.before a0 Z = true) (u r : Int32) (h0 : Heap) (n0 : Nat) (Z0 : n0 ≤ h0.size)  :
    OwnMet l (⟨"java/lang/Math", "max", "(II)I"⟩ : MethodName) jdk_29_method_65_code 2 (some .int) [] ({ frames := 0, cells := 0, slots := 0, locals := 0 } : Room) Z #[(.int u), (.int r)] h0 (Q_rm1 Z u r h0 n0) := by
  refine own_met pn_1 (fun p e s m below meth c s₁ hx hby hml hown hnm hret hlk hZ X0 e0 => ?_)
  have hown : s.vm.findClass "java/lang/Math" = some m.cls := hown
  have N0 := Fr.nil n0
  rw [ef_rm1]
  show OwnWk _ _ _ _ (s₁.setTop (mkF m 0 #[.val (.int u), .val (.int r)] []))
  refine own_go (fun t k => XS.iloadN X0.here hx rfl (hb hby d1_0) rfl  k) ?_
  show OwnWk _ _ _ _ (s₁.setTop (mkF m 1 #[.val (.int u), .val (.int r)] [(.int u)]))
  refine own_go (fun t k => XS.iloadN X0.here hx rfl (hb hby d1_1) rfl  k) ?_
  show OwnWk _ _ _ _ (s₁.setTop (mkF m 2 #[.val (.int u), .val (.int r)] [(.int r), (.int u)]))
  by_cases hc1 : u < r
  ·
    refine own_go (fun t k => XS.icmpYes X0.here hx rfl (pc0 := 2) (pc' := 9) rfl (hb hby d1_2) rfl (tlt hc1).1 (by decide) (by decide) k) ?_
    show OwnWk _ _ _ _ (s₁.setTop (mkF m 9 #[.val (.int u), .val (.int r)] []))
    refine own_go (fun t k => XS.iloadN X0.here hx rfl (hb hby d1_9) rfl  k) ?_
    show OwnWk _ _ _ _ (s₁.setTop (mkF m 10 #[.val (.int u), .val (.int r)] [(.int r)]))
    exact own_retI X0 hx hlk hret (hb hby d1_10) (by decide) (by decide) (by rw [e0]; exact ⟨by simp [own_max, hc1], N0, rfl⟩)
  ·
    refine own_go (fun t k => XS.icmpNo X0.here hx rfl (hb hby d1_2) rfl (flt hc1).1 k) ?_
    show OwnWk _ _ _ _ (s₁.setTop (mkF m 5 #[.val (.int u), .val (.int r)] []))
    refine own_go (fun t k => XS.iloadN X0.here hx rfl (hb hby d1_5) rfl  k) ?_
    show OwnWk _ _ _ _ (s₁.setTop (mkF m 6 #[.val (.int u), .val (.int r)] [(.int u)]))
    refine own_go (fun t k => XS.goto X0.here hx rfl (pc0 := 6) (pc' := 10) rfl (hb hby d1_6) (by decide) (by decide) k) ?_
    show OwnWk _ _ _ _ (s₁.setTop (mkF m 10 #[.val (.int u), .val (.int r)] [(.int u)]))
    exact own_retI X0 hx hlk hret (hb hby d1_10) (by decide) (by decide) (by rw [e0]; exact ⟨by simp [own_max, hc1], N0, rfl⟩)
theorem pn_pn_2 : plainName "com/example/spikeline/spikeline/core/SeededRandom" = true := by first | (simp [plainName, overriddenIn]; done) | decide +kernel
theorem pn_2 : plainFor (⟨"com/example/spikeline/spikeline/core/SeededRandom", "<init>", "(J)V"⟩ : MethodName) = true := plainFor_of_name pn_pn_2
theorem d2_0 : decode prog_8_method_1_code 0 = .ok (.aload_n 0, 1) := by decide +kernel
theorem d2_1 : decode prog_8_method_1_code 1 = .ok (.invokespecial 1, 3) := by decide +kernel
theorem d2_4 : decode prog_8_method_1_code 4 = .ok (.aload_n 0, 1) := by decide +kernel
theorem d2_5 : decode prog_8_method_1_code 5 = .ok (.lload_n 1, 1) := by decide +kernel
theorem d2_6 : decode prog_8_method_1_code 6 = .ok (.putfield 7, 3) := by decide +kernel
theorem d2_9 : decode prog_8_method_1_code 9 = .ok (.return_, 1) := by decide +kernel
theorem ef_rm2 (m : MethodId) (x0 : Addr) (x1 : Int64) : entryFrame m #[(.ref x0), (.long x1)] 3 = mkF m 0 #[.val (.ref x0), .val (.long x1), .second] [] := by first | (simp [entryFrame, mkF, argsToLocals, Value.category]; done) | rfl
def Q_rm2 (Z : State) (a : Addr) (q : Int64) (h0 : Heap) (n0 : Nat) (v : Option Value) (h : Heap) (L : List Loc) : Prop := v = none ∧ Fr n0 L ∧ Keep h0 h [a] ∧ Fld Z h a "com/example/spikeline/spikeline/core/SeededRandom" "state" "J" (.long q)
set_option maxRecDepth 65536 in
set_option maxHeartbeats 40000000 in
theorem rm2 (l : Launch) (Z : State) (a0 : Array Value) (hw : ∀ d ∈ tables_1, d.before a0 Z = true) (a : Addr) (q : Int64) (h0 : Heap) (n0 : Nat) (Z0 : n0 ≤ h0.size) (F_a : Fld Z h0 a "com/example/spikeline/spikeline/core/SeededRandom" "state" "J" (.long 0)) (E_a : Exa Z h0 a "com/example/spikeline/spikeline/core/SeededRandom") (g_a : n0 ≤ a) :
    OwnMet l (⟨"com/example/spikeline/spikeline/core/SeededRandom", "<init>", "(J)V"⟩ : MethodName) prog_8_method_1_code 3 none [] ({ frames := 1, cells := 0, slots := 0, locals := 12 } : Room) Z #[(.ref a), (.long q)] h0 (Q_rm2 Z a q h0 n0) := by
  refine own_met pn_2 (fun p e s m below meth c s₁ hx hby hml hown hnm hret hlk hZ X0 e0 => ?_)
  have hown : s.vm.findClass "com/example/spikeline/spikeline/core/SeededRandom" = some m.cls := hown
  have N0 := Fr.nil n0
  have K0 := Keep.refl h0 [a]
  rw [ef_rm2]
  show OwnWk _ _ _ _ (s₁.setTop (mkF m 0 #[.val (.ref a), .val (.long q), .second] []))
  refine own_go (fun t k => XS.aloadN X0.here hx rfl (hb hby d2_0) rfl rfl  k) ?_
  show OwnWk _ _ _ _ (s₁.setTop (mkF m 1 #[.val (.ref a), .val (.long q), .second] [(.ref a)]))
  obtain ⟨T1, X1, e1, st1⟩ := initO X0 hx hZ hown (hw _ (List.mem_of_getElem? (i := 11) rfl)) (hw _ (List.mem_of_getElem? (i := 12) rfl)) (hw _ (List.mem_of_getElem? (i := 13) rfl)) e0 (g := (mkF m 1 #[.val (.ref a), .val (.long q), .second] [(.ref a)])) rfl (by rw [hml]; rfl) rfl (hb hby d2_1) (by decide) (W := 0) (by show 2 * 0 + _ ≤ _; exact Nat.le_of_eq rfl) (by decide)
  refine own_go st1 ?_
  show OwnWk _ _ _ _ (T1.setTop (mkF m 4 #[.val (.ref a), .val (.long q), .second] []))
  refine own_go (fun t k => XS.aloadN X1.here hx rfl (hb hby d2_4) rfl rfl  k) ?_
  show OwnWk _ _ _ _ (T1.setTop (mkF m 5 #[.val (.ref a), .val (.long q), .second] [(.ref a)]))
  refine own_go (fun t k => XS.lloadN X1.here hx rfl (hb hby d2_5) rfl  k) ?_
  show OwnWk _ _ _ _ (T1.setTop (mkF m 6 #[.val (.ref a), .val (.long q), .second] [(.long q), (.ref a)]))
  obtain ⟨T2, h2, X2, e2, W2, st2⟩ := putF X1 hx hZ hown (host := "") (Or.inl (hw _ (List.mem_of_getElem? (i := 14) rfl))) Via.refl e1 F_a E_a (Or.inl (hw _ (List.mem_of_getElem? (i := 15) rfl))) (hw _ (List.mem_of_getElem? (i := 6) rfl)) (v := (.long q)) (ty := .long) (by decide) rfl rfl (g := (mkF m 6 #[.val (.ref a), .val (.long q), .second] [(.long q), (.ref a)])) rfl rfl (hb hby d2_6)
  refine own_go st2 ?_
  have N2 := Fr.snoc X2 N0 g_a
  have Fw2 := Fld.same W2 F_a
  have F3 := Exa.wr W2 E_a
  have Z4 := Nat.le_trans Z0 (Keep.of_wr W2).1
  have K5 := Keep.wr K0 W2 (Or.inl (List.mem_of_getElem? (i := 0) rfl))
  show OwnWk _ _ _ _ (T2.setTop (mkF m 9 #[.val (.ref a), .val (.long q), .second] []))
  exact own_retV X2 hx hlk hret (hb hby d2_9) (by decide) (by decide) (by rw [e2]; exact ⟨rfl, N2, K5, Fw2⟩)
theorem pn_pn_5 : plainName "com/example/spikeline/spikeline/core/SeededRandom" = true := by first | (simp [plainName, overriddenIn]; done) | decide +kernel
theorem pn_5 : plainFor (⟨"com/example/spikeline/spikeline/core/SeededRandom", "nextLong", "()J"⟩ : MethodName) = true := plainFor_of_name pn_pn_5
theorem d5_0 : decode prog_8_method_3_code 0 = .ok (.aload_n 0, 1) := by decide +kernel
theorem d5_1 : decode prog_8_method_3_code 1 = .ok (.dup, 1) := by decide +kernel
theorem d5_2 : decode prog_8_method_3_code 2 = .ok (.getfield 7, 3) := by decide +kernel
theorem d5_5 : decode prog_8_method_3_code 5 = .ok (.ldc2_w 13, 3) := by decide +kernel
theorem d5_8 : decode prog_8_method_3_code 8 = .ok (.ladd, 1) := by decide +kernel
theorem d5_9 : decode prog_8_method_3_code 9 = .ok (.putfield 7, 3) := by decide +kernel
theorem d5_12 : decode prog_8_method_3_code 12 = .ok (.aload_n 0, 1) := by decide +kernel
theorem d5_13 : decode prog_8_method_3_code 13 = .ok (.getfield 7, 3) := by decide +kernel
theorem d5_16 : decode prog_8_method_3_code 16 = .ok (.lstore_n 1, 1) := by decide +kernel
theorem d5_17 : decode prog_8_method_3_code 17 = .ok (.lload_n 1, 1) := by decide +kernel
theorem d5_18 : decode prog_8_method_3_code 18 = .ok (.lload_n 1, 1) := by decide +kernel
theorem d5_19 : decode prog_8_method_3_code 19 = .ok (.bipush 30, 2) := by decide +kernel
theorem d5_21 : decode prog_8_method_3_code 21 = .ok (.lushr, 1) := by decide +kernel
theorem d5_22 : decode prog_8_method_3_code 22 = .ok (.lxor, 1) := by decide +kernel
theorem d5_23 : decode prog_8_method_3_code 23 = .ok (.ldc2_w 15, 3) := by decide +kernel
theorem d5_26 : decode prog_8_method_3_code 26 = .ok (.lmul, 1) := by decide +kernel
theorem d5_27 : decode prog_8_method_3_code 27 = .ok (.lstore_n 1, 1) := by decide +kernel
theorem d5_28 : decode prog_8_method_3_code 28 = .ok (.lload_n 1, 1) := by decide +kernel
theorem d5_29 : decode prog_8_method_3_code 29 = .ok (.lload_n 1, 1) := by decide +kernel
theorem d5_30 : decode prog_8_method_3_code 30 = .ok (.bipush 27, 2) := by decide +kernel
theorem d5_32 : decode prog_8_method_3_code 32 = .ok (.lushr, 1) := by decide +kernel
theorem d5_33 : decode prog_8_method_3_code 33 = .ok (.lxor, 1) := by decide +kernel
theorem d5_34 : decode prog_8_method_3_code 34 = .ok (.ldc2_w 17, 3) := by decide +kernel
theorem d5_37 : decode prog_8_method_3_code 37 = .ok (.lmul, 1) := by decide +kernel
theorem d5_38 : decode prog_8_method_3_code 38 = .ok (.lstore_n 1, 1) := by decide +kernel
theorem d5_39 : decode prog_8_method_3_code 39 = .ok (.lload_n 1, 1) := by decide +kernel
theorem d5_40 : decode prog_8_method_3_code 40 = .ok (.lload_n 1, 1) := by decide +kernel
theorem d5_41 : decode prog_8_method_3_code 41 = .ok (.bipush 31, 2) := by decide +kernel
theorem d5_43 : decode prog_8_method_3_code 43 = .ok (.lushr, 1) := by decide +kernel
theorem d5_44 : decode prog_8_method_3_code 44 = .ok (.lxor, 1) := by decide +kernel
theorem d5_45 : decode prog_8_method_3_code 45 = .ok (.lreturn, 1) := by decide +kernel
theorem ef_rm5 (m : MethodId) (x0 : Addr) : entryFrame m #[(.ref x0)] 3 = mkF m 0 #[.val (.ref x0), .unset, .unset] [] := by first | (simp [entryFrame, mkF, argsToLocals, Value.category]; done) | rfl
def Q_rm5 (Z : State) (a : Addr) (q : Int64) (h0 : Heap) (n0 : Nat) (v : Option Value) (h : Heap) (L : List Loc) : Prop := v = some (.long (own_mix (q + (-7046029254386353131 : Int64)))) ∧ Fr n0 L ∧ Keep h0 h [a] ∧ Fld Z h a "com/example/spikeline/spikeline/core/SeededRandom" "state" "J" (.long (q + (-7046029254386353131 : Int64)))
set_option maxRecDepth 65536 in
set_option maxHeartbeats 40000000 in
theorem rm5 (l : Launch) (Z : State) (a0 : Array Value) (hw : ∀ d ∈ tables_1, d.before a0 Z = true) (a : Addr) (q : Int64) (h0 : Heap) (n0 : Nat) (Z0 : n0 ≤ h0.size) (F_a : Fld Z h0 a "com/example/spikeline/spikeline/core/SeededRandom" "state" "J" (.long q)) (E_a : Exa Z h0 a "com/example/spikeline/spikeline/core/SeededRandom") (g_a : n0 ≤ a) :
    OwnMet l (⟨"com/example/spikeline/spikeline/core/SeededRandom", "nextLong", "()J"⟩ : MethodName) prog_8_method_3_code 3 (some .long) [] ({ frames := 0, cells := 0, slots := 0, locals := 0 } : Room) Z #[(.ref a)] h0 (Q_rm5 Z a q h0 n0) := by
  refine own_met pn_5 (fun p e s m below meth c s₁ hx hby hml hown hnm hret hlk hZ X0 e0 => ?_)
  have hown : s.vm.findClass "com/example/spikeline/spikeline/core/SeededRandom" = some m.cls := hown
  have N0 := Fr.nil n0
  have K0 := Keep.refl h0 [a]
  rw [ef_rm5]
  show OwnWk _ _ _ _ (s₁.setTop (mkF m 0 #[.val (.ref a), .unset, .unset] []))
  refine own_go (fun t k => XS.aloadN X0.here hx rfl (hb hby d5_0) rfl rfl  k) ?_
  show OwnWk _ _ _ _ (s₁.setTop (mkF m 1 #[.val (.ref a), .unset, .unset] [(.ref a)]))
  refine own_go (fun t k => XS.dup X0.here hx rfl (hb hby d5_1) rfl rfl k) ?_
  show OwnWk _ _ _ _ (s₁.setTop (mkF m 2 #[.val (.ref a), .unset, .unset] [(.ref a), (.ref a)]))
  obtain ⟨T1, X1, e1, st1⟩ := getF X0 hx hZ hown (host := "") (Or.inl (hw _ (List.mem_of_getElem? (i := 14) rfl))) Via.refl e0 F_a (g := (mkF m 2 #[.val (.ref a), .unset, .unset] [(.ref a), (.ref a)])) rfl rfl (hb hby d5_2)
  refine own_go st1 ?_
  show OwnWk _ _ _ _ (T1.setTop (mkF m 5 #[.val (.ref a), .unset, .unset] [(.long q), (.ref a)]))
  refine own_go (X1.ldc2Long hx hown (mvT hZ (hw _ (List.mem_of_getElem? (i := 26) rfl))) (g := (mkF m 5 #[.val (.ref a), .unset, .unset] [(.long q), (.ref a)])) rfl (hb hby d5_5)) ?_
  show OwnWk _ _ _ _ (T1.setTop (mkF m 8 #[.val (.ref a), .unset, .unset] [(.long (-7046029254386353131 : Int64)), (.long q), (.ref a)]))
  refine own_go (fun t k => XS.ladd X1.here hx rfl (hb hby d5_8) rfl k) ?_
  show OwnWk _ _ _ _ (T1.setTop (mkF m 9 #[.val (.ref a), .unset, .unset] [(.long (q + (-7046029254386353131 : Int64))), (.ref a)]))
  obtain ⟨T2, h2, X2, e2, W2, st2⟩ := putF X1 hx hZ hown (host := "") (Or.inl (hw _ (List.mem_of_getElem? (i := 14) rfl))) Via.refl e1 F_a E_a (Or.inl (hw _ (List.mem_of_getElem? (i := 15) rfl))) (hw _ (List.mem_of_getElem? (i := 6) rfl)) (v := (.long (q + (-7046029254386353131 : Int64)))) (ty := .long) (by decide) rfl rfl (g := (mkF m 9 #[.val (.ref a), .unset, .unset] [(.long (q + (-7046029254386353131 : Int64))), (.ref a)])) rfl rfl (hb hby d5_9)
  refine own_go st2 ?_
  have N2 := Fr.snoc X2 N0 g_a
  have Fw2 := Fld.same W2 F_a
  have F3 := Exa.wr W2 E_a
  have Z4 := Nat.le_trans Z0 (Keep.of_wr W2).1
  have K5 := Keep.wr K0 W2 (Or.inl (List.mem_of_getElem? (i := 0) rfl))
  show OwnWk _ _ _ _ (T2.setTop (mkF m 12 #[.val (.ref a), .unset, .unset] []))
  refine own_go (fun t k => XS.aloadN X2.here hx rfl (hb hby d5_12) rfl rfl  k) ?_
  show OwnWk _ _ _ _ (T2.setTop (mkF m 13 #[.val (.ref a), .unset, .unset] [(.ref a)]))
  obtain ⟨T6, X6, e6, st6⟩ := getF X2 hx hZ hown (host := "") (Or.inl (hw _ (List.mem_of_getElem? (i := 14) rfl))) Via.refl e2 Fw2 (g := (mkF m 13 #[.val (.ref a), .unset, .unset] [(.ref a)])) rfl rfl (hb hby d5_13)
  refine own_go st6 ?_
  show OwnWk _ _ _ _ (T6.setTop (mkF m 16 #[.val (.ref a), .unset, .unset] [(.long (q + (-7046029254386353131 : Int64)))]))
  refine own_go (fun t k => XS.lstoreN X6.here hx rfl (hb hby d5_16) rfl (l' := #[.val (.ref a), .val (.long (q + (-7046029254386353131 : Int64))), .second]) rfl k) ?_
  show OwnWk _ _ _ _ (T6.setTop (mkF m 17 #[.val (.ref a), .val (.long (q + (-7046029254386353131 : Int64))), .second] []))
  refine own_go (fun t k => XS.lloadN X6.here hx rfl (hb hby d5_17) rfl  k) ?_
  show OwnWk _ _ _ _ (T6.setTop (mkF m 18 #[.val (.ref a), .val (.long (q + (-7046029254386353131 : Int64))), .second] [(.long (q + (-7046029254386353131 : Int64)))]))
  refine own_go (fun t k => XS.lloadN X6.here hx rfl (hb hby d5_18) rfl  k) ?_
  show OwnWk _ _ _ _ (T6.setTop (mkF m 19 #[.val (.ref a), .val (.long (q + (-7046029254386353131 : Int64))), .second] [(.long (q + (-7046029254386353131 : Int64))), (.long (q + (-7046029254386353131 : Int64)))]))
  refine own_go (fun t k => XS.bipush X6.here hx rfl (hb hby d5_19) k) ?_
  show OwnWk _ _ _ _ (T6.setTop (mkF m 21 #[.val (.ref a), .val (.long (q + (-7046029254386353131 : Int64))), .second] [(.int (30 : Int32)), (.long (q + (-7046029254386353131 : Int64))), (.long (q + (-7046029254386353131 : Int64)))]))
  refine own_go (fun t k => XS.lushr X6.here hx rfl (hb hby d5_21) rfl k) ?_
  show OwnWk _ _ _ _ (T6.setTop (mkF m 22 #[.val (.ref a), .val (.long (q + (-7046029254386353131 : Int64))), .second] [(.long (((q + (-7046029254386353131 : Int64)).toUInt64 >>> ((30 : Int32) &&& 0x3f).toInt64.toUInt64).toInt64)), (.long (q + (-7046029254386353131 : Int64)))]))
  refine own_go (fun t k => XS.lxor X6.here hx rfl (hb hby d5_22) rfl k) ?_
  show OwnWk _ _ _ _ (T6.setTop (mkF m 23 #[.val (.ref a), .val (.long (q + (-7046029254386353131 : Int64))), .second] [(.long ((q + (-7046029254386353131 : Int64)) ^^^ (((q + (-7046029254386353131 : Int64)).toUInt64 >>> ((30 : Int32) &&& 0x3f).toInt64.toUInt64).toInt64)))]))
  refine own_go (X6.ldc2Long hx hown (mvT hZ (hw _ (List.mem_of_getElem? (i := 27) rfl))) (g := (mkF m 23 #[.val (.ref a), .val (.long (q + (-7046029254386353131 : Int64))), .second] [(.long ((q + (-7046029254386353131 : Int64)) ^^^ (((q + (-7046029254386353131 : Int64)).toUInt64 >>> ((30 : Int32) &&& 0x3f).toInt64.toUInt64).toInt64)))])) rfl (hb hby d5_23)) ?_
  show OwnWk _ _ _ _ (T6.setTop (mkF m 26 #[.val (.ref a), .val (.long (q + (-7046029254386353131 : Int64))), .second] [(.long (-4658895280553007687 : Int64)), (.long ((q + (-7046029254386353131 : Int64)) ^^^ (((q + (-7046029254386353131 : Int64)).toUInt64 >>> ((30 : Int32) &&& 0x3f).toInt64.toUInt64).toInt64)))]))
  refine own_go (fun t k => XS.lmul X6.here hx rfl (hb hby d5_26) rfl k) ?_
  show OwnWk _ _ _ _ (T6.setTop (mkF m 27 #[.val (.ref a), .val (.long (q + (-7046029254386353131 : Int64))), .second] [(.long (((q + (-7046029254386353131 : Int64)) ^^^ (((q + (-7046029254386353131 : Int64)).toUInt64 >>> ((30 : Int32) &&& 0x3f).toInt64.toUInt64).toInt64)) * (-4658895280553007687 : Int64)))]))
  refine own_go (fun t k => XS.lstoreN X6.here hx rfl (hb hby d5_27) rfl (l' := #[.val (.ref a), .val (.long (((q + (-7046029254386353131 : Int64)) ^^^ (((q + (-7046029254386353131 : Int64)).toUInt64 >>> ((30 : Int32) &&& 0x3f).toInt64.toUInt64).toInt64)) * (-4658895280553007687 : Int64))), .second]) rfl k) ?_
  show OwnWk _ _ _ _ (T6.setTop (mkF m 28 #[.val (.ref a), .val (.long (((q + (-7046029254386353131 : Int64)) ^^^ (((q + (-7046029254386353131 : Int64)).toUInt64 >>> ((30 : Int32) &&& 0x3f).toInt64.toUInt64).toInt64)) * (-4658895280553007687 : Int64))), .second] []))
  refine own_go (fun t k => XS.lloadN X6.here hx rfl (hb hby d5_28) rfl  k) ?_
  show OwnWk _ _ _ _ (T6.setTop (mkF m 29 #[.val (.ref a), .val (.long (((q + (-7046029254386353131 : Int64)) ^^^ (((q + (-7046029254386353131 : Int64)).toUInt64 >>> ((30 : Int32) &&& 0x3f).toInt64.toUInt64).toInt64)) * (-4658895280553007687 : Int64))), .second] [(.long (((q + (-7046029254386353131 : Int64)) ^^^ (((q + (-7046029254386353131 : Int64)).toUInt64 >>> ((30 : Int32) &&& 0x3f).toInt64.toUInt64).toInt64)) * (-4658895280553007687 : Int64)))]))
  refine own_go (fun t k => XS.lloadN X6.here hx rfl (hb hby d5_29) rfl  k) ?_
  show OwnWk _ _ _ _ (T6.setTop (mkF m 30 #[.val (.ref a), .val (.long (((q + (-7046029254386353131 : Int64)) ^^^ (((q + (-7046029254386353131 : Int64)).toUInt64 >>> ((30 : Int32) &&& 0x3f).toInt64.toUInt64).toInt64)) * (-4658895280553007687 : Int64))), .second] [(.long (((q + (-7046029254386353131 : Int64)) ^^^ (((q + (-7046029254386353131 : Int64)).toUInt64 >>> ((30 : Int32) &&& 0x3f).toInt64.toUInt64).toInt64)) * (-4658895280553007687 : Int64))), (.long (((q + (-7046029254386353131 : Int64)) ^^^ (((q + (-7046029254386353131 : Int64)).toUInt64 >>> ((30 : Int32) &&& 0x3f).toInt64.toUInt64).toInt64)) * (-4658895280553007687 : Int64)))]))
  refine own_go (fun t k => XS.bipush X6.here hx rfl (hb hby d5_30) k) ?_
  show OwnWk _ _ _ _ (T6.setTop (mkF m 32 #[.val (.ref a), .val (.long (((q + (-7046029254386353131 : Int64)) ^^^ (((q + (-7046029254386353131 : Int64)).toUInt64 >>> ((30 : Int32) &&& 0x3f).toInt64.toUInt64).toInt64)) * (-4658895280553007687 : Int64))), .second] [(.int (27 : Int32)), (.long (((q + (-7046029254386353131 : Int64)) ^^^ (((q + (-7046029254386353131 : Int64)).toUInt64 >>> ((30 : Int32) &&& 0x3f).toInt64.toUInt64).toInt64)) * (-4658895280553007687 : Int64))), (.long (((q + (-7046029254386353131 : Int64)) ^^^ (((q + (-7046029254386353131 : Int64)).toUInt64 >>> ((30 : Int32) &&& 0x3f).toInt64.toUInt64).toInt64)) * (-4658895280553007687 : Int64)))]))
  refine own_go (fun t k => XS.lushr X6.here hx rfl (hb hby d5_32) rfl k) ?_
  show OwnWk _ _ _ _ (T6.setTop (mkF m 33 #[.val (.ref a), .val (.long (((q + (-7046029254386353131 : Int64)) ^^^ (((q + (-7046029254386353131 : Int64)).toUInt64 >>> ((30 : Int32) &&& 0x3f).toInt64.toUInt64).toInt64)) * (-4658895280553007687 : Int64))), .second] [(.long (((((q + (-7046029254386353131 : Int64)) ^^^ (((q + (-7046029254386353131 : Int64)).toUInt64 >>> ((30 : Int32) &&& 0x3f).toInt64.toUInt64).toInt64)) * (-4658895280553007687 : Int64)).toUInt64 >>> ((27 : Int32) &&& 0x3f).toInt64.toUInt64).toInt64)), (.long (((q + (-7046029254386353131 : Int64)) ^^^ (((q + (-7046029254386353131 : Int64)).toUInt64 >>> ((30 : Int32) &&& 0x3f).toInt64.toUInt64).toInt64)) * (-4658895280553007687 : Int64)))]))
  refine own_go (fun t k => XS.lxor X6.here hx rfl (hb hby d5_33) rfl k) ?_
  show OwnWk _ _ _ _ (T6.setTop (mkF m 34 #[.val (.ref a), .val (.long (((q + (-7046029254386353131 : Int64)) ^^^ (((q + (-7046029254386353131 : Int64)).toUInt64 >>> ((30 : Int32) &&& 0x3f).toInt64.toUInt64).toInt64)) * (-4658895280553007687 : Int64))), .second] [(.long ((((q + (-7046029254386353131 : Int64)) ^^^ (((q + (-7046029254386353131 : Int64)).toUInt64 >>> ((30 : Int32) &&& 0x3f).toInt64.toUInt64).toInt64)) * (-4658895280553007687 : Int64)) ^^^ (((((q + (-7046029254386353131 : Int64)) ^^^ (((q + (-7046029254386353131 : Int64)).toUInt64 >>> ((30 : Int32) &&& 0x3f).toInt64.toUInt64).toInt64)) * (-4658895280553007687 : Int64)).toUInt64 >>> ((27 : Int32) &&& 0x3f).toInt64.toUInt64).toInt64)))]))
  refine own_go (X6.ldc2Long hx hown (mvT hZ (hw _ (List.mem_of_getElem? (i := 28) rfl))) (g := (mkF m 34 #[.val (.ref a), .val (.long (((q + (-7046029254386353131 : Int64)) ^^^ (((q + (-7046029254386353131 : Int64)).toUInt64 >>> ((30 : Int32) &&& 0x3f).toInt64.toUInt64).toInt64)) * (-4658895280553007687 : Int64))), .second] [(.long ((((q + (-7046029254386353131 : Int64)) ^^^ (((q + (-7046029254386353131 : Int64)).toUInt64 >>> ((30 : Int32) &&& 0x3f).toInt64.toUInt64).toInt64)) * (-4658895280553007687 : Int64)) ^^^ (((((q + (-7046029254386353131 : Int64)) ^^^ (((q + (-7046029254386353131 : Int64)).toUInt64 >>> ((30 : Int32) &&& 0x3f).toInt64.toUInt64).toInt64)) * (-4658895280553007687 : Int64)).toUInt64 >>> ((27 : Int32) &&& 0x3f).toInt64.toUInt64).toInt64)))])) rfl (hb hby d5_34)) ?_
  show OwnWk _ _ _ _ (T6.setTop (mkF m 37 #[.val (.ref a), .val (.long (((q + (-7046029254386353131 : Int64)) ^^^ (((q + (-7046029254386353131 : Int64)).toUInt64 >>> ((30 : Int32) &&& 0x3f).toInt64.toUInt64).toInt64)) * (-4658895280553007687 : Int64))), .second] [(.long (-7723592293110705685 : Int64)), (.long ((((q + (-7046029254386353131 : Int64)) ^^^ (((q + (-7046029254386353131 : Int64)).toUInt64 >>> ((30 : Int32) &&& 0x3f).toInt64.toUInt64).toInt64)) * (-4658895280553007687 : Int64)) ^^^ (((((q + (-7046029254386353131 : Int64)) ^^^ (((q + (-7046029254386353131 : Int64)).toUInt64 >>> ((30 : Int32) &&& 0x3f).toInt64.toUInt64).toInt64)) * (-4658895280553007687 : Int64)).toUInt64 >>> ((27 : Int32) &&& 0x3f).toInt64.toUInt64).toInt64)))]))
  refine own_go (fun t k => XS.lmul X6.here hx rfl (hb hby d5_37) rfl k) ?_
  show OwnWk _ _ _ _ (T6.setTop (mkF m 38 #[.val (.ref a), .val (.long (((q + (-7046029254386353131 : Int64)) ^^^ (((q + (-7046029254386353131 : Int64)).toUInt64 >>> ((30 : Int32) &&& 0x3f).toInt64.toUInt64).toInt64)) * (-4658895280553007687 : Int64))), .second] [(.long (((((q + (-7046029254386353131 : Int64)) ^^^ (((q + (-7046029254386353131 : Int64)).toUInt64 >>> ((30 : Int32) &&& 0x3f).toInt64.toUInt64).toInt64)) * (-4658895280553007687 : Int64)) ^^^ (((((q + (-7046029254386353131 : Int64)) ^^^ (((q + (-7046029254386353131 : Int64)).toUInt64 >>> ((30 : Int32) &&& 0x3f).toInt64.toUInt64).toInt64)) * (-4658895280553007687 : Int64)).toUInt64 >>> ((27 : Int32) &&& 0x3f).toInt64.toUInt64).toInt64)) * (-7723592293110705685 : Int64)))]))
  refine own_go (fun t k => XS.lstoreN X6.here hx rfl (hb hby d5_38) rfl (l' := #[.val (.ref a), .val (.long (((((q + (-7046029254386353131 : Int64)) ^^^ (((q + (-7046029254386353131 : Int64)).toUInt64 >>> ((30 : Int32) &&& 0x3f).toInt64.toUInt64).toInt64)) * (-4658895280553007687 : Int64)) ^^^ (((((q + (-7046029254386353131 : Int64)) ^^^ (((q + (-7046029254386353131 : Int64)).toUInt64 >>> ((30 : Int32) &&& 0x3f).toInt64.toUInt64).toInt64)) * (-4658895280553007687 : Int64)).toUInt64 >>> ((27 : Int32) &&& 0x3f).toInt64.toUInt64).toInt64)) * (-7723592293110705685 : Int64))), .second]) rfl k) ?_
  show OwnWk _ _ _ _ (T6.setTop (mkF m 39 #[.val (.ref a), .val (.long (((((q + (-7046029254386353131 : Int64)) ^^^ (((q + (-7046029254386353131 : Int64)).toUInt64 >>> ((30 : Int32) &&& 0x3f).toInt64.toUInt64).toInt64)) * (-4658895280553007687 : Int64)) ^^^ (((((q + (-7046029254386353131 : Int64)) ^^^ (((q + (-7046029254386353131 : Int64)).toUInt64 >>> ((30 : Int32) &&& 0x3f).toInt64.toUInt64).toInt64)) * (-4658895280553007687 : Int64)).toUInt64 >>> ((27 : Int32) &&& 0x3f).toInt64.toUInt64).toInt64)) * (-7723592293110705685 : Int64))), .second] []))
  refine own_go (fun t k => XS.lloadN X6.here hx rfl (hb hby d5_39) rfl  k) ?_
  show OwnWk _ _ _ _ (T6.setTop (mkF m 40 #[.val (.ref a), .val (.long (((((q + (-7046029254386353131 : Int64)) ^^^ (((q + (-7046029254386353131 : Int64)).toUInt64 >>> ((30 : Int32) &&& 0x3f).toInt64.toUInt64).toInt64)) * (-4658895280553007687 : Int64)) ^^^ (((((q + (-7046029254386353131 : Int64)) ^^^ (((q + (-7046029254386353131 : Int64)).toUInt64 >>> ((30 : Int32) &&& 0x3f).toInt64.toUInt64).toInt64)) * (-4658895280553007687 : Int64)).toUInt64 >>> ((27 : Int32) &&& 0x3f).toInt64.toUInt64).toInt64)) * (-7723592293110705685 : Int64))), .second] [(.long (((((q + (-7046029254386353131 : Int64)) ^^^ (((q + (-7046029254386353131 : Int64)).toUInt64 >>> ((30 : Int32) &&& 0x3f).toInt64.toUInt64).toInt64)) * (-4658895280553007687 : Int64)) ^^^ (((((q + (-7046029254386353131 : Int64)) ^^^ (((q + (-7046029254386353131 : Int64)).toUInt64 >>> ((30 : Int32) &&& 0x3f).toInt64.toUInt64).toInt64)) * (-4658895280553007687 : Int64)).toUInt64 >>> ((27 : Int32) &&& 0x3f).toInt64.toUInt64).toInt64)) * (-7723592293110705685 : Int64)))]))
  refine own_go (fun t k => XS.lloadN X6.here hx rfl (hb hby d5_40) rfl  k) ?_
  show OwnWk _ _ _ _ (T6.setTop (mkF m 41 #[.val (.ref a), .val (.long (((((q + (-7046029254386353131 : Int64)) ^^^ (((q + (-7046029254386353131 : Int64)).toUInt64 >>> ((30 : Int32) &&& 0x3f).toInt64.toUInt64).toInt64)) * (-4658895280553007687 : Int64)) ^^^ (((((q + (-7046029254386353131 : Int64)) ^^^ (((q + (-7046029254386353131 : Int64)).toUInt64 >>> ((30 : Int32) &&& 0x3f).toInt64.toUInt64).toInt64)) * (-4658895280553007687 : Int64)).toUInt64 >>> ((27 : Int32) &&& 0x3f).toInt64.toUInt64).toInt64)) * (-7723592293110705685 : Int64))), .second] [(.long (((((q + (-7046029254386353131 : Int64)) ^^^ (((q + (-7046029254386353131 : Int64)).toUInt64 >>> ((30 : Int32) &&& 0x3f).toInt64.toUInt64).toInt64)) * (-4658895280553007687 : Int64)) ^^^ (((((q + (-7046029254386353131 : Int64)) ^^^ (((q + (-7046029254386353131 : Int64)).toUInt64 >>> ((30 : Int32) &&& 0x3f).toInt64.toUInt64).toInt64)) * (-4658895280553007687 : Int64)).toUInt64 >>> ((27 : Int32) &&& 0x3f).toInt64.toUInt64).toInt64)) * (-7723592293110705685 : Int64))), (.long (((((q + (-7046029254386353131 : Int64)) ^^^ (((q + (-7046029254386353131 : Int64)).toUInt64 >>> ((30 : Int32) &&& 0x3f).toInt64.toUInt64).toInt64)) * (-4658895280553007687 : Int64)) ^^^ (((((q + (-7046029254386353131 : Int64)) ^^^ (((q + (-7046029254386353131 : Int64)).toUInt64 >>> ((30 : Int32) &&& 0x3f).toInt64.toUInt64).toInt64)) * (-4658895280553007687 : Int64)).toUInt64 >>> ((27 : Int32) &&& 0x3f).toInt64.toUInt64).toInt64)) * (-7723592293110705685 : Int64)))]))
  refine own_go (fun t k => XS.bipush X6.here hx rfl (hb hby d5_41) k) ?_
  show OwnWk _ _ _ _ (T6.setTop (mkF m 43 #[.val (.ref a), .val (.long (((((q + (-7046029254386353131 : Int64)) ^^^ (((q + (-7046029254386353131 : Int64)).toUInt64 >>> ((30 : Int32) &&& 0x3f).toInt64.toUInt64).toInt64)) * (-4658895280553007687 : Int64)) ^^^ (((((q + (-7046029254386353131 : Int64)) ^^^ (((q + (-7046029254386353131 : Int64)).toUInt64 >>> ((30 : Int32) &&& 0x3f).toInt64.toUInt64).toInt64)) * (-4658895280553007687 : Int64)).toUInt64 >>> ((27 : Int32) &&& 0x3f).toInt64.toUInt64).toInt64)) * (-7723592293110705685 : Int64))), .second] [(.int (31 : Int32)), (.long (((((q + (-7046029254386353131 : Int64)) ^^^ (((q + (-7046029254386353131 : Int64)).toUInt64 >>> ((30 : Int32) &&& 0x3f).toInt64.toUInt64).toInt64)) * (-4658895280553007687 : Int64)) ^^^ (((((q + (-7046029254386353131 : Int64)) ^^^ (((q + (-7046029254386353131 : Int64)).toUInt64 >>> ((30 : Int32) &&& 0x3f).toInt64.toUInt64).toInt64)) * (-4658895280553007687 : Int64)).toUInt64 >>> ((27 : Int32) &&& 0x3f).toInt64.toUInt64).toInt64)) * (-7723592293110705685 : Int64))), (.long (((((q + (-7046029254386353131 : Int64)) ^^^ (((q + (-7046029254386353131 : Int64)).toUInt64 >>> ((30 : Int32) &&& 0x3f).toInt64.toUInt64).toInt64)) * (-4658895280553007687 : Int64)) ^^^ (((((q + (-7046029254386353131 : Int64)) ^^^ (((q + (-7046029254386353131 : Int64)).toUInt64 >>> ((30 : Int32) &&& 0x3f).toInt64.toUInt64).toInt64)) * (-4658895280553007687 : Int64)).toUInt64 >>> ((27 : Int32) &&& 0x3f).toInt64.toUInt64).toInt64)) * (-7723592293110705685 : Int64)))]))
  refine own_go (fun t k => XS.lushr X6.here hx rfl (hb hby d5_43) rfl k) ?_
  show OwnWk _ _ _ _ (T6.setTop (mkF m 44 #[.val (.ref a), .val (.long (((((q + (-7046029254386353131 : Int64)) ^^^ (((q + (-7046029254386353131 : Int64)).toUInt64 >>> ((30 : Int32) &&& 0x3f).toInt64.toUInt64).toInt64)) * (-4658895280553007687 : Int64)) ^^^ (((((q + (-7046029254386353131 : Int64)) ^^^ (((q + (-7046029254386353131 : Int64)).toUInt64 >>> ((30 : Int32) &&& 0x3f).toInt64.toUInt64).toInt64)) * (-4658895280553007687 : Int64)).toUInt64 >>> ((27 : Int32) &&& 0x3f).toInt64.toUInt64).toInt64)) * (-7723592293110705685 : Int64))), .second] [(.long (((((((q + (-7046029254386353131 : Int64)) ^^^ (((q + (-7046029254386353131 : Int64)).toUInt64 >>> ((30 : Int32) &&& 0x3f).toInt64.toUInt64).toInt64)) * (-4658895280553007687 : Int64)) ^^^ (((((q + (-7046029254386353131 : Int64)) ^^^ (((q + (-7046029254386353131 : Int64)).toUInt64 >>> ((30 : Int32) &&& 0x3f).toInt64.toUInt64).toInt64)) * (-4658895280553007687 : Int64)).toUInt64 >>> ((27 : Int32) &&& 0x3f).toInt64.toUInt64).toInt64)) * (-7723592293110705685 : Int64)).toUInt64 >>> ((31 : Int32) &&& 0x3f).toInt64.toUInt64).toInt64)), (.long (((((q + (-7046029254386353131 : Int64)) ^^^ (((q + (-7046029254386353131 : Int64)).toUInt64 >>> ((30 : Int32) &&& 0x3f).toInt64.toUInt64).toInt64)) * (-4658895280553007687 : Int64)) ^^^ (((((q + (-7046029254386353131 : Int64)) ^^^ (((q + (-7046029254386353131 : Int64)).toUInt64 >>> ((30 : Int32) &&& 0x3f).toInt64.toUInt64).toInt64)) * (-4658895280553007687 : Int64)).toUInt64 >>> ((27 : Int32) &&& 0x3f).toInt64.toUInt64).toInt64)) * (-7723592293110705685 : Int64)))]))
  refine own_go (fun t k => XS.lxor X6.here hx rfl (hb hby d5_44) rfl k) ?_
  show OwnWk _ _ _ _ (T6.setTop (mkF m 45 #[.val (.ref a), .val (.long (((((q + (-7046029254386353131 : Int64)) ^^^ (((q + (-7046029254386353131 : Int64)).toUInt64 >>> ((30 : Int32) &&& 0x3f).toInt64.toUInt64).toInt64)) * (-4658895280553007687 : Int64)) ^^^ (((((q + (-7046029254386353131 : Int64)) ^^^ (((q + (-7046029254386353131 : Int64)).toUInt64 >>> ((30 : Int32) &&& 0x3f).toInt64.toUInt64).toInt64)) * (-4658895280553007687 : Int64)).toUInt64 >>> ((27 : Int32) &&& 0x3f).toInt64.toUInt64).toInt64)) * (-7723592293110705685 : Int64))), .second] [(.long ((((((q + (-7046029254386353131 : Int64)) ^^^ (((q + (-7046029254386353131 : Int64)).toUInt64 >>> ((30 : Int32) &&& 0x3f).toInt64.toUInt64).toInt64)) * (-4658895280553007687 : Int64)) ^^^ (((((q + (-7046029254386353131 : Int64)) ^^^ (((q + (-7046029254386353131 : Int64)).toUInt64 >>> ((30 : Int32) &&& 0x3f).toInt64.toUInt64).toInt64)) * (-4658895280553007687 : Int64)).toUInt64 >>> ((27 : Int32) &&& 0x3f).toInt64.toUInt64).toInt64)) * (-7723592293110705685 : Int64)) ^^^ (((((((q + (-7046029254386353131 : Int64)) ^^^ (((q + (-7046029254386353131 : Int64)).toUInt64 >>> ((30 : Int32) &&& 0x3f).toInt64.toUInt64).toInt64)) * (-4658895280553007687 : Int64)) ^^^ (((((q + (-7046029254386353131 : Int64)) ^^^ (((q + (-7046029254386353131 : Int64)).toUInt64 >>> ((30 : Int32) &&& 0x3f).toInt64.toUInt64).toInt64)) * (-4658895280553007687 : Int64)).toUInt64 >>> ((27 : Int32) &&& 0x3f).toInt64.toUInt64).toInt64)) * (-7723592293110705685 : Int64)).toUInt64 >>> ((31 : Int32) &&& 0x3f).toInt64.toUInt64).toInt64)))]))
  exact own_retJ X6 hx hlk hret (hb hby d5_45) (by decide) (by decide) (by rw [e6]; exact ⟨rfl, N2, K5, Fw2⟩)
theorem pn_pn_6 : plainName "com/example/spikeline/spikeline/core/SeededRandom" = true := by first | (simp [plainName, overriddenIn]; done) | decide +kernel
theorem pn_6 : plainFor (⟨"com/example/spikeline/spikeline/core/SeededRandom", "state", "()J"⟩ : MethodName) = true := plainFor_of_name pn_pn_6
theorem d6_0 : decode prog_8_method_2_code 0 = .ok (.aload_n 0, 1) := by decide +kernel
theorem d6_1 : decode prog_8_method_2_code 1 = .ok (.getfield 7, 3) := by decide +kernel
theorem d6_4 : decode prog_8_method_2_code 4 = .ok (.lreturn, 1) := by decide +kernel
theorem ef_rm6 (m : MethodId) (x0 : Addr) : entryFrame m #[(.ref x0)] 1 = mkF m 0 #[.val (.ref x0)] [] := by first | (simp [entryFrame, mkF, argsToLocals, Value.category]; done) | rfl
def Q_rm6 (Z : State) (a : Addr) (q : Int64) (h0 : Heap) (n0 : Nat) (v : Option Value) (h : Heap) (L : List Loc) : Prop := v = some (.long q) ∧ Fr n0 L ∧ h = h0
set_option maxRecDepth 65536 in
set_option maxHeartbeats 40000000 in
theorem rm6 (l : Launch) (Z : State) (a0 : Array Value) (hw : ∀ d ∈ tables_1, d.before a0 Z = true) (a : Addr) (q : Int64) (h0 : Heap) (n0 : Nat) (Z0 : n0 ≤ h0.size) (F_a : Fld Z h0 a "com/example/spikeline/spikeline/core/SeededRandom" "state" "J" (.long q)) :
    OwnMet l (⟨"com/example/spikeline/spikeline/core/SeededRandom", "state", "()J"⟩ : MethodName) prog_8_method_2_code 1 (some .long) [] ({ frames := 0, cells := 0, slots := 0, locals := 0 } : Room) Z #[(.ref a)] h0 (Q_rm6 Z a q h0 n0) := by
  refine own_met pn_6 (fun p e s m below meth c s₁ hx hby hml hown hnm hret hlk hZ X0 e0 => ?_)
  have hown : s.vm.findClass "com/example/spikeline/spikeline/core/SeededRandom" = some m.cls := hown
  have N0 := Fr.nil n0
  rw [ef_rm6]
  show OwnWk _ _ _ _ (s₁.setTop (mkF m 0 #[.val (.ref a)] []))
  refine own_go (fun t k => XS.aloadN X0.here hx rfl (hb hby d6_0) rfl rfl  k) ?_
  show OwnWk _ _ _ _ (s₁.setTop (mkF m 1 #[.val (.ref a)] [(.ref a)]))
  obtain ⟨T1, X1, e1, st1⟩ := getF X0 hx hZ hown (host := "") (Or.inl (hw _ (List.mem_of_getElem? (i := 14) rfl))) Via.refl e0 F_a (g := (mkF m 1 #[.val (.ref a)] [(.ref a)])) rfl rfl (hb hby d6_1)
  refine own_go st1 ?_
  show OwnWk _ _ _ _ (T1.setTop (mkF m 4 #[.val (.ref a)] [(.long q)]))
  exact own_retJ X1 hx hlk hret (hb hby d6_4) (by decide) (by decide) (by rw [e1]; exact ⟨rfl, N0, rfl⟩)
theorem pn_pn_4 : plainName "com/example/spikeline/spikeline/core/SeededRandom" = true := by first | (simp [plainName, overriddenIn]; done) | decide +kernel
theorem pn_4 : plainFor (⟨"com/example/spikeline/spikeline/core/SeededRandom", "nextInt", "(I)I"⟩ : MethodName) = true := plainFor_of_name pn_pn_4
theorem d4_0 : decode prog_8_method_4_code 0 = .ok (.iload_n 1, 1) := by decide +kernel
theorem d4_1 : decode prog_8_method_4_code 1 = .ok (.ifCond .gt 17, 3) := by decide +kernel
theorem d4_18 : decode prog_8_method_4_code 18 = .ok (.aload_n 0, 1) := by decide +kernel
theorem d4_19 : decode prog_8_method_4_code 19 = .ok (.invokevirtual 28, 3) := by decide +kernel
theorem pd_0 : parseMethodDescriptor "()J" = some ⟨[], some .long⟩ := by decide +kernel
theorem d4_22 : decode prog_8_method_4_code 22 = .ok (.bipush 32, 2) := by decide +kernel
theorem d4_24 : decode prog_8_method_4_code 24 = .ok (.lushr, 1) := by decide +kernel
theorem d4_25 : decode prog_8_method_4_code 25 = .ok (.iload_n 1, 1) := by decide +kernel
theorem d4_26 : decode prog_8_method_4_code 26 = .ok (.i2l, 1) := by decide +kernel
theorem d4_27 : decode prog_8_method_4_code 27 = .ok (.lmul, 1) := by decide +kernel
theorem d4_28 : decode prog_8_method_4_code 28 = .ok (.lstore_n 2, 1) := by decide +kernel
theorem d4_29 : decode prog_8_method_4_code 29 = .ok (.lload_n 2, 1) := by decide +kernel
theorem d4_30 : decode prog_8_method_4_code 30 = .ok (.ldc2_w 32, 3) := by decide +kernel
theorem d4_33 : decode prog_8_method_4_code 33 = .ok (.land, 1) := by decide +kernel
theorem d4_34 : decode prog_8_method_4_code 34 = .ok (.iload_n 1, 1) := by decide +kernel
theorem d4_35 : decode prog_8_method_4_code 35 = .ok (.i2l, 1) := by decide +kernel
theorem d4_36 : decode prog_8_method_4_code 36 = .ok (.lcmp, 1) := by decide +kernel
theorem d4_37 : decode prog_8_method_4_code 37 = .ok (.ifCond .ge 39, 3) := by decide +kernel
theorem d4_40 : decode prog_8_method_4_code 40 = .ok (.ldc2_w 34, 3) := by decide +kernel
theorem d4_43 : decode prog_8_method_4_code 43 = .ok (.iload_n 1, 1) := by decide +kernel
theorem d4_44 : decode prog_8_method_4_code 44 = .ok (.i2l, 1) := by decide +kernel
theorem d4_45 : decode prog_8_method_4_code 45 = .ok (.lsub, 1) := by decide +kernel
theorem d4_46 : decode prog_8_method_4_code 46 = .ok (.iload_n 1, 1) := by decide +kernel
theorem d4_47 : decode prog_8_method_4_code 47 = .ok (.i2l, 1) := by decide +kernel
theorem d4_48 : decode prog_8_method_4_code 48 = .ok (.lrem, 1) := by decide +kernel
theorem d4_49 : decode prog_8_method_4_code 49 = .ok (.lstore 4, 2) := by decide +kernel
theorem d4_51 : decode prog_8_method_4_code 51 = .ok (.lload_n 2, 1) := by decide +kernel
theorem d4_52 : decode prog_8_method_4_code 52 = .ok (.ldc2_w 32, 3) := by decide +kernel
theorem d4_55 : decode prog_8_method_4_code 55 = .ok (.land, 1) := by decide +kernel
theorem d4_56 : decode prog_8_method_4_code 56 = .ok (.lload 4, 2) := by decide +kernel
theorem d4_58 : decode prog_8_method_4_code 58 = .ok (.lcmp, 1) := by decide +kernel
theorem d4_59 : decode prog_8_method_4_code 59 = .ok (.ifCond .ge 17, 3) := by decide +kernel
theorem d4_76 : decode prog_8_method_4_code 76 = .ok (.lload_n 2, 1) := by decide +kernel
theorem d4_77 : decode prog_8_method_4_code 77 = .ok (.bipush 32, 2) := by decide +kernel
theorem d4_79 : decode prog_8_method_4_code 79 = .ok (.lushr, 1) := by decide +kernel
theorem d4_80 : decode prog_8_method_4_code 80 = .ok (.l2i, 1) := by decide +kernel
theorem d4_81 : decode prog_8_method_4_code 81 = .ok (.ireturn, 1) := by decide +kernel
theorem d4_62 : decode prog_8_method_4_code 62 = .ok (.aload_n 0, 1) := by decide +kernel
theorem d4_63 : decode prog_8_method_4_code 63 = .ok (.invokevirtual 28, 3) := by decide +kernel
theorem d4_66 : decode prog_8_method_4_code 66 = .ok (.bipush 32, 2) := by decide +kernel
theorem d4_68 : decode prog_8_method_4_code 68 = .ok (.lushr, 1) := by decide +kernel
theorem d4_69 : decode prog_8_method_4_code 69 = .ok (.iload_n 1, 1) := by decide +kernel
theorem d4_70 : decode prog_8_method_4_code 70 = .ok (.i2l, 1) := by decide +kernel
theorem d4_71 : decode prog_8_method_4_code 71 = .ok (.lmul, 1) := by decide +kernel
theorem d4_72 : decode prog_8_method_4_code 72 = .ok (.lstore_n 2, 1) := by decide +kernel
theorem d4_73 : decode prog_8_method_4_code 73 = .ok (.goto (-22), 3) := by decide +kernel
theorem ef_rm4 (m : MethodId) (x0 : Addr) (x1 : Int32) : entryFrame m #[(.ref x0), (.int x1)] 6 = mkF m 0 #[.val (.ref x0), .val (.int x1), .unset, .unset, .unset, .unset] [] := by first | (simp [entryFrame, mkF, argsToLocals, Value.category]; done) | rfl
def Q_rm4 (Z : State) (a : Addr) (b : Int32) (q : Int64) (h0 : Heap) (n0 : Nat) (v : Option Value) (h : Heap) (L : List Loc) : Prop := v = some (.int (own_r (own_land q b) b)) ∧ Fr n0 L ∧ Keep h0 h [a] ∧ Fld Z h a "com/example/spikeline/spikeline/core/SeededRandom" "state" "J" (.long (own_land q b))
set_option maxRecDepth 65536 in
set_option maxHeartbeats 40000000 in
theorem rm4 (l : Launch) (Z : State) (a0 : Array Value) (hw : ∀ d ∈ tables_1, d.before a0 Z = true) (a : Addr) (b : Int32) (q : Int64) (h0 : Heap) (n0 : Nat) (Z0 : n0 ≤ h0.size) (F_a : Fld Z h0 a "com/example/spikeline/spikeline/core/SeededRandom" "state" "J" (.long q)) (E_a : Exa Z h0 a "com/example/spikeline/spikeline/core/SeededRandom") (g_a : n0 ≤ a) (hb0 : 0 < b) :
    OwnMet l (⟨"com/example/spikeline/spikeline/core/SeededRandom", "nextInt", "(I)I"⟩ : MethodName) prog_8_method_4_code 6 (some .int) [] ({ frames := 1, cells := 0, slots := 0, locals := 14 } : Room) Z #[(.ref a), (.int b)] h0 (Q_rm4 Z a b q h0 n0) := by
  refine own_met pn_4 (fun p e s m below meth c s₁ hx hby hml hown hnm hret hlk hZ X0 e0 => ?_)
  have hown : s.vm.findClass "com/example/spikeline/spikeline/core/SeededRandom" = some m.cls := hown
  have N0 := Fr.nil n0
  have K0 := Keep.refl h0 [a]
  rw [ef_rm4]
  show OwnWk _ _ _ _ (s₁.setTop (mkF m 0 #[.val (.ref a), .val (.int b), .unset, .unset, .unset, .unset] []))
  refine own_go (fun t k => XS.iloadN X0.here hx rfl (hb hby d4_0) rfl  k) ?_
  show OwnWk _ _ _ _ (s₁.setTop (mkF m 1 #[.val (.ref a), .val (.int b), .unset, .unset, .unset, .unset] [(.int b)]))
  refine own_go (fun t k => XS.ifYes X0.here hx rfl (pc0 := 1) (pc' := 18) rfl (hb hby d4_1) rfl ((if0 _ _).trans (tlt hb0).2.2.1) (by decide) (by decide) k) ?_
  show OwnWk _ _ _ _ (s₁.setTop (mkF m 18 #[.val (.ref a), .val (.int b), .unset, .unset, .unset, .unset] []))
  refine own_go (fun t k => XS.aloadN X0.here hx rfl (hb hby d4_18) rfl rfl  k) ?_
  show OwnWk _ _ _ _ (s₁.setTop (mkF m 19 #[.val (.ref a), .val (.int b), .unset, .unset, .unset, .unset] [(.ref a)]))
  refine own_callV X0 hx hZ (y := (⟨"com/example/spikeline/spikeline/core/SeededRandom", "nextLong", "()J"⟩ : MethodName)) (z := (⟨"com/example/spikeline/spikeline/core/SeededRandom", "nextLong", "()J"⟩ : MethodName)) hown (hw _ (List.mem_of_getElem? (i := 21) rfl)) (hw _ (List.mem_of_getElem? (i := 22) rfl)) (notFace_of_selects (args := #[]) (mvT hZ (hw _ (List.mem_of_getElem? (i := 24) rfl)))) (hw _ (List.mem_of_getElem? (i := 24) rfl)) (hw _ (List.mem_of_getElem? (i := 23) rfl)) (hw _ (List.mem_of_getElem? (i := 7) rfl)) (hw _ (List.mem_of_getElem? (i := 25) rfl)) (by decide) (a := a) E_a (argsL := []) (rest := []) (rm := ({ frames := 0, cells := 0, slots := 0, locals := 0 } : Room)) (h := h0) (rm5 l Z a0 hw a q h0 n0 Z0 F_a E_a g_a) e0 (W := 0) (by decide) (by decide) (by decide) (by decide) (g := (mkF m 19 #[.val (.ref a), .val (.int b), .unset, .unset, .unset, .unset] [(.ref a)])) rfl (by rw [hml]; rfl) (lenOf pd_0 rfl) rfl (by show 2 * 0 + _ ≤ _; exact Nat.le_of_eq rfl) (hb hby d4_19) (fun v1 T1 h1 L1 X1 e1 hQ1 => ?_)
  obtain ⟨rfl, Nq1, Kq1, Fq1⟩ := hQ1
  have N1 := Fr.app N0 Nq1
  have F2 := Exa.keep E_a Kq1
  have Z3 := Nat.le_trans Z0 Kq1.1
  have K4 := Keep.trans K0 Kq1 (allS (Or.inl (List.mem_of_getElem? (i := 0) rfl)) all0)
  show OwnWk _ _ _ _ (T1.setTop (mkF m 22 #[.val (.ref a), .val (.int b), .unset, .unset, .unset, .unset] [(.long (own_mix (q + (-7046029254386353131 : Int64))))]))
  refine own_go (fun t k => XS.bipush X1.here hx rfl (hb hby d4_22) k) ?_
  show OwnWk _ _ _ _ (T1.setTop (mkF m 24 #[.val (.ref a), .val (.int b), .unset, .unset, .unset, .unset] [(.int (32 : Int32)), (.long (own_mix (q + (-7046029254386353131 : Int64))))]))
  refine own_go (fun t k => XS.lushr X1.here hx rfl (hb hby d4_24) rfl k) ?_
  show OwnWk _ _ _ _ (T1.setTop (mkF m 25 #[.val (.ref a), .val (.int b), .unset, .unset, .unset, .unset] [(.long (((own_mix (q + (-7046029254386353131 : Int64))).toUInt64 >>> ((32 : Int32) &&& 0x3f).toInt64.toUInt64).toInt64))]))
  refine own_go (fun t k => XS.iloadN X1.here hx rfl (hb hby d4_25) rfl  k) ?_
  show OwnWk _ _ _ _ (T1.setTop (mkF m 26 #[.val (.ref a), .val (.int b), .unset, .unset, .unset, .unset] [(.int b), (.long (((own_mix (q + (-7046029254386353131 : Int64))).toUInt64 >>> ((32 : Int32) &&& 0x3f).toInt64.toUInt64).toInt64))]))
  refine own_go (fun t k => XS.i2l X1.here hx rfl (hb hby d4_26) rfl k) ?_
  show OwnWk _ _ _ _ (T1.setTop (mkF m 27 #[.val (.ref a), .val (.int b), .unset, .unset, .unset, .unset] [(.long (b.toInt64)), (.long (((own_mix (q + (-7046029254386353131 : Int64))).toUInt64 >>> ((32 : Int32) &&& 0x3f).toInt64.toUInt64).toInt64))]))
  refine own_go (fun t k => XS.lmul X1.here hx rfl (hb hby d4_27) rfl k) ?_
  show OwnWk _ _ _ _ (T1.setTop (mkF m 28 #[.val (.ref a), .val (.int b), .unset, .unset, .unset, .unset] [(.long ((((own_mix (q + (-7046029254386353131 : Int64))).toUInt64 >>> ((32 : Int32) &&& 0x3f).toInt64.toUInt64).toInt64) * (b.toInt64)))]))
  show OwnWk _ _ _ _ (T1.setTop (mkF m 28 #[.val (.ref a), .val (.int b), .unset, .unset, .unset, .unset] [(.long (own_prod (q + (-7046029254386353131 : Int64)) b))]))
  refine own_go (fun t k => XS.lstoreN X1.here hx rfl (hb hby d4_28) rfl (l' := #[.val (.ref a), .val (.int b), .val (.long (own_prod (q + (-7046029254386353131 : Int64)) b)), .second, .unset, .unset]) rfl k) ?_
  show OwnWk _ _ _ _ (T1.setTop (mkF m 29 #[.val (.ref a), .val (.int b), .val (.long (own_prod (q + (-7046029254386353131 : Int64)) b)), .second, .unset, .unset] []))
  refine own_go (fun t k => XS.lloadN X1.here hx rfl (hb hby d4_29) rfl  k) ?_
  show OwnWk _ _ _ _ (T1.setTop (mkF m 30 #[.val (.ref a), .val (.int b), .val (.long (own_prod (q + (-7046029254386353131 : Int64)) b)), .second, .unset, .unset] [(.long (own_prod (q + (-7046029254386353131 : Int64)) b))]))
  refine own_go (X1.ldc2Long hx hown (mvT hZ (hw _ (List.mem_of_getElem? (i := 29) rfl))) (g := (mkF m 30 #[.val (.ref a), .val (.int b), .val (.long (own_prod (q + (-7046029254386353131 : Int64)) b)), .second, .unset, .unset] [(.long (own_prod (q + (-7046029254386353131 : Int64)) b))])) rfl (hb hby d4_30)) ?_
  show OwnWk _ _ _ _ (T1.setTop (mkF m 33 #[.val (.ref a), .val (.int b), .val (.long (own_prod (q + (-7046029254386353131 : Int64)) b)), .second, .unset, .unset] [(.long (4294967295 : Int64)), (.long (own_prod (q + (-7046029254386353131 : Int64)) b))]))
  refine own_go (fun t k => XS.land X1.here hx rfl (hb hby d4_33) rfl k) ?_
  show OwnWk _ _ _ _ (T1.setTop (mkF m 34 #[.val (.ref a), .val (.int b), .val (.long (own_prod (q + (-7046029254386353131 : Int64)) b)), .second, .unset, .unset] [(.long ((own_prod (q + (-7046029254386353131 : Int64)) b) &&& (4294967295 : Int64)))]))
  refine own_go (fun t k => XS.iloadN X1.here hx rfl (hb hby d4_34) rfl  k) ?_
  show OwnWk _ _ _ _ (T1.setTop (mkF m 35 #[.val (.ref a), .val (.int b), .val (.long (own_prod (q + (-7046029254386353131 : Int64)) b)), .second, .unset, .unset] [(.int b), (.long ((own_prod (q + (-7046029254386353131 : Int64)) b) &&& (4294967295 : Int64)))]))
  refine own_go (fun t k => XS.i2l X1.here hx rfl (hb hby d4_35) rfl k) ?_
  show OwnWk _ _ _ _ (T1.setTop (mkF m 36 #[.val (.ref a), .val (.int b), .val (.long (own_prod (q + (-7046029254386353131 : Int64)) b)), .second, .unset, .unset] [(.long (b.toInt64)), (.long ((own_prod (q + (-7046029254386353131 : Int64)) b) &&& (4294967295 : Int64)))]))
  refine own_go (fun t k => XS.lcmp X1.here hx rfl (hb hby d4_36) rfl k) ?_
  show OwnWk _ _ _ _ (T1.setTop (mkF m 37 #[.val (.ref a), .val (.int b), .val (.long (own_prod (q + (-7046029254386353131 : Int64)) b)), .second, .unset, .unset] [(.int (lcmpW ((own_prod (q + (-7046029254386353131 : Int64)) b) &&& (4294967295 : Int64)) (b.toInt64)))]))
  by_cases hc5 : ((own_prod (q + (-7046029254386353131 : Int64)) b) &&& (4294967295 : Int64)) < (b.toInt64)
  ·
    refine own_go (fun t k => XS.ifNo X1.here hx rfl (hb hby d4_37) rfl ((if0 _ _).trans (tlt (own_lc_lt.mpr hc5)).2.1) k) ?_
    show OwnWk _ _ _ _ (T1.setTop (mkF m 40 #[.val (.ref a), .val (.int b), .val (.long (own_prod (q + (-7046029254386353131 : Int64)) b)), .second, .unset, .unset] []))
    refine own_go (X1.ldc2Long hx hown (mvT hZ (hw _ (List.mem_of_getElem? (i := 38) rfl))) (g := (mkF m 40 #[.val (.ref a), .val (.int b), .val (.long (own_prod (q + (-7046029254386353131 : Int64)) b)), .second, .unset, .unset] [])) rfl (hb hby d4_40)) ?_
    show OwnWk _ _ _ _ (T1.setTop (mkF m 43 #[.val (.ref a), .val (.int b), .val (.long (own_prod (q + (-7046029254386353131 : Int64)) b)), .second, .unset, .unset] [(.long (4294967296 : Int64))]))
    refine own_go (fun t k => XS.iloadN X1.here hx rfl (hb hby d4_43) rfl  k) ?_
    show OwnWk _ _ _ _ (T1.setTop (mkF m 44 #[.val (.ref a), .val (.int b), .val (.long (own_prod (q + (-7046029254386353131 : Int64)) b)), .second, .unset, .unset] [(.int b), (.long (4294967296 : Int64))]))
    refine own_go (fun t k => XS.i2l X1.here hx rfl (hb hby d4_44) rfl k) ?_
    show OwnWk _ _ _ _ (T1.setTop (mkF m 45 #[.val (.ref a), .val (.int b), .val (.long (own_prod (q + (-7046029254386353131 : Int64)) b)), .second, .unset, .unset] [(.long (b.toInt64)), (.long (4294967296 : Int64))]))
    refine own_go (fun t k => XS.lsub X1.here hx rfl (hb hby d4_45) rfl k) ?_
    show OwnWk _ _ _ _ (T1.setTop (mkF m 46 #[.val (.ref a), .val (.int b), .val (.long (own_prod (q + (-7046029254386353131 : Int64)) b)), .second, .unset, .unset] [(.long ((4294967296 : Int64) - (b.toInt64)))]))
    refine own_go (fun t k => XS.iloadN X1.here hx rfl (hb hby d4_46) rfl  k) ?_
    show OwnWk _ _ _ _ (T1.setTop (mkF m 47 #[.val (.ref a), .val (.int b), .val (.long (own_prod (q + (-7046029254386353131 : Int64)) b)), .second, .unset, .unset] [(.int b), (.long ((4294967296 : Int64) - (b.toInt64)))]))
    refine own_go (fun t k => XS.i2l X1.here hx rfl (hb hby d4_47) rfl k) ?_
    show OwnWk _ _ _ _ (T1.setTop (mkF m 48 #[.val (.ref a), .val (.int b), .val (.long (own_prod (q + (-7046029254386353131 : Int64)) b)), .second, .unset, .unset] [(.long (b.toInt64)), (.long ((4294967296 : Int64) - (b.toInt64)))]))
    refine own_go (fun t k => XS.lrem X1.here hx rfl (hb hby d4_48) rfl (own_nz hb0) k) ?_
    show OwnWk _ _ _ _ (T1.setTop (mkF m 49 #[.val (.ref a), .val (.int b), .val (.long (own_prod (q + (-7046029254386353131 : Int64)) b)), .second, .unset, .unset] [(.long (((4294967296 : Int64) - (b.toInt64)) - ((4294967296 : Int64) - (b.toInt64)) / (b.toInt64) * (b.toInt64)))]))
    show OwnWk _ _ _ _ (T1.setTop (mkF m 49 #[.val (.ref a), .val (.int b), .val (.long (own_prod (q + (-7046029254386353131 : Int64)) b)), .second, .unset, .unset] [(.long (own_bias b))]))
    refine own_go (fun t k => XS.lstore X1.here hx rfl (hb hby d4_49) rfl (l' := #[.val (.ref a), .val (.int b), .val (.long (own_prod (q + (-7046029254386353131 : Int64)) b)), .second, .val (.long (own_bias b)), .second]) rfl k) ?_
    show OwnWk _ _ _ _ (T1.setTop (mkF m 51 #[.val (.ref a), .val (.int b), .val (.long (own_prod (q + (-7046029254386353131 : Int64)) b)), .second, .val (.long (own_bias b)), .second] []))
    have LP : ∀ (n : Nat) (st : Int64) (T : State) (h : Heap) (Lc : List Loc), own_M st = n → own_iter n st b = own_land q b → Stand p l e ({ frames := 1, cells := 0, slots := 0, locals := 14 } : Room) s m #[.ref a, .int b] below meth c T Lc 0 0 → T.heap = h → Fr n0 Lc → n0 ≤ h.size → Keep h0 h [a] → Fld Z h a "com/example/spikeline/spikeline/core/SeededRandom" "state" "J" (.long st) → Exa Z h a "com/example/spikeline/spikeline/core/SeededRandom" →
        OwnWk p e below (OwnP s (Q_rm4 Z a b q h0 n0) ({ frames := 1, cells := 0, slots := 0, locals := 14 } : Room).cells ({ frames := 1, cells := 0, slots := 0, locals := 14 } : Room).slots) (T.setTop (mkF m 51 #[.val (.ref a), .val (.int b), .val (.long (own_prod st b)), .second, .val (.long (own_bias b)), .second] [])) := by
      intro n
      induction n with
      | zero =>
        intro st T h Lc hM hc X eT NL ZL KL FL EL
        show OwnWk _ _ _ _ (T.setTop (mkF m 51 #[.val (.ref a), .val (.int b), .val (.long (own_prod st b)), .second, .val (.long (own_bias b)), .second] []))
        refine own_go (fun t k => XS.lloadN X.here hx rfl (hb hby d4_51) rfl  k) ?_
        show OwnWk _ _ _ _ (T.setTop (mkF m 52 #[.val (.ref a), .val (.int b), .val (.long (own_prod st b)), .second, .val (.long (own_bias b)), .second] [(.long (own_prod st b))]))
        refine own_go (X.ldc2Long hx hown (mvT hZ (hw _ (List.mem_of_getElem? (i := 29) rfl))) (g := (mkF m 52 #[.val (.ref a), .val (.int b), .val (.long (own_prod st b)), .second, .val (.long (own_bias b)), .second] [(.long (own_prod st b))])) rfl (hb hby d4_52)) ?_
        show OwnWk _ _ _ _ (T.setTop (mkF m 55 #[.val (.ref a), .val (.int b), .val (.long (own_prod st b)), .second, .val (.long (own_bias b)), .second] [(.long (4294967295 : Int64)), (.long (own_prod st b))]))
        refine own_go (fun t k => XS.land X.here hx rfl (hb hby d4_55) rfl k) ?_
        show OwnWk _ _ _ _ (T.setTop (mkF m 56 #[.val (.ref a), .val (.int b), .val (.long (own_prod st b)), .second, .val (.long (own_bias b)), .second] [(.long ((own_prod st b) &&& (4294967295 : Int64)))]))
        refine own_go (fun t k => XS.lload X.here hx rfl (hb hby d4_56) rfl  k) ?_
        show OwnWk _ _ _ _ (T.setTop (mkF m 58 #[.val (.ref a), .val (.int b), .val (.long (own_prod st b)), .second, .val (.long (own_bias b)), .second] [(.long (own_bias b)), (.long ((own_prod st b) &&& (4294967295 : Int64)))]))
        refine own_go (fun t k => XS.lcmp X.here hx rfl (hb hby d4_58) rfl k) ?_
        show OwnWk _ _ _ _ (T.setTop (mkF m 59 #[.val (.ref a), .val (.int b), .val (.long (own_prod st b)), .second, .val (.long (own_bias b)), .second] [(.int (lcmpW ((own_prod st b) &&& (4294967295 : Int64)) (own_bias b)))]))
        by_cases hc6 : ((own_prod st b) &&& (4294967295 : Int64)) < (own_bias b)
        ·
          refine own_go (fun t k => XS.ifNo X.here hx rfl (hb hby d4_59) rfl ((if0 _ _).trans (tlt (own_lc_lt.mpr hc6)).2.1) k) ?_
          show OwnWk _ _ _ _ (T.setTop (mkF m 62 #[.val (.ref a), .val (.int b), .val (.long (own_prod st b)), .second, .val (.long (own_bias b)), .second] []))
          exact absurd hc6 (own_zero hb0 hM)
        ·
          refine own_go (fun t k => XS.ifYes X.here hx rfl (pc0 := 59) (pc' := 76) rfl (hb hby d4_59) rfl ((if0 _ _).trans (flt (fun q => hc6 (own_lc_lt.mp q))).2.1) (by decide) (by decide) k) ?_
          show OwnWk _ _ _ _ (T.setTop (mkF m 76 #[.val (.ref a), .val (.int b), .val (.long (own_prod st b)), .second, .val (.long (own_bias b)), .second] []))
          have hst : own_land q b = st := by rw [← hc]; rfl
          refine own_go (fun t k => XS.lloadN X.here hx rfl (hb hby d4_76) rfl  k) ?_
          show OwnWk _ _ _ _ (T.setTop (mkF m 77 #[.val (.ref a), .val (.int b), .val (.long (own_prod st b)), .second, .val (.long (own_bias b)), .second] [(.long (own_prod st b))]))
          refine own_go (fun t k => XS.bipush X.here hx rfl (hb hby d4_77) k) ?_
          show OwnWk _ _ _ _ (T.setTop (mkF m 79 #[.val (.ref a), .val (.int b), .val (.long (own_prod st b)), .second, .val (.long (own_bias b)), .second] [(.int (32 : Int32)), (.long (own_prod st b))]))
          refine own_go (fun t k => XS.lushr X.here hx rfl (hb hby d4_79) rfl k) ?_
          show OwnWk _ _ _ _ (T.setTop (mkF m 80 #[.val (.ref a), .val (.int b), .val (.long (own_prod st b)), .second, .val (.long (own_bias b)), .second] [(.long (((own_prod st b).toUInt64 >>> ((32 : Int32) &&& 0x3f).toInt64.toUInt64).toInt64))]))
          refine own_go (fun t k => XS.l2i X.here hx rfl (hb hby d4_80) rfl k) ?_
          show OwnWk _ _ _ _ (T.setTop (mkF m 81 #[.val (.ref a), .val (.int b), .val (.long (own_prod st b)), .second, .val (.long (own_bias b)), .second] [(.int ((((own_prod st b).toUInt64 >>> ((32 : Int32) &&& 0x3f).toInt64.toUInt64).toInt64).toInt32))]))
          exact own_retI X hx hlk hret (hb hby d4_81) (by decide) (by decide) (by rw [eT]; exact (by rw [← hst] at FL; exact ⟨by rw [← hst]; rfl, NL, KL, FL⟩))
      | succ n ih =>
        intro st T h Lc hM hc X eT NL ZL KL FL EL
        show OwnWk _ _ _ _ (T.setTop (mkF m 51 #[.val (.ref a), .val (.int b), .val (.long (own_prod st b)), .second, .val (.long (own_bias b)), .second] []))
        refine own_go (fun t k => XS.lloadN X.here hx rfl (hb hby d4_51) rfl  k) ?_
        show OwnWk _ _ _ _ (T.setTop (mkF m 52 #[.val (.ref a), .val (.int b), .val (.long (own_prod st b)), .second, .val (.long (own_bias b)), .second] [(.long (own_prod st b))]))
        refine own_go (X.ldc2Long hx hown (mvT hZ (hw _ (List.mem_of_getElem? (i := 29) rfl))) (g := (mkF m 52 #[.val (.ref a), .val (.int b), .val (.long (own_prod st b)), .second, .val (.long (own_bias b)), .second] [(.long (own_prod st b))])) rfl (hb hby d4_52)) ?_
        show OwnWk _ _ _ _ (T.setTop (mkF m 55 #[.val (.ref a), .val (.int b), .val (.long (own_prod st b)), .second, .val (.long (own_bias b)), .second] [(.long (4294967295 : Int64)), (.long (own_prod st b))]))
        refine own_go (fun t k => XS.land X.here hx rfl (hb hby d4_55) rfl k) ?_
        show OwnWk _ _ _ _ (T.setTop (mkF m 56 #[.val (.ref a), .val (.int b), .val (.long (own_prod st b)), .second, .val (.long (own_bias b)), .second] [(.long ((own_prod st b) &&& (4294967295 : Int64)))]))
        refine own_go (fun t k => XS.lload X.here hx rfl (hb hby d4_56) rfl  k) ?_
        show OwnWk _ _ _ _ (T.setTop (mkF m 58 #[.val (.ref a), .val (.int b), .val (.long (own_prod st b)), .second, .val (.long (own_bias b)), .second] [(.long (own_bias b)), (.long ((own_prod st b) &&& (4294967295 : Int64)))]))
        refine own_go (fun t k => XS.lcmp X.here hx rfl (hb hby d4_58) rfl k) ?_
        show OwnWk _ _ _ _ (T.setTop (mkF m 59 #[.val (.ref a), .val (.int b), .val (.long (own_prod st b)), .second, .val (.long (own_bias b)), .second] [(.int (lcmpW ((own_prod st b) &&& (4294967295 : Int64)) (own_bias b)))]))
        by_cases hc7 : ((own_prod st b) &&& (4294967295 : Int64)) < (own_bias b)
        ·
          refine own_go (fun t k => XS.ifNo X.here hx rfl (hb hby d4_59) rfl ((if0 _ _).trans (tlt (own_lc_lt.mpr hc7)).2.1) k) ?_
          show OwnWk _ _ _ _ (T.setTop (mkF m 62 #[.val (.ref a), .val (.int b), .val (.long (own_prod st b)), .second, .val (.long (own_bias b)), .second] []))
          have hc2 : own_iter n (st + (-7046029254386353131 : Int64)) b = own_land q b := by rw [← hc]; exact (if_pos hc7).symm
          refine own_go (fun t k => XS.aloadN X.here hx rfl (hb hby d4_62) rfl rfl  k) ?_
          show OwnWk _ _ _ _ (T.setTop (mkF m 63 #[.val (.ref a), .val (.int b), .val (.long (own_prod st b)), .second, .val (.long (own_bias b)), .second] [(.ref a)]))
          refine own_callV X hx hZ (y := (⟨"com/example/spikeline/spikeline/core/SeededRandom", "nextLong", "()J"⟩ : MethodName)) (z := (⟨"com/example/spikeline/spikeline/core/SeededRandom", "nextLong", "()J"⟩ : MethodName)) hown (hw _ (List.mem_of_getElem? (i := 21) rfl)) (hw _ (List.mem_of_getElem? (i := 22) rfl)) (notFace_of_selects (args := #[]) (mvT hZ (hw _ (List.mem_of_getElem? (i := 24) rfl)))) (hw _ (List.mem_of_getElem? (i := 24) rfl)) (hw _ (List.mem_of_getElem? (i := 23) rfl)) (hw _ (List.mem_of_getElem? (i := 7) rfl)) (hw _ (List.mem_of_getElem? (i := 25) rfl)) (by decide) (a := a) EL (argsL := []) (rest := []) (rm := ({ frames := 0, cells := 0, slots := 0, locals := 0 } : Room)) (h := h) (rm5 l Z a0 hw a st h n0 ZL FL EL g_a) eT (W := 0) (by decide) (by decide) (by decide) (by decide) (g := (mkF m 63 #[.val (.ref a), .val (.int b), .val (.long (own_prod st b)), .second, .val (.long (own_bias b)), .second] [(.ref a)])) rfl (by rw [hml]; rfl) (lenOf pd_0 rfl) rfl (by show 2 * 0 + _ ≤ _; exact Nat.le_of_eq rfl) (hb hby d4_63) (fun v8 T8 h8 L8 X8 e8 hQ8 => ?_)
          obtain ⟨rfl, Nq8, Kq8, Fq8⟩ := hQ8
          have N8 := Fr.app NL Nq8
          have F9 := Exa.keep EL Kq8
          have Z10 := Nat.le_trans ZL Kq8.1
          have K11 := Keep.trans KL Kq8 (allS (Or.inl (List.mem_of_getElem? (i := 0) rfl)) all0)
          show OwnWk _ _ _ _ (T8.setTop (mkF m 66 #[.val (.ref a), .val (.int b), .val (.long (own_prod st b)), .second, .val (.long (own_bias b)), .second] [(.long (own_mix (st + (-7046029254386353131 : Int64))))]))
          refine own_go (fun t k => XS.bipush X8.here hx rfl (hb hby d4_66) k) ?_
          show OwnWk _ _ _ _ (T8.setTop (mkF m 68 #[.val (.ref a), .val (.int b), .val (.long (own_prod st b)), .second, .val (.long (own_bias b)), .second] [(.int (32 : Int32)), (.long (own_mix (st + (-7046029254386353131 : Int64))))]))
          refine own_go (fun t k => XS.lushr X8.here hx rfl (hb hby d4_68) rfl k) ?_
          show OwnWk _ _ _ _ (T8.setTop (mkF m 69 #[.val (.ref a), .val (.int b), .val (.long (own_prod st b)), .second, .val (.long (own_bias b)), .second] [(.long (((own_mix (st + (-7046029254386353131 : Int64))).toUInt64 >>> ((32 : Int32) &&& 0x3f).toInt64.toUInt64).toInt64))]))
          refine own_go (fun t k => XS.iloadN X8.here hx rfl (hb hby d4_69) rfl  k) ?_
          show OwnWk _ _ _ _ (T8.setTop (mkF m 70 #[.val (.ref a), .val (.int b), .val (.long (own_prod st b)), .second, .val (.long (own_bias b)), .second] [(.int b), (.long (((own_mix (st + (-7046029254386353131 : Int64))).toUInt64 >>> ((32 : Int32) &&& 0x3f).toInt64.toUInt64).toInt64))]))
          refine own_go (fun t k => XS.i2l X8.here hx rfl (hb hby d4_70) rfl k) ?_
          show OwnWk _ _ _ _ (T8.setTop (mkF m 71 #[.val (.ref a), .val (.int b), .val (.long (own_prod st b)), .second, .val (.long (own_bias b)), .second] [(.long (b.toInt64)), (.long (((own_mix (st + (-7046029254386353131 : Int64))).toUInt64 >>> ((32 : Int32) &&& 0x3f).toInt64.toUInt64).toInt64))]))
          refine own_go (fun t k => XS.lmul X8.here hx rfl (hb hby d4_71) rfl k) ?_
          show OwnWk _ _ _ _ (T8.setTop (mkF m 72 #[.val (.ref a), .val (.int b), .val (.long (own_prod st b)), .second, .val (.long (own_bias b)), .second] [(.long ((((own_mix (st + (-7046029254386353131 : Int64))).toUInt64 >>> ((32 : Int32) &&& 0x3f).toInt64.toUInt64).toInt64) * (b.toInt64)))]))
          show OwnWk _ _ _ _ (T8.setTop (mkF m 72 #[.val (.ref a), .val (.int b), .val (.long (own_prod st b)), .second, .val (.long (own_bias b)), .second] [(.long (own_prod (st + (-7046029254386353131 : Int64)) b))]))
          refine own_go (fun t k => XS.lstoreN X8.here hx rfl (hb hby d4_72) rfl (l' := #[.val (.ref a), .val (.int b), .val (.long (own_prod (st + (-7046029254386353131 : Int64)) b)), .second, .val (.long (own_bias b)), .second]) rfl k) ?_
          show OwnWk _ _ _ _ (T8.setTop (mkF m 73 #[.val (.ref a), .val (.int b), .val (.long (own_prod (st + (-7046029254386353131 : Int64)) b)), .second, .val (.long (own_bias b)), .second] []))
          refine own_go (fun t k => XS.goto X8.here hx rfl (pc0 := 73) (pc' := 51) rfl (hb hby d4_73) (by decide) (by decide) k) ?_
          show OwnWk _ _ _ _ (T8.setTop (mkF m 51 #[.val (.ref a), .val (.int b), .val (.long (own_prod (st + (-7046029254386353131 : Int64)) b)), .second, .val (.long (own_bias b)), .second] []))
          exact ih _ _ _ _ (own_succ hM) hc2 X8 e8 N8 Z10 K11 Fq8 F9
        ·
          refine own_go (fun t k => XS.ifYes X.here hx rfl (pc0 := 59) (pc' := 76) rfl (hb hby d4_59) rfl ((if0 _ _).trans (flt (fun q => hc7 (own_lc_lt.mp q))).2.1) (by decide) (by decide) k) ?_
          show OwnWk _ _ _ _ (T.setTop (mkF m 76 #[.val (.ref a), .val (.int b), .val (.long (own_prod st b)), .second, .val (.long (own_bias b)), .second] []))
          have hst : own_land q b = st := by rw [← hc]; exact if_neg hc7
          refine own_go (fun t k => XS.lloadN X.here hx rfl (hb hby d4_76) rfl  k) ?_
          show OwnWk _ _ _ _ (T.setTop (mkF m 77 #[.val (.ref a), .val (.int b), .val (.long (own_prod st b)), .second, .val (.long (own_bias b)), .second] [(.long (own_prod st b))]))
          refine own_go (fun t k => XS.bipush X.here hx rfl (hb hby d4_77) k) ?_
          show OwnWk _ _ _ _ (T.setTop (mkF m 79 #[.val (.ref a), .val (.int b), .val (.long (own_prod st b)), .second, .val (.long (own_bias b)), .second] [(.int (32 : Int32)), (.long (own_prod st b))]))
          refine own_go (fun t k => XS.lushr X.here hx rfl (hb hby d4_79) rfl k) ?_
          show OwnWk _ _ _ _ (T.setTop (mkF m 80 #[.val (.ref a), .val (.int b), .val (.long (own_prod st b)), .second, .val (.long (own_bias b)), .second] [(.long (((own_prod st b).toUInt64 >>> ((32 : Int32) &&& 0x3f).toInt64.toUInt64).toInt64))]))
          refine own_go (fun t k => XS.l2i X.here hx rfl (hb hby d4_80) rfl k) ?_
          show OwnWk _ _ _ _ (T.setTop (mkF m 81 #[.val (.ref a), .val (.int b), .val (.long (own_prod st b)), .second, .val (.long (own_bias b)), .second] [(.int ((((own_prod st b).toUInt64 >>> ((32 : Int32) &&& 0x3f).toInt64.toUInt64).toInt64).toInt32))]))
          exact own_retI X hx hlk hret (hb hby d4_81) (by decide) (by decide) (by rw [eT]; exact (by rw [← hst] at FL; exact ⟨by rw [← hst]; rfl, NL, KL, FL⟩))
    exact LP _ _ _ _ _ rfl rfl X1 e1 N1 Z3 K4 Fq1 F2
  ·
    refine own_go (fun t k => XS.ifYes X1.here hx rfl (pc0 := 37) (pc' := 76) rfl (hb hby d4_37) rfl ((if0 _ _).trans (flt (fun q => hc5 (own_lc_lt.mp q))).2.1) (by decide) (by decide) k) ?_
    show OwnWk _ _ _ _ (T1.setTop (mkF m 76 #[.val (.ref a), .val (.int b), .val (.long (own_prod (q + (-7046029254386353131 : Int64)) b)), .second, .unset, .unset] []))
    have hst : own_land q b = (q + (-7046029254386353131 : Int64)) := own_land_1 (own_not_lt hb0 hc5)
    refine own_go (fun t k => XS.lloadN X1.here hx rfl (hb hby d4_76) rfl  k) ?_
    show OwnWk _ _ _ _ (T1.setTop (mkF m 77 #[.val (.ref a), .val (.int b), .val (.long (own_prod (q + (-7046029254386353131 : Int64)) b)), .second, .unset, .unset] [(.long (own_prod (q + (-7046029254386353131 : Int64)) b))]))
    refine own_go (fun t k => XS.bipush X1.here hx rfl (hb hby d4_77) k) ?_
    show OwnWk _ _ _ _ (T1.setTop (mkF m 79 #[.val (.ref a), .val (.int b), .val (.long (own_prod (q + (-7046029254386353131 : Int64)) b)), .second, .unset, .unset] [(.int (32 : Int32)), (.long (own_prod (q + (-7046029254386353131 : Int64)) b))]))
    refine own_go (fun t k => XS.lushr X1.here hx rfl (hb hby d4_79) rfl k) ?_
    show OwnWk _ _ _ _ (T1.setTop (mkF m 80 #[.val (.ref a), .val (.int b), .val (.long (own_prod (q + (-7046029254386353131 : Int64)) b)), .second, .unset, .unset] [(.long (((own_prod (q + (-7046029254386353131 : Int64)) b).toUInt64 >>> ((32 : Int32) &&& 0x3f).toInt64.toUInt64).toInt64))]))
    refine own_go (fun t k => XS.l2i X1.here hx rfl (hb hby d4_80) rfl k) ?_
    show OwnWk _ _ _ _ (T1.setTop (mkF m 81 #[.val (.ref a), .val (.int b), .val (.long (own_prod (q + (-7046029254386353131 : Int64)) b)), .second, .unset, .unset] [(.int ((((own_prod (q + (-7046029254386353131 : Int64)) b).toUInt64 >>> ((32 : Int32) &&& 0x3f).toInt64.toUInt64).toInt64).toInt32))]))
    exact own_retI X1 hx hlk hret (hb hby d4_81) (by decide) (by decide) (by rw [e1]; exact (by rw [← hst] at Fq1; exact ⟨by rw [← hst]; rfl, N1, K4, Fq1⟩))
theorem pn_pn_0 : plainName "com/example/spikeline/spikeline/core/SeededRandomNextIntPinLaw" = true := by first | (simp [plainName, overriddenIn]; done) | decide +kernel
theorem pn_0 : plainFor x = true := plainFor_of_name pn_pn_0
theorem pd_1 : parseMethodDescriptor "(II)I" = some ⟨[.int, .int], some .int⟩ := by decide +kernel
theorem pd_2 : parseMethodDescriptor "(J)V" = some ⟨[.long], none⟩ := by decide +kernel
theorem pd_3 : parseMethodDescriptor "(I)I" = some ⟨[.int], some .int⟩ := by decide +kernel
theorem ef_rm0 (m : MethodId) (x0 : Int64) (x1 : Int32) : entryFrame m #[(.long x0), (.int x1)] maxLocals = mkF m 0 #[.val (.long x0), .second, .val (.int x1), .unset, .unset, .unset, .unset, .unset, .unset, .unset, .unset, .unset, .unset] [] := by first | (simp [entryFrame, mkF, argsToLocals, Value.category, maxLocals]; done) | rfl
def Q_rm0 (Z : State) (u : Int64) (r : Int32) (h0 : Heap) (n0 : Nat) (v : Option Value) (h : Heap) (L : List Loc) : Prop := v = some (.int 1) ∧ Fr n0 L
set_option maxRecDepth 65536 in
set_option maxHeartbeats 40000000 in
theorem rm0 (l : Launch) (Z : State) (a0 : Array Value) (hw : ∀ d ∈ tables_1, d.before a0 Z = true) (u : Int64) (r : Int32) (h0 : Heap) (n0 : Nat) (Z0 : n0 ≤ h0.size)  :
    OwnMet l x code maxLocals ret tables_1 room_1 Z #[(.long u), (.int r)] h0 (Q_rm0 Z u r h0 n0) := by
  refine own_met pn_0 (fun p e s m below meth c s₁ hx hby hml hown hnm hret hlk hZ X0 e0 => ?_)
  have hml : c.maxLocals = 13 := hml
  have hret : meth.sig.returnType = some .boolean := hret
  have hown : s.vm.findClass "com/example/spikeline/spikeline/core/SeededRandomNextIntPinLaw" = some m.cls := hown
  have N0 := Fr.nil n0
  rw [ef_rm0]
  show OwnWk _ _ _ _ (s₁.setTop (mkF m 0 #[.val (.long u), .second, .val (.int r), .unset, .unset, .unset, .unset, .unset, .unset, .unset, .unset, .unset, .unset] []))
  refine own_go (fun t k => XS.iconst X0.here hx rfl (hb hby at_0) k) ?_
  show OwnWk _ _ _ _ (s₁.setTop (mkF m 1 #[.val (.long u), .second, .val (.int r), .unset, .unset, .unset, .unset, .unset, .unset, .unset, .unset, .unset, .unset] [(.int (1 : Int32))]))
  refine own_go (fun t k => XS.iloadN X0.here hx rfl (hb hby at_1) rfl  k) ?_
  show OwnWk _ _ _ _ (s₁.setTop (mkF m 2 #[.val (.long u), .second, .val (.int r), .unset, .unset, .unset, .unset, .unset, .unset, .unset, .unset, .unset, .unset] [(.int r), (.int (1 : Int32))]))
  refine own_go (X0.ldcInt hx hown (mvT hZ (hw _ (List.mem_of_getElem? (i := 0) rfl))) (g := (mkF m 2 #[.val (.long u), .second, .val (.int r), .unset, .unset, .unset, .unset, .unset, .unset, .unset, .unset, .unset, .unset] [(.int r), (.int (1 : Int32))])) rfl (hb hby at_2)) ?_
  show OwnWk _ _ _ _ (s₁.setTop (mkF m 4 #[.val (.long u), .second, .val (.int r), .unset, .unset, .unset, .unset, .unset, .unset, .unset, .unset, .unset, .unset] [(.int (2147483647 : Int32)), (.int r), (.int (1 : Int32))]))
  refine own_go (fun t k => XS.iand X0.here hx rfl (hb hby at_4) rfl k) ?_
  show OwnWk _ _ _ _ (s₁.setTop (mkF m 5 #[.val (.long u), .second, .val (.int r), .unset, .unset, .unset, .unset, .unset, .unset, .unset, .unset, .unset, .unset] [(.int (r &&& (2147483647 : Int32))), (.int (1 : Int32))]))
  refine own_callS X0 hx hZ (y := (⟨"java/lang/Math", "max", "(II)I"⟩ : MethodName)) hown (hw _ (List.mem_of_getElem? (i := 1) rfl)) (hw _ (List.mem_of_getElem? (i := 2) rfl)) (hw _ (List.mem_of_getElem? (i := 3) rfl)) (hw _ (List.mem_of_getElem? (i := 4) rfl)) (by decide) (argsL := [(.int (1 : Int32)), (.int (r &&& (2147483647 : Int32)))]) (rest := []) (rm := ({ frames := 0, cells := 0, slots := 0, locals := 0 } : Room)) (h := h0) (rm1 l Z a0 hw (1 : Int32) (r &&& (2147483647 : Int32)) h0 n0 Z0) e0 (W := 0) (by decide) (by decide) (by decide) (by decide) (g := (mkF m 5 #[.val (.long u), .second, .val (.int r), .unset, .unset, .unset, .unset, .unset, .unset, .unset, .unset, .unset, .unset] [(.int (r &&& (2147483647 : Int32))), (.int (1 : Int32))])) rfl (by rw [hml]; rfl) (lenOf pd_1 rfl) rfl (by show 2 * 0 + _ ≤ _; exact Nat.le_of_eq rfl) (hb hby at_5) (fun v1 T1 h1 L1 X1 e1 hQ1 => ?_)
  obtain ⟨rfl, Nq1, q1⟩ := hQ1
  have N1 := Fr.app N0 Nq1
  rw [q1] at e1
  show OwnWk _ _ _ _ (T1.setTop (mkF m 8 #[.val (.long u), .second, .val (.int r), .unset, .unset, .unset, .unset, .unset, .unset, .unset, .unset, .unset, .unset] [(.int (own_max (1 : Int32) (r &&& (2147483647 : Int32))))]))
  obtain ⟨bd, h_bd⟩ : ∃ z : Int32, z = (own_max (1 : Int32) (r &&& (2147483647 : Int32))) := ⟨_, rfl⟩
  rw [← h_bd]
  have hbd : 0 < bd := own_pos h_bd
  refine own_go (fun t k => XS.istoreN X1.here hx rfl (hb hby at_8) rfl (l' := #[.val (.long u), .second, .val (.int r), .val (.int bd), .unset, .unset, .unset, .unset, .unset, .unset, .unset, .unset, .unset]) rfl k) ?_
  show OwnWk _ _ _ _ (T1.setTop (mkF m 9 #[.val (.long u), .second, .val (.int r), .val (.int bd), .unset, .unset, .unset, .unset, .unset, .unset, .unset, .unset, .unset] []))
  obtain ⟨T2, h2, X2, e2, E2, A2, D2, -, st2⟩ := newO X1 hx hZ hown (hw _ (List.mem_of_getElem? (i := 5) rfl)) (hw _ (List.mem_of_getElem? (i := 6) rfl)) (hw _ (List.mem_of_getElem? (i := 7) rfl)) e1 (g := (mkF m 9 #[.val (.long u), .second, .val (.int r), .val (.int bd), .unset, .unset, .unset, .unset, .unset, .unset, .unset, .unset, .unset] [])) rfl (hb hby at_9) (by decide) (by decide)
  obtain ⟨b2, g2⟩ : ∃ z, z = h0.size := ⟨_, rfl⟩
  rw [← g2] at A2 D2 st2
  refine own_go st2 ?_
  have ge3 : n0 ≤ b2 := Nat.le_trans Z0 (Nat.le_of_eq g2.symm)
  have Z4 := Nat.le_trans Z0 E2.1
  have F5 : Fld Z h2 b2 "com/example/spikeline/spikeline/core/SeededRandom" "state" "J" (.long (0 : Int64)) := D2 (Or.inl (hw _ (List.mem_of_getElem? (i := 15) rfl))) (ty := .long) (by decide)
  show OwnWk _ _ _ _ (T2.setTop (mkF m 12 #[.val (.long u), .second, .val (.int r), .val (.int bd), .unset, .unset, .unset, .unset, .unset, .unset, .unset, .unset, .unset] [(.ref b2)]))
  refine own_go (fun t k => XS.dup X2.here hx rfl (hb hby at_12) rfl rfl k) ?_
  show OwnWk _ _ _ _ (T2.setTop (mkF m 13 #[.val (.long u), .second, .val (.int r), .val (.int bd), .unset, .unset, .unset, .unset, .unset, .unset, .unset, .unset, .unset] [(.ref b2), (.ref b2)]))
  refine own_go (fun t k => XS.lloadN X2.here hx rfl (hb hby at_13) rfl  k) ?_
  show OwnWk _ _ _ _ (T2.setTop (mkF m 14 #[.val (.long u), .second, .val (.int r), .val (.int bd), .unset, .unset, .unset, .unset, .unset, .unset, .unset, .unset, .unset] [(.long u), (.ref b2), (.ref b2)]))
  refine own_callC X2 hx hZ (y := (⟨"com/example/spikeline/spikeline/core/SeededRandom", "<init>", "(J)V"⟩ : MethodName)) hown rfl (hw _ (List.mem_of_getElem? (i := 8) rfl)) (hw _ (List.mem_of_getElem? (i := 9) rfl)) (hw _ (List.mem_of_getElem? (i := 7) rfl)) (hw _ (List.mem_of_getElem? (i := 10) rfl)) (by decide) (a := b2) (argsL := [(.long u)]) (rest := [(.ref b2)]) (rm := ({ frames := 1, cells := 0, slots := 0, locals := 12 } : Room)) (h := h2) (rm2 l Z a0 hw b2 u h2 n0 Z4 F5 A2 ge3) e2 (W := 1) (by decide) (by decide) (by decide) (by decide) (g := (mkF m 14 #[.val (.long u), .second, .val (.int r), .val (.int bd), .unset, .unset, .unset, .unset, .unset, .unset, .unset, .unset, .unset] [(.long u), (.ref b2), (.ref b2)])) rfl (by rw [hml]; rfl) (lenOf pd_2 rfl) rfl (by show 2 * 0 + _ ≤ _; exact Nat.le_of_eq rfl) (hb hby at_14) (fun v6 T6 h6 L6 X6 e6 hQ6 => ?_)
  obtain ⟨rfl, Nq6, Kq6, Fq6⟩ := hQ6
  have N6 := Fr.app N1 Nq6
  have F7 := Exa.keep A2 Kq6
  have Z8 := Nat.le_trans Z4 Kq6.1
  show OwnWk _ _ _ _ (T6.setTop (mkF m 17 #[.val (.long u), .second, .val (.int r), .val (.int bd), .unset, .unset, .unset, .unset, .unset, .unset, .unset, .unset, .unset] [(.ref b2)]))
  refine own_go (fun t k => XS.astore X6.here hx rfl (hb hby at_17) rfl rfl (l' := #[.val (.long u), .second, .val (.int r), .val (.int bd), .val (.ref b2), .unset, .unset, .unset, .unset, .unset, .unset, .unset, .unset]) rfl k) ?_
  show OwnWk _ _ _ _ (T6.setTop (mkF m 19 #[.val (.long u), .second, .val (.int r), .val (.int bd), .val (.ref b2), .unset, .unset, .unset, .unset, .unset, .unset, .unset, .unset] []))
  obtain ⟨T9, h9, X9, e9, E9, A9, D9, -, st9⟩ := newO X6 hx hZ hown (hw _ (List.mem_of_getElem? (i := 5) rfl)) (hw _ (List.mem_of_getElem? (i := 6) rfl)) (hw _ (List.mem_of_getElem? (i := 7) rfl)) e6 (g := (mkF m 19 #[.val (.long u), .second, .val (.int r), .val (.int bd), .val (.ref b2), .unset, .unset, .unset, .unset, .unset, .unset, .unset, .unset] [])) rfl (hb hby at_19) (by decide) (by decide)
  obtain ⟨b9, g9⟩ : ∃ z, z = h6.size := ⟨_, rfl⟩
  rw [← g9] at A9 D9 st9
  refine own_go st9 ?_
  have ne10 : b2 ≠ b9 := Nat.ne_of_lt (Nat.lt_of_lt_of_le F7.lt (Nat.le_of_eq g9.symm))
  have ge11 : n0 ≤ b9 := Nat.le_trans Z8 (Nat.le_of_eq g9.symm)
  have F12 := Exa.ext E9 F7
  have F13 := Fld.ext E9 Fq6
  have Z14 := Nat.le_trans Z8 E9.1
  have F15 : Fld Z h9 b9 "com/example/spikeline/spikeline/core/SeededRandom" "state" "J" (.long (0 : Int64)) := D9 (Or.inl (hw _ (List.mem_of_getElem? (i := 15) rfl))) (ty := .long) (by decide)
  show OwnWk _ _ _ _ (T9.setTop (mkF m 22 #[.val (.long u), .second, .val (.int r), .val (.int bd), .val (.ref b2), .unset, .unset, .unset, .unset, .unset, .unset, .unset, .unset] [(.ref b9)]))
  refine own_go (fun t k => XS.dup X9.here hx rfl (hb hby at_22) rfl rfl k) ?_
  show OwnWk _ _ _ _ (T9.setTop (mkF m 23 #[.val (.long u), .second, .val (.int r), .val (.int bd), .val (.ref b2), .unset, .unset, .unset, .unset, .unset, .unset, .unset, .unset] [(.ref b9), (.ref b9)]))
  refine own_go (fun t k => XS.lloadN X9.here hx rfl (hb hby at_23) rfl  k) ?_
  show OwnWk _ _ _ _ (T9.setTop (mkF m 24 #[.val (.long u), .second, .val (.int r), .val (.int bd), .val (.ref b2), .unset, .unset, .unset, .unset, .unset, .unset, .unset, .unset] [(.long u), (.ref b9), (.ref b9)]))
  refine own_callC X9 hx hZ (y := (⟨"com/example/spikeline/spikeline/core/SeededRandom", "<init>", "(J)V"⟩ : MethodName)) hown rfl (hw _ (List.mem_of_getElem? (i := 8) rfl)) (hw _ (List.mem_of_getElem? (i := 9) rfl)) (hw _ (List.mem_of_getElem? (i := 7) rfl)) (hw _ (List.mem_of_getElem? (i := 10) rfl)) (by decide) (a := b9) (argsL := [(.long u)]) (rest := [(.ref b9)]) (rm := ({ frames := 1, cells := 0, slots := 0, locals := 12 } : Room)) (h := h9) (rm2 l Z a0 hw b9 u h9 n0 Z14 F15 A9 ge11) e9 (W := 1) (by decide) (by decide) (by decide) (by decide) (g := (mkF m 24 #[.val (.long u), .second, .val (.int r), .val (.int bd), .val (.ref b2), .unset, .unset, .unset, .unset, .unset, .unset, .unset, .unset] [(.long u), (.ref b9), (.ref b9)])) rfl (by rw [hml]; rfl) (lenOf pd_2 rfl) rfl (by show 2 * 0 + _ ≤ _; exact Nat.le_of_eq rfl) (hb hby at_24) (fun v16 T16 h16 L16 X16 e16 hQ16 => ?_)
  obtain ⟨rfl, Nq16, Kq16, Fq16⟩ := hQ16
  have N16 := Fr.app N6 Nq16
  have F17 := Exa.keep F12 Kq16
  have F18 := Fld.keep F13 Kq16 (ninS ne10 nin0)
  have F19 := Exa.keep A9 Kq16
  have Z20 := Nat.le_trans Z14 Kq16.1
  show OwnWk _ _ _ _ (T16.setTop (mkF m 27 #[.val (.long u), .second, .val (.int r), .val (.int bd), .val (.ref b2), .unset, .unset, .unset, .unset, .unset, .unset, .unset, .unset] [(.ref b9)]))
  refine own_go (fun t k => XS.astore X16.here hx rfl (hb hby at_27) rfl rfl (l' := #[.val (.long u), .second, .val (.int r), .val (.int bd), .val (.ref b2), .val (.ref b9), .unset, .unset, .unset, .unset, .unset, .unset, .unset]) rfl k) ?_
  show OwnWk _ _ _ _ (T16.setTop (mkF m 29 #[.val (.long u), .second, .val (.int r), .val (.int bd), .val (.ref b2), .val (.ref b9), .unset, .unset, .unset, .unset, .unset, .unset, .unset] []))
  refine own_go (fun t k => XS.aload X16.here hx rfl (hb hby at_29) rfl rfl  k) ?_
  show OwnWk _ _ _ _ (T16.setTop (mkF m 31 #[.val (.long u), .second, .val (.int r), .val (.int bd), .val (.ref b2), .val (.ref b9), .unset, .unset, .unset, .unset, .unset, .unset, .unset] [(.ref b2)]))
  refine own_go (fun t k => XS.iloadN X16.here hx rfl (hb hby at_31) rfl  k) ?_
  show OwnWk _ _ _ _ (T16.setTop (mkF m 32 #[.val (.long u), .second, .val (.int r), .val (.int bd), .val (.ref b2), .val (.ref b9), .unset, .unset, .unset, .unset, .unset, .unset, .unset] [(.int bd), (.ref b2)]))
  refine own_callV X16 hx hZ (y := (⟨"com/example/spikeline/spikeline/core/SeededRandom", "nextInt", "(I)I"⟩ : MethodName)) (z := (⟨"com/example/spikeline/spikeline/core/SeededRandom", "nextInt", "(I)I"⟩ : MethodName)) hown (hw _ (List.mem_of_getElem? (i := 16) rfl)) (hw _ (List.mem_of_getElem? (i := 17) rfl)) (notFace_of_selects (args := #[]) (mvT hZ (hw _ (List.mem_of_getElem? (i := 19) rfl)))) (hw _ (List.mem_of_getElem? (i := 19) rfl)) (hw _ (List.mem_of_getElem? (i := 18) rfl)) (hw _ (List.mem_of_getElem? (i := 7) rfl)) (hw _ (List.mem_of_getElem? (i := 20) rfl)) (by decide) (a := b2) F17 (argsL := [(.int bd)]) (rest := []) (rm := ({ frames := 1, cells := 0, slots := 0, locals := 14 } : Room)) (h := h16) (rm4 l Z a0 hw b2 bd u h16 n0 Z20 F18 F17 ge3 hbd) e16 (W := 0) (by decide) (by decide) (by decide) (by decide) (g := (mkF m 32 #[.val (.long u), .second, .val (.int r), .val (.int bd), .val (.ref b2), .val (.ref b9), .unset, .unset, .unset, .unset, .unset, .unset, .unset] [(.int bd), (.ref b2)])) rfl (by rw [hml]; rfl) (lenOf pd_3 rfl) rfl (by show 2 * 0 + _ ≤ _; exact Nat.le_of_eq rfl) (hb hby at_32) (fun v21 T21 h21 L21 X21 e21 hQ21 => ?_)
  obtain ⟨rfl, Nq21, Kq21, Fq21⟩ := hQ21
  have N21 := Fr.app N16 Nq21
  have F22 := Exa.keep F17 Kq21
  have F23 := Exa.keep F19 Kq21
  have F24 := Fld.keep Fq16 Kq21 (ninS (Ne.symm ne10) nin0)
  have Z25 := Nat.le_trans Z20 Kq21.1
  show OwnWk _ _ _ _ (T21.setTop (mkF m 35 #[.val (.long u), .second, .val (.int r), .val (.int bd), .val (.ref b2), .val (.ref b9), .unset, .unset, .unset, .unset, .unset, .unset, .unset] [(.int (own_r (own_land u bd) bd))]))
  refine own_go (fun t k => XS.istore X21.here hx rfl (hb hby at_35) rfl (l' := #[.val (.long u), .second, .val (.int r), .val (.int bd), .val (.ref b2), .val (.ref b9), .val (.int (own_r (own_land u bd) bd)), .unset, .unset, .unset, .unset, .unset, .unset]) rfl k) ?_
  show OwnWk _ _ _ _ (T21.setTop (mkF m 37 #[.val (.long u), .second, .val (.int r), .val (.int bd), .val (.ref b2), .val (.ref b9), .val (.int (own_r (own_land u bd) bd)), .unset, .unset, .unset, .unset, .unset, .unset] []))
  refine own_go (X21.ldc2Long hx hown (mvT hZ (hw _ (List.mem_of_getElem? (i := 30) rfl))) (g := (mkF m 37 #[.val (.long u), .second, .val (.int r), .val (.int bd), .val (.ref b2), .val (.ref b9), .val (.int (own_r (own_land u bd) bd)), .unset, .unset, .unset, .unset, .unset, .unset] [])) rfl (hb hby at_37)) ?_
  show OwnWk _ _ _ _ (T21.setTop (mkF m 40 #[.val (.long u), .second, .val (.int r), .val (.int bd), .val (.ref b2), .val (.ref b9), .val (.int (own_r (own_land u bd) bd)), .unset, .unset, .unset, .unset, .unset, .unset] [(.long (4294967296 : Int64))]))
  refine own_go (fun t k => XS.iloadN X21.here hx rfl (hb hby at_40) rfl  k) ?_
  show OwnWk _ _ _ _ (T21.setTop (mkF m 41 #[.val (.long u), .second, .val (.int r), .val (.int bd), .val (.ref b2), .val (.ref b9), .val (.int (own_r (own_land u bd) bd)), .unset, .unset, .unset, .unset, .unset, .unset] [(.int bd), (.long (4294967296 : Int64))]))
  refine own_go (fun t k => XS.i2l X21.here hx rfl (hb hby at_41) rfl k) ?_
  show OwnWk _ _ _ _ (T21.setTop (mkF m 42 #[.val (.long u), .second, .val (.int r), .val (.int bd), .val (.ref b2), .val (.ref b9), .val (.int (own_r (own_land u bd) bd)), .unset, .unset, .unset, .unset, .unset, .unset] [(.long (bd.toInt64)), (.long (4294967296 : Int64))]))
  refine own_go (fun t k => XS.lrem X21.here hx rfl (hb hby at_42) rfl (own_nz hbd) k) ?_
  show OwnWk _ _ _ _ (T21.setTop (mkF m 43 #[.val (.long u), .second, .val (.int r), .val (.int bd), .val (.ref b2), .val (.ref b9), .val (.int (own_r (own_land u bd) bd)), .unset, .unset, .unset, .unset, .unset, .unset] [(.long ((4294967296 : Int64) - (4294967296 : Int64) / (bd.toInt64) * (bd.toInt64)))]))
  rw [own_thr hbd]
  show OwnWk _ _ _ _ (T21.setTop (mkF m 43 #[.val (.long u), .second, .val (.int r), .val (.int bd), .val (.ref b2), .val (.ref b9), .val (.int (own_r (own_land u bd) bd)), .unset, .unset, .unset, .unset, .unset, .unset] [(.long (own_bias bd))]))
  refine own_go (fun t k => XS.lstore X21.here hx rfl (hb hby at_43) rfl (l' := #[.val (.long u), .second, .val (.int r), .val (.int bd), .val (.ref b2), .val (.ref b9), .val (.int (own_r (own_land u bd) bd)), .val (.long (own_bias bd)), .second, .unset, .unset, .unset, .unset]) rfl k) ?_
  show OwnWk _ _ _ _ (T21.setTop (mkF m 45 #[.val (.long u), .second, .val (.int r), .val (.int bd), .val (.ref b2), .val (.ref b9), .val (.int (own_r (own_land u bd) bd)), .val (.long (own_bias bd)), .second, .unset, .unset, .unset, .unset] []))
  refine own_go (fun t k => XS.aload X21.here hx rfl (hb hby at_45) rfl rfl  k) ?_
  show OwnWk _ _ _ _ (T21.setTop (mkF m 47 #[.val (.long u), .second, .val (.int r), .val (.int bd), .val (.ref b2), .val (.ref b9), .val (.int (own_r (own_land u bd) bd)), .val (.long (own_bias bd)), .second, .unset, .unset, .unset, .unset] [(.ref b9)]))
  refine own_callV X21 hx hZ (y := (⟨"com/example/spikeline/spikeline/core/SeededRandom", "nextLong", "()J"⟩ : MethodName)) (z := (⟨"com/example/spikeline/spikeline/core/SeededRandom", "nextLong", "()J"⟩ : MethodName)) hown (hw _ (List.mem_of_getElem? (i := 31) rfl)) (hw _ (List.mem_of_getElem? (i := 22) rfl)) (notFace_of_selects (args := #[]) (mvT hZ (hw _ (List.mem_of_getElem? (i := 24) rfl)))) (hw _ (List.mem_of_getElem? (i := 24) rfl)) (hw _ (List.mem_of_getElem? (i := 23) rfl)) (hw _ (List.mem_of_getElem? (i := 7) rfl)) (hw _ (List.mem_of_getElem? (i := 25) rfl)) (by decide) (a := b9) F23 (argsL := []) (rest := []) (rm := ({ frames := 0, cells := 0, slots := 0, locals := 0 } : Room)) (h := h21) (rm5 l Z a0 hw b9 u h21 n0 Z25 F24 F23 ge11) e21 (W := 0) (by decide) (by decide) (by decide) (by decide) (g := (mkF m 47 #[.val (.long u), .second, .val (.int r), .val (.int bd), .val (.ref b2), .val (.ref b9), .val (.int (own_r (own_land u bd) bd)), .val (.long (own_bias bd)), .second, .unset, .unset, .unset, .unset] [(.ref b9)])) rfl (by rw [hml]; rfl) (lenOf pd_0 rfl) rfl (by show 2 * 0 + _ ≤ _; exact Nat.le_of_eq rfl) (hb hby at_47) (fun v26 T26 h26 L26 X26 e26 hQ26 => ?_)
  obtain ⟨rfl, Nq26, Kq26, Fq26⟩ := hQ26
  have N26 := Fr.app N21 Nq26
  have F27 := Exa.keep F22 Kq26
  have F28 := Exa.keep F23 Kq26
  have F29 := Fld.keep Fq21 Kq26 (ninS ne10 nin0)
  have Z30 := Nat.le_trans Z25 Kq26.1
  show OwnWk _ _ _ _ (T26.setTop (mkF m 50 #[.val (.long u), .second, .val (.int r), .val (.int bd), .val (.ref b2), .val (.ref b9), .val (.int (own_r (own_land u bd) bd)), .val (.long (own_bias bd)), .second, .unset, .unset, .unset, .unset] [(.long (own_mix (u + (-7046029254386353131 : Int64))))]))
  refine own_go (fun t k => XS.bipush X26.here hx rfl (hb hby at_50) k) ?_
  show OwnWk _ _ _ _ (T26.setTop (mkF m 52 #[.val (.long u), .second, .val (.int r), .val (.int bd), .val (.ref b2), .val (.ref b9), .val (.int (own_r (own_land u bd) bd)), .val (.long (own_bias bd)), .second, .unset, .unset, .unset, .unset] [(.int (32 : Int32)), (.long (own_mix (u + (-7046029254386353131 : Int64))))]))
  refine own_go (fun t k => XS.lushr X26.here hx rfl (hb hby at_52) rfl k) ?_
  show OwnWk _ _ _ _ (T26.setTop (mkF m 53 #[.val (.long u), .second, .val (.int r), .val (.int bd), .val (.ref b2), .val (.ref b9), .val (.int (own_r (own_land u bd) bd)), .val (.long (own_bias bd)), .second, .unset, .unset, .unset, .unset] [(.long (((own_mix (u + (-7046029254386353131 : Int64))).toUInt64 >>> ((32 : Int32) &&& 0x3f).toInt64.toUInt64).toInt64))]))
  refine own_go (fun t k => XS.iloadN X26.here hx rfl (hb hby at_53) rfl  k) ?_
  show OwnWk _ _ _ _ (T26.setTop (mkF m 54 #[.val (.long u), .second, .val (.int r), .val (.int bd), .val (.ref b2), .val (.ref b9), .val (.int (own_r (own_land u bd) bd)), .val (.long (own_bias bd)), .second, .unset, .unset, .unset, .unset] [(.int bd), (.long (((own_mix (u + (-7046029254386353131 : Int64))).toUInt64 >>> ((32 : Int32) &&& 0x3f).toInt64.toUInt64).toInt64))]))
  refine own_go (fun t k => XS.i2l X26.here hx rfl (hb hby at_54) rfl k) ?_
  show OwnWk _ _ _ _ (T26.setTop (mkF m 55 #[.val (.long u), .second, .val (.int r), .val (.int bd), .val (.ref b2), .val (.ref b9), .val (.int (own_r (own_land u bd) bd)), .val (.long (own_bias bd)), .second, .unset, .unset, .unset, .unset] [(.long (bd.toInt64)), (.long (((own_mix (u + (-7046029254386353131 : Int64))).toUInt64 >>> ((32 : Int32) &&& 0x3f).toInt64.toUInt64).toInt64))]))
  refine own_go (fun t k => XS.lmul X26.here hx rfl (hb hby at_55) rfl k) ?_
  show OwnWk _ _ _ _ (T26.setTop (mkF m 56 #[.val (.long u), .second, .val (.int r), .val (.int bd), .val (.ref b2), .val (.ref b9), .val (.int (own_r (own_land u bd) bd)), .val (.long (own_bias bd)), .second, .unset, .unset, .unset, .unset] [(.long ((((own_mix (u + (-7046029254386353131 : Int64))).toUInt64 >>> ((32 : Int32) &&& 0x3f).toInt64.toUInt64).toInt64) * (bd.toInt64)))]))
  show OwnWk _ _ _ _ (T26.setTop (mkF m 56 #[.val (.long u), .second, .val (.int r), .val (.int bd), .val (.ref b2), .val (.ref b9), .val (.int (own_r (own_land u bd) bd)), .val (.long (own_bias bd)), .second, .unset, .unset, .unset, .unset] [(.long (own_prod (u + (-7046029254386353131 : Int64)) bd))]))
  refine own_go (fun t k => XS.lstore X26.here hx rfl (hb hby at_56) rfl (l' := #[.val (.long u), .second, .val (.int r), .val (.int bd), .val (.ref b2), .val (.ref b9), .val (.int (own_r (own_land u bd) bd)), .val (.long (own_bias bd)), .second, .val (.long (own_prod (u + (-7046029254386353131 : Int64)) bd)), .second, .unset, .unset]) rfl k) ?_
  show OwnWk _ _ _ _ (T26.setTop (mkF m 58 #[.val (.long u), .second, .val (.int r), .val (.int bd), .val (.ref b2), .val (.ref b9), .val (.int (own_r (own_land u bd) bd)), .val (.long (own_bias bd)), .second, .val (.long (own_prod (u + (-7046029254386353131 : Int64)) bd)), .second, .unset, .unset] []))
  refine own_go (fun t k => XS.lload X26.here hx rfl (hb hby at_58) rfl  k) ?_
  show OwnWk _ _ _ _ (T26.setTop (mkF m 60 #[.val (.long u), .second, .val (.int r), .val (.int bd), .val (.ref b2), .val (.ref b9), .val (.int (own_r (own_land u bd) bd)), .val (.long (own_bias bd)), .second, .val (.long (own_prod (u + (-7046029254386353131 : Int64)) bd)), .second, .unset, .unset] [(.long (own_prod (u + (-7046029254386353131 : Int64)) bd))]))
  refine own_go (X26.ldc2Long hx hown (mvT hZ (hw _ (List.mem_of_getElem? (i := 32) rfl))) (g := (mkF m 60 #[.val (.long u), .second, .val (.int r), .val (.int bd), .val (.ref b2), .val (.ref b9), .val (.int (own_r (own_land u bd) bd)), .val (.long (own_bias bd)), .second, .val (.long (own_prod (u + (-7046029254386353131 : Int64)) bd)), .second, .unset, .unset] [(.long (own_prod (u + (-7046029254386353131 : Int64)) bd))])) rfl (hb hby at_60)) ?_
  show OwnWk _ _ _ _ (T26.setTop (mkF m 63 #[.val (.long u), .second, .val (.int r), .val (.int bd), .val (.ref b2), .val (.ref b9), .val (.int (own_r (own_land u bd) bd)), .val (.long (own_bias bd)), .second, .val (.long (own_prod (u + (-7046029254386353131 : Int64)) bd)), .second, .unset, .unset] [(.long (4294967295 : Int64)), (.long (own_prod (u + (-7046029254386353131 : Int64)) bd))]))
  refine own_go (fun t k => XS.land X26.here hx rfl (hb hby at_63) rfl k) ?_
  show OwnWk _ _ _ _ (T26.setTop (mkF m 64 #[.val (.long u), .second, .val (.int r), .val (.int bd), .val (.ref b2), .val (.ref b9), .val (.int (own_r (own_land u bd) bd)), .val (.long (own_bias bd)), .second, .val (.long (own_prod (u + (-7046029254386353131 : Int64)) bd)), .second, .unset, .unset] [(.long ((own_prod (u + (-7046029254386353131 : Int64)) bd) &&& (4294967295 : Int64)))]))
  refine own_go (fun t k => XS.lload X26.here hx rfl (hb hby at_64) rfl  k) ?_
  show OwnWk _ _ _ _ (T26.setTop (mkF m 66 #[.val (.long u), .second, .val (.int r), .val (.int bd), .val (.ref b2), .val (.ref b9), .val (.int (own_r (own_land u bd) bd)), .val (.long (own_bias bd)), .second, .val (.long (own_prod (u + (-7046029254386353131 : Int64)) bd)), .second, .unset, .unset] [(.long (own_bias bd)), (.long ((own_prod (u + (-7046029254386353131 : Int64)) bd) &&& (4294967295 : Int64)))]))
  refine own_go (fun t k => XS.lcmp X26.here hx rfl (hb hby at_66) rfl k) ?_
  show OwnWk _ _ _ _ (T26.setTop (mkF m 67 #[.val (.long u), .second, .val (.int r), .val (.int bd), .val (.ref b2), .val (.ref b9), .val (.int (own_r (own_land u bd) bd)), .val (.long (own_bias bd)), .second, .val (.long (own_prod (u + (-7046029254386353131 : Int64)) bd)), .second, .unset, .unset] [(.int (lcmpW ((own_prod (u + (-7046029254386353131 : Int64)) bd) &&& (4294967295 : Int64)) (own_bias bd)))]))
  by_cases hc31 : ((own_prod (u + (-7046029254386353131 : Int64)) bd) &&& (4294967295 : Int64)) < (own_bias bd)
  ·
    refine own_go (fun t k => XS.ifYes X26.here hx rfl (pc0 := 67) (pc' := 101) rfl (hb hby at_67) rfl ((if0 _ _).trans (tlt (own_lc_lt.mpr hc31)).1) (by decide) (by decide) k) ?_
    show OwnWk _ _ _ _ (T26.setTop (mkF m 101 #[.val (.long u), .second, .val (.int r), .val (.int bd), .val (.ref b2), .val (.ref b9), .val (.int (own_r (own_land u bd) bd)), .val (.long (own_bias bd)), .second, .val (.long (own_prod (u + (-7046029254386353131 : Int64)) bd)), .second, .unset, .unset] []))
    refine own_go (fun t k => XS.aload X26.here hx rfl (hb hby at_101) rfl rfl  k) ?_
    show OwnWk _ _ _ _ (T26.setTop (mkF m 103 #[.val (.long u), .second, .val (.int r), .val (.int bd), .val (.ref b2), .val (.ref b9), .val (.int (own_r (own_land u bd) bd)), .val (.long (own_bias bd)), .second, .val (.long (own_prod (u + (-7046029254386353131 : Int64)) bd)), .second, .unset, .unset] [(.ref b9)]))
    refine own_callV X26 hx hZ (y := (⟨"com/example/spikeline/spikeline/core/SeededRandom", "nextLong", "()J"⟩ : MethodName)) (z := (⟨"com/example/spikeline/spikeline/core/SeededRandom", "nextLong", "()J"⟩ : MethodName)) hown (hw _ (List.mem_of_getElem? (i := 31) rfl)) (hw _ (List.mem_of_getElem? (i := 22) rfl)) (notFace_of_selects (args := #[]) (mvT hZ (hw _ (List.mem_of_getElem? (i := 24) rfl)))) (hw _ (List.mem_of_getElem? (i := 24) rfl)) (hw _ (List.mem_of_getElem? (i := 23) rfl)) (hw _ (List.mem_of_getElem? (i := 7) rfl)) (hw _ (List.mem_of_getElem? (i := 25) rfl)) (by decide) (a := b9) F28 (argsL := []) (rest := []) (rm := ({ frames := 0, cells := 0, slots := 0, locals := 0 } : Room)) (h := h26) (rm5 l Z a0 hw b9 (u + (-7046029254386353131 : Int64)) h26 n0 Z30 Fq26 F28 ge11) e26 (W := 0) (by decide) (by decide) (by decide) (by decide) (g := (mkF m 103 #[.val (.long u), .second, .val (.int r), .val (.int bd), .val (.ref b2), .val (.ref b9), .val (.int (own_r (own_land u bd) bd)), .val (.long (own_bias bd)), .second, .val (.long (own_prod (u + (-7046029254386353131 : Int64)) bd)), .second, .unset, .unset] [(.ref b9)])) rfl (by rw [hml]; rfl) (lenOf pd_0 rfl) rfl (by show 2 * 0 + _ ≤ _; exact Nat.le_of_eq rfl) (hb hby at_103) (fun v32 T32 h32 L32 X32 e32 hQ32 => ?_)
    obtain ⟨rfl, Nq32, Kq32, Fq32⟩ := hQ32
    have N32 := Fr.app N26 Nq32
    have F33 := Exa.keep F27 Kq32
    have F34 := Exa.keep F28 Kq32
    have F35 := Fld.keep F29 Kq32 (ninS ne10 nin0)
    have Z36 := Nat.le_trans Z30 Kq32.1
    show OwnWk _ _ _ _ (T32.setTop (mkF m 106 #[.val (.long u), .second, .val (.int r), .val (.int bd), .val (.ref b2), .val (.ref b9), .val (.int (own_r (own_land u bd) bd)), .val (.long (own_bias bd)), .second, .val (.long (own_prod (u + (-7046029254386353131 : Int64)) bd)), .second, .unset, .unset] [(.long (own_mix ((u + (-7046029254386353131 : Int64)) + (-7046029254386353131 : Int64))))]))
    refine own_go (fun t k => XS.bipush X32.here hx rfl (hb hby at_106) k) ?_
    show OwnWk _ _ _ _ (T32.setTop (mkF m 108 #[.val (.long u), .second, .val (.int r), .val (.int bd), .val (.ref b2), .val (.ref b9), .val (.int (own_r (own_land u bd) bd)), .val (.long (own_bias bd)), .second, .val (.long (own_prod (u + (-7046029254386353131 : Int64)) bd)), .second, .unset, .unset] [(.int (32 : Int32)), (.long (own_mix ((u + (-7046029254386353131 : Int64)) + (-7046029254386353131 : Int64))))]))
    refine own_go (fun t k => XS.lushr X32.here hx rfl (hb hby at_108) rfl k) ?_
    show OwnWk _ _ _ _ (T32.setTop (mkF m 109 #[.val (.long u), .second, .val (.int r), .val (.int bd), .val (.ref b2), .val (.ref b9), .val (.int (own_r (own_land u bd) bd)), .val (.long (own_bias bd)), .second, .val (.long (own_prod (u + (-7046029254386353131 : Int64)) bd)), .second, .unset, .unset] [(.long (((own_mix ((u + (-7046029254386353131 : Int64)) + (-7046029254386353131 : Int64))).toUInt64 >>> ((32 : Int32) &&& 0x3f).toInt64.toUInt64).toInt64))]))
    refine own_go (fun t k => XS.iloadN X32.here hx rfl (hb hby at_109) rfl  k) ?_
    show OwnWk _ _ _ _ (T32.setTop (mkF m 110 #[.val (.long u), .second, .val (.int r), .val (.int bd), .val (.ref b2), .val (.ref b9), .val (.int (own_r (own_land u bd) bd)), .val (.long (own_bias bd)), .second, .val (.long (own_prod (u + (-7046029254386353131 : Int64)) bd)), .second, .unset, .unset] [(.int bd), (.long (((own_mix ((u + (-7046029254386353131 : Int64)) + (-7046029254386353131 : Int64))).toUInt64 >>> ((32 : Int32) &&& 0x3f).toInt64.toUInt64).toInt64))]))
    refine own_go (fun t k => XS.i2l X32.here hx rfl (hb hby at_110) rfl k) ?_
    show OwnWk _ _ _ _ (T32.setTop (mkF m 111 #[.val (.long u), .second, .val (.int r), .val (.int bd), .val (.ref b2), .val (.ref b9), .val (.int (own_r (own_land u bd) bd)), .val (.long (own_bias bd)), .second, .val (.long (own_prod (u + (-7046029254386353131 : Int64)) bd)), .second, .unset, .unset] [(.long (bd.toInt64)), (.long (((own_mix ((u + (-7046029254386353131 : Int64)) + (-7046029254386353131 : Int64))).toUInt64 >>> ((32 : Int32) &&& 0x3f).toInt64.toUInt64).toInt64))]))
    refine own_go (fun t k => XS.lmul X32.here hx rfl (hb hby at_111) rfl k) ?_
    show OwnWk _ _ _ _ (T32.setTop (mkF m 112 #[.val (.long u), .second, .val (.int r), .val (.int bd), .val (.ref b2), .val (.ref b9), .val (.int (own_r (own_land u bd) bd)), .val (.long (own_bias bd)), .second, .val (.long (own_prod (u + (-7046029254386353131 : Int64)) bd)), .second, .unset, .unset] [(.long ((((own_mix ((u + (-7046029254386353131 : Int64)) + (-7046029254386353131 : Int64))).toUInt64 >>> ((32 : Int32) &&& 0x3f).toInt64.toUInt64).toInt64) * (bd.toInt64)))]))
    show OwnWk _ _ _ _ (T32.setTop (mkF m 112 #[.val (.long u), .second, .val (.int r), .val (.int bd), .val (.ref b2), .val (.ref b9), .val (.int (own_r (own_land u bd) bd)), .val (.long (own_bias bd)), .second, .val (.long (own_prod (u + (-7046029254386353131 : Int64)) bd)), .second, .unset, .unset] [(.long (own_prod ((u + (-7046029254386353131 : Int64)) + (-7046029254386353131 : Int64)) bd))]))
    refine own_go (fun t k => XS.lstore X32.here hx rfl (hb hby at_112) rfl (l' := #[.val (.long u), .second, .val (.int r), .val (.int bd), .val (.ref b2), .val (.ref b9), .val (.int (own_r (own_land u bd) bd)), .val (.long (own_bias bd)), .second, .val (.long (own_prod (u + (-7046029254386353131 : Int64)) bd)), .second, .val (.long (own_prod ((u + (-7046029254386353131 : Int64)) + (-7046029254386353131 : Int64)) bd)), .second]) rfl k) ?_
    show OwnWk _ _ _ _ (T32.setTop (mkF m 114 #[.val (.long u), .second, .val (.int r), .val (.int bd), .val (.ref b2), .val (.ref b9), .val (.int (own_r (own_land u bd) bd)), .val (.long (own_bias bd)), .second, .val (.long (own_prod (u + (-7046029254386353131 : Int64)) bd)), .second, .val (.long (own_prod ((u + (-7046029254386353131 : Int64)) + (-7046029254386353131 : Int64)) bd)), .second] []))
    refine own_go (fun t k => XS.lload X32.here hx rfl (hb hby at_114) rfl  k) ?_
    show OwnWk _ _ _ _ (T32.setTop (mkF m 116 #[.val (.long u), .second, .val (.int r), .val (.int bd), .val (.ref b2), .val (.ref b9), .val (.int (own_r (own_land u bd) bd)), .val (.long (own_bias bd)), .second, .val (.long (own_prod (u + (-7046029254386353131 : Int64)) bd)), .second, .val (.long (own_prod ((u + (-7046029254386353131 : Int64)) + (-7046029254386353131 : Int64)) bd)), .second] [(.long (own_prod ((u + (-7046029254386353131 : Int64)) + (-7046029254386353131 : Int64)) bd))]))
    refine own_go (X32.ldc2Long hx hown (mvT hZ (hw _ (List.mem_of_getElem? (i := 32) rfl))) (g := (mkF m 116 #[.val (.long u), .second, .val (.int r), .val (.int bd), .val (.ref b2), .val (.ref b9), .val (.int (own_r (own_land u bd) bd)), .val (.long (own_bias bd)), .second, .val (.long (own_prod (u + (-7046029254386353131 : Int64)) bd)), .second, .val (.long (own_prod ((u + (-7046029254386353131 : Int64)) + (-7046029254386353131 : Int64)) bd)), .second] [(.long (own_prod ((u + (-7046029254386353131 : Int64)) + (-7046029254386353131 : Int64)) bd))])) rfl (hb hby at_116)) ?_
    show OwnWk _ _ _ _ (T32.setTop (mkF m 119 #[.val (.long u), .second, .val (.int r), .val (.int bd), .val (.ref b2), .val (.ref b9), .val (.int (own_r (own_land u bd) bd)), .val (.long (own_bias bd)), .second, .val (.long (own_prod (u + (-7046029254386353131 : Int64)) bd)), .second, .val (.long (own_prod ((u + (-7046029254386353131 : Int64)) + (-7046029254386353131 : Int64)) bd)), .second] [(.long (4294967295 : Int64)), (.long (own_prod ((u + (-7046029254386353131 : Int64)) + (-7046029254386353131 : Int64)) bd))]))
    refine own_go (fun t k => XS.land X32.here hx rfl (hb hby at_119) rfl k) ?_
    show OwnWk _ _ _ _ (T32.setTop (mkF m 120 #[.val (.long u), .second, .val (.int r), .val (.int bd), .val (.ref b2), .val (.ref b9), .val (.int (own_r (own_land u bd) bd)), .val (.long (own_bias bd)), .second, .val (.long (own_prod (u + (-7046029254386353131 : Int64)) bd)), .second, .val (.long (own_prod ((u + (-7046029254386353131 : Int64)) + (-7046029254386353131 : Int64)) bd)), .second] [(.long ((own_prod ((u + (-7046029254386353131 : Int64)) + (-7046029254386353131 : Int64)) bd) &&& (4294967295 : Int64)))]))
    refine own_go (fun t k => XS.lload X32.here hx rfl (hb hby at_120) rfl  k) ?_
    show OwnWk _ _ _ _ (T32.setTop (mkF m 122 #[.val (.long u), .second, .val (.int r), .val (.int bd), .val (.ref b2), .val (.ref b9), .val (.int (own_r (own_land u bd) bd)), .val (.long (own_bias bd)), .second, .val (.long (own_prod (u + (-7046029254386353131 : Int64)) bd)), .second, .val (.long (own_prod ((u + (-7046029254386353131 : Int64)) + (-7046029254386353131 : Int64)) bd)), .second] [(.long (own_bias bd)), (.long ((own_prod ((u + (-7046029254386353131 : Int64)) + (-7046029254386353131 : Int64)) bd) &&& (4294967295 : Int64)))]))
    refine own_go (fun t k => XS.lcmp X32.here hx rfl (hb hby at_122) rfl k) ?_
    show OwnWk _ _ _ _ (T32.setTop (mkF m 123 #[.val (.long u), .second, .val (.int r), .val (.int bd), .val (.ref b2), .val (.ref b9), .val (.int (own_r (own_land u bd) bd)), .val (.long (own_bias bd)), .second, .val (.long (own_prod (u + (-7046029254386353131 : Int64)) bd)), .second, .val (.long (own_prod ((u + (-7046029254386353131 : Int64)) + (-7046029254386353131 : Int64)) bd)), .second] [(.int (lcmpW ((own_prod ((u + (-7046029254386353131 : Int64)) + (-7046029254386353131 : Int64)) bd) &&& (4294967295 : Int64)) (own_bias bd)))]))
    by_cases hc37 : ((own_prod ((u + (-7046029254386353131 : Int64)) + (-7046029254386353131 : Int64)) bd) &&& (4294967295 : Int64)) < (own_bias bd)
    ·
      refine own_go (fun t k => XS.ifYes X32.here hx rfl (pc0 := 123) (pc' := 157) rfl (hb hby at_123) rfl ((if0 _ _).trans (tlt (own_lc_lt.mpr hc37)).1) (by decide) (by decide) k) ?_
      show OwnWk _ _ _ _ (T32.setTop (mkF m 157 #[.val (.long u), .second, .val (.int r), .val (.int bd), .val (.ref b2), .val (.ref b9), .val (.int (own_r (own_land u bd) bd)), .val (.long (own_bias bd)), .second, .val (.long (own_prod (u + (-7046029254386353131 : Int64)) bd)), .second, .val (.long (own_prod ((u + (-7046029254386353131 : Int64)) + (-7046029254386353131 : Int64)) bd)), .second] []))
      refine own_go (fun t k => XS.iload X32.here hx rfl (hb hby at_157) rfl  k) ?_
      show OwnWk _ _ _ _ (T32.setTop (mkF m 159 #[.val (.long u), .second, .val (.int r), .val (.int bd), .val (.ref b2), .val (.ref b9), .val (.int (own_r (own_land u bd) bd)), .val (.long (own_bias bd)), .second, .val (.long (own_prod (u + (-7046029254386353131 : Int64)) bd)), .second, .val (.long (own_prod ((u + (-7046029254386353131 : Int64)) + (-7046029254386353131 : Int64)) bd)), .second] [(.int (own_r (own_land u bd) bd))]))
      refine own_go (fun t k => XS.ifNo X32.here hx rfl (hb hby at_159) rfl ((if0 _ _).trans (flt (own_r_nn hbd)).1) k) ?_
      show OwnWk _ _ _ _ (T32.setTop (mkF m 162 #[.val (.long u), .second, .val (.int r), .val (.int bd), .val (.ref b2), .val (.ref b9), .val (.int (own_r (own_land u bd) bd)), .val (.long (own_bias bd)), .second, .val (.long (own_prod (u + (-7046029254386353131 : Int64)) bd)), .second, .val (.long (own_prod ((u + (-7046029254386353131 : Int64)) + (-7046029254386353131 : Int64)) bd)), .second] []))
      refine own_go (fun t k => XS.iload X32.here hx rfl (hb hby at_162) rfl  k) ?_
      show OwnWk _ _ _ _ (T32.setTop (mkF m 164 #[.val (.long u), .second, .val (.int r), .val (.int bd), .val (.ref b2), .val (.ref b9), .val (.int (own_r (own_land u bd) bd)), .val (.long (own_bias bd)), .second, .val (.long (own_prod (u + (-7046029254386353131 : Int64)) bd)), .second, .val (.long (own_prod ((u + (-7046029254386353131 : Int64)) + (-7046029254386353131 : Int64)) bd)), .second] [(.int (own_r (own_land u bd) bd))]))
      refine own_go (fun t k => XS.iloadN X32.here hx rfl (hb hby at_164) rfl  k) ?_
      show OwnWk _ _ _ _ (T32.setTop (mkF m 165 #[.val (.long u), .second, .val (.int r), .val (.int bd), .val (.ref b2), .val (.ref b9), .val (.int (own_r (own_land u bd) bd)), .val (.long (own_bias bd)), .second, .val (.long (own_prod (u + (-7046029254386353131 : Int64)) bd)), .second, .val (.long (own_prod ((u + (-7046029254386353131 : Int64)) + (-7046029254386353131 : Int64)) bd)), .second] [(.int bd), (.int (own_r (own_land u bd) bd))]))
      refine own_go (fun t k => XS.icmpNo X32.here hx rfl (hb hby at_165) rfl (tlt (own_r_lt hbd)).2.1 k) ?_
      show OwnWk _ _ _ _ (T32.setTop (mkF m 168 #[.val (.long u), .second, .val (.int r), .val (.int bd), .val (.ref b2), .val (.ref b9), .val (.int (own_r (own_land u bd) bd)), .val (.long (own_bias bd)), .second, .val (.long (own_prod (u + (-7046029254386353131 : Int64)) bd)), .second, .val (.long (own_prod ((u + (-7046029254386353131 : Int64)) + (-7046029254386353131 : Int64)) bd)), .second] []))
      refine own_go (fun t k => XS.iconst X32.here hx rfl (hb hby at_168) k) ?_
      show OwnWk _ _ _ _ (T32.setTop (mkF m 169 #[.val (.long u), .second, .val (.int r), .val (.int bd), .val (.ref b2), .val (.ref b9), .val (.int (own_r (own_land u bd) bd)), .val (.long (own_bias bd)), .second, .val (.long (own_prod (u + (-7046029254386353131 : Int64)) bd)), .second, .val (.long (own_prod ((u + (-7046029254386353131 : Int64)) + (-7046029254386353131 : Int64)) bd)), .second] [(.int (1 : Int32))]))
      refine own_go (fun t k => XS.goto X32.here hx rfl (pc0 := 169) (pc' := 173) rfl (hb hby at_169) (by decide) (by decide) k) ?_
      show OwnWk _ _ _ _ (T32.setTop (mkF m 173 #[.val (.long u), .second, .val (.int r), .val (.int bd), .val (.ref b2), .val (.ref b9), .val (.int (own_r (own_land u bd) bd)), .val (.long (own_bias bd)), .second, .val (.long (own_prod (u + (-7046029254386353131 : Int64)) bd)), .second, .val (.long (own_prod ((u + (-7046029254386353131 : Int64)) + (-7046029254386353131 : Int64)) bd)), .second] [(.int (1 : Int32))]))
      exact own_retZ X32 hx hlk hret (by simp) (z' := (1 : Int32)) rfl (hb hby at_173) (by decide) (by decide) (by rw [e32]; exact ⟨rfl, N32⟩)
    ·
      refine own_go (fun t k => XS.ifNo X32.here hx rfl (hb hby at_123) rfl ((if0 _ _).trans (flt (fun q => hc37 (own_lc_lt.mp q))).1) k) ?_
      show OwnWk _ _ _ _ (T32.setTop (mkF m 126 #[.val (.long u), .second, .val (.int r), .val (.int bd), .val (.ref b2), .val (.ref b9), .val (.int (own_r (own_land u bd) bd)), .val (.long (own_bias bd)), .second, .val (.long (own_prod (u + (-7046029254386353131 : Int64)) bd)), .second, .val (.long (own_prod ((u + (-7046029254386353131 : Int64)) + (-7046029254386353131 : Int64)) bd)), .second] []))
      refine own_go (fun t k => XS.iload X32.here hx rfl (hb hby at_126) rfl  k) ?_
      show OwnWk _ _ _ _ (T32.setTop (mkF m 128 #[.val (.long u), .second, .val (.int r), .val (.int bd), .val (.ref b2), .val (.ref b9), .val (.int (own_r (own_land u bd) bd)), .val (.long (own_bias bd)), .second, .val (.long (own_prod (u + (-7046029254386353131 : Int64)) bd)), .second, .val (.long (own_prod ((u + (-7046029254386353131 : Int64)) + (-7046029254386353131 : Int64)) bd)), .second] [(.int (own_r (own_land u bd) bd))]))
      refine own_go (fun t k => XS.lload X32.here hx rfl (hb hby at_128) rfl  k) ?_
      show OwnWk _ _ _ _ (T32.setTop (mkF m 130 #[.val (.long u), .second, .val (.int r), .val (.int bd), .val (.ref b2), .val (.ref b9), .val (.int (own_r (own_land u bd) bd)), .val (.long (own_bias bd)), .second, .val (.long (own_prod (u + (-7046029254386353131 : Int64)) bd)), .second, .val (.long (own_prod ((u + (-7046029254386353131 : Int64)) + (-7046029254386353131 : Int64)) bd)), .second] [(.long (own_prod ((u + (-7046029254386353131 : Int64)) + (-7046029254386353131 : Int64)) bd)), (.int (own_r (own_land u bd) bd))]))
      refine own_go (fun t k => XS.bipush X32.here hx rfl (hb hby at_130) k) ?_
      show OwnWk _ _ _ _ (T32.setTop (mkF m 132 #[.val (.long u), .second, .val (.int r), .val (.int bd), .val (.ref b2), .val (.ref b9), .val (.int (own_r (own_land u bd) bd)), .val (.long (own_bias bd)), .second, .val (.long (own_prod (u + (-7046029254386353131 : Int64)) bd)), .second, .val (.long (own_prod ((u + (-7046029254386353131 : Int64)) + (-7046029254386353131 : Int64)) bd)), .second] [(.int (32 : Int32)), (.long (own_prod ((u + (-7046029254386353131 : Int64)) + (-7046029254386353131 : Int64)) bd)), (.int (own_r (own_land u bd) bd))]))
      refine own_go (fun t k => XS.lushr X32.here hx rfl (hb hby at_132) rfl k) ?_
      show OwnWk _ _ _ _ (T32.setTop (mkF m 133 #[.val (.long u), .second, .val (.int r), .val (.int bd), .val (.ref b2), .val (.ref b9), .val (.int (own_r (own_land u bd) bd)), .val (.long (own_bias bd)), .second, .val (.long (own_prod (u + (-7046029254386353131 : Int64)) bd)), .second, .val (.long (own_prod ((u + (-7046029254386353131 : Int64)) + (-7046029254386353131 : Int64)) bd)), .second] [(.long (((own_prod ((u + (-7046029254386353131 : Int64)) + (-7046029254386353131 : Int64)) bd).toUInt64 >>> ((32 : Int32) &&& 0x3f).toInt64.toUInt64).toInt64)), (.int (own_r (own_land u bd) bd))]))
      refine own_go (fun t k => XS.l2i X32.here hx rfl (hb hby at_133) rfl k) ?_
      show OwnWk _ _ _ _ (T32.setTop (mkF m 134 #[.val (.long u), .second, .val (.int r), .val (.int bd), .val (.ref b2), .val (.ref b9), .val (.int (own_r (own_land u bd) bd)), .val (.long (own_bias bd)), .second, .val (.long (own_prod (u + (-7046029254386353131 : Int64)) bd)), .second, .val (.long (own_prod ((u + (-7046029254386353131 : Int64)) + (-7046029254386353131 : Int64)) bd)), .second] [(.int ((((own_prod ((u + (-7046029254386353131 : Int64)) + (-7046029254386353131 : Int64)) bd).toUInt64 >>> ((32 : Int32) &&& 0x3f).toInt64.toUInt64).toInt64).toInt32)), (.int (own_r (own_land u bd) bd))]))
      refine own_go (fun t k => XS.icmpNo X32.here hx rfl (hb hby at_134) rfl (teq (by rw [own_land_2 hbd hc31 hc37]; rfl)).2 k) ?_
      show OwnWk _ _ _ _ (T32.setTop (mkF m 137 #[.val (.long u), .second, .val (.int r), .val (.int bd), .val (.ref b2), .val (.ref b9), .val (.int (own_r (own_land u bd) bd)), .val (.long (own_bias bd)), .second, .val (.long (own_prod (u + (-7046029254386353131 : Int64)) bd)), .second, .val (.long (own_prod ((u + (-7046029254386353131 : Int64)) + (-7046029254386353131 : Int64)) bd)), .second] []))
      refine own_go (fun t k => XS.aload X32.here hx rfl (hb hby at_137) rfl rfl  k) ?_
      show OwnWk _ _ _ _ (T32.setTop (mkF m 139 #[.val (.long u), .second, .val (.int r), .val (.int bd), .val (.ref b2), .val (.ref b9), .val (.int (own_r (own_land u bd) bd)), .val (.long (own_bias bd)), .second, .val (.long (own_prod (u + (-7046029254386353131 : Int64)) bd)), .second, .val (.long (own_prod ((u + (-7046029254386353131 : Int64)) + (-7046029254386353131 : Int64)) bd)), .second] [(.ref b2)]))
      refine own_callV X32 hx hZ (y := (⟨"com/example/spikeline/spikeline/core/SeededRandom", "state", "()J"⟩ : MethodName)) (z := (⟨"com/example/spikeline/spikeline/core/SeededRandom", "state", "()J"⟩ : MethodName)) hown (hw _ (List.mem_of_getElem? (i := 33) rfl)) (hw _ (List.mem_of_getElem? (i := 34) rfl)) (notFace_of_selects (args := #[]) (mvT hZ (hw _ (List.mem_of_getElem? (i := 36) rfl)))) (hw _ (List.mem_of_getElem? (i := 36) rfl)) (hw _ (List.mem_of_getElem? (i := 35) rfl)) (hw _ (List.mem_of_getElem? (i := 7) rfl)) (hw _ (List.mem_of_getElem? (i := 37) rfl)) (by decide) (a := b2) F33 (argsL := []) (rest := []) (rm := ({ frames := 0, cells := 0, slots := 0, locals := 0 } : Room)) (h := h32) (rm6 l Z a0 hw b2 (own_land u bd) h32 n0 Z36 F35) e32 (W := 0) (by decide) (by decide) (by decide) (by decide) (g := (mkF m 139 #[.val (.long u), .second, .val (.int r), .val (.int bd), .val (.ref b2), .val (.ref b9), .val (.int (own_r (own_land u bd) bd)), .val (.long (own_bias bd)), .second, .val (.long (own_prod (u + (-7046029254386353131 : Int64)) bd)), .second, .val (.long (own_prod ((u + (-7046029254386353131 : Int64)) + (-7046029254386353131 : Int64)) bd)), .second] [(.ref b2)])) rfl (by rw [hml]; rfl) (lenOf pd_0 rfl) rfl (by show 2 * 0 + _ ≤ _; exact Nat.le_of_eq rfl) (hb hby at_139) (fun v38 T38 h38 L38 X38 e38 hQ38 => ?_)
      obtain ⟨rfl, Nq38, q38⟩ := hQ38
      have N38 := Fr.app N32 Nq38
      rw [q38] at e38
      show OwnWk _ _ _ _ (T38.setTop (mkF m 142 #[.val (.long u), .second, .val (.int r), .val (.int bd), .val (.ref b2), .val (.ref b9), .val (.int (own_r (own_land u bd) bd)), .val (.long (own_bias bd)), .second, .val (.long (own_prod (u + (-7046029254386353131 : Int64)) bd)), .second, .val (.long (own_prod ((u + (-7046029254386353131 : Int64)) + (-7046029254386353131 : Int64)) bd)), .second] [(.long (own_land u bd))]))
      refine own_go (fun t k => XS.aload X38.here hx rfl (hb hby at_142) rfl rfl  k) ?_
      show OwnWk _ _ _ _ (T38.setTop (mkF m 144 #[.val (.long u), .second, .val (.int r), .val (.int bd), .val (.ref b2), .val (.ref b9), .val (.int (own_r (own_land u bd) bd)), .val (.long (own_bias bd)), .second, .val (.long (own_prod (u + (-7046029254386353131 : Int64)) bd)), .second, .val (.long (own_prod ((u + (-7046029254386353131 : Int64)) + (-7046029254386353131 : Int64)) bd)), .second] [(.ref b9), (.long (own_land u bd))]))
      refine own_callV X38 hx hZ (y := (⟨"com/example/spikeline/spikeline/core/SeededRandom", "state", "()J"⟩ : MethodName)) (z := (⟨"com/example/spikeline/spikeline/core/SeededRandom", "state", "()J"⟩ : MethodName)) hown (hw _ (List.mem_of_getElem? (i := 33) rfl)) (hw _ (List.mem_of_getElem? (i := 34) rfl)) (notFace_of_selects (args := #[]) (mvT hZ (hw _ (List.mem_of_getElem? (i := 36) rfl)))) (hw _ (List.mem_of_getElem? (i := 36) rfl)) (hw _ (List.mem_of_getElem? (i := 35) rfl)) (hw _ (List.mem_of_getElem? (i := 7) rfl)) (hw _ (List.mem_of_getElem? (i := 37) rfl)) (by decide) (a := b9) F34 (argsL := []) (rest := [(.long (own_land u bd))]) (rm := ({ frames := 0, cells := 0, slots := 0, locals := 0 } : Room)) (h := h32) (rm6 l Z a0 hw b9 ((u + (-7046029254386353131 : Int64)) + (-7046029254386353131 : Int64)) h32 n0 Z36 Fq32) e38 (W := 2) (by decide) (by decide) (by decide) (by decide) (g := (mkF m 144 #[.val (.long u), .second, .val (.int r), .val (.int bd), .val (.ref b2), .val (.ref b9), .val (.int (own_r (own_land u bd) bd)), .val (.long (own_bias bd)), .second, .val (.long (own_prod (u + (-7046029254386353131 : Int64)) bd)), .second, .val (.long (own_prod ((u + (-7046029254386353131 : Int64)) + (-7046029254386353131 : Int64)) bd)), .second] [(.ref b9), (.long (own_land u bd))])) rfl (by rw [hml]; rfl) (lenOf pd_0 rfl) rfl (by show 2 * 0 + _ ≤ _; exact Nat.le_of_eq rfl) (hb hby at_144) (fun v39 T39 h39 L39 X39 e39 hQ39 => ?_)
      obtain ⟨rfl, Nq39, q39⟩ := hQ39
      have N39 := Fr.app N38 Nq39
      rw [q39] at e39
      show OwnWk _ _ _ _ (T39.setTop (mkF m 147 #[.val (.long u), .second, .val (.int r), .val (.int bd), .val (.ref b2), .val (.ref b9), .val (.int (own_r (own_land u bd) bd)), .val (.long (own_bias bd)), .second, .val (.long (own_prod (u + (-7046029254386353131 : Int64)) bd)), .second, .val (.long (own_prod ((u + (-7046029254386353131 : Int64)) + (-7046029254386353131 : Int64)) bd)), .second] [(.long ((u + (-7046029254386353131 : Int64)) + (-7046029254386353131 : Int64))), (.long (own_land u bd))]))
      refine own_go (fun t k => XS.lcmp X39.here hx rfl (hb hby at_147) rfl k) ?_
      show OwnWk _ _ _ _ (T39.setTop (mkF m 148 #[.val (.long u), .second, .val (.int r), .val (.int bd), .val (.ref b2), .val (.ref b9), .val (.int (own_r (own_land u bd) bd)), .val (.long (own_bias bd)), .second, .val (.long (own_prod (u + (-7046029254386353131 : Int64)) bd)), .second, .val (.long (own_prod ((u + (-7046029254386353131 : Int64)) + (-7046029254386353131 : Int64)) bd)), .second] [(.int (lcmpW (own_land u bd) ((u + (-7046029254386353131 : Int64)) + (-7046029254386353131 : Int64))))]))
      refine own_go (fun t k => XS.ifNo X39.here hx rfl (hb hby at_148) rfl ((if0 _ _).trans (teq (own_lc_eq.mpr (own_land_2 hbd hc31 hc37))).2) k) ?_
      show OwnWk _ _ _ _ (T39.setTop (mkF m 151 #[.val (.long u), .second, .val (.int r), .val (.int bd), .val (.ref b2), .val (.ref b9), .val (.int (own_r (own_land u bd) bd)), .val (.long (own_bias bd)), .second, .val (.long (own_prod (u + (-7046029254386353131 : Int64)) bd)), .second, .val (.long (own_prod ((u + (-7046029254386353131 : Int64)) + (-7046029254386353131 : Int64)) bd)), .second] []))
      refine own_go (fun t k => XS.iconst X39.here hx rfl (hb hby at_151) k) ?_
      show OwnWk _ _ _ _ (T39.setTop (mkF m 152 #[.val (.long u), .second, .val (.int r), .val (.int bd), .val (.ref b2), .val (.ref b9), .val (.int (own_r (own_land u bd) bd)), .val (.long (own_bias bd)), .second, .val (.long (own_prod (u + (-7046029254386353131 : Int64)) bd)), .second, .val (.long (own_prod ((u + (-7046029254386353131 : Int64)) + (-7046029254386353131 : Int64)) bd)), .second] [(.int (1 : Int32))]))
      refine own_go (fun t k => XS.goto X39.here hx rfl (pc0 := 152) (pc' := 156) rfl (hb hby at_152) (by decide) (by decide) k) ?_
      show OwnWk _ _ _ _ (T39.setTop (mkF m 156 #[.val (.long u), .second, .val (.int r), .val (.int bd), .val (.ref b2), .val (.ref b9), .val (.int (own_r (own_land u bd) bd)), .val (.long (own_bias bd)), .second, .val (.long (own_prod (u + (-7046029254386353131 : Int64)) bd)), .second, .val (.long (own_prod ((u + (-7046029254386353131 : Int64)) + (-7046029254386353131 : Int64)) bd)), .second] [(.int (1 : Int32))]))
      exact own_retZ X39 hx hlk hret (by simp) (z' := (1 : Int32)) rfl (hb hby at_156) (by decide) (by decide) (by rw [e39]; exact ⟨rfl, N39⟩)
  ·
    refine own_go (fun t k => XS.ifNo X26.here hx rfl (hb hby at_67) rfl ((if0 _ _).trans (flt (fun q => hc31 (own_lc_lt.mp q))).1) k) ?_
    show OwnWk _ _ _ _ (T26.setTop (mkF m 70 #[.val (.long u), .second, .val (.int r), .val (.int bd), .val (.ref b2), .val (.ref b9), .val (.int (own_r (own_land u bd) bd)), .val (.long (own_bias bd)), .second, .val (.long (own_prod (u + (-7046029254386353131 : Int64)) bd)), .second, .unset, .unset] []))
    refine own_go (fun t k => XS.iload X26.here hx rfl (hb hby at_70) rfl  k) ?_
    show OwnWk _ _ _ _ (T26.setTop (mkF m 72 #[.val (.long u), .second, .val (.int r), .val (.int bd), .val (.ref b2), .val (.ref b9), .val (.int (own_r (own_land u bd) bd)), .val (.long (own_bias bd)), .second, .val (.long (own_prod (u + (-7046029254386353131 : Int64)) bd)), .second, .unset, .unset] [(.int (own_r (own_land u bd) bd))]))
    refine own_go (fun t k => XS.lload X26.here hx rfl (hb hby at_72) rfl  k) ?_
    show OwnWk _ _ _ _ (T26.setTop (mkF m 74 #[.val (.long u), .second, .val (.int r), .val (.int bd), .val (.ref b2), .val (.ref b9), .val (.int (own_r (own_land u bd) bd)), .val (.long (own_bias bd)), .second, .val (.long (own_prod (u + (-7046029254386353131 : Int64)) bd)), .second, .unset, .unset] [(.long (own_prod (u + (-7046029254386353131 : Int64)) bd)), (.int (own_r (own_land u bd) bd))]))
    refine own_go (fun t k => XS.bipush X26.here hx rfl (hb hby at_74) k) ?_
    show OwnWk _ _ _ _ (T26.setTop (mkF m 76 #[.val (.long u), .second, .val (.int r), .val (.int bd), .val (.ref b2), .val (.ref b9), .val (.int (own_r (own_land u bd) bd)), .val (.long (own_bias bd)), .second, .val (.long (own_prod (u + (-7046029254386353131 : Int64)) bd)), .second, .unset, .unset] [(.int (32 : Int32)), (.long (own_prod (u + (-7046029254386353131 : Int64)) bd)), (.int (own_r (own_land u bd) bd))]))
    refine own_go (fun t k => XS.lushr X26.here hx rfl (hb hby at_76) rfl k) ?_
    show OwnWk _ _ _ _ (T26.setTop (mkF m 77 #[.val (.long u), .second, .val (.int r), .val (.int bd), .val (.ref b2), .val (.ref b9), .val (.int (own_r (own_land u bd) bd)), .val (.long (own_bias bd)), .second, .val (.long (own_prod (u + (-7046029254386353131 : Int64)) bd)), .second, .unset, .unset] [(.long (((own_prod (u + (-7046029254386353131 : Int64)) bd).toUInt64 >>> ((32 : Int32) &&& 0x3f).toInt64.toUInt64).toInt64)), (.int (own_r (own_land u bd) bd))]))
    refine own_go (fun t k => XS.l2i X26.here hx rfl (hb hby at_77) rfl k) ?_
    show OwnWk _ _ _ _ (T26.setTop (mkF m 78 #[.val (.long u), .second, .val (.int r), .val (.int bd), .val (.ref b2), .val (.ref b9), .val (.int (own_r (own_land u bd) bd)), .val (.long (own_bias bd)), .second, .val (.long (own_prod (u + (-7046029254386353131 : Int64)) bd)), .second, .unset, .unset] [(.int ((((own_prod (u + (-7046029254386353131 : Int64)) bd).toUInt64 >>> ((32 : Int32) &&& 0x3f).toInt64.toUInt64).toInt64).toInt32)), (.int (own_r (own_land u bd) bd))]))
    refine own_go (fun t k => XS.icmpNo X26.here hx rfl (hb hby at_78) rfl (teq (by rw [own_land_1 hc31]; rfl)).2 k) ?_
    show OwnWk _ _ _ _ (T26.setTop (mkF m 81 #[.val (.long u), .second, .val (.int r), .val (.int bd), .val (.ref b2), .val (.ref b9), .val (.int (own_r (own_land u bd) bd)), .val (.long (own_bias bd)), .second, .val (.long (own_prod (u + (-7046029254386353131 : Int64)) bd)), .second, .unset, .unset] []))
    refine own_go (fun t k => XS.aload X26.here hx rfl (hb hby at_81) rfl rfl  k) ?_
    show OwnWk _ _ _ _ (T26.setTop (mkF m 83 #[.val (.long u), .second, .val (.int r), .val (.int bd), .val (.ref b2), .val (.ref b9), .val (.int (own_r (own_land u bd) bd)), .val (.long (own_bias bd)), .second, .val (.long (own_prod (u + (-7046029254386353131 : Int64)) bd)), .second, .unset, .unset] [(.ref b2)]))
    refine own_callV X26 hx hZ (y := (⟨"com/example/spikeline/spikeline/core/SeededRandom", "state", "()J"⟩ : MethodName)) (z := (⟨"com/example/spikeline/spikeline/core/SeededRandom", "state", "()J"⟩ : MethodName)) hown (hw _ (List.mem_of_getElem? (i := 33) rfl)) (hw _ (List.mem_of_getElem? (i := 34) rfl)) (notFace_of_selects (args := #[]) (mvT hZ (hw _ (List.mem_of_getElem? (i := 36) rfl)))) (hw _ (List.mem_of_getElem? (i := 36) rfl)) (hw _ (List.mem_of_getElem? (i := 35) rfl)) (hw _ (List.mem_of_getElem? (i := 7) rfl)) (hw _ (List.mem_of_getElem? (i := 37) rfl)) (by decide) (a := b2) F27 (argsL := []) (rest := []) (rm := ({ frames := 0, cells := 0, slots := 0, locals := 0 } : Room)) (h := h26) (rm6 l Z a0 hw b2 (own_land u bd) h26 n0 Z30 F29) e26 (W := 0) (by decide) (by decide) (by decide) (by decide) (g := (mkF m 83 #[.val (.long u), .second, .val (.int r), .val (.int bd), .val (.ref b2), .val (.ref b9), .val (.int (own_r (own_land u bd) bd)), .val (.long (own_bias bd)), .second, .val (.long (own_prod (u + (-7046029254386353131 : Int64)) bd)), .second, .unset, .unset] [(.ref b2)])) rfl (by rw [hml]; rfl) (lenOf pd_0 rfl) rfl (by show 2 * 0 + _ ≤ _; exact Nat.le_of_eq rfl) (hb hby at_83) (fun v40 T40 h40 L40 X40 e40 hQ40 => ?_)
    obtain ⟨rfl, Nq40, q40⟩ := hQ40
    have N40 := Fr.app N26 Nq40
    rw [q40] at e40
    show OwnWk _ _ _ _ (T40.setTop (mkF m 86 #[.val (.long u), .second, .val (.int r), .val (.int bd), .val (.ref b2), .val (.ref b9), .val (.int (own_r (own_land u bd) bd)), .val (.long (own_bias bd)), .second, .val (.long (own_prod (u + (-7046029254386353131 : Int64)) bd)), .second, .unset, .unset] [(.long (own_land u bd))]))
    refine own_go (fun t k => XS.aload X40.here hx rfl (hb hby at_86) rfl rfl  k) ?_
    show OwnWk _ _ _ _ (T40.setTop (mkF m 88 #[.val (.long u), .second, .val (.int r), .val (.int bd), .val (.ref b2), .val (.ref b9), .val (.int (own_r (own_land u bd) bd)), .val (.long (own_bias bd)), .second, .val (.long (own_prod (u + (-7046029254386353131 : Int64)) bd)), .second, .unset, .unset] [(.ref b9), (.long (own_land u bd))]))
    refine own_callV X40 hx hZ (y := (⟨"com/example/spikeline/spikeline/core/SeededRandom", "state", "()J"⟩ : MethodName)) (z := (⟨"com/example/spikeline/spikeline/core/SeededRandom", "state", "()J"⟩ : MethodName)) hown (hw _ (List.mem_of_getElem? (i := 33) rfl)) (hw _ (List.mem_of_getElem? (i := 34) rfl)) (notFace_of_selects (args := #[]) (mvT hZ (hw _ (List.mem_of_getElem? (i := 36) rfl)))) (hw _ (List.mem_of_getElem? (i := 36) rfl)) (hw _ (List.mem_of_getElem? (i := 35) rfl)) (hw _ (List.mem_of_getElem? (i := 7) rfl)) (hw _ (List.mem_of_getElem? (i := 37) rfl)) (by decide) (a := b9) F28 (argsL := []) (rest := [(.long (own_land u bd))]) (rm := ({ frames := 0, cells := 0, slots := 0, locals := 0 } : Room)) (h := h26) (rm6 l Z a0 hw b9 (u + (-7046029254386353131 : Int64)) h26 n0 Z30 Fq26) e40 (W := 2) (by decide) (by decide) (by decide) (by decide) (g := (mkF m 88 #[.val (.long u), .second, .val (.int r), .val (.int bd), .val (.ref b2), .val (.ref b9), .val (.int (own_r (own_land u bd) bd)), .val (.long (own_bias bd)), .second, .val (.long (own_prod (u + (-7046029254386353131 : Int64)) bd)), .second, .unset, .unset] [(.ref b9), (.long (own_land u bd))])) rfl (by rw [hml]; rfl) (lenOf pd_0 rfl) rfl (by show 2 * 0 + _ ≤ _; exact Nat.le_of_eq rfl) (hb hby at_88) (fun v41 T41 h41 L41 X41 e41 hQ41 => ?_)
    obtain ⟨rfl, Nq41, q41⟩ := hQ41
    have N41 := Fr.app N40 Nq41
    rw [q41] at e41
    show OwnWk _ _ _ _ (T41.setTop (mkF m 91 #[.val (.long u), .second, .val (.int r), .val (.int bd), .val (.ref b2), .val (.ref b9), .val (.int (own_r (own_land u bd) bd)), .val (.long (own_bias bd)), .second, .val (.long (own_prod (u + (-7046029254386353131 : Int64)) bd)), .second, .unset, .unset] [(.long (u + (-7046029254386353131 : Int64))), (.long (own_land u bd))]))
    refine own_go (fun t k => XS.lcmp X41.here hx rfl (hb hby at_91) rfl k) ?_
    show OwnWk _ _ _ _ (T41.setTop (mkF m 92 #[.val (.long u), .second, .val (.int r), .val (.int bd), .val (.ref b2), .val (.ref b9), .val (.int (own_r (own_land u bd) bd)), .val (.long (own_bias bd)), .second, .val (.long (own_prod (u + (-7046029254386353131 : Int64)) bd)), .second, .unset, .unset] [(.int (lcmpW (own_land u bd) (u + (-7046029254386353131 : Int64))))]))
    refine own_go (fun t k => XS.ifNo X41.here hx rfl (hb hby at_92) rfl ((if0 _ _).trans (teq (own_lc_eq.mpr (own_land_1 hc31))).2) k) ?_
    show OwnWk _ _ _ _ (T41.setTop (mkF m 95 #[.val (.long u), .second, .val (.int r), .val (.int bd), .val (.ref b2), .val (.ref b9), .val (.int (own_r (own_land u bd) bd)), .val (.long (own_bias bd)), .second, .val (.long (own_prod (u + (-7046029254386353131 : Int64)) bd)), .second, .unset, .unset] []))
    refine own_go (fun t k => XS.iconst X41.here hx rfl (hb hby at_95) k) ?_
    show OwnWk _ _ _ _ (T41.setTop (mkF m 96 #[.val (.long u), .second, .val (.int r), .val (.int bd), .val (.ref b2), .val (.ref b9), .val (.int (own_r (own_land u bd) bd)), .val (.long (own_bias bd)), .second, .val (.long (own_prod (u + (-7046029254386353131 : Int64)) bd)), .second, .unset, .unset] [(.int (1 : Int32))]))
    refine own_go (fun t k => XS.goto X41.here hx rfl (pc0 := 96) (pc' := 100) rfl (hb hby at_96) (by decide) (by decide) k) ?_
    show OwnWk _ _ _ _ (T41.setTop (mkF m 100 #[.val (.long u), .second, .val (.int r), .val (.int bd), .val (.ref b2), .val (.ref b9), .val (.int (own_r (own_land u bd) bd)), .val (.long (own_bias bd)), .second, .val (.long (own_prod (u + (-7046029254386353131 : Int64)) bd)), .second, .unset, .unset] [(.int (1 : Int32))]))
    exact own_retZ X41 hx hlk hret (by simp) (z' := (1 : Int32)) rfl (hb hby at_100) (by decide) (by decide) (by rw [e41]; exact ⟨rfl, N41⟩)
set_option maxRecDepth 65536 in
set_option maxHeartbeats 40000000 in
theorem comes_1 {Post : Tables → Env → Array Value → State → Outcome → State → Prop} (hpost : ∀ tb e args s v u, (limb_1_1.after args s (.returned v) u = true ∧ limb_1_2.after args s (.returned v) u = true) → FrameEnd s (.returned v) u (Jvm.fieldLocs frame_1_writes args s ++ Jvm.arrayLocs frame_1_arrays args s ++ Jvm.staticLocs frame_1_statics s) 16 128 → Post tb e args s (.returned v) u) :
    ArmFor flags0 classFile x code maxLocals ret World_1 tables_1 room_1 Calls_1 rest_1 Pre_1 Post := by
  intro l hfl _ _ p e ha hc hk s m args below hf hA hF happ hP
  obtain ⟨hcalls, hrest, hpre⟩ := hP
  obtain ⟨-, -, -, hnamed, -, -, -, hat⟩ := (Spec.applies_iff hf).mp happ
  obtain ⟨hg, hn⟩ := and_e (Cond.before_iff.mp (show (Jvm.Cond.and given_1 narrow_1).before args s = true from hpre))
  obtain ⟨g0, r0⟩ := and_e hg
  obtain ⟨g1, r1⟩ := and_e r0
  obtain ⟨w0, w1, rfl⟩ : ∃ w0 w1 : Value, args = #[w0, w1] := by
    have hs : args.size = 2 := by simpa [Cond.value, given_1] using g0
    obtain ⟨L⟩ := args
    match L, hs with
    | [w0, w1], _ => exact ⟨w0, w1, rfl⟩
  have hw := fun d (hd : d ∈ tables_1) => atoms_spec (ws := Jvm.Cond.code x code maxLocals ret :: tables_1) hat d (List.mem_cons_of_mem _ hd)
  obtain ⟨i0, ei0⟩ := isL_v g1
  obtain rfl : w0 = (.long i0) := Option.some.inj ei0
  obtain ⟨i1, ei1⟩ := is_v r1
  obtain rfl : w1 = (.int i1) := Option.some.inj ei1
  obtain ⟨n, o, h1, h2, h3, _, L, rfl, ⟨rfl, N⟩, hq⟩ := rm0 l s _ hw i0 i1 s.heap s.heap.size (Nat.le_refl _)  p e ha hc hk s m _ below hf ((Spec.applies_iff_loose hf).mp happ).1 ⟨rfl, State.Warmed39.refl s, rfl⟩ trivial
  refine ⟨n, _, h1, h2, h3, hpost _ _ _ _ _ _ ⟨Cond.after_iff.mpr rfl, Cond.after_iff.mpr (eq_i res_at (Term.int_eval (1)) rfl)⟩ ⟨hq.1, hq.2.1, (hq.2.2.sift fun y hy => Or.inr (N y hy)).mono (by decide) (by decide)⟩⟩
theorem main_1_1 : Claimed_1_1 := comes_1 fun _ _ _ _ _ _ h hF => ⟨h.1, hF⟩
theorem main_1_2 : Claimed_1_2 := comes_1 fun _ _ _ _ _ _ h hF => ⟨h.2, hF⟩
end Jvm.Pilot.@@N@@
namespace Jvm.Pilot.@@N@@
open Jvm Jvm.ClassFile Sem Op Lib Jvm.Free Jvm.Stand Jvm.Pilot.@@N@@.Jvm.D
/-! MADE BY PROGRAM (witnessworld.py) out of the Statement's table words and the real class files: 10 classes; the members and pool entries that the words name. The judged class is class 1, her method 1. -/
namespace start1
open Jvm.ClassFile
def u (s : String) : CpInfo := .utf8 (stringToUtf16 s)
/-- a pool by its gaps: so many unusable entries, then the entry; so many at the end -/
def gap : Nat → List CpInfo → List CpInfo
  | 0, r => r
  | n + 1, r => .unusable :: gap n r
def poolList (es : List (Nat × CpInfo)) (last : Nat) : List CpInfo := es.foldr (fun e r => gap e.1 (e.2 :: r)) (gap last [])
def pool (es : List (Nat × CpInfo)) (last : Nat) : Array CpInfo := ⟨poolList es last⟩
def fileOf (pool : Array CpInfo) (this : Nat) (attrs : Array Attribute := #[]) (ms : Array MethodInfo := #[]) (fl : Nat := 33) (sup : Nat := 0) (ifs : Array Nat := #[]) (fds : Array FieldInfo := #[]) : ClassFile where
  minorVersion := 0
  majorVersion := 65
  constantPool := pool
  accessFlags := fl
  thisClass := this
  superClass := sup
  interfaces := ifs
  fields := fds
  methods := ms
  attributes := attrs
def plain (name : String) (sup : Option ClassId) : Class where
  name := name
  kind := .ordinary
  loader := none
  accessFlags := 33
  super := sup
  interfaces := #[]
  cf := none
  fields := #[]
  methods := #[]
  instanceTypes := #[]
  staticTypes := #[]
  resolved := #[]
  callSites := []
  init := .initialized
  statics := none
  mirror := none

def pool0 : Array CpInfo := pool [(5, u "<init>"), (0, u "()V"), (1, .class_ 10), (1, u "java/lang/Object")] 113

def k0c0 : Code := { maxStack := 0, maxLocals := 1, code := object_method_1_code, exceptionTable := #[], attributes := #[] }
def k0m0 : Method := { name := "<init>", desc := "()V", sig := { parameters := [], returnType := none }, accessFlags := 1, code := some k0c0 }
/-- java/lang/Object -/
def k0 : Class := { plain "java/lang/Object" none with
  accessFlags := 33
  interfaces := #[]
  cf := some (fileOf pool0 8 #[] #[{ accessFlags := 1, nameIndex := 5, descriptorIndex := 6, attributes := #[] }] 33 0 #[] #[])
  fields := #[]
  methods := #[k0m0]
  instanceTypes := #[]
  staticTypes := #[]
  resolved := Array.replicate 124 none
  statics := none }

def pool1 : Array CpInfo := pool [(2, .class_ 4), (1, u "java/lang/Object"), (0, u "<init>"), (0, u "()V"), (0, .integer 2147483647), (0, .methodref 9 10), (0, .class_ 11), (0, .nameAndType 12 13), (0, u "java/lang/Math"), (0, u "max"), (0, u "(II)I"), (0, .class_ 15), (0, u "com/example/spikeline/spikeline/core/SeededRandom"), (0, .methodref 14 17), (0, .nameAndType 5 18), (0, u "(J)V"), (0, .methodref 14 20), (0, .nameAndType 21 22), (0, u "nextInt"), (0, u "(I)I"), (0, .long 4294967296), (1, .methodref 14 26), (0, .nameAndType 27 28), (0, u "nextLong"), (0, u "()J"), (0, .class_ 30), (0, u "com/example/spikeline/spikeline/core/SeededRandomNextIntPinLaw"), (0, .long 4294967295), (1, .methodref 14 34), (0, .nameAndType 35 28), (0, u "state"), (0, u "LOW"), (0, u "J"), (3, u "law"), (0, u "(JI)Z")] 3

def k1m0 : Method := { name := "<init>", desc := "()V", sig := { parameters := [], returnType := none }, accessFlags := 1, code := none }
def k1c1 : Code := { maxStack := 4, maxLocals := 13, code := code, exceptionTable := #[], attributes := #[] }
def k1m1 : Method := { name := "law", desc := "(JI)Z", sig := { parameters := [.long, .int], returnType := some .boolean }, accessFlags := 9, code := some k1c1 }
/-- com/example/spikeline/spikeline/core/SeededRandomNextIntPinLaw -/
def k1 : Class := { plain "com/example/spikeline/spikeline/core/SeededRandomNextIntPinLaw" (some 0) with
  accessFlags := 49
  interfaces := #[]
  cf := some (fileOf pool1 29 #[] #[{ accessFlags := 1, nameIndex := 5, descriptorIndex := 6, attributes := #[] }, { accessFlags := 9, nameIndex := 41, descriptorIndex := 42, attributes := #[] }] 49 2 #[] #[{ accessFlags := 26, nameIndex := 36, descriptorIndex := 37, attributes := #[] }])
  fields := #[{ name := "LOW", type := .long, accessFlags := 26, slot := 0, constantValue := 0 }]
  methods := #[k1m0, k1m1]
  instanceTypes := #[]
  staticTypes := #[.long]
  resolved := Array.replicate 46 none
  statics := none }

def pool2 : Array CpInfo := pool [(1, .class_ 2), (0, u "java/lang/Math"), (1, .class_ 6), (1, u "java/lang/Object"), (0, u "<init>"), (0, u "()V"), (89, .class_ 100), (1, u "java/lang/Math$RandomNumberGeneratorHolder"), (71, u "negativeZeroFloatBits"), (0, u "J"), (2, u "negativeZeroDoubleBits"), (21, u "max"), (46, u "$assertionsDisabled"), (0, u "Z"), (88, u "(II)I"), (2, u "twoToTheDoubleScaleDown"), (0, u "D"), (4, u "twoToTheDoubleScaleUp"), (9, u "E"), (3, u "PI"), (2, u "TAU"), (2, u "DEGREES_TO_RADIANS"), (0, u "RADIANS_TO_DEGREES")] 94

def k2m0 : Method := { name := "<init>", desc := "()V", sig := { parameters := [], returnType := none }, accessFlags := 2, code := none }
def k2c1 : Code := { maxStack := 2, maxLocals := 2, code := jdk_29_method_65_code, exceptionTable := #[], attributes := #[] }
def k2m1 : Method := { name := "max", desc := "(II)I", sig := { parameters := [.int, .int], returnType := some .int }, accessFlags := 9, code := some k2c1 }
/-- java/lang/Math -/
def k2 : Class := { plain "java/lang/Math" (some 0) with
  accessFlags := 49
  interfaces := #[]
  cf := some (fileOf pool2 1 #[.nestMembers #[98]] #[{ accessFlags := 2, nameIndex := 7, descriptorIndex := 8, attributes := #[] }, { accessFlags := 9, nameIndex := 198, descriptorIndex := 335, attributes := #[] }] 49 4 #[] #[{ accessFlags := 25, nameIndex := 354, descriptorIndex := 339, attributes := #[] }, { accessFlags := 25, nameIndex := 358, descriptorIndex := 339, attributes := #[] }, { accessFlags := 25, nameIndex := 361, descriptorIndex := 339, attributes := #[] }, { accessFlags := 26, nameIndex := 364, descriptorIndex := 339, attributes := #[] }, { accessFlags := 26, nameIndex := 365, descriptorIndex := 339, attributes := #[] }, { accessFlags := 26, nameIndex := 172, descriptorIndex := 173, attributes := #[] }, { accessFlags := 26, nameIndex := 176, descriptorIndex := 173, attributes := #[] }, { accessFlags := 8, nameIndex := 344, descriptorIndex := 339, attributes := #[] }, { accessFlags := 8, nameIndex := 338, descriptorIndex := 339, attributes := #[] }, { accessFlags := 4120, nameIndex := 245, descriptorIndex := 246, attributes := #[] }])
  fields := #[{ name := "E", type := .double, accessFlags := 25, slot := 0, constantValue := 0 }, { name := "PI", type := .double, accessFlags := 25, slot := 1, constantValue := 0 }, { name := "TAU", type := .double, accessFlags := 25, slot := 2, constantValue := 0 }, { name := "DEGREES_TO_RADIANS", type := .double, accessFlags := 26, slot := 3, constantValue := 0 }, { name := "RADIANS_TO_DEGREES", type := .double, accessFlags := 26, slot := 4, constantValue := 0 }, { name := "negativeZeroFloatBits", type := .long, accessFlags := 26, slot := 5, constantValue := 0 }, { name := "negativeZeroDoubleBits", type := .long, accessFlags := 26, slot := 6, constantValue := 0 }, { name := "twoToTheDoubleScaleUp", type := .double, accessFlags := 8, slot := 7, constantValue := 0 }, { name := "twoToTheDoubleScaleDown", type := .double, accessFlags := 8, slot := 8, constantValue := 0 }, { name := "$assertionsDisabled", type := .boolean, accessFlags := 4120, slot := 9, constantValue := 0 }]
  methods := #[k2m0, k2m1]
  instanceTypes := #[]
  staticTypes := #[.double, .double, .double, .double, .double, .long, .long, .double, .double, .boolean]
  resolved := Array.replicate 460 none
  statics := none }

def pool3 : Array CpInfo := pool [(1, .methodref 2 3), (0, .class_ 4), (0, .nameAndType 5 6), (0, u "java/lang/Object"), (0, u "<init>"), (0, u "()V"), (0, .fieldref 8 9), (0, .class_ 10), (0, .nameAndType 11 12), (0, u "com/example/spikeline/spikeline/core/SeededRandom"), (0, u "state"), (0, u "J"), (0, .long 11400714819323198485), (1, .long 13787848793156543929), (1, .long 10723151780598845931), (10, .methodref 8 29), (0, .nameAndType 30 31), (0, u "nextLong"), (0, u "()J"), (0, .long 4294967295), (1, .long 4294967296), (9, u "nextInt"), (0, u "(I)I"), (6, u "GAMMA"), (1, u "LOW_32_BITS"), (0, u "(J)V")] 24

def k3c0 : Code := { maxStack := 3, maxLocals := 3, code := prog_8_method_1_code, exceptionTable := #[], attributes := #[] }
def k3m0 : Method := { name := "<init>", desc := "(J)V", sig := { parameters := [.long], returnType := none }, accessFlags := 1, code := some k3c0 }
def k3c1 : Code := { maxStack := 2, maxLocals := 1, code := prog_8_method_2_code, exceptionTable := #[], attributes := #[] }
def k3m1 : Method := { name := "state", desc := "()J", sig := { parameters := [], returnType := some .long }, accessFlags := 1, code := some k3c1 }
def k3c2 : Code := { maxStack := 5, maxLocals := 3, code := prog_8_method_3_code, exceptionTable := #[], attributes := #[] }
def k3m2 : Method := { name := "nextLong", desc := "()J", sig := { parameters := [], returnType := some .long }, accessFlags := 1, code := some k3c2 }
def k3c3 : Code := { maxStack := 4, maxLocals := 6, code := prog_8_method_4_code, exceptionTable := #[], attributes := #[] }
def k3m3 : Method := { name := "nextInt", desc := "(I)I", sig := { parameters := [.int], returnType := some .int }, accessFlags := 1, code := some k3c3 }
/-- com/example/spikeline/spikeline/core/SeededRandom -/
def k3 : Class := { plain "com/example/spikeline/spikeline/core/SeededRandom" (some 0) with
  accessFlags := 49
  interfaces := #[]
  cf := some (fileOf pool3 8 #[] #[{ accessFlags := 1, nameIndex := 5, descriptorIndex := 55, attributes := #[] }, { accessFlags := 1, nameIndex := 11, descriptorIndex := 31, attributes := #[] }, { accessFlags := 1, nameIndex := 30, descriptorIndex := 31, attributes := #[] }, { accessFlags := 1, nameIndex := 44, descriptorIndex := 45, attributes := #[] }] 49 2 #[] #[{ accessFlags := 26, nameIndex := 52, descriptorIndex := 12, attributes := #[] }, { accessFlags := 26, nameIndex := 54, descriptorIndex := 12, attributes := #[] }, { accessFlags := 2, nameIndex := 11, descriptorIndex := 12, attributes := #[] }])
  fields := #[{ name := "GAMMA", type := .long, accessFlags := 26, slot := 0, constantValue := 0 }, { name := "LOW_32_BITS", type := .long, accessFlags := 26, slot := 1, constantValue := 0 }, { name := "state", type := .long, accessFlags := 2, slot := 0, constantValue := 0 }]
  methods := #[k3m0, k3m1, k3m2, k3m3]
  instanceTypes := #[.long]
  staticTypes := #[.long, .long]
  resolved := Array.replicate 80 none
  statics := none }

def pool4 : Array CpInfo := pool [(1, u "java/lang/Cloneable"), (0, .class_ 1), (0, u "java/lang/Object"), (0, .class_ 3)] 3

/-- java/lang/Cloneable -/
def k4 : Class := { plain "java/lang/Cloneable" (some 0) with
  accessFlags := 1537
  interfaces := #[]
  cf := some (fileOf pool4 2 #[] #[] 1537 4 #[] #[])
  fields := #[]
  methods := #[]
  instanceTypes := #[]
  staticTypes := #[]
  resolved := Array.replicate 8 none
  statics := none }

def pool5 : Array CpInfo := pool [(1, u "java/io/Serializable"), (0, .class_ 1), (0, u "java/lang/Object"), (0, .class_ 3)] 3

/-- java/io/Serializable -/
def k5 : Class := { plain "java/io/Serializable" (some 0) with
  accessFlags := 1537
  interfaces := #[]
  cf := some (fileOf pool5 2 #[] #[] 1537 4 #[] #[])
  fields := #[]
  methods := #[]
  instanceTypes := #[]
  staticTypes := #[]
  resolved := Array.replicate 8 none
  statics := none }

/-- the primitive byte -/
def k6 : Class := { plain "byte" none with kind := .primitive 'B', accessFlags := 0x411 }
/-- [B -/
def k7 : Class := { plain "[B" (some 0) with kind := .array 6 .byte, interfaces := #[4, 5], accessFlags := 1041 }

/-- the primitive int -/
def k8 : Class := { plain "int" none with kind := .primitive 'I', accessFlags := 0x411 }
/-- [I -/
def k9 : Class := { plain "[I" (some 0) with kind := .array 8 .int, interfaces := #[4, 5], accessFlags := 1041 }

def heap : Heap := #[]
def classes : Array Class := #[k0, k1, k2, k3, k4, k5, k6, k7, k8, k9]
def interned : List (Array UInt16 × Addr) := []
def slotsUsed : Nat := 0
def theMethod : MethodId := ⟨1, 1⟩
def args0 : Array Value := #[.long 5, .int 7]
def aboutOver (below : List Frame) : State where
  vm := { classes := classes, interned := interned.toArray }
  heap := heap
  slotsUsed := slotsUsed
  threads := #[{ frames := .invoking theMethod args0 :: below }]
def below0 : List Frame := [.native { method := ⟨0, 0⟩, args := #[] }]
def about1 : State := aboutOver below0
def p0 : Program := .bare "" "" ""
def e0 : Env := launch0.env 0 0 0
theorem w_frames : about1.frames = Frame.invoking theMethod args0 :: below0 := rfl
set_option maxRecDepth 65536 in
theorem w_args : argsFit about1.vm theMethod args0 = true := by decide +kernel
set_option maxRecDepth 65536 in
theorem w_heap : heapFits about1 = true := by decide +kernel
set_option maxRecDepth 65536 in
theorem w_runnable : about1.curStatus? = some .runnable := by decide +kernel
set_option maxRecDepth 65536 in
theorem w_alone : about1.alone = true := by decide +kernel
set_option maxRecDepth 65536 in
theorem w_named : about1.methodNamed? x = some theMethod := by decide +kernel
set_option maxRecDepth 65536 in
theorem w_hears : about1.hears theMethod below0 = true := by decide +kernel
set_option maxRecDepth 65536 in
theorem w_ripe : about1.ripe theMethod args0 below0 = true := by decide +kernel
theorem w_running : about1.status = .running := rfl
set_option maxRecDepth 65536 in
theorem w_room : about1.hasRoom e0.platform room_1 = true :=
  launch0.hasRoom_least _ room_1 (by decide +kernel) (by decide +kernel) (by decide +kernel) (by decide +kernel) (by decide +kernel) (by decide +kernel)
theorem allAtoms_all (ts : List Jvm.Cond) (a : Array Jvm.Value) (st : Jvm.State) : (allAtoms ts).before a st = ts.all (fun c => c.before a st) := by
  induction ts with
  | nil => rfl
  | cons c t ih =>
    show (Jvm.Cond.and c (allAtoms t)).before a st = _
    rw [Jvm.Cond.before_and, ih, List.all_cons]
def words1 : List Jvm.Cond := Jvm.Cond.code x code maxLocals ret :: tables_1
/-- a 'code' word, met by the world's own term for the bytes: nothing is compared byte by byte -/
theorem code_word {y : MethodName} {bytes : ByteArray} {mx : Nat} {rt : Option FieldType} {a : Array Value} {s : State} {m : MethodId} {meth : Method} {c : Code} (h1 : s.methodNamed? y = some m) (h2 : s.vm.method? m = some meth) (h3 : meth.code = some c) (h4 : c.code = bytes)
    (h5 : (c.maxLocals == mx && c.exceptionTable.isEmpty && decide (c.maxStack ≤ mostOperands) && decide (meth.sig.returnType = rt) && !meth.locks && decide (parseMethodDescriptor y.desc = some meth.sig)) = true) : (Jvm.Cond.code y bytes mx rt).before a s = true := by
  simp only [Bool.and_eq_true, beq_iff_eq, Bool.not_eq_true', decide_eq_true_eq] at h5
  obtain ⟨⟨⟨⟨⟨g1, g2⟩, g3⟩, g4⟩, g5⟩, g6⟩ := h5
  simp [Cond.before, Cond.holds, Cond.value, h1, h2, h3, h4, g1, g2, g3, g4, g5, g6]
def isCode : Jvm.Cond → Bool
  | .code _ _ _ _ => true
  | _ => false
theorem all_split {L : List Jvm.Cond} {P : Jvm.Cond → Bool} (h1 : L.all (fun c => isCode c || P c) = true) (h2 : ∀ c ∈ L.filter isCode, P c = true) : L.all P = true := by
  refine List.all_eq_true.mpr fun c hc => ?_
  have h := List.all_eq_true.mp h1 c hc
  rcases Bool.eq_false_or_eq_true (isCode c) with hi | hi
  · exact h2 c (List.mem_filter.mpr ⟨hc, hi⟩)
  · simpa [hi] using h
set_option maxRecDepth 65536 in
theorem w_c0 : (Jvm.Cond.code x code maxLocals ret).before args0 about1 = true := code_word (m := ⟨1, 1⟩) (meth := k1m1) (c := k1c1) (by decide +kernel) rfl rfl rfl (by decide +kernel)
set_option maxRecDepth 65536 in
theorem w_c1 : (Jvm.Cond.code ({ cls := "java/lang/Math", name := "max", desc := "(II)I" } : Jvm.MethodName) jdk_29_method_65_code (2 : Nat) (Option.some Jvm.ClassFile.FieldType.int)).before args0 about1 = true := code_word (m := ⟨2, 1⟩) (meth := k2m1) (c := k2c1) (by decide +kernel) rfl rfl rfl (by decide +kernel)
set_option maxRecDepth 65536 in
theorem w_c2 : (Jvm.Cond.code ({ cls := "com/example/spikeline/spikeline/core/SeededRandom", name := "<init>", desc := "(J)V" } : Jvm.MethodName) prog_8_method_1_code (3 : Nat) (Option.none : Option Jvm.ClassFile.FieldType)).before args0 about1 = true := code_word (m := ⟨3, 0⟩) (meth := k3m0) (c := k3c0) (by decide +kernel) rfl rfl rfl (by decide +kernel)
set_option maxRecDepth 65536 in
theorem w_c3 : (Jvm.Cond.code ({ cls := "java/lang/Object", name := "<init>", desc := "()V" } : Jvm.MethodName) object_method_1_code (1 : Nat) (Option.none : Option Jvm.ClassFile.FieldType)).before args0 about1 = true := code_word (m := ⟨0, 0⟩) (meth := k0m0) (c := k0c0) (by decide +kernel) rfl rfl rfl (by decide +kernel)
set_option maxRecDepth 65536 in
theorem w_c4 : (Jvm.Cond.code ({ cls := "com/example/spikeline/spikeline/core/SeededRandom", name := "nextInt", desc := "(I)I" } : Jvm.MethodName) prog_8_method_4_code (6 : Nat) (Option.some Jvm.ClassFile.FieldType.int)).before args0 about1 = true := code_word (m := ⟨3, 3⟩) (meth := k3m3) (c := k3c3) (by decide +kernel) rfl rfl rfl (by decide +kernel)
set_option maxRecDepth 65536 in
theorem w_c5 : (Jvm.Cond.code ({ cls := "com/example/spikeline/spikeline/core/SeededRandom", name := "nextLong", desc := "()J" } : Jvm.MethodName) prog_8_method_3_code (3 : Nat) (Option.some Jvm.ClassFile.FieldType.long)).before args0 about1 = true := code_word (m := ⟨3, 2⟩) (meth := k3m2) (c := k3c2) (by decide +kernel) rfl rfl rfl (by decide +kernel)
set_option maxRecDepth 65536 in
theorem w_c6 : (Jvm.Cond.code ({ cls := "com/example/spikeline/spikeline/core/SeededRandom", name := "state", desc := "()J" } : Jvm.MethodName) prog_8_method_2_code (1 : Nat) (Option.some Jvm.ClassFile.FieldType.long)).before args0 about1 = true := code_word (m := ⟨3, 1⟩) (meth := k3m1) (c := k3c1) (by decide +kernel) rfl rfl rfl (by decide +kernel)
def codes1 : List Jvm.Cond := [Jvm.Cond.code x code maxLocals ret, Jvm.Cond.code ({ cls := "java/lang/Math", name := "max", desc := "(II)I" } : Jvm.MethodName) jdk_29_method_65_code (2 : Nat) (Option.some Jvm.ClassFile.FieldType.int), Jvm.Cond.code ({ cls := "com/example/spikeline/spikeline/core/SeededRandom", name := "<init>", desc := "(J)V" } : Jvm.MethodName) prog_8_method_1_code (3 : Nat) (Option.none : Option Jvm.ClassFile.FieldType), Jvm.Cond.code ({ cls := "java/lang/Object", name := "<init>", desc := "()V" } : Jvm.MethodName) object_method_1_code (1 : Nat) (Option.none : Option Jvm.ClassFile.FieldType), Jvm.Cond.code ({ cls := "com/example/spikeline/spikeline/core/SeededRandom", name := "nextInt", desc := "(I)I" } : Jvm.MethodName) prog_8_method_4_code (6 : Nat) (Option.some Jvm.ClassFile.FieldType.int), Jvm.Cond.code ({ cls := "com/example/spikeline/spikeline/core/SeededRandom", name := "nextLong", desc := "()J" } : Jvm.MethodName) prog_8_method_3_code (3 : Nat) (Option.some Jvm.ClassFile.FieldType.long), Jvm.Cond.code ({ cls := "com/example/spikeline/spikeline/core/SeededRandom", name := "state", desc := "()J" } : Jvm.MethodName) prog_8_method_2_code (1 : Nat) (Option.some Jvm.ClassFile.FieldType.long)]
set_option maxRecDepth 65536 in
theorem codes_eq : words1.filter isCode = codes1 := rfl
theorem w_codes : ∀ c ∈ words1.filter isCode, c.before args0 about1 = true := by
  rw [codes_eq]
  intro c hc
  simp only [codes1, List.mem_cons, List.not_mem_nil, or_false] at hc
  rcases hc with rfl | rfl | rfl | rfl | rfl | rfl | rfl
  · exact w_c0
  · exact w_c1
  · exact w_c2
  · exact w_c3
  · exact w_c4
  · exact w_c5
  · exact w_c6
set_option maxRecDepth 65536 in
theorem w_t1 : (words1.take 24).all (fun c => isCode c || c.before args0 about1) = true := by decide +kernel
set_option maxRecDepth 65536 in
theorem w_t2 : (words1.drop 24).all (fun c => isCode c || c.before args0 about1) = true := by decide +kernel
theorem w_tables : (allAtoms (Jvm.Cond.code x code maxLocals ret :: tables_1)).before args0 about1 = true := by
  rw [allAtoms_all]
  show words1.all (fun c => c.before args0 about1) = true
  refine all_split ?_ w_codes
  rw [← List.take_append_drop 24 words1, List.all_append, w_t1, w_t2]
  rfl
set_option maxRecDepth 65536 in
theorem w_case : (Jvm.Cond.and given_1 narrow_1).before args0 about1 = true := by decide +kernel
theorem w_applies : (headSpec (Jvm.Cond.code x code maxLocals ret :: tables_1) room_1).applies x e0.platform about1 = true :=
  (Spec.applies_iff w_frames).mpr ⟨w_running, w_runnable, w_alone, w_named, w_hears, w_ripe, w_room, w_tables⟩
theorem atStart : AtStart classFile x code maxLocals ret World_1 tables_1 room_1 Calls_1 rest_1 Pre_1 launch0 p0 e0 about1 theMethod args0 below0 :=
  ⟨lists_1, trivial, launch0.admits_env _ _ _, launch0.least_env, fairChoices_fair.cas, fairChoices_fair.clock, w_frames, w_args, w_heap, w_applies, trivial, trivial, w_case⟩
end start1
theorem witness_1 : WitnessClaimed_1 := ⟨start1.p0, start1.e0, start1.about1, start1.theMethod, start1.args0, start1.below0, start1.atStart⟩
end Jvm.Pilot.@@N@@
