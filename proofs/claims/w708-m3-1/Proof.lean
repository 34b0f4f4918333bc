import JvmDerived
import JvmDerived.Pilot.@@N@@Statement
import JvmDerived.Pilot.@@N@@Code
set_option linter.unusedVariables false
set_option linter.unusedSimpArgs false
namespace Jvm.Pilot.@@N@@
open Jvm Jvm.ClassFile Sem Op Lib Jvm.Free Jvm.Stand Jvm.LawKit Jvm.RoadKit Bundle Jvm.Pilot.@@N@@.Jvm.D
/-! own: the walk in continuation form: 'from the state A the body ends, and then Q' -/
def OwnWk (p : Program) (e : Env) (below : List Frame) (P : Option Value → State → List Loc → Prop) (A : State) : Prop :=
  ∃ s₂ v L, Steps p.tables e below A s₂ ∧ s₂.status = .running ∧ Ended s₂ below (.returned v) ∧ P v s₂ L
abbrev OwnP (s : State) (Q : Option Value → Heap → List Loc → Prop) (k n : Nat) : Option Value → State → List Loc → Prop := fun v t L => Q v t.heap L ∧ FrameEnd s (.returned v) t L k n
def OwnMet (l : Launch) (y : MethodName) (bytes : ByteArray) (maxL : Nat) (ret : Option FieldType) (ws : List Jvm.Cond) (rm : Room) (Z : State) (as' : Array Value) (h0 : Heap) (Q : Option Value → Heap → List Loc → Prop) : Prop :=
  MetFree l y (head1 (Jvm.Cond.code y bytes maxL ret :: ws) rm) (fun a U => a = as' ∧ Z.Warmed39 U.vm ∧ U.heap = h0) (fun _ _ _ _ _ => True)
    (fun _ U o U' => ∃ v L, o = .returned v ∧ Q v U'.heap L ∧ FrameEnd U o U' L rm.cells rm.slots)
def OAr (Z : State) (h : Heap) (a : Addr) (ty : FieldType) (vs : List Value) : Prop := ∃ c : Cell, Arr Z h a c ty ∧ c.slots = vs.toArray
theorem OAr.ext {Z : State} {h h' : Heap} {a : Addr} {ty : FieldType} {vs : List Value} (A : OAr Z h a ty vs) (E : Ext h h') : OAr Z h' a ty vs := by
  obtain ⟨c, A, e⟩ := A; exact ⟨c, A.ext E, e⟩
theorem OAr.other {Z : State} {h h' : Heap} {a b : Addr} {ty : FieldType} {vs : List Value} {sl : Nat} {v : Value} (A : OAr Z h b ty vs) (W : Wr h h' a sl v) (q : b ≠ a) : OAr Z h' b ty vs := by
  obtain ⟨c, A, e⟩ := A; exact ⟨c, A.other W q, e⟩
theorem OAr.keep {Z : State} {h h' : Heap} {a : Addr} {ty : FieldType} {vs : List Value} {ws : List Addr} (A : OAr Z h a ty vs) (K : Keep h h' ws) (q : a ∉ ws) : OAr Z h' a ty vs := by
  obtain ⟨c, A, e⟩ := A; exact ⟨c, ⟨K.2.1 a c A.1 q, A.2⟩, e⟩
theorem OAr.lt {Z : State} {h : Heap} {a : Addr} {ty : FieldType} {vs : List Value} (A : OAr Z h a ty vs) : a < h.size := by
  obtain ⟨c, A, e⟩ := A; exact A.lt
theorem OAr.set {Z : State} {h h' : Heap} {a : Addr} {ty : FieldType} {vs : List Value} {sl : Nat} {v : Value} (A : OAr Z h a ty vs) (W : Wr h h' a sl v) : OAr Z h' a ty (vs.set sl v) := by
  obtain ⟨c, A, e⟩ := A
  refine ⟨_, A.same W, ?_⟩
  show c.slots.setIfInBounds sl v = _
  rw [e]; simp
theorem own_plE {Z : State} {h : Heap} {a : Addr} {C : String} (E : Exa Z h a C) : ∀ c : Cell, h[a]? = some c → c.vm.isStatics = false := fun c hc => by
  obtain ⟨c', k, h1, -, -, h4, -⟩ := E; cases h1.symm.trans hc; exact h4
theorem own_plV {Z : State} {h : Heap} {a : Addr} {ty : FieldType} {vs : List Value} (A : OAr Z h a ty vs) : ∀ c : Cell, h[a]? = some c → c.vm.isStatics = false := fun c hc => by
  obtain ⟨c', A, -⟩ := A; cases A.1.symm.trans hc; exact A.plain
theorem own_sta_keep {Z : State} {h h' : Heap} {ws : List Addr} {O f d : String} {v : Value} (F : Sta Z h O f d v) (K : Keep h h' ws) (q : ∀ x ∈ ws, ∀ c : Cell, h[x]? = some c → c.vm.isStatics = false) : Sta Z h' O f d v := by
  obtain ⟨cf, i, k, f, st, cell, h1, h2, h3, h4, h5, h6, h7⟩ := F
  refine ⟨cf, i, k, f, st, cell, h1, h2, h3, h4, K.2.1 st cell h5 (fun m => ?_), h6, h7⟩
  have := q st m cell h5
  rw [h6] at this; cases this
theorem own_ins_keep {Z : State} {h h' : Heap} {ws : List Addr} {a : Addr} {C : String} {b : Bool} (F : Ins Z h a C b) (K : Keep h h' ws) : Ins Z h' a C b := by
  obtain ⟨cell, cT, h1, h2, h3⟩ := F
  obtain ⟨c', q, r1, r2, -⟩ := K.2.2 a cell h1
  exact ⟨c', cT, q, h2, by rw [r1, r2]; exact h3⟩
section Own
variable {p : Program} {l : Launch} {e : Env} {R : Room} {s : State} {m : MethodId} {args : Array Value} {below : List Frame} {meth : Method} {c : Code} {T : State} {locs : List Loc} {cells slots : Nat}
  {P : Option Value → State → List Loc → Prop} {Q : Option Value → Heap → List Loc → Prop} {k n : Nat} {Z : State} {a0 : Array Value} {h : Heap} {g : JFrame} {rest : List Value}
theorem own_go {A B : State} (st : ∀ t, Steps p.tables e below B t → Steps p.tables e below A t) (h : OwnWk p e below P B) : OwnWk p e below P A := by
  obtain ⟨s₂, v, L, h1, r⟩ := h; exact ⟨s₂, v, L, st _ h1, r⟩
theorem own_met {y : MethodName} {bytes : ByteArray} {maxL : Nat} {ret : Option FieldType} {ws : List Jvm.Cond} {rm : Room} {as' : Array Value} {h0 : Heap} (hpl : plainFor y = true)
    (body : ∀ (p : Program) (e : Env) (s : State) (m : MethodId) (below : List Frame) (meth : Method) (c : Code) (s₁ : State), p.tables.exec = Jvm.exec → c.code = bytes → c.maxLocals = maxL → s.vm.findClass y.cls = some m.cls → meth.name = y.name → meth.sig.returnType = ret → meth.locks = false → Z.Warmed39 s.vm →
      Stand p l e rm s m as' below meth c s₁ [] 0 0 → s₁.heap = h0 → OwnWk p e below (OwnP s Q rm.cells rm.slots) (s₁.setTop (entryFrame m as' maxL))) : OwnMet l y bytes maxL ret ws rm Z as' h0 Q := by
  refine MetFree.of_bodySF hpl hisR ?_
  intro p e s m args below meth c s₁ Bd hml0 hP hK
  obtain ⟨rfl, hZ, hh⟩ := hP
  obtain ⟨s₂, v, L, h1, h2, h3, h4, h5⟩ := body p e s m below meth c s₁ Bd.exec Bd.bytes hml0 (findClass_of_methodNamed Bd.named) (name_of_methodNamed Bd.named Bd.method).1 Bd.returns (BodyLoose.notSynchronized Bd) hZ (Stand.of_body Bd) (by rw [← hh, Bd.state]; rfl)
  exact ⟨s₂, _, h1, h2, h3, v, L, rfl, h4, h5⟩
theorem own_out0 {A : State} {v : Option Value} (X : Stand p l e R s m args below meth c T locs cells slots) (hlk : meth.locks = false) (hv : meth.sig.returnType = none → v = none)
    (st : ∀ fs, (∀ (f : JFrame) (acts : List Action), f.method = m → f.locked = none → f.entered = [] → (doReturn e (T.setTop f) acts v).1 = T.setFrames fs) → Steps p.tables e below A (T.setFrames fs))
    (hq : ∀ t : State, t.heap = T.heap → FrameEnd s (.returned v) t locs cells slots → P v t locs) : OwnWk p e below P A := by
  obtain ⟨fs, hr, hrun, hended, hW, hsame⟩ := X.leave (v := v) hv hlk
  exact ⟨_, v, locs, st fs hr, hrun, hended, hq _ rfl ⟨⟨v, rfl⟩, hW, hsame⟩⟩
theorem own_out {A : State} {v : Option Value} (X : Stand p l e R s m args below meth c T locs cells slots) (hlk : meth.locks = false) (hv : meth.sig.returnType = none → v = none)
    (st : ∀ fs, (∀ (f : JFrame) (acts : List Action), f.method = m → f.locked = none → f.entered = [] → (doReturn e (T.setTop f) acts v).1 = T.setFrames fs) → Steps p.tables e below A (T.setFrames fs))
    (hc : cells ≤ k) (hs : slots ≤ n) (hq : Q v T.heap locs) : OwnWk p e below (OwnP s Q k n) A :=
  own_out0 X hlk hv st fun t ht hF => ⟨by rw [ht]; exact hq, hF.1, hF.2.1, hF.2.2.mono hc hs⟩
theorem own_retI (X : Stand p l e R s m args below meth c T locs cells slots) (hx : p.tables.exec = Jvm.exec) (hlk : meth.locks = false) (hret : meth.sig.returnType = some .int) {pc : Nat} {Ls : Array Slot} {z : Int32} (hd : decode c.code pc = .ok (.ireturn, 1)) (hc : cells ≤ k) (hs : slots ≤ n)
    (hq : Q (some (.int z)) T.heap locs) : OwnWk p e below (OwnP s Q k n) (T.setTop (mkF m pc Ls (.int z :: rest))) :=
  own_out X hlk (fun q => by rw [hret] at q; cases q) (fun fs hr => retOut X hx hret rfl (Or.inl ⟨rfl, Or.inl rfl, z, rfl⟩) hd hr) hc hs hq
theorem own_retZ (X : Stand p l e R s m args below meth c T locs cells slots) (hx : p.tables.exec = Jvm.exec) (hlk : meth.locks = false) {t : FieldType} (hret : meth.sig.returnType = some t) (ht : t = .boolean ∨ t = .byte ∨ t = .char ∨ t = .short) {pc : Nat} {Ls : Array Slot} {z z' : Int32} (hz : nar t z = z') (hd : decode c.code pc = .ok (.ireturn, 1)) (hc : cells ≤ k) (hs : slots ≤ n)
    (hq : Q (some (.int z')) T.heap locs) : OwnWk p e below (OwnP s Q k n) (T.setTop (mkF m pc Ls (.int z :: rest))) := by
  subst hz
  exact own_out X hlk (fun q => by rw [hret] at q; cases q) (fun fs hr => retN X hx hret ht hd hr) hc hs hq
theorem own_retJ (X : Stand p l e R s m args below meth c T locs cells slots) (hx : p.tables.exec = Jvm.exec) (hlk : meth.locks = false) (hret : meth.sig.returnType = some .long) {pc : Nat} {Ls : Array Slot} {z : Int64} (hd : decode c.code pc = .ok (.lreturn, 1)) (hc : cells ≤ k) (hs : slots ≤ n)
    (hq : Q (some (.long z)) T.heap locs) : OwnWk p e below (OwnP s Q k n) (T.setTop (mkF m pc Ls (.long z :: rest))) :=
  own_out X hlk (fun q => by rw [hret] at q; cases q) (fun fs hr => retOut X hx hret rfl (Or.inr (Or.inl ⟨rfl, rfl, z, rfl⟩)) hd hr) hc hs hq
theorem own_retA (X : Stand p l e R s m args below meth c T locs cells slots) (hx : p.tables.exec = Jvm.exec) (hlk : meth.locks = false) {t : FieldType} (hret : meth.sig.returnType = some t) (ht : t.isReference = true) {pc : Nat} {Ls : Array Slot} {v : Value} (hv : v.isRef = true) (hn : narrow t v = v) (hd : decode c.code pc = .ok (.areturn, 1)) (hc : cells ≤ k) (hs : slots ≤ n)
    (hq : Q (some v) T.heap locs) : OwnWk p e below (OwnP s Q k n) (T.setTop (mkF m pc Ls (v :: rest))) :=
  own_out X hlk (fun q => by rw [hret] at q; cases q) (fun fs hr => retOut X hx hret hn (Or.inr (Or.inr (Or.inr (Or.inr ⟨rfl, ht, hv⟩)))) hd hr) hc hs hq
theorem own_retV (X : Stand p l e R s m args below meth c T locs cells slots) (hx : p.tables.exec = Jvm.exec) (hlk : meth.locks = false) (hret : meth.sig.returnType = none) {pc : Nat} {Ls : Array Slot} (hd : decode c.code pc = .ok (.return_, 1)) (hc : cells ≤ k) (hs : slots ≤ n)
    (hq : Q none T.heap locs) : OwnWk p e below (OwnP s Q k n) (T.setTop (mkF m pc Ls [])) :=
  own_out X hlk (fun _ => rfl) (fun fs hr => X.returnOut hx hret hd hr) hc hs hq
/-! calls by a contract -/
variable {own C : String} {idx cnt : Nat} {y z : MethodName} {bytes : ByteArray} {maxL : Nat} {ret : Option FieldType} {rm : Room} {Q' : Option Value → Heap → List Loc → Prop} {W : Nat} {argsL : List Value} {a b : Addr}
theorem OwnMet.back {len : Nat} {as' : Array Value} (hM : OwnMet l y bytes maxL ret [] rm Z as' h Q') (hZ : Z.Warmed39 s.vm) (wc : (Jvm.Cond.code y bytes maxL ret).before a0 Z = true) (wz : (Jvm.Cond.initialized y.cls).before a0 Z = true) (hf : rm.frames + 1 ≤ R.frames) (hl : W + (maxL + 11) + rm.locals ≤ R.locals) :
    Back l R p e below s args y len W (fun A a => a = as' ∧ A.U.heap = h ∧ A.cells + rm.cells ≤ R.cells ∧ A.slots + rm.slots ≤ R.slots)
      (fun A _ v B => ∃ L, Q' v B.U.heap L ∧ B.locs = A.locs ++ L ∧ B.cells = A.cells + rm.cells ∧ B.slots = A.slots + rm.slots) := backOf (Q := Q') hM hZ wc wz hf hl
theorem own_callS (X : Stand p l e R s m args below meth c T locs cells slots) (hx : p.tables.exec = Jvm.exec) (hZ : Z.Warmed39 s.vm) (hown : s.vm.findClass own = some m.cls)
    (w1 : (Jvm.Cond.methodLink own idx y).before a0 Z = true) (w2 : (Jvm.Cond.static y).before a0 Z = true) (w3 : (Jvm.Cond.initialized y.cls).before a0 Z = true) (w4 : (Jvm.Cond.code y bytes maxL ret).before a0 Z = true)
    (hy : y.cls ≠ "java/lang/invoke/MethodHandle" ∧ y.cls ≠ "java/lang/invoke/VarHandle") (hM : OwnMet l y bytes maxL ret [] rm Z argsL.toArray h Q') (eT : T.heap = h)
    (hf : rm.frames + 1 ≤ R.frames) (hl : W + (maxL + 11) + rm.locals ≤ R.locals) (hc : cells + rm.cells ≤ R.cells) (hs : slots + rm.slots ≤ R.slots)
    (hg : g.method = m) (hsize : g.locals.size = c.maxLocals) (hlen : ∀ sig, parseMethodDescriptor y.desc = some sig → argsL.length = sig.parameters.length) (hstack : g.stack = argsL.reverse ++ rest)
    (hW : 2 * g.monitorRoom + (rest.map fun v => v.category).sum ≤ W) (hd : decode c.code g.pc = .ok (.invokestatic idx, 3))
    (K : ∀ v T' h' L, Stand p l e R s m args below meth c T' (locs ++ L) (cells + rm.cells) (slots + rm.slots) → T'.heap = h' → Q' v h' L → OwnWk p e below P (T'.setTop { g with pc := g.pc + 3, stack := v.toList ++ rest })) :
    OwnWk p e below P (T.setTop g) := by
  obtain ⟨v, vm₁, ⟨T', L', k', n'⟩, -, X', ⟨L, hQ, e1, e2, e3⟩, st⟩ := Jvm.LawKit.callS X hx hown (mvT hZ w1) (mvT hZ w2) (mvT hZ w3) (mvT hZ w4) hy (hM.back hZ w4 w3 hf hl) hg hsize hlen hstack hW hd (fun _ _ => ⟨rfl, eT, hc, hs⟩)
  dsimp only [Pt.U, Pt.locs, Pt.cells, Pt.slots] at X' e1 e2 e3 st hQ
  subst e1 e2 e3
  exact own_go st (K v T' _ L X' rfl hQ)
theorem own_callC (X : Stand p l e R s m args below meth c T locs cells slots) (hx : p.tables.exec = Jvm.exec) (hZ : Z.Warmed39 s.vm) (hown : s.vm.findClass own = some m.cls) (hy1 : y.name = "<init>")
    (w1 : (Jvm.Cond.methodLink own idx y).before a0 Z = true) (w2 : (Jvm.Cond.instanceMethod y).before a0 Z = true) (w3 : (Jvm.Cond.initialized y.cls).before a0 Z = true) (w4 : (Jvm.Cond.code y bytes maxL none).before a0 Z = true)
    (hy : y.cls ≠ "java/lang/invoke/MethodHandle" ∧ y.cls ≠ "java/lang/invoke/VarHandle") (hM : OwnMet l y bytes maxL none [] rm Z (.ref a :: argsL).toArray h Q') (eT : T.heap = h)
    (hf : rm.frames + 1 ≤ R.frames) (hl : W + (maxL + 11) + rm.locals ≤ R.locals) (hc : cells + rm.cells ≤ R.cells) (hs : slots + rm.slots ≤ R.slots)
    (hg : g.method = m) (hsize : g.locals.size = c.maxLocals) (hlen : ∀ sig, parseMethodDescriptor y.desc = some sig → argsL.length = sig.parameters.length) (hstack : g.stack = argsL.reverse ++ .ref a :: rest)
    (hW : 2 * g.monitorRoom + (rest.map fun v => v.category).sum ≤ W) (hd : decode c.code g.pc = .ok (.invokespecial idx, 3))
    (K : ∀ v T' h' L, Stand p l e R s m args below meth c T' (locs ++ L) (cells + rm.cells) (slots + rm.slots) → T'.heap = h' → Q' v h' L → OwnWk p e below P (T'.setTop { g with pc := g.pc + 3, stack := v.toList ++ rest })) :
    OwnWk p e below P (T.setTop g) := by
  obtain ⟨v, vm₁, ⟨T', L', k', n'⟩, -, X', ⟨L, hQ, e1, e2, e3⟩, st⟩ := X.specialBack hx hy1 hown (mvT hZ w1) (mvT hZ w2) (mvT hZ w4) hy (hM.back hZ w4 w3 hf hl) hg hsize (Steps.refl _) hlen hstack hW hd (fun _ _ => ⟨rfl, eT, hc, hs⟩)
  dsimp only [Pt.U, Pt.locs, Pt.cells, Pt.slots] at X' e1 e2 e3 st hQ
  subst e1 e2 e3
  exact own_go (fun t q => st.trans q) (K v T' _ L X' rfl hQ)
theorem own_callV (X : Stand p l e R s m args below meth c T locs cells slots) (hx : p.tables.exec = Jvm.exec) (hZ : Z.Warmed39 s.vm) (hown : s.vm.findClass own = some m.cls)
    (w1 : (Jvm.Cond.methodLink own idx y).before a0 Z = true) (w2 : (Jvm.Cond.declares y).before a0 Z = true) (nf : NotFace s y) (w5 : (Jvm.Cond.selects C y z).before a0 Z = true) (w6 : (Jvm.Cond.instanceMethod z).before a0 Z = true) (w3 : (Jvm.Cond.initialized z.cls).before a0 Z = true) (w4 : (Jvm.Cond.code z bytes maxL ret).before a0 Z = true)
    (hy : y.cls ≠ "java/lang/invoke/MethodHandle" ∧ y.cls ≠ "java/lang/invoke/VarHandle") (E : Exa Z h a C) (hM : OwnMet l z bytes maxL ret [] rm Z (.ref a :: argsL).toArray h Q') (eT : T.heap = h)
    (hf : rm.frames + 1 ≤ R.frames) (hl : W + (maxL + 11) + rm.locals ≤ R.locals) (hc : cells + rm.cells ≤ R.cells) (hs : slots + rm.slots ≤ R.slots)
    (hg : g.method = m) (hsize : g.locals.size = c.maxLocals) (hlen : ∀ sig, parseMethodDescriptor y.desc = some sig → argsL.length = sig.parameters.length) (hstack : g.stack = argsL.reverse ++ .ref a :: rest)
    (hW : 2 * g.monitorRoom + (rest.map fun v => v.category).sum ≤ W) (hd : decode c.code g.pc = .ok (.invokevirtual idx, 3))
    (K : ∀ v T' h' L, Stand p l e R s m args below meth c T' (locs ++ L) (cells + rm.cells) (slots + rm.slots) → T'.heap = h' → Q' v h' L → OwnWk p e below P (T'.setTop { g with pc := g.pc + 3, stack := v.toList ++ rest })) :
    OwnWk p e below P (T.setTop g) := by
  obtain ⟨cq, kq, q1, q2, q3⟩ := isOf hZ eT E
  obtain ⟨v, vm₁, ⟨T', L', k', n'⟩, -, X', ⟨L, hQ, e1, e2, e3⟩, st⟩ := X.virtualBack hx hown (mvT hZ w1) (mvT hZ w2) nf (mvT hZ w5) (mvT hZ w6) hy (hM.back hZ w4 w3 hf hl) q1 q3 hg hsize (Steps.refl _) hlen hstack hW hd (fun _ _ => ⟨rfl, eT, hc, hs⟩)
  dsimp only [Pt.U, Pt.locs, Pt.cells, Pt.slots] at X' e1 e2 e3 st hQ
  subst e1 e2 e3
  exact own_go (fun t q => st.trans q) (K v T' _ L X' rfl hQ)
theorem own_callI (X : Stand p l e R s m args below meth c T locs cells slots) (hx : p.tables.exec = Jvm.exec) (hZ : Z.Warmed39 s.vm) (hown : s.vm.findClass own = some m.cls)
    (w1 : (Jvm.Cond.methodLink own idx y).before a0 Z = true) (w2 : (Jvm.Cond.declares y).before a0 Z = true) (w7 : (Jvm.Cond.interfaceMethod y.cls y.cls y.name y.desc).before args s = true) (w5 : (Jvm.Cond.selects C y z).before a0 Z = true) (w6 : (Jvm.Cond.instanceMethod z).before a0 Z = true)
    (w8 : (Jvm.Cond.publicMethod z).before a0 Z = true) (w9 : (Jvm.Cond.unhidden C y.name y.desc).before a0 Z = true) (w10 : (Jvm.Cond.castable C y.cls).before a0 Z = true) (w3 : (Jvm.Cond.initialized z.cls).before a0 Z = true) (w4 : (Jvm.Cond.code z bytes maxL ret).before a0 Z = true)
    (hy : y.cls ≠ "java/lang/invoke/MethodHandle" ∧ y.cls ≠ "java/lang/invoke/VarHandle") (E : Exa Z h a C) (hM : OwnMet l z bytes maxL ret [] rm Z (.ref a :: argsL).toArray h Q') (eT : T.heap = h)
    (hf : rm.frames + 1 ≤ R.frames) (hl : W + (maxL + 11) + rm.locals ≤ R.locals) (hc : cells + rm.cells ≤ R.cells) (hs : slots + rm.slots ≤ R.slots)
    (hg : g.method = m) (hsize : g.locals.size = c.maxLocals) (hlen : ∀ sig, parseMethodDescriptor y.desc = some sig → argsL.length = sig.parameters.length) (hstack : g.stack = argsL.reverse ++ .ref a :: rest)
    (hW : 2 * g.monitorRoom + (rest.map fun v => v.category).sum ≤ W) (hd : decode c.code g.pc = .ok (.invokeinterface idx cnt, 5))
    (K : ∀ v T' h' L, Stand p l e R s m args below meth c T' (locs ++ L) (cells + rm.cells) (slots + rm.slots) → T'.heap = h' → Q' v h' L → OwnWk p e below P (T'.setTop { g with pc := g.pc + 5, stack := v.toList ++ rest })) :
    OwnWk p e below P (T.setTop g) := by
  obtain ⟨cq, kq, q1, q2, q3⟩ := isOf hZ eT E
  obtain ⟨v, vm₁, ⟨T', L', k', n'⟩, -, X', ⟨L, hQ, e1, e2, e3⟩, st⟩ := X.interfaceBack hx hown (mvT hZ w1) (mvT hZ w2) w7 (mvT hZ w5) (mvT hZ w6) (mvT hZ w8) (mvT hZ w9) (mvT hZ w10) hy (hM.back hZ w4 w3 hf hl) q1 q2 q3 hg hsize (Steps.refl _) hlen hstack hW hd (fun _ _ => ⟨rfl, eT, hc, hs⟩)
  dsimp only [Pt.U, Pt.locs, Pt.cells, Pt.slots] at X' e1 e2 e3 st hQ
  subst e1 e2 e3
  exact own_go (fun t q => st.trans q) (K v T' _ L X' rfl hQ)
theorem own_callP (X : Stand p l e R s m args below meth c T locs cells slots) (hx : p.tables.exec = Jvm.exec) (hZ : Z.Warmed39 s.vm) (hown : s.vm.findClass own = some m.cls)
    (w1 : (Jvm.Cond.methodLink own idx y).before a0 Z = true) (w2 : (Jvm.Cond.instanceMethod y).before a0 Z = true) (w5 : (Jvm.Cond.selects y.cls y y).before a0 Z = true) (w6 : (Jvm.Cond.privateMethod y).before a0 Z = true) (w3 : (Jvm.Cond.initialized y.cls).before a0 Z = true) (w4 : (Jvm.Cond.code y bytes maxL ret).before a0 Z = true)
    (hy : y.cls ≠ "java/lang/invoke/MethodHandle" ∧ y.cls ≠ "java/lang/invoke/VarHandle") (E : Exa Z h a C) (hM : OwnMet l y bytes maxL ret [] rm Z (.ref a :: argsL).toArray h Q') (eT : T.heap = h)
    (hf : rm.frames + 1 ≤ R.frames) (hl : W + (maxL + 11) + rm.locals ≤ R.locals) (hc : cells + rm.cells ≤ R.cells) (hs : slots + rm.slots ≤ R.slots)
    (hg : g.method = m) (hsize : g.locals.size = c.maxLocals) (hlen : ∀ sig, parseMethodDescriptor y.desc = some sig → argsL.length = sig.parameters.length) (hstack : g.stack = argsL.reverse ++ .ref a :: rest)
    (hW : 2 * g.monitorRoom + (rest.map fun v => v.category).sum ≤ W) (hd : decode c.code g.pc = .ok (.invokevirtual idx, 3))
    (K : ∀ v T' h' L, Stand p l e R s m args below meth c T' (locs ++ L) (cells + rm.cells) (slots + rm.slots) → T'.heap = h' → Q' v h' L → OwnWk p e below P (T'.setTop { g with pc := g.pc + 3, stack := v.toList ++ rest })) :
    OwnWk p e below P (T.setTop g) := by
  obtain ⟨cq, q, q'⟩ := E.cell
  obtain ⟨v, vm₁, ⟨T', L', k', n'⟩, -, X', ⟨L, hQ, e1, e2, e3⟩, st⟩ := X.privateBack hx hown (mvT hZ w1) (mvT hZ w2) (mvT hZ w5) (Cond.privateMethod_at (mvP hZ w6 (args := #[]))) (mvT hZ w4) hy (hM.back hZ w4 w3 hf hl) hg hsize (Steps.refl _) (by rw [eT]; exact q) q' hlen hstack hW hd (fun _ _ => ⟨rfl, eT, hc, hs⟩)
  dsimp only [Pt.U, Pt.locs, Pt.cells, Pt.slots] at X' e1 e2 e3 st hQ
  subst e1 e2 e3
  exact own_go (fun t q => st.trans q) (K v T' _ L X' rfl hQ)
/-! arrays by their lists -/
variable {vs : List Value} {ty : FieldType} {j : Int32} {v : Value}
theorem own_in (c : Cell) (e : c.slots = vs.toArray) (h0 : ¬ j < 0) (hj : j.toNatClampNeg < vs.length) : ¬ (j < 0 ∨ c.slots.size ≤ j.toNatClampNeg) := by
  rw [e]; simp only [List.size_toArray]
  rintro (q | q)
  · exact h0 q
  · omega
theorem own_len (X : Stand p l e R s m args below meth c T locs cells slots) (hx : p.tables.exec = Jvm.exec) (hZ : Z.Warmed39 s.vm) (eT : T.heap = h) (A : OAr Z h a ty vs) (hg : g.method = m) (hs : g.stack = .ref a :: rest) (hd : decode c.code g.pc = .ok (.arraylength, 1)) {N : Int32} (hN : vs.length.toInt32 = N)
    (K : OwnWk p e below P (T.setTop { g with pc := g.pc + 1, stack := .int N :: rest })) : OwnWk p e below P (T.setTop g) := by
  obtain ⟨cl, A, ec⟩ := A
  refine own_go (fun t q => X.arraylength hx (by rw [eT]; exact A.1) (State.isArrayOf_alike hZ.alike A.2.1) hg hs hd _ q) ?_
  rw [ec, List.size_toArray, hN]; exact K
theorem own_ldI (X : Stand p l e R s m args below meth c T locs cells slots) (hx : p.tables.exec = Jvm.exec) (hZ : Z.Warmed39 s.vm) (eT : T.heap = h) (A : OAr Z h a .int vs) (hg : g.method = m) (hs : g.stack = .int j :: .ref a :: rest) (hd : decode c.code g.pc = .ok (.iaload, 1)) (h0 : ¬ j < 0) (hj : vs[j.toNatClampNeg]? = some v)
    (K : OwnWk p e below P (T.setTop { g with pc := g.pc + 1, stack := v :: rest })) : OwnWk p e below P (T.setTop g) := by
  obtain ⟨cl, A, ec⟩ := A
  exact own_go (fun t q => X.iaload hx (by rw [eT]; exact A.1) (State.isArrayOf_alike hZ.alike A.2.1) A.2.2 (own_in cl ec h0 (List.getElem?_eq_some_iff.mp hj).1) (by rw [ec]; simpa using hj) hg hs hd _ q) K
theorem own_ldJ (X : Stand p l e R s m args below meth c T locs cells slots) (hx : p.tables.exec = Jvm.exec) (hZ : Z.Warmed39 s.vm) (eT : T.heap = h) (A : OAr Z h a .long vs) (hg : g.method = m) (hs : g.stack = .int j :: .ref a :: rest) (hd : decode c.code g.pc = .ok (.laload, 1)) (h0 : ¬ j < 0) (hj : vs[j.toNatClampNeg]? = some v)
    (K : OwnWk p e below P (T.setTop { g with pc := g.pc + 1, stack := v :: rest })) : OwnWk p e below P (T.setTop g) := by
  obtain ⟨cl, A, ec⟩ := A
  exact own_go (fun t q => X.laload hx (by rw [eT]; exact A.1) (State.isArrayOf_alike hZ.alike A.2.1) A.2.2 (own_in cl ec h0 (List.getElem?_eq_some_iff.mp hj).1) (by rw [ec]; simpa using hj) hg hs hd _ q) K
theorem own_ldA (X : Stand p l e R s m args below meth c T locs cells slots) (hx : p.tables.exec = Jvm.exec) (hZ : Z.Warmed39 s.vm) (eT : T.heap = h) (A : OAr Z h a ty vs) (hty : ty.isReference = true) (hg : g.method = m) (hs : g.stack = .int j :: .ref a :: rest) (hd : decode c.code g.pc = .ok (.aaload, 1)) (h0 : ¬ j < 0) (hj : vs[j.toNatClampNeg]? = some v)
    (K : OwnWk p e below P (T.setTop { g with pc := g.pc + 1, stack := v :: rest })) : OwnWk p e below P (T.setTop g) := by
  obtain ⟨cl, A, ec⟩ := A
  exact own_go (fun t q => X.aaload hx (by rw [eT]; exact A.1) (State.isArrayOf_alike hZ.alike A.2.1) hty A.2.2 (own_in cl ec h0 (List.getElem?_eq_some_iff.mp hj).1) (by rw [ec]; simpa using hj) hg hs hd _ q) K
theorem own_stI (X : Stand p l e R s m args below meth c T locs cells slots) (hx : p.tables.exec = Jvm.exec) (hZ : Z.Warmed39 s.vm) (eT : T.heap = h) (A : OAr Z h a .int vs) {x : Int32} (hg : g.method = m) (hs : g.stack = .int x :: .int j :: .ref a :: rest) (hd : decode c.code g.pc = .ok (.iastore, 1)) (h0 : ¬ j < 0) (hj : j.toNatClampNeg < vs.length)
    (K : ∀ T' h', Stand p l e R s m args below meth c T' (locs ++ [⟨a, j.toNatClampNeg⟩]) cells slots → T'.heap = h' → Wr h h' a j.toNatClampNeg (.int x) → OAr Z h' a .int (vs.set j.toNatClampNeg (.int x)) → OwnWk p e below P (T'.setTop { g with pc := g.pc + 1, stack := rest })) : OwnWk p e below P (T.setTop g) := by
  obtain ⟨cl, A', ec⟩ := A
  obtain ⟨T', h', X', e', W', st⟩ := stI X hx hZ eT A' (j := j) (own_in cl ec h0 hj) hg hs hd
  exact own_go st (K T' h' X' e' W' (OAr.set ⟨cl, A', ec⟩ W'))
theorem own_stJ (X : Stand p l e R s m args below meth c T locs cells slots) (hx : p.tables.exec = Jvm.exec) (hZ : Z.Warmed39 s.vm) (eT : T.heap = h) (A : OAr Z h a .long vs) {x : Int64} (hg : g.method = m) (hs : g.stack = .long x :: .int j :: .ref a :: rest) (hd : decode c.code g.pc = .ok (.lastore, 1)) (h0 : ¬ j < 0) (hj : j.toNatClampNeg < vs.length)
    (K : ∀ T' h', Stand p l e R s m args below meth c T' (locs ++ [⟨a, j.toNatClampNeg⟩]) cells slots → T'.heap = h' → Wr h h' a j.toNatClampNeg (.long x) → OAr Z h' a .long (vs.set j.toNatClampNeg (.long x)) → OwnWk p e below P (T'.setTop { g with pc := g.pc + 1, stack := rest })) : OwnWk p e below P (T.setTop g) := by
  obtain ⟨cl, A', ec⟩ := A
  obtain ⟨T', h', X', e', W', st⟩ := stJ X hx hZ eT A' (j := j) (own_in cl ec h0 hj) hg hs hd
  exact own_go st (K T' h' X' e' W' (OAr.set ⟨cl, A', ec⟩ W'))
theorem own_newP {aty : ArrayType} (X : Stand p l e R s m args below meth c T locs cells slots) (hx : p.tables.exec = Jvm.exec) (hZ : Z.Warmed39 s.vm) (w : (Jvm.Cond.arrayClass (newarray.typeOf aty)).before a0 Z = true) (eT : T.heap = h) (hg : g.method = m) (hd : decode c.code g.pc = .ok (.newarray aty, 2)) {N : Int32} (hs : g.stack = .int N :: rest)
    (hn : ¬ N < 0) {cap : Nat} (hcap : N.toNatClampNeg ≤ cap) (hb : cap * 8 ≤ 536870912) (hc : cells + 1 ≤ R.cells) (hl : slots + cap ≤ R.slots)
    (K : ∀ T' h' b, Stand p l e R s m args below meth c T' locs (cells + 1) (slots + cap) → T'.heap = h' → b = h.size → Ext h h' → OAr Z h' b (newarray.typeOf aty) (List.replicate N.toNatClampNeg (defaultValue (newarray.typeOf aty))) → OwnWk p e below P (T'.setTop { g with pc := g.pc + 2, stack := .ref b :: rest })) : OwnWk p e below P (T.setTop g) := by
  obtain ⟨T', h', cA, X', e', E', A', st⟩ := newP X hx hZ w eT hg hd hs hn hcap hb hc hl
  exact own_go st (K T' h' _ X' e' rfl E' ⟨_, A', by simp [newA]⟩)
theorem own_newPE {aty : ArrayType} {ad : String} (X : Stand p l e R s m args below meth c T locs cells slots) (hx : p.tables.exec = Jvm.exec) (hZ : Z.Warmed39 s.vm) (w : (Jvm.Cond.arrayClass (newarray.typeOf aty)).before a0 Z = true) (eT : T.heap = h) (hg : g.method = m) (hd : decode c.code g.pc = .ok (.newarray aty, 2)) {N : Int32} (hs : g.stack = .int N :: rest)
    (hn : ¬ N < 0) {cap : Nat} (hcap : N.toNatClampNeg ≤ cap) (hb : cap * 8 ≤ 536870912) (hc : cells + 1 ≤ R.cells) (hl : slots + cap ≤ R.slots) (had : "[" ++ (newarray.typeOf aty).toString = ad)
    (K : ∀ T' h' b, Stand p l e R s m args below meth c T' locs (cells + 1) (slots + cap) → T'.heap = h' → b = h.size → Ext h h' → OAr Z h' b (newarray.typeOf aty) (List.replicate N.toNatClampNeg (defaultValue (newarray.typeOf aty))) → Exa Z h' b ad → OwnWk p e below P (T'.setTop { g with pc := g.pc + 2, stack := .ref b :: rest })) : OwnWk p e below P (T.setTop g) := by
  obtain ⟨T', h', cA, X', e', E', A', Ex, st⟩ := newPE X hx hZ w eT hg hd hs hn hcap hb hc hl had
  exact own_go st (K T' h' _ X' e' rfl E' ⟨_, A', by simp [newA]⟩ Ex)
theorem own_clone {ad : String} (X : Stand p l e R s m args below meth c T locs cells slots) (hx : p.tables.exec = Jvm.exec) (hZ : Z.Warmed39 s.vm) (hown : s.vm.findClass own = some m.cls)
    (w1 : (Jvm.Cond.methodLink own idx ⟨ad, "clone", "()Ljava/lang/Object;"⟩).before a0 Z = true) (w2 : (Jvm.Cond.sameMethod ad "java/lang/Object" "clone" "()Ljava/lang/Object;").before a0 Z = true) (w3 : (Jvm.Cond.native ⟨"java/lang/Object", "clone", "()Ljava/lang/Object;"⟩).before a0 Z = true)
    (w4 : (Jvm.Cond.instanceMethod ⟨"java/lang/Object", "clone", "()Ljava/lang/Object;"⟩).before a0 Z = true) (w5 : (Jvm.Cond.selects ad ⟨ad, "clone", "()Ljava/lang/Object;"⟩ ⟨"java/lang/Object", "clone", "()Ljava/lang/Object;"⟩).before a0 Z = true) (w6 : (Jvm.Cond.castable ad "java/lang/Cloneable").before a0 Z = true)
    (eT : T.heap = h) (A : OAr Z h a ty vs) (E : Exa Z h a ad) (F : ∀ v ∈ vs, fits ty v = true) (hg : g.method = m) (hsize : g.locals.size = c.maxLocals) (hs : g.stack = .ref a :: rest) (hd : decode c.code g.pc = .ok (.invokevirtual idx, 3))
    (hf : 1 ≤ R.frames) {cap : Nat} (hW : 2 * g.monitorRoom + (rest.map fun v => v.category).sum ≤ W) (hl : W + 14 ≤ R.locals) (hcap : vs.length ≤ cap) (hc : cells + 1 ≤ R.cells) (hsl : slots + cap ≤ R.slots)
    (K : ∀ T' h' b, Stand p l e R s m args below meth c T' locs (cells + 1) (slots + cap) → T'.heap = h' → b = h.size → Ext h h' → OAr Z h' b ty vs → Exa Z h' b ad → OwnWk p e below P (T'.setTop { g with pc := g.pc + 3, stack := .ref b :: rest })) : OwnWk p e below P (T.setTop g) := by
  obtain ⟨cl, A, ec⟩ := A
  have FC : FitC Z cl := fitC_of A fun i hi v hv => by
    rw [ec] at hv
    exact F v (List.mem_of_getElem? (by simpa using hv))
  obtain ⟨T', h', X', e', E', A', Ex, st⟩ := cloneA X hx hZ hown w1 w2 w3 w4 w5 w6 eT A E FC hg hsize hs hd hf hW hl (by rw [ec]; simpa using hcap) hc hsl
  exact own_go st (K T' h' _ X' e' rfl E' ⟨_, A', ec⟩ Ex)
end Own
/-! comparisons of longs -/
theorem own_tri (x y : Int64) : x < y ∨ x = y ∨ y < x := by
  rcases Int.lt_trichotomy x.toInt y.toInt with h | h | h
  · exact Or.inl (Int64.lt_iff_toInt_lt.mpr h)
  · exact Or.inr (Or.inl (Int64.toInt_inj.mp h))
  · exact Or.inr (Or.inr (Int64.lt_iff_toInt_lt.mpr h))
theorem own_lc_lt {x y : Int64} : (lcmpW x y < 0) ↔ x < y := by
  unfold lcmpW
  rcases own_tri x y with h | h | h
  · have h1 : ¬ x > y := Int64.lt_asymm h
    have h2 : ¬ x = y := Int64.ne_of_lt h
    simp [h1, h2, h]
  · subst h; simp
  · have h1 : ¬ x < y := Int64.lt_asymm h
    simp [h, h1]
theorem own_lc_gt {x y : Int64} : (0 < lcmpW x y) ↔ y < x := by
  unfold lcmpW
  rcases own_tri x y with h | h | h
  · have h1 : ¬ x > y := Int64.lt_asymm h
    have h2 : ¬ x = y := Int64.ne_of_lt h
    have h3 : ¬ y < x := h1
    simp [h1, h2, h3]
  · subst h; simp
  · simp [h]
theorem own_lc_eq {x y : Int64} : (lcmpW x y = 0) ↔ x = y := by
  unfold lcmpW
  rcases own_tri x y with h | h | h
  · have h1 : ¬ x > y := Int64.lt_asymm h
    have h2 : ¬ x = y := Int64.ne_of_lt h
    simp [h1, h2]
  · subst h; simp
  · have h2 : ¬ x = y := (Int64.ne_of_lt h).symm
    simp [h, h2]
/-! own: arrays of references -/
def OOv (Z : State) (h : Heap) (a : Addr) (C : String) : Prop := ∃ c : Cell, h[a]? = some c ∧ Ovr Z c.cls C
theorem OOv.ext {Z : State} {h h' : Heap} {a : Addr} {C : String} (E : Ext h h') (A : OOv Z h a C) : OOv Z h' a C := by
  obtain ⟨c, h1, h2⟩ := A; exact ⟨c, E.2 _ _ h1, h2⟩
theorem OOv.wr {Z : State} {h h' : Heap} {a b : Addr} {C : String} {sl : Nat} {v : Value} (W : Wr h h' a sl v) (A : OOv Z h b C) : OOv Z h' b C := by
  obtain ⟨c, h1, h2⟩ := A
  obtain ⟨c', e1, e2, -⟩ := wr_at W h1
  exact ⟨c', e1, by rw [e2]; exact h2⟩
theorem OOv.keep {Z : State} {h h' : Heap} {a : Addr} {C : String} {ws : List Addr} (A : OOv Z h a C) (K : Keep h h' ws) : OOv Z h' a C := by
  obtain ⟨c, h1, h2⟩ := A
  obtain ⟨c', q, r1, -⟩ := K.2.2 a c h1
  exact ⟨c', q, by rw [r1]; exact h2⟩
section OwnRef
variable {p : Program} {l : Launch} {e : Env} {R : Room} {s : State} {m : MethodId} {args : Array Value} {below : List Frame} {meth : Method} {c : Code} {T : State} {locs : List Loc} {cells slots : Nat}
  {P : Option Value → State → List Loc → Prop} {Z : State} {a0 : Array Value} {h : Heap} {g : JFrame} {rest : List Value} {own C : String} {idx : Nat} {a y : Addr} {vs : List Value} {j : Int32}
theorem own_stR (X : Stand p l e R s m args below meth c T locs cells slots) (hx : p.tables.exec = Jvm.exec) (hZ : Z.Warmed39 s.vm) (eT : T.heap = h) (A : OAr Z h a (.object C) vs) (O : OOv Z h a C) (I : Ins Z h y C true) (hg : g.method = m) (hs : g.stack = .ref y :: .int j :: .ref a :: rest) (hd : decode c.code g.pc = .ok (.aastore, 1)) (h0 : ¬ j < 0) (hj : j.toNatClampNeg < vs.length)
    (K : ∀ T' h', Stand p l e R s m args below meth c T' (locs ++ [⟨a, j.toNatClampNeg⟩]) cells slots → T'.heap = h' → Wr h h' a j.toNatClampNeg (.ref y) → OAr Z h' a (.object C) (vs.set j.toNatClampNeg (.ref y)) → OwnWk p e below P (T'.setTop { g with pc := g.pc + 1, stack := rest })) : OwnWk p e below P (T.setTop g) := by
  obtain ⟨cl, A', ec⟩ := A
  obtain ⟨c2, h1, h2⟩ := O
  cases A'.1.symm.trans h1
  obtain ⟨T', h', X', e', W', st⟩ := stR X hx hZ eT A' (j := j) (own_in cl ec h0 hj) rfl (Sto.ofV A' rfl h2 I) hg hs hd
  exact own_go st (K T' h' X' e' W' (OAr.set ⟨cl, A', ec⟩ W'))
theorem own_newR {ad : String} (X : Stand p l e R s m args below meth c T locs cells slots) (hx : p.tables.exec = Jvm.exec) (hZ : Z.Warmed39 s.vm) (hown : s.vm.findClass own = some m.cls) (w1 : (Jvm.Cond.classLink own idx C).before a0 Z = true) (w2 : (Jvm.Cond.arrayOver (.object C)).before a0 Z = true) (eT : T.heap = h) (hg : g.method = m) (hd : decode c.code g.pc = .ok (.anewarray idx, 3)) {N : Int32} (hs : g.stack = .int N :: rest)
    (hn : ¬ N < 0) {cap : Nat} (hcap : N.toNatClampNeg ≤ cap) (hb : cap * 8 ≤ 536870912) (hc : cells + 1 ≤ R.cells) (hl : slots + cap ≤ R.slots) (had : "[" ++ (FieldType.object C).toString = ad)
    (K : ∀ T' h' b, Stand p l e R s m args below meth c T' locs (cells + 1) (slots + cap) → T'.heap = h' → b = h.size → Ext h h' → OAr Z h' b (.object C) (List.replicate N.toNatClampNeg .null) → Exa Z h' b ad → OOv Z h' b C → OwnWk p e below P (T'.setTop { g with pc := g.pc + 3, stack := .ref b :: rest })) : OwnWk p e below P (T.setTop g) := by
  obtain ⟨T', h', cA, X', e', E', A', Ex, Ov, st⟩ := newRE X hx hZ hown w1 w2 eT hg hd hs hn hcap hb hc hl had
  exact own_go st (K T' h' _ X' e' rfl E' ⟨_, A', by simp [newA, defaultValue]⟩ Ex ⟨_, A'.1, Ov⟩)
end OwnRef
/-! own: one place of an old array -/
def OEl (Z : State) (h : Heap) (a : Addr) (ty : FieldType) (i : Nat) (v : Value) : Prop := ∃ c : Cell, Arr Z h a c ty ∧ c.slots[i]? = some v
theorem OEl.ext {Z : State} {h h' : Heap} {a : Addr} {ty : FieldType} {i : Nat} {v : Value} (E : Ext h h') (A : OEl Z h a ty i v) : OEl Z h' a ty i v := by
  obtain ⟨c, A, e⟩ := A; exact ⟨c, A.ext E, e⟩
theorem own_ldEl {p : Program} {l : Launch} {e : Env} {R : Room} {s : State} {m : MethodId} {args : Array Value} {below : List Frame} {meth : Method} {c : Code} {T : State} {locs : List Loc} {cells slots : Nat} {P : Option Value → State → List Loc → Prop} {Z : State} {h : Heap} {g : JFrame} {rest : List Value} {a : Addr} {j : Int32} {ty : FieldType} {v : Value} {i : Nat}
    (X : Stand p l e R s m args below meth c T locs cells slots) (hx : p.tables.exec = Jvm.exec) (hZ : Z.Warmed39 s.vm) (eT : T.heap = h) (A : OEl Z h a ty i v) (hty : ty.isReference = true) (hg : g.method = m) (hs : g.stack = .int j :: .ref a :: rest) (hd : decode c.code g.pc = .ok (.aaload, 1)) (h0 : ¬ j < 0) (hj : j.toNatClampNeg = i)
    (K : OwnWk p e below P (T.setTop { g with pc := g.pc + 1, stack := v :: rest })) : OwnWk p e below P (T.setTop g) := by
  obtain ⟨cl, A, ec⟩ := A
  subst hj
  have hlt := (Array.getElem?_eq_some_iff.mp ec).1
  exact own_go (fun t q => X.aaload hx (by rw [eT]; exact A.1) (State.isArrayOf_alike hZ.alike A.2.1) hty A.2.2 (fun q => by rcases q with q | q; exact h0 q; omega) ec hg hs hd _ q) K
theorem own_n_int {i : Nat} (h : i < 2 ^ 31) : (Int32.ofNat i).toInt = (i : Int) := by
  rw [Int32.toInt_ofNat']
  simp only [Int32.size, Int.bmod]
  omega
theorem own_n_nat {i : Nat} (h : i < 2 ^ 31) : (Int32.ofNat i).toNatClampNeg = i := by
  simp only [Int32.toNatClampNeg, own_n_int h]; omega
theorem own_n_nn {i : Nat} (h : i < 2 ^ 31) : ¬ Int32.ofNat i < 0 := by
  rw [Int32.lt_iff_toInt_lt, own_n_int h]; have : (0 : Int32).toInt = 0 := rfl
  omega
theorem own_n_lt {i j : Nat} (hi : i < 2 ^ 31) (hj : j < 2 ^ 31) : Int32.ofNat i < Int32.ofNat j ↔ i < j := by
  rw [Int32.lt_iff_toInt_lt, own_n_int hi, own_n_int hj]; omega
theorem own_n_succ {i : Nat} : Int32.ofNat i + (1 : Int32) = Int32.ofNat (i + 1) := by
  rw [Int32.ofNat_add]; rfl
theorem own_n_len (xs : List Int32) : (xs.map Value.int).length.toInt32 = Int32.ofNat xs.length := by rw [List.length_map]
theorem own_n_at {xs : List Int32} {i : Nat} {x : Int32} (h : i < 2 ^ 31) (hx : xs[i]? = some x) : (xs.map Value.int)[(Int32.ofNat i).toNatClampNeg]? = some (.int x) := by
  rw [own_n_nat h, List.getElem?_map, hx]; rfl
theorem own_drop {α : Type} {xs : List α} {i : Nat} {x : α} (h : xs[i]? = some x) : xs.drop i = x :: xs.drop (i + 1) := by
  obtain ⟨hi, rfl⟩ := List.getElem?_eq_some_iff.mp h
  exact List.drop_eq_getElem_cons hi
theorem own_get {α : Type} {xs : List α} {i : Nat} (h : i < xs.length) : ∃ x, xs[i]? = some x := ⟨xs[i], List.getElem?_eq_getElem h⟩
def own_iv (ns : List Nat) : List Value := ns.map fun n => .int (Int32.ofNat n)
theorem own_getD {α : Type} {xs : List α} {i : Nat} {d : α} (h : i < xs.length) : xs[i]? = some (xs.getD i d) := by
  rw [List.getD_eq_getElem?_getD, List.getElem?_eq_getElem h]; rfl
theorem own_and_nat (u : Int32) (k : Nat) (hk : k < 2 ^ 31) : ∃ n, n ≤ k ∧ (u &&& Int32.ofNat k) = Int32.ofNat n := by
  obtain ⟨n, hn⟩ : ∃ n, n = (u &&& Int32.ofNat k).toBitVec.toNat := ⟨_, rfl⟩
  have h0 : n ≤ k := by
    rw [hn, Int32.toBitVec_and, BitVec.toNat_and]
    refine Nat.le_trans Nat.and_le_right ?_
    show (BitVec.ofNat 32 k).toNat ≤ k
    simp; omega
  refine ⟨n, h0, ?_⟩
  apply Int32.toBitVec_inj.mp; apply BitVec.eq_of_toNat_eq; rw [← hn]
  show n = (BitVec.ofNat 32 n).toNat
  simp; omega
theorem own_rem_nat {n k : Nat} (hn : n < 2 ^ 31) (hk : 0 < k) (hk2 : k < 2 ^ 31) : Int32.ofNat n % Int32.ofNat k = Int32.ofNat (n % k) := by
  apply Int32.toInt_inj.mp
  have := Nat.mod_lt n hk
  rw [Int32.toInt_mod, own_n_int hn, own_n_int hk2, own_n_int (by omega), Int.tmod_eq_emod_of_nonneg (by omega)]
  norm_cast
theorem own_draw (u : Int32) (k m : Nat) (hk : k < 2 ^ 31) (hm : 0 < m) (hm2 : m < 2 ^ 31) : ∃ n, n < m ∧ (u &&& Int32.ofNat k) % Int32.ofNat m = Int32.ofNat n := by
  obtain ⟨n, h1, h2⟩ := own_and_nat u k hk
  exact ⟨n % m, Nat.mod_lt n hm, by rw [h2, own_rem_nat (by omega) hm hm2]⟩
theorem own_cast {Z : State} {h : Heap} {a : Addr} {ty : FieldType} {vs ws : List Value} (e : vs = ws) (V : OAr Z h a ty vs) : OAr Z h a ty ws := e ▸ V
def own_mix (z0 : Int64) : Int64 :=
  let z1 := (z0 ^^^ (z0.toUInt64 >>> ((30 : Int32) &&& 0x3f).toInt64.toUInt64).toInt64) * (-4658895280553007687 : Int64)
  let z2 := (z1 ^^^ (z1.toUInt64 >>> ((27 : Int32) &&& 0x3f).toInt64.toUInt64).toInt64) * (-7723592293110705685 : Int64)
  z2 ^^^ (z2.toUInt64 >>> ((31 : Int32) &&& 0x3f).toInt64.toUInt64).toInt64
def own_nwt (a x : Int64) : Int64 := x * ((2 : Int64) - a * x)
def own_inv (a : Int64) : Int64 := own_nwt a (own_nwt a (own_nwt a (own_nwt a (own_nwt a a))))
def own_sh (y : Int64) (i j : Int32) : Int64 := (y ^^^ (y.toUInt64 >>> (i &&& 0x3f).toInt64.toUInt64).toInt64) ^^^ (y.toUInt64 >>> (j &&& 0x3f).toInt64.toUInt64).toInt64
def own_unmix (y : Int64) : Int64 :=
  own_sh (own_sh (own_sh y 31 62 * own_inv (-7723592293110705685 : Int64)) 27 54 * own_inv (-4658895280553007687 : Int64)) 30 60
theorem own_xs {z : BitVec 64} (i j : Nat) (hj : j = 2 * i) (h3 : 64 ≤ 3 * i) : (z ^^^ (z >>> i)) ^^^ ((z ^^^ (z >>> i)) >>> i) ^^^ ((z ^^^ (z >>> i)) >>> j) = z := by
  subst hj
  rw [BitVec.ushiftRight_xor_distrib, BitVec.ushiftRight_xor_distrib, ← BitVec.shiftRight_add, ← BitVec.shiftRight_add]
  have e0 : z >>> (i + 2 * i) = 0#64 := by
    apply BitVec.ushiftRight_eq_zero; omega
  have e1 : i + i = 2 * i := by omega
  rw [e1, e0]
  generalize z >>> i = a
  generalize z >>> (2 * i) = b
  rw [BitVec.xor_zero]
  ext k hk
  simp
theorem own_us (y : Int64) (k : Int32) {K : Nat} (hk : (k &&& 0x3f).toInt64.toUInt64.toBitVec % 64#64 = BitVec.ofNat 64 K) (hK : K < 64) : (y.toUInt64 >>> (k &&& 0x3f).toInt64.toUInt64).toInt64.toBitVec = y.toBitVec >>> K := by
  show y.toUInt64.toBitVec >>> ((k &&& 0x3f).toInt64.toUInt64.toBitVec % 64#64) = _
  rw [hk]
  show y.toBitVec >>> (BitVec.ofNat 64 K) = _
  rw [BitVec.ushiftRight_eq']
  congr 1
  simp; omega
theorem own_step (z : Int64) (i j : Int32) {K J : Nat} (hi : (i &&& 0x3f).toInt64.toUInt64.toBitVec % 64#64 = BitVec.ofNat 64 K) (hj : (j &&& 0x3f).toInt64.toUInt64.toBitVec % 64#64 = BitVec.ofNat 64 J) (hK : K < 64) (hJ : J < 64) (e : J = 2 * K) (h3 : 64 ≤ 3 * K) :
    own_sh (z ^^^ (z.toUInt64 >>> (i &&& 0x3f).toInt64.toUInt64).toInt64) i j = z := by
  apply Int64.toBitVec_inj.mp
  unfold own_sh
  rw [Int64.toBitVec_xor, Int64.toBitVec_xor, own_us _ i hi hK, own_us _ j hj hJ, Int64.toBitVec_xor, own_us _ i hi hK]
  exact own_xs K J e h3
theorem own_um (z : Int64) : own_unmix (own_mix z) = z := by
  unfold own_unmix own_mix
  simp only []
  rw [own_step _ 31 62 (K := 31) (J := 62) (by decide) (by decide) (by decide) (by decide) rfl (by decide)]
  have i1 : (-7723592293110705685 : Int64) * own_inv (-7723592293110705685) = 1 := by decide +kernel
  have i2 : (-4658895280553007687 : Int64) * own_inv (-4658895280553007687) = 1 := by decide +kernel
  rw [Int64.mul_assoc, i1, Int64.mul_one]
  rw [own_step _ 27 54 (K := 27) (J := 54) (by decide) (by decide) (by decide) (by decide) rfl (by decide)]
  rw [Int64.mul_assoc, i2, Int64.mul_one]
  exact own_step _ 30 60 (K := 30) (J := 60) (by decide) (by decide) (by decide) (by decide) rfl (by decide)
def own_prod (st : Int64) (b : Int32) : Int64 := (((own_mix st).toUInt64 >>> ((32 : Int32) &&& 0x3f).toInt64.toUInt64).toInt64) * b.toInt64
def own_bias (b : Int32) : Int64 := ((4294967296 : Int64) - b.toInt64) - ((4294967296 : Int64) - b.toInt64) / b.toInt64 * b.toInt64
def own_r (st : Int64) (b : Int32) : Int32 := ((own_prod st b).toUInt64 >>> ((32 : Int32) &&& 0x3f).toInt64.toUInt64).toInt64.toInt32
def own_M (st : Int64) : Nat := (((-6857235525900058748 : Int64) - st) * (-1018231460777725123 : Int64)).toUInt64.toNat
def own_iter : Nat → Int64 → Int32 → Int64
  | 0, st, _ => st
  | n + 1, st, b => if (own_prod st b &&& (4294967295 : Int64)) < own_bias b then own_iter n (st + (-7046029254386353131 : Int64)) b else st
def own_land (q : Int64) (b : Int32) : Int64 := own_iter (own_M (q + (-7046029254386353131 : Int64))) (q + (-7046029254386353131 : Int64)) b
theorem own_bm {z : Int} (h1 : -9223372036854775808 ≤ z) (h2 : z < 9223372036854775808) : z.bmod (2 ^ 64) = z := by
  apply Int.bmod_eq_of_le <;> omega
theorem own_bpos {b : Int32} (h : 0 < b) : ∃ n : Nat, 0 < n ∧ n < 2 ^ 31 ∧ b.toInt = (n : Int) := by
  rw [Int32.lt_iff_toInt_lt] at h
  have e0 : (0 : Int32).toInt = 0 := rfl
  rw [e0] at h
  have := Int32.toInt_lt b
  exact ⟨b.toInt.toNat, by omega, by omega, by omega⟩
theorem own_nz {b : Int32} (h : 0 < b) : b.toInt64 ≠ 0 := fun q => by
  obtain ⟨n, h1, h2, h3⟩ := own_bpos h
  have := congrArg Int64.toInt q
  rw [Int32.toInt_toInt64, h3] at this
  have e0 : (0 : Int64).toInt = 0 := rfl
  rw [e0] at this; omega
theorem own_rem {x y : Int64} {X Y : Nat} (hx : x.toInt = (X : Int)) (hy : y.toInt = (Y : Int)) (hX : X < 2 ^ 63) (hY : 0 < Y) (hY2 : Y < 2 ^ 63) : (x - x / y * y).toInt = ((X % Y : Nat) : Int) := by
  have l1 : X / Y ≤ X := Nat.div_le_self X Y
  have l2 : X / Y * Y ≤ X := Nat.div_mul_le_self X Y
  have d : (x / y).toInt = ((X / Y : Nat) : Int) := by
    rw [Int64.toInt_div, hx, hy]
    have q : ((X : Int)).tdiv (Y : Int) = ((X / Y : Nat) : Int) := by rw [Int.tdiv_eq_ediv_of_nonneg (by omega)]; norm_cast
    rw [q]; clear q l2; generalize X / Y = D at l1 ⊢; exact own_bm (by omega) (by omega)
  have m : (x / y * y).toInt = ((X / Y * Y : Nat) : Int) := by
    rw [Int64.toInt_mul, d, hy, ← Int.natCast_mul]; generalize X / Y * Y = E at l2 ⊢; exact own_bm (by omega) (by omega)
  rw [Int64.toInt_sub, hx, m]
  have e : X % Y = X - X / Y * Y := by rw [Nat.mod_eq_sub, Nat.mul_comm]
  rw [e]; clear e m d; generalize X / Y * Y = E at l2 ⊢; exact (own_bm (by omega) (by omega)).trans (by omega)
theorem own_bias_int {b : Int32} {n : Nat} (h1 : 0 < n) (h2 : n < 2 ^ 31) (h3 : b.toInt = (n : Int)) : (own_bias b).toInt = ((4294967296 % n : Nat) : Int) := by
  unfold own_bias
  have e : ((4294967296 : Int64) - b.toInt64).toInt = ((4294967296 - n : Nat) : Int) := by
    rw [Int64.toInt_sub, Int32.toInt_toInt64, h3]
    have e0 : (4294967296 : Int64).toInt = 4294967296 := rfl
    rw [e0]; exact (own_bm (by omega) (by omega)).trans (by omega)
  rw [own_rem e ((Int32.toInt_toInt64 b).trans h3) (by omega) h1 (by omega), show (4294967296 - n) % n = 4294967296 % n from (Nat.mod_eq_sub_mod (by omega)).symm]
theorem own_thr {b : Int32} (h : 0 < b) : ((4294967296 : Int64) - (4294967296 : Int64) / (b.toInt64) * (b.toInt64)) = own_bias b := by
  obtain ⟨n, h1, h2, h3⟩ := own_bpos h
  apply Int64.toInt_inj.mp
  rw [own_bias_int h1 h2 h3]
  exact own_rem (X := 4294967296) rfl ((Int32.toInt_toInt64 b).trans h3) (by decide) h1 (by omega)
theorem own_not_lt {b : Int32} {w : Int64} (h : 0 < b) (q : ¬ w < b.toInt64) : ¬ w < own_bias b := by
  obtain ⟨n, h1, h2, h3⟩ := own_bpos h
  rw [Int64.lt_iff_toInt_lt, Int32.toInt_toInt64, h3] at q
  rw [Int64.lt_iff_toInt_lt, own_bias_int h1 h2 h3]
  have := Nat.mod_lt 4294967296 h1
  omega
theorem own_land_1 {q : Int64} {b : Int32} (h : ¬ (own_prod (q + (-7046029254386353131 : Int64)) b &&& (4294967295 : Int64)) < own_bias b) : own_land q b = q + (-7046029254386353131 : Int64) := by
  unfold own_land
  cases own_M (q + (-7046029254386353131 : Int64)) with
  | zero => rfl
  | succ n => exact if_neg h
theorem own_zero {st : Int64} {b : Int32} (hb : 0 < b) (hM : own_M st = 0) : ¬ (own_prod st b &&& (4294967295 : Int64)) < own_bias b := by
  have e : st = (-6857235525900058748 : Int64) := by
    unfold own_M at hM
    have q : ((-6857235525900058748 : Int64) - st) * (-1018231460777725123 : Int64) = 0 := by
      apply Int64.toBitVec_inj.mp; apply BitVec.eq_of_toNat_eq; exact hM
    have q2 := congrArg (· * (-7046029254386353131 : Int64)) q
    simp only [Int64.mul_assoc, show (-1018231460777725123 : Int64) * (-7046029254386353131 : Int64) = 1 from by decide, Int64.mul_one, Int64.zero_mul] at q2
    have q3 := congrArg (· + st) q2
    simp only [Int64.sub_add_cancel, Int64.zero_add] at q3
    exact q3.symm
  subst e
  apply own_not_lt hb
  have m : own_mix (-6857235525900058748 : Int64) = (4294967296 : Int64) := by decide +kernel
  have p : own_prod (-6857235525900058748 : Int64) b = b.toInt64 := by
    unfold own_prod
    rw [m]
    have : (((4294967296 : Int64).toUInt64 >>> ((32 : Int32) &&& 0x3f).toInt64.toUInt64).toInt64) = 1 := by decide
    rw [this, Int64.one_mul]
  rw [p]
  obtain ⟨n, h1, h2, h3⟩ := own_bpos hb
  have a : b.toInt64 &&& (4294967295 : Int64) = b.toInt64 := by
    have bn : b.toInt64.toBitVec.toNat = n := by
      have q : b.toInt64.toInt = (n : Int) := (Int32.toInt_toInt64 b).trans h3
      have q2 : b.toInt64.toBitVec.toInt = (n : Int) := q
      rw [BitVec.toInt_eq_toNat_cond] at q2
      have := b.toInt64.toBitVec.isLt
      split at q2 <;> omega
    apply Int64.toBitVec_inj.mp; apply BitVec.eq_of_toNat_eq
    rw [Int64.toBitVec_and, BitVec.toNat_and, bn]
    show n &&& (2 ^ 32 - 1) = n
    rw [Nat.and_two_pow_sub_one_eq_mod]; omega
  rw [a]
  exact Int64.lt_irrefl
theorem own_succ {st : Int64} {n : Nat} (hM : own_M st = n + 1) : own_M (st + (-7046029254386353131 : Int64)) = n := by
  unfold own_M at hM ⊢
  have e : ((-6857235525900058748 : Int64) - (st + (-7046029254386353131 : Int64))) * (-1018231460777725123 : Int64) = ((-6857235525900058748 : Int64) - st) * (-1018231460777725123 : Int64) - 1 := by
    have : (-6857235525900058748 : Int64) - (st + (-7046029254386353131 : Int64)) = ((-6857235525900058748 : Int64) - st) - (-7046029254386353131 : Int64) := by
      exact (Int64.sub_sub _ _ _).symm
    rw [this, Int64.sub_mul]
    rfl
  rw [e]
  generalize ((-6857235525900058748 : Int64) - st) * (-1018231460777725123 : Int64) = x at *
  have hx : x.toBitVec.toNat = n + 1 := hM
  show (x - 1).toBitVec.toNat = n
  rw [Int64.toBitVec_sub, BitVec.toNat_sub, hx]
  have : x.toBitVec.toNat < 2 ^ 64 := x.toBitVec.isLt
  have o : (1 : Int64).toBitVec.toNat = 1 := rfl
  rw [o]; omega
theorem own_land_2 {q : Int64} {b : Int32} (hb : 0 < b) (h1 : (own_prod (q + (-7046029254386353131 : Int64)) b &&& (4294967295 : Int64)) < own_bias b)
    (h2 : ¬ (own_prod ((q + (-7046029254386353131 : Int64)) + (-7046029254386353131 : Int64)) b &&& (4294967295 : Int64)) < own_bias b) : own_land q b = (q + (-7046029254386353131 : Int64)) + (-7046029254386353131 : Int64) := by
  unfold own_land
  cases hM : own_M (q + (-7046029254386353131 : Int64)) with
  | zero => exact absurd h1 (own_zero hb hM)
  | succ n =>
    rw [show own_iter (n + 1) (q + (-7046029254386353131 : Int64)) b = own_iter n ((q + (-7046029254386353131 : Int64)) + (-7046029254386353131 : Int64)) b from if_pos h1]
    cases n with
    | zero => rfl
    | succ n => exact if_neg h2
theorem own_r_nat {st : Int64} {b : Int32} {n : Nat} (h1 : 0 < n) (h2 : n < 2 ^ 31) (h3 : b.toInt = (n : Int)) : ∃ k : Nat, k < n ∧ (own_r st b).toInt = (k : Int) := by
  obtain ⟨H, hH⟩ : ∃ H, H = ((own_mix st).toUInt64 >>> ((32 : Int32) &&& 0x3f).toInt64.toUInt64).toNat := ⟨_, rfl⟩
  have hlt : H < 2 ^ 32 := by
    rw [hH, UInt64.toNat_shiftRight]
    have : ((32 : Int32) &&& 0x3f).toInt64.toUInt64.toNat % 64 = 32 := by decide
    rw [this, Nat.shiftRight_eq_div_pow]
    have := (own_mix st).toUInt64.toNat_lt
    omega
  have bn : b.toInt64.toBitVec.toNat = n := by
    have q2 : b.toInt64.toBitVec.toInt = (n : Int) := (Int32.toInt_toInt64 b).trans h3
    rw [BitVec.toInt_eq_toNat_cond] at q2
    have := b.toInt64.toBitVec.isLt
    split at q2 <;> omega
  have hm : H * n < 2 ^ 63 := by
    have a : H * n ≤ (2 ^ 32 - 1) * n := Nat.mul_le_mul_right n (by omega)
    omega
  have pn : (own_prod st b).toBitVec.toNat = H * n := by
    unfold own_prod
    rw [Int64.toBitVec_mul, BitVec.toNat_mul, bn]
    show (((own_mix st).toUInt64 >>> ((32 : Int32) &&& 0x3f).toInt64.toUInt64).toNat * n) % 2 ^ 64 = H * n
    rw [← hH]; omega
  have k1 : H * n / 2 ^ 32 < n := by
    rw [Nat.div_lt_iff_lt_mul (by decide), Nat.mul_comm]
    exact Nat.mul_lt_mul_of_pos_left hlt h1
  refine ⟨H * n / 2 ^ 32, k1, ?_⟩
  unfold own_r
  have s : ((own_prod st b).toUInt64 >>> ((32 : Int32) &&& 0x3f).toInt64.toUInt64).toNat = H * n / 2 ^ 32 := by
    rw [UInt64.toNat_shiftRight]
    have : ((32 : Int32) &&& 0x3f).toInt64.toUInt64.toNat % 64 = 32 := by decide
    rw [this, Nat.shiftRight_eq_div_pow]
    show (own_prod st b).toBitVec.toNat / 2 ^ 32 = _
    rw [pn]
  generalize ((own_prod st b).toUInt64 >>> ((32 : Int32) &&& 0x3f).toInt64.toUInt64) = w at s
  show (w.toInt64.toInt32).toBitVec.toInt = _
  have t : (w.toInt64.toInt32).toBitVec.toNat = H * n / 2 ^ 32 := by
    have : (w.toInt64.toInt32).toBitVec = w.toBitVec.signExtend 32 := rfl
    rw [this, BitVec.signExtend_eq_setWidth_of_le _ (by decide), BitVec.toNat_setWidth]
    show w.toNat % 2 ^ 32 = _
    rw [s]; omega
  rw [BitVec.toInt_eq_toNat_cond, t, if_pos (by omega)]
theorem own_r_nn {st : Int64} {b : Int32} (h : 0 < b) : ¬ own_r st b < 0 := by
  obtain ⟨n, h1, h2, h3⟩ := own_bpos h
  obtain ⟨k, k1, k2⟩ := own_r_nat (st := st) h1 h2 h3
  rw [Int32.lt_iff_toInt_lt, k2]
  have e0 : (0 : Int32).toInt = 0 := rfl
  omega
theorem own_r_lt {st : Int64} {b : Int32} (h : 0 < b) : own_r st b < b := by
  obtain ⟨n, h1, h2, h3⟩ := own_bpos h
  obtain ⟨k, k1, k2⟩ := own_r_nat (st := st) h1 h2 h3
  rw [Int32.lt_iff_toInt_lt, k2, h3]; omega
def own_rv (xs : List Addr) : List Value := xs.map .ref ++ List.replicate (10 - xs.length) .null
def own_exch (ns : List Nat) (i j : Nat) : List Nat := (ns.set j (ns.getD i 0)).set i (ns.getD j 0)
def own_swp (ns : List Nat) (i j : Nat) : List Nat := (ns.set i (ns.getD j 0)).set j (ns.getD i 0)
def own_max (u r : Int32) : Int32 := if u < r then r else u
def own_j (q : Int64) (b : Int32) : Nat := (own_r (own_land q b) b).toNatClampNeg
theorem own_elen (ns : List Nat) (i j : Nat) : (own_exch ns i j).length = ns.length := by simp [own_exch]
theorem own_slen (ns : List Nat) (i j : Nat) : (own_swp ns i j).length = ns.length := by simp [own_swp]
theorem own_rv_len {xs : List Addr} (h : xs.length ≤ 10) : (own_rv xs).length = 10 := by
  unfold own_rv; rw [List.length_append, List.length_map, List.length_replicate]; omega
theorem own_rv_at {xs : List Addr} {I : Nat} (h : I < 2 ^ 31) (hI : I < xs.length) : (own_rv xs)[(Int32.ofNat I).toNatClampNeg]? = some (.ref (xs.getD I 0)) := by
  rw [own_n_nat h]; unfold own_rv
  rw [List.getElem?_append_left (by rw [List.length_map]; exact hI), List.getElem?_map, own_getD (d := 0) hI]; rfl
theorem own_rv_in {xs : List Addr} {I : Nat} (h : I < 2 ^ 31) (hI : I < xs.length) : (Int32.ofNat I).toNatClampNeg < (own_rv xs).length := by
  rw [own_n_nat h]; unfold own_rv; rw [List.length_append, List.length_map]; omega
theorem own_rv_set {xs : List Addr} {I : Nat} {x : Addr} (h : I < 2 ^ 31) (hI : I < xs.length) : (own_rv xs).set (Int32.ofNat I).toNatClampNeg (.ref x) = own_rv (xs.set I x) := by
  rw [own_n_nat h]; unfold own_rv
  rw [List.set_append_left _ _ (by rw [List.length_map]; exact hI), List.map_set, List.length_set]
theorem own_map_getD {ks : List Nat} {I : Nat} {ia : Nat → Addr} (h : I < ks.length) : (ks.map ia).getD I 0 = ia (ks.getD I 0) := by
  rw [List.getD_eq_getElem?_getD, List.getElem?_map, own_getD (d := 0) h]; rfl
theorem own_exch_map {ks : List Nat} {I J : Nat} {ia : Nat → Addr} : (((ks.map ia).set J (ia (ks.getD I 0))).set I (ia (ks.getD J 0))) = (own_exch ks I J).map ia := by
  unfold own_exch; rw [List.map_set, List.map_set]
theorem own_mem_getD {ks : List Nat} {I : Nat} (h : I < ks.length) : ks.getD I 0 ∈ ks := List.mem_of_getElem? (own_getD h)
theorem own_ia_E {Z : State} {ks : List Nat} {I : Nat} {ia : Nat → Addr} {C : String} (hE : ∀ k < 4, Exa Z Z.heap (ia k) C) (hk4 : ∀ k ∈ ks, k < 4) (h : I < ks.length) : Exa Z Z.heap (ia (ks.getD I 0)) C := hE _ (hk4 _ (own_mem_getD h))
theorem own_getD4 {ks : List Nat} (h : ∀ k ∈ ks, k < 4) (i : Nat) : ks.getD i 0 < 4 := by
  by_cases q : i < ks.length
  · exact h _ (own_mem_getD q)
  · rw [List.getD_eq_getElem?_getD, List.getElem?_eq_none (by omega)]; decide
theorem own_k4 {ks : List Nat} {I J : Nat} (h : ∀ k ∈ ks, k < 4) : ∀ k ∈ own_exch ks I J, k < 4 := fun k hk => by
  unfold own_exch at hk
  rcases List.mem_or_eq_of_mem_set hk with q | q
  · rcases List.mem_or_eq_of_mem_set q with q | q
    · exact h k q
    · rw [q]; exact own_getD4 h I
  · rw [q]; exact own_getD4 h J
theorem own_j_nat {q : Int64} {b : Int32} (hb : 0 < b) : own_r (own_land q b) b = Int32.ofNat (own_j q b) ∧ own_j q b < b.toNatClampNeg := by
  obtain ⟨n, h1, h2, h3⟩ := own_bpos hb
  obtain ⟨k, k1, k2⟩ := own_r_nat (st := own_land q b) h1 h2 h3
  have e : own_j q b = k := by unfold own_j; simp only [Int32.toNatClampNeg, k2]; omega
  have eb : b.toNatClampNeg = n := by simp only [Int32.toNatClampNeg, h3]; omega
  rw [e, eb]
  refine ⟨Int32.toInt_inj.mp ?_, k1⟩
  rw [k2, own_n_int (by omega)]
theorem own_j_eq {q : Int64} {b : Int32} (hb : 0 < b) : own_r (own_land q b) b = Int32.ofNat (own_j q b) := (own_j_nat hb).1
theorem own_j_lt {q : Int64} {b : Int32} (hb : 0 < b) {m n : Nat} (e : b.toNatClampNeg = m) (h : m ≤ n) : own_j q b < n := by
  have := (own_j_nat (q := q) hb).2; omega
theorem own_iv4_at {NS : List Nat} {J : Nat} (hl : NS.length = 4) (hJ : J < 4) : (own_iv NS)[(Int32.ofNat J).toNatClampNeg]? = some (.int (Int32.ofNat (NS.getD J 0))) := by
  rw [own_n_nat (by omega)]; unfold own_iv; rw [List.getElem?_map, own_getD (d := 0) (by omega)]; rfl
theorem own_iv4_in {NS : List Nat} {J : Nat} (hl : NS.length = 4) (hJ : J < 4) : (Int32.ofNat J).toNatClampNeg < (own_iv NS).length := by
  rw [own_n_nat (by omega)]; unfold own_iv; rw [List.length_map, hl]; exact hJ
theorem own_iv4_set {NS : List Nat} {J X : Nat} (hJ : J < 4) : (own_iv NS).set (Int32.ofNat J).toNatClampNeg (.int (Int32.ofNat X)) = own_iv (NS.set J X) := by
  rw [own_n_nat (by omega)]; unfold own_iv; rw [List.map_set]
def own_same (ks es : List Nat) (I : Nat) : Int32 := if Int32.ofNat (ks.getD I 0) = Int32.ofNat (es.getD I 0) then 1 else 0
theorem own_fin4 : ∀ j4 < 4, ∀ j3 < 3, ∀ j2 < 2, ∀ i < 4, own_same (own_exch (own_exch (own_exch [0, 1, 2, 3] 3 j4) 2 j3) 1 j2) (own_swp (own_swp (own_swp [0, 1, 2, 3] 3 j4) 2 j3) 1 j2) i = 1 := by decide +kernel
theorem own_fin3 : ∀ j3 < 3, ∀ j2 < 2, ∀ i < 3, own_same (own_exch (own_exch [0, 1, 2] 2 j3) 1 j2) (own_swp (own_swp [0, 1, 2, 3] 2 j3) 1 j2) i = 1 := by decide +kernel
theorem own_fin2 : ∀ j2 < 2, ∀ i < 2, own_same (own_exch [0, 1] 1 j2) (own_swp [0, 1, 2, 3] 1 j2) i = 1 := by decide +kernel
theorem own_fin1 : ∀ i < 1, own_same [0] [0, 1, 2, 3] i = 1 := by decide +kernel
theorem pn_10 : plainFor (⟨"java/lang/Math", "max", "(II)I"⟩ : MethodName) = true := Jvm.Free.JP.mathPlain rfl (by decide +kernel)
theorem d10_0 : decode jdk_29_method_65_code 0 = .ok (.iload_n 0, 1) := by decide +kernel
theorem d10_1 : decode jdk_29_method_65_code 1 = .ok (.iload_n 1, 1) := by decide +kernel
theorem d10_2 : decode jdk_29_method_65_code 2 = .ok (.if_icmp .lt 7, 3) := by decide +kernel
theorem d10_9 : decode jdk_29_method_65_code 9 = .ok (.iload_n 1, 1) := by decide +kernel
theorem d10_10 : decode jdk_29_method_65_code 10 = .ok (.ireturn, 1) := by decide +kernel
theorem d10_5 : decode jdk_29_method_65_code 5 = .ok (.iload_n 0, 1) := by decide +kernel
theorem d10_6 : decode jdk_29_method_65_code 6 = .ok (.goto 4, 3) := by decide +kernel
theorem ef_rm10 (m : MethodId) (x0 : Int32) (x1 : Int32) : entryFrame m #[(.int x0), (.int x1)] 2 = mkF m 0 #[.val (.int x0), .val (.int x1)] [] := by first | (simp [entryFrame, mkF, argsToLocals, Value.category]; done) | rfl
def Q_rm10 (Z : State) (u r : Int32) (h0 : Heap) (n0 : Nat) (v : Option Value) (h : Heap) (L : List Loc) : Prop := v = some (.int (own_max u r)) ∧ Fr n0 L ∧ h = h0
set_option maxRecDepth 65536 in
set_option maxHeartbeats 40000000 in
theorem rm10 (l : Launch) (Z : State) (a0 : Array Value) (hw : ∀ d ∈ tables_1, d.before a0 Z = true) (u r : Int32) (h0 : Heap) (n0 : Nat) (Z0 : n0 ≤ h0.size)  :
    OwnMet l (⟨"java/lang/Math", "max", "(II)I"⟩ : MethodName) jdk_29_method_65_code 2 (some .int) [] ({ frames := 0, cells := 0, slots := 0, locals := 0 } : Room) Z #[(.int u), (.int r)] h0 (Q_rm10 Z u r h0 n0) := by
  refine own_met pn_10 (fun p e s m below meth c s₁ hx hby hml hown hnm hret hlk hZ X0 e0 => ?_)
  have hown : s.vm.findClass "java/lang/Math" = some m.cls := hown
  have N0 := Fr.nil n0
  rw [ef_rm10]
  show OwnWk _ _ _ _ (s₁.setTop (mkF m 0 #[.val (.int u), .val (.int r)] []))
  refine own_go (fun tgt kst => XS.iloadN X0.here hx rfl (hb hby d10_0) rfl  kst) ?_
  show OwnWk _ _ _ _ (s₁.setTop (mkF m 1 #[.val (.int u), .val (.int r)] [(.int u)]))
  refine own_go (fun tgt kst => XS.iloadN X0.here hx rfl (hb hby d10_1) rfl  kst) ?_
  show OwnWk _ _ _ _ (s₁.setTop (mkF m 2 #[.val (.int u), .val (.int r)] [(.int r), (.int u)]))
  by_cases hc1 : u < r
  ·
    refine own_go (fun tgt kst => XS.icmpYes X0.here hx rfl (pc0 := 2) (pc' := 9) rfl (hb hby d10_2) rfl (tlt hc1).1 (by decide) (by decide) kst) ?_
    show OwnWk _ _ _ _ (s₁.setTop (mkF m 9 #[.val (.int u), .val (.int r)] []))
    refine own_go (fun tgt kst => XS.iloadN X0.here hx rfl (hb hby d10_9) rfl  kst) ?_
    show OwnWk _ _ _ _ (s₁.setTop (mkF m 10 #[.val (.int u), .val (.int r)] [(.int r)]))
    exact own_retI X0 hx hlk hret (hb hby d10_10) (by decide) (by decide) (by rw [e0]; exact ⟨by simp [own_max, hc1], N0, rfl⟩)
  ·
    refine own_go (fun tgt kst => XS.icmpNo X0.here hx rfl (hb hby d10_2) rfl (flt hc1).1 kst) ?_
    show OwnWk _ _ _ _ (s₁.setTop (mkF m 5 #[.val (.int u), .val (.int r)] []))
    refine own_go (fun tgt kst => XS.iloadN X0.here hx rfl (hb hby d10_5) rfl  kst) ?_
    show OwnWk _ _ _ _ (s₁.setTop (mkF m 6 #[.val (.int u), .val (.int r)] [(.int u)]))
    refine own_go (fun tgt kst => XS.goto X0.here hx rfl (pc0 := 6) (pc' := 10) rfl (hb hby d10_6) (by decide) (by decide) kst) ?_
    show OwnWk _ _ _ _ (s₁.setTop (mkF m 10 #[.val (.int u), .val (.int r)] [(.int u)]))
    exact own_retI X0 hx hlk hret (hb hby d10_10) (by decide) (by decide) (by rw [e0]; exact ⟨by simp [own_max, hc1], N0, rfl⟩)
theorem pn_pn_3 : plainName "java/util/AbstractCollection" = true := by first | (simp [plainName, overriddenIn]; done) | decide +kernel
theorem pn_3 : plainFor (⟨"java/util/AbstractCollection", "<init>", "()V"⟩ : MethodName) = true := plainFor_of_name pn_pn_3
theorem d3_0 : decode jdk_22_method_1_code 0 = .ok (.aload_n 0, 1) := by decide +kernel
theorem d3_1 : decode jdk_22_method_1_code 1 = .ok (.invokespecial 1, 3) := by decide +kernel
theorem d3_4 : decode jdk_22_method_1_code 4 = .ok (.return_, 1) := by decide +kernel
theorem ef_rm3 (m : MethodId) (x0 : Addr) : entryFrame m #[(.ref x0)] 1 = mkF m 0 #[.val (.ref x0)] [] := by first | (simp [entryFrame, mkF, argsToLocals, Value.category]; done) | rfl
def Q_rm3 (Z : State) (a : Addr) (h0 : Heap) (n0 : Nat) (v : Option Value) (h : Heap) (L : List Loc) : Prop := v = none ∧ Fr n0 L ∧ h = h0
set_option maxRecDepth 65536 in
set_option maxHeartbeats 40000000 in
theorem rm3 (l : Launch) (Z : State) (a0 : Array Value) (hw : ∀ d ∈ tables_1, d.before a0 Z = true) (a : Addr) (h0 : Heap) (n0 : Nat) (Z0 : n0 ≤ h0.size)  :
    OwnMet l (⟨"java/util/AbstractCollection", "<init>", "()V"⟩ : MethodName) jdk_22_method_1_code 1 none [] ({ frames := 1, cells := 0, slots := 0, locals := 12 } : Room) Z #[(.ref a)] h0 (Q_rm3 Z a h0 n0) := by
  refine own_met pn_3 (fun p e s m below meth c s₁ hx hby hml hown hnm hret hlk hZ X0 e0 => ?_)
  have hown : s.vm.findClass "java/util/AbstractCollection" = some m.cls := hown
  have N0 := Fr.nil n0
  rw [ef_rm3]
  show OwnWk _ _ _ _ (s₁.setTop (mkF m 0 #[.val (.ref a)] []))
  refine own_go (fun tgt kst => XS.aloadN X0.here hx rfl (hb hby d3_0) rfl rfl  kst) ?_
  show OwnWk _ _ _ _ (s₁.setTop (mkF m 1 #[.val (.ref a)] [(.ref a)]))
  obtain ⟨T1, X1, e1, st1⟩ := initO X0 hx hZ hown (hw _ (List.mem_of_getElem? (i := 20) rfl)) (hw _ (List.mem_of_getElem? (i := 21) rfl)) (hw _ (List.mem_of_getElem? (i := 22) rfl)) e0 (g := (mkF m 1 #[.val (.ref a)] [(.ref a)])) rfl (by rw [hml]; rfl) rfl (hb hby d3_1) (by decide) (W := 0) (by show 2 * 0 + _ ≤ _; exact Nat.le_of_eq rfl) (by decide)
  refine own_go st1 ?_
  show OwnWk _ _ _ _ (T1.setTop (mkF m 4 #[.val (.ref a)] []))
  exact own_retV X1 hx hlk hret (hb hby d3_4) (by decide) (by decide) (by rw [e1]; exact ⟨rfl, N0, rfl⟩)
theorem pn_pn_2 : plainName "java/util/AbstractList" = true := by first | (simp [plainName, overriddenIn]; done) | decide +kernel
theorem pn_2 : plainFor (⟨"java/util/AbstractList", "<init>", "()V"⟩ : MethodName) = true := plainFor_of_name pn_pn_2
theorem d2_0 : decode jdk_39_method_1_code 0 = .ok (.aload_n 0, 1) := by decide +kernel
theorem d2_1 : decode jdk_39_method_1_code 1 = .ok (.invokespecial 1, 3) := by decide +kernel
theorem pd_0 : parseMethodDescriptor "()V" = some ⟨[], none⟩ := by decide +kernel
theorem d2_4 : decode jdk_39_method_1_code 4 = .ok (.aload_n 0, 1) := by decide +kernel
theorem d2_5 : decode jdk_39_method_1_code 5 = .ok (.iconst 0, 1) := by decide +kernel
theorem d2_6 : decode jdk_39_method_1_code 6 = .ok (.putfield 7, 3) := by decide +kernel
theorem d2_9 : decode jdk_39_method_1_code 9 = .ok (.return_, 1) := by decide +kernel
theorem ef_rm2 (m : MethodId) (x0 : Addr) : entryFrame m #[(.ref x0)] 1 = mkF m 0 #[.val (.ref x0)] [] := by first | (simp [entryFrame, mkF, argsToLocals, Value.category]; done) | rfl
def Q_rm2 (Z : State) (a : Addr) (h0 : Heap) (n0 : Nat) (v : Option Value) (h : Heap) (L : List Loc) : Prop := v = none ∧ Fr n0 L ∧ Keep h0 h [a] ∧ Fld Z h a "java/util/AbstractList" "modCount" "I" (.int (0 : Int32)) ∧ Fld Z h a "java/util/ArrayList" "elementData" "[Ljava/lang/Object;" .null ∧ Fld Z h a "java/util/ArrayList" "size" "I" (.int (0 : Int32))
set_option maxRecDepth 65536 in
set_option maxHeartbeats 40000000 in
theorem rm2 (l : Launch) (Z : State) (a0 : Array Value) (hw : ∀ d ∈ tables_1, d.before a0 Z = true) (a : Addr) (h0 : Heap) (n0 : Nat) (Z0 : n0 ≤ h0.size) (E_a : Exa Z h0 a "java/util/ArrayList") (g_a : n0 ≤ a) (F_m : Fld Z h0 a "java/util/AbstractList" "modCount" "I" (.int (0 : Int32))) (F_e : Fld Z h0 a "java/util/ArrayList" "elementData" "[Ljava/lang/Object;" .null) (F_s : Fld Z h0 a "java/util/ArrayList" "size" "I" (.int (0 : Int32))) :
    OwnMet l (⟨"java/util/AbstractList", "<init>", "()V"⟩ : MethodName) jdk_39_method_1_code 1 none [] ({ frames := 2, cells := 0, slots := 0, locals := 24 } : Room) Z #[(.ref a)] h0 (Q_rm2 Z a h0 n0) := by
  refine own_met pn_2 (fun p e s m below meth c s₁ hx hby hml hown hnm hret hlk hZ X0 e0 => ?_)
  have hown : s.vm.findClass "java/util/AbstractList" = some m.cls := hown
  have N0 := Fr.nil n0
  have K0 := Keep.refl h0 [a]
  rw [ef_rm2]
  show OwnWk _ _ _ _ (s₁.setTop (mkF m 0 #[.val (.ref a)] []))
  refine own_go (fun tgt kst => XS.aloadN X0.here hx rfl (hb hby d2_0) rfl rfl  kst) ?_
  show OwnWk _ _ _ _ (s₁.setTop (mkF m 1 #[.val (.ref a)] [(.ref a)]))
  refine own_callC X0 hx hZ (y := (⟨"java/util/AbstractCollection", "<init>", "()V"⟩ : MethodName)) hown rfl (hw _ (List.mem_of_getElem? (i := 14) rfl)) (hw _ (List.mem_of_getElem? (i := 15) rfl)) (hw _ (List.mem_of_getElem? (i := 18) rfl)) (hw _ (List.mem_of_getElem? (i := 19) rfl)) (by decide) (a := a) (argsL := []) (rest := []) (rm := ({ frames := 1, cells := 0, slots := 0, locals := 12 } : Room)) (h := h0) (rm3 l Z a0 hw a h0 n0 Z0) e0 (W := 0) (by decide) (by decide) (by decide) (by decide) (g := (mkF m 1 #[.val (.ref a)] [(.ref a)])) rfl (by rw [hml]; rfl) (lenOf pd_0 rfl) rfl (by show 2 * 0 + _ ≤ _; exact Nat.le_of_eq rfl) (hb hby d2_1) (fun v1 T1 h1 L1 X1 e1 hQ1 => ?_)
  obtain ⟨rfl, Nq1, q1⟩ := hQ1
  have N1 := Fr.app N0 Nq1
  rw [q1] at e1
  show OwnWk _ _ _ _ (T1.setTop (mkF m 4 #[.val (.ref a)] []))
  refine own_go (fun tgt kst => XS.aloadN X1.here hx rfl (hb hby d2_4) rfl rfl  kst) ?_
  show OwnWk _ _ _ _ (T1.setTop (mkF m 5 #[.val (.ref a)] [(.ref a)]))
  refine own_go (fun tgt kst => XS.iconst X1.here hx rfl (hb hby d2_5) kst) ?_
  show OwnWk _ _ _ _ (T1.setTop (mkF m 6 #[.val (.ref a)] [(.int (0 : Int32)), (.ref a)]))
  obtain ⟨T2, h2, X2, e2, W2, st2⟩ := putF X1 hx hZ hown (host := "") (Or.inl (hw _ (List.mem_of_getElem? (i := 23) rfl))) Via.refl e1 F_m E_a (Or.inl (hw _ (List.mem_of_getElem? (i := 24) rfl))) (hw _ (List.mem_of_getElem? (i := 3) rfl)) (v := (.int (0 : Int32))) (ty := .int) (by decide) rfl rfl (g := (mkF m 6 #[.val (.ref a)] [(.int (0 : Int32)), (.ref a)])) rfl rfl (hb hby d2_6)
  refine own_go st2 ?_
  have N2 := Fr.snoc X2 N1 g_a
  have Fw2 := Fld.same W2 F_m
  have F3 := Exa.wr W2 E_a
  have F4 := Fld.other W2 F_e (Or.inr (slot_ne (Or.inl (hw _ (List.mem_of_getElem? (i := 27) rfl))) (Or.inl (hw _ (List.mem_of_getElem? (i := 24) rfl))) (by decide) (t := (.array (.object "java/lang/Object"))) (t' := .int) (by decide) (by decide)))
  have F5 := Fld.other W2 F_s (Or.inr (slot_ne (Or.inl (hw _ (List.mem_of_getElem? (i := 43) rfl))) (Or.inl (hw _ (List.mem_of_getElem? (i := 24) rfl))) (by decide) (t := .int) (t' := .int) (by decide) (by decide)))
  have Z6 := Nat.le_trans Z0 (Keep.of_wr W2).1
  have K7 := Keep.wr K0 W2 (Or.inl (List.mem_of_getElem? (i := 0) rfl))
  show OwnWk _ _ _ _ (T2.setTop (mkF m 9 #[.val (.ref a)] []))
  exact own_retV X2 hx hlk hret (hb hby d2_9) (by decide) (by decide) (by rw [e2]; exact ⟨rfl, N2, K7, Fw2, F4, F5⟩)
theorem pn_pn_1 : plainName "java/util/ArrayList" = true := by first | (simp [plainName, overriddenIn]; done) | decide +kernel
theorem pn_1 : plainFor (⟨"java/util/ArrayList", "<init>", "()V"⟩ : MethodName) = true := plainFor_of_name pn_pn_1
theorem d1_0 : decode jdk_38_method_2_code 0 = .ok (.aload_n 0, 1) := by decide +kernel
theorem d1_1 : decode jdk_38_method_2_code 1 = .ok (.invokespecial 1, 3) := by decide +kernel
theorem d1_4 : decode jdk_38_method_2_code 4 = .ok (.aload_n 0, 1) := by decide +kernel
theorem d1_5 : decode jdk_38_method_2_code 5 = .ok (.getstatic 39, 3) := by decide +kernel
theorem d1_8 : decode jdk_38_method_2_code 8 = .ok (.putfield 9, 3) := by decide +kernel
theorem d1_11 : decode jdk_38_method_2_code 11 = .ok (.return_, 1) := by decide +kernel
theorem ef_rm1 (m : MethodId) (x0 : Addr) : entryFrame m #[(.ref x0)] 1 = mkF m 0 #[.val (.ref x0)] [] := by first | (simp [entryFrame, mkF, argsToLocals, Value.category]; done) | rfl
def Q_rm1 (Z : State) (dce cac : Addr) (ia : Nat → Addr) (a : Addr) (h0 : Heap) (n0 : Nat) (v : Option Value) (h : Heap) (L : List Loc) : Prop := v = none ∧ Fr n0 L ∧ Keep h0 h [a] ∧ Fld Z h a "java/util/AbstractList" "modCount" "I" (.int (0 : Int32)) ∧ Fld Z h a "java/util/ArrayList" "elementData" "[Ljava/lang/Object;" (.ref dce) ∧ Fld Z h a "java/util/ArrayList" "size" "I" (.int (0 : Int32))
set_option maxRecDepth 65536 in
set_option maxHeartbeats 40000000 in
theorem rm1 (l : Launch) (Z : State) (a0 : Array Value) (hw : ∀ d ∈ tables_1, d.before a0 Z = true) (dce cac : Addr) (ia : Nat → Addr) (a : Addr) (h0 : Heap) (n0 : Nat) (Z0 : n0 ≤ h0.size) (O0 : Old Z n0 h0) (S_d : Sta Z Z.heap "java/util/ArrayList" "DEFAULTCAPACITY_EMPTY_ELEMENTDATA" "[Ljava/lang/Object;" (.ref dce)) (V_d : OAr Z Z.heap dce (.object "java/lang/Object") []) (S_h : Sta Z Z.heap "java/lang/Integer$IntegerCache" "high" "I" (.int (127 : Int32))) (S_c : Sta Z Z.heap "java/lang/Integer$IntegerCache" "cache" "[Ljava/lang/Integer;" (.ref cac)) (hL : ∀ k < 4, OEl Z Z.heap cac (.object "java/lang/Integer") (128 + k) (.ref (ia k))) (hE : ∀ k < 4, Exa Z Z.heap (ia k) "java/lang/Integer") (hV : ∀ k < 4, Fld Z Z.heap (ia k) "java/lang/Integer" "value" "I" (.int (Int32.ofNat k))) (E_a : Exa Z h0 a "java/util/ArrayList") (g_a : n0 ≤ a) (F_m : Fld Z h0 a "java/util/AbstractList" "modCount" "I" (.int (0 : Int32))) (F_e : Fld Z h0 a "java/util/ArrayList" "elementData" "[Ljava/lang/Object;" .null) (F_s : Fld Z h0 a "java/util/ArrayList" "size" "I" (.int (0 : Int32))) :
    OwnMet l (⟨"java/util/ArrayList", "<init>", "()V"⟩ : MethodName) jdk_38_method_2_code 1 none [] ({ frames := 3, cells := 0, slots := 0, locals := 36 } : Room) Z #[(.ref a)] h0 (Q_rm1 Z dce cac ia a h0 n0) := by
  refine own_met pn_1 (fun p e s m below meth c s₁ hx hby hml hown hnm hret hlk hZ X0 e0 => ?_)
  have hown : s.vm.findClass "java/util/ArrayList" = some m.cls := hown
  have N0 := Fr.nil n0
  have K0 := Keep.refl h0 [a]
  rw [ef_rm1]
  show OwnWk _ _ _ _ (s₁.setTop (mkF m 0 #[.val (.ref a)] []))
  refine own_go (fun tgt kst => XS.aloadN X0.here hx rfl (hb hby d1_0) rfl rfl  kst) ?_
  show OwnWk _ _ _ _ (s₁.setTop (mkF m 1 #[.val (.ref a)] [(.ref a)]))
  refine own_callC X0 hx hZ (y := (⟨"java/util/AbstractList", "<init>", "()V"⟩ : MethodName)) hown rfl (hw _ (List.mem_of_getElem? (i := 8) rfl)) (hw _ (List.mem_of_getElem? (i := 9) rfl)) (hw _ (List.mem_of_getElem? (i := 12) rfl)) (hw _ (List.mem_of_getElem? (i := 13) rfl)) (by decide) (a := a) (argsL := []) (rest := []) (rm := ({ frames := 2, cells := 0, slots := 0, locals := 24 } : Room)) (h := h0) (rm2 l Z a0 hw a h0 n0 Z0 E_a g_a F_m F_e F_s) e0 (W := 0) (by decide) (by decide) (by decide) (by decide) (g := (mkF m 1 #[.val (.ref a)] [(.ref a)])) rfl (by rw [hml]; rfl) (lenOf pd_0 rfl) rfl (by show 2 * 0 + _ ≤ _; exact Nat.le_of_eq rfl) (hb hby d1_1) (fun v1 T1 h1 L1 X1 e1 hQ1 => ?_)
  obtain ⟨rfl, Nq1, Kq1, Fm1, Fe1, Fs1⟩ := hQ1
  have N1 := Fr.app N0 Nq1
  have F2 := Old.keep O0 Kq1 (allS g_a all0)
  have F3 := Exa.keep E_a Kq1
  have Z4 := Nat.le_trans Z0 Kq1.1
  have K5 := Keep.trans K0 Kq1 (allS (Or.inl (List.mem_of_getElem? (i := 0) rfl)) all0)
  show OwnWk _ _ _ _ (T1.setTop (mkF m 4 #[.val (.ref a)] []))
  refine own_go (fun tgt kst => XS.aloadN X1.here hx rfl (hb hby d1_4) rfl rfl  kst) ?_
  show OwnWk _ _ _ _ (T1.setTop (mkF m 5 #[.val (.ref a)] [(.ref a)]))
  obtain ⟨T6, X6, e6, st6⟩ := getS2 X1 hx hZ hown (host := "") (Or.inl (hw _ (List.mem_of_getElem? (i := 25) rfl))) Via.refl e1 (Sta.ext F2.2 S_d) (g := (mkF m 5 #[.val (.ref a)] [(.ref a)])) rfl (hb hby d1_5)
  refine own_go st6 ?_
  show OwnWk _ _ _ _ (T6.setTop (mkF m 8 #[.val (.ref a)] [(.ref dce), (.ref a)]))
  obtain ⟨T7, h7, X7, e7, W7, st7⟩ := putF X6 hx hZ hown (host := "") (Or.inl (hw _ (List.mem_of_getElem? (i := 26) rfl))) Via.refl e6 Fe1 F3 (Or.inl (hw _ (List.mem_of_getElem? (i := 27) rfl))) (hw _ (List.mem_of_getElem? (i := 3) rfl)) (v := (.ref dce)) (ty := (.array (.object "java/lang/Object"))) (by decide) rfl rfl (g := (mkF m 8 #[.val (.ref a)] [(.ref dce), (.ref a)])) rfl rfl (hb hby d1_8)
  refine own_go st7 ?_
  have N7 := Fr.snoc X7 N1 g_a
  have Fw7 := Fld.same W7 Fe1
  have F8 := Old.wr F2 W7 g_a
  have F9 := Exa.wr W7 F3
  have F10 := Fld.other W7 Fm1 (Or.inr (slot_ne (Or.inl (hw _ (List.mem_of_getElem? (i := 24) rfl))) (Or.inl (hw _ (List.mem_of_getElem? (i := 27) rfl))) (by decide) (t := .int) (t' := (.array (.object "java/lang/Object"))) (by decide) (by decide)))
  have F11 := Fld.other W7 Fs1 (Or.inr (slot_ne (Or.inl (hw _ (List.mem_of_getElem? (i := 43) rfl))) (Or.inl (hw _ (List.mem_of_getElem? (i := 27) rfl))) (by decide) (t := .int) (t' := (.array (.object "java/lang/Object"))) (by decide) (by decide)))
  have Z12 := Nat.le_trans Z4 (Keep.of_wr W7).1
  have K13 := Keep.wr K5 W7 (Or.inl (List.mem_of_getElem? (i := 0) rfl))
  show OwnWk _ _ _ _ (T7.setTop (mkF m 11 #[.val (.ref a)] []))
  exact own_retV X7 hx hlk hret (hb hby d1_11) (by decide) (by decide) (by rw [e7]; exact ⟨rfl, N7, K13, F10, Fw7, F11⟩)
theorem pn_pn_13 : plainName "java/util/ArrayList" = true := by first | (simp [plainName, overriddenIn]; done) | decide +kernel
theorem pn_13 : plainFor (⟨"java/util/ArrayList", "size", "()I"⟩ : MethodName) = true := plainFor_of_name pn_pn_13
theorem d13_0 : decode jdk_38_method_8_code 0 = .ok (.aload_n 0, 1) := by decide +kernel
theorem d13_1 : decode jdk_38_method_8_code 1 = .ok (.getfield 48, 3) := by decide +kernel
theorem d13_4 : decode jdk_38_method_8_code 4 = .ok (.ireturn, 1) := by decide +kernel
theorem ef_rm13 (m : MethodId) (x0 : Addr) : entryFrame m #[(.ref x0)] 1 = mkF m 0 #[.val (.ref x0)] [] := by first | (simp [entryFrame, mkF, argsToLocals, Value.category]; done) | rfl
def Q_rm13 (Z : State) (a : Addr) (u : Int32) (h0 : Heap) (n0 : Nat) (v : Option Value) (h : Heap) (L : List Loc) : Prop := v = some (.int u) ∧ Fr n0 L ∧ h = h0
set_option maxRecDepth 65536 in
set_option maxHeartbeats 40000000 in
theorem rm13 (l : Launch) (Z : State) (a0 : Array Value) (hw : ∀ d ∈ tables_1, d.before a0 Z = true) (a : Addr) (u : Int32) (h0 : Heap) (n0 : Nat) (Z0 : n0 ≤ h0.size) (F_s : Fld Z h0 a "java/util/ArrayList" "size" "I" (.int u)) :
    OwnMet l (⟨"java/util/ArrayList", "size", "()I"⟩ : MethodName) jdk_38_method_8_code 1 (some .int) [] ({ frames := 0, cells := 0, slots := 0, locals := 0 } : Room) Z #[(.ref a)] h0 (Q_rm13 Z a u h0 n0) := by
  refine own_met pn_13 (fun p e s m below meth c s₁ hx hby hml hown hnm hret hlk hZ X0 e0 => ?_)
  have hown : s.vm.findClass "java/util/ArrayList" = some m.cls := hown
  have N0 := Fr.nil n0
  rw [ef_rm13]
  show OwnWk _ _ _ _ (s₁.setTop (mkF m 0 #[.val (.ref a)] []))
  refine own_go (fun tgt kst => XS.aloadN X0.here hx rfl (hb hby d13_0) rfl rfl  kst) ?_
  show OwnWk _ _ _ _ (s₁.setTop (mkF m 1 #[.val (.ref a)] [(.ref a)]))
  obtain ⟨T1, X1, e1, st1⟩ := getF X0 hx hZ hown (host := "") (Or.inl (hw _ (List.mem_of_getElem? (i := 42) rfl))) Via.refl e0 F_s (g := (mkF m 1 #[.val (.ref a)] [(.ref a)])) rfl rfl (hb hby d13_1)
  refine own_go st1 ?_
  show OwnWk _ _ _ _ (T1.setTop (mkF m 4 #[.val (.ref a)] [(.int u)]))
  exact own_retI X1 hx hlk hret (hb hby d13_4) (by decide) (by decide) (by rw [e1]; exact ⟨rfl, N0, rfl⟩)
theorem pn_pn_5 : plainName "java/lang/Integer" = true := by first | (simp [plainName, overriddenIn]; done) | decide +kernel
theorem pn_5 : plainFor (⟨"java/lang/Integer", "valueOf", "(I)Ljava/lang/Integer;"⟩ : MethodName) = true := plainFor_of_name pn_pn_5
theorem d5_0 : decode jdk_33_method_22_code 0 = .ok (.iload_n 0, 1) := by decide +kernel
theorem d5_1 : decode jdk_33_method_22_code 1 = .ok (.bipush (-128), 2) := by decide +kernel
theorem d5_3 : decode jdk_33_method_22_code 3 = .ok (.if_icmp .lt 20, 3) := by decide +kernel
theorem d5_6 : decode jdk_33_method_22_code 6 = .ok (.iload_n 0, 1) := by decide +kernel
theorem d5_7 : decode jdk_33_method_22_code 7 = .ok (.getstatic 191, 3) := by decide +kernel
theorem d5_10 : decode jdk_33_method_22_code 10 = .ok (.if_icmp .gt 13, 3) := by decide +kernel
theorem d5_13 : decode jdk_33_method_22_code 13 = .ok (.getstatic 195, 3) := by decide +kernel
theorem d5_16 : decode jdk_33_method_22_code 16 = .ok (.iload_n 0, 1) := by decide +kernel
theorem d5_17 : decode jdk_33_method_22_code 17 = .ok (.sipush 128, 3) := by decide +kernel
theorem d5_20 : decode jdk_33_method_22_code 20 = .ok (.iadd, 1) := by decide +kernel
theorem d5_21 : decode jdk_33_method_22_code 21 = .ok (.aaload, 1) := by decide +kernel
theorem d5_22 : decode jdk_33_method_22_code 22 = .ok (.areturn, 1) := by decide +kernel
theorem ef_vo0 (m : MethodId) (x0 : Int32) : entryFrame m #[(.int x0)] 1 = mkF m 0 #[.val (.int x0)] [] := by first | (simp [entryFrame, mkF, argsToLocals, Value.category]; done) | rfl
def Q_vo0 (Z : State) (dce cac : Addr) (ia : Nat → Addr)  (h0 : Heap) (n0 : Nat) (v : Option Value) (h : Heap) (L : List Loc) : Prop := v = some (.ref (ia 0)) ∧ Fr n0 L ∧ h = h0
set_option maxRecDepth 65536 in
set_option maxHeartbeats 40000000 in
theorem vo0 (l : Launch) (Z : State) (a0 : Array Value) (hw : ∀ d ∈ tables_1, d.before a0 Z = true) (dce cac : Addr) (ia : Nat → Addr)  (h0 : Heap) (n0 : Nat) (Z0 : n0 ≤ h0.size) (O0 : Old Z n0 h0) (S_d : Sta Z Z.heap "java/util/ArrayList" "DEFAULTCAPACITY_EMPTY_ELEMENTDATA" "[Ljava/lang/Object;" (.ref dce)) (V_d : OAr Z Z.heap dce (.object "java/lang/Object") []) (S_h : Sta Z Z.heap "java/lang/Integer$IntegerCache" "high" "I" (.int (127 : Int32))) (S_c : Sta Z Z.heap "java/lang/Integer$IntegerCache" "cache" "[Ljava/lang/Integer;" (.ref cac)) (hL : ∀ k < 4, OEl Z Z.heap cac (.object "java/lang/Integer") (128 + k) (.ref (ia k))) (hE : ∀ k < 4, Exa Z Z.heap (ia k) "java/lang/Integer") (hV : ∀ k < 4, Fld Z Z.heap (ia k) "java/lang/Integer" "value" "I" (.int (Int32.ofNat k)))  :
    OwnMet l (⟨"java/lang/Integer", "valueOf", "(I)Ljava/lang/Integer;"⟩ : MethodName) jdk_33_method_22_code 1 (some (.object "java/lang/Integer")) [] ({ frames := 0, cells := 0, slots := 0, locals := 0 } : Room) Z #[(.int (0 : Int32))] h0 (Q_vo0 Z dce cac ia  h0 n0) := by
  refine own_met pn_5 (fun p e s m below meth c s₁ hx hby hml hown hnm hret hlk hZ X0 e0 => ?_)
  have hown : s.vm.findClass "java/lang/Integer" = some m.cls := hown
  have N0 := Fr.nil n0
  rw [ef_vo0]
  show OwnWk _ _ _ _ (s₁.setTop (mkF m 0 #[.val (.int (0 : Int32))] []))
  refine own_go (fun tgt kst => XS.iloadN X0.here hx rfl (hb hby d5_0) rfl  kst) ?_
  show OwnWk _ _ _ _ (s₁.setTop (mkF m 1 #[.val (.int (0 : Int32))] [(.int (0 : Int32))]))
  refine own_go (fun tgt kst => XS.bipush X0.here hx rfl (hb hby d5_1) kst) ?_
  show OwnWk _ _ _ _ (s₁.setTop (mkF m 3 #[.val (.int (0 : Int32))] [(.int (-128 : Int32)), (.int (0 : Int32))]))
  refine own_go (fun tgt kst => XS.icmpNo X0.here hx rfl (hb hby d5_3) rfl (flt (by decide : ¬ ((0 : Int32) < (-128 : Int32)))).1 kst) ?_
  show OwnWk _ _ _ _ (s₁.setTop (mkF m 6 #[.val (.int (0 : Int32))] []))
  refine own_go (fun tgt kst => XS.iloadN X0.here hx rfl (hb hby d5_6) rfl  kst) ?_
  show OwnWk _ _ _ _ (s₁.setTop (mkF m 7 #[.val (.int (0 : Int32))] [(.int (0 : Int32))]))
  obtain ⟨T1, X1, e1, st1⟩ := getS2 X0 hx hZ hown (host := "") (Or.inl (hw _ (List.mem_of_getElem? (i := 32) rfl))) Via.refl e0 (Sta.ext O0.2 S_h) (g := (mkF m 7 #[.val (.int (0 : Int32))] [(.int (0 : Int32))])) rfl (hb hby d5_7)
  refine own_go st1 ?_
  show OwnWk _ _ _ _ (T1.setTop (mkF m 10 #[.val (.int (0 : Int32))] [(.int (127 : Int32)), (.int (0 : Int32))]))
  refine own_go (fun tgt kst => XS.icmpNo X1.here hx rfl (hb hby d5_10) rfl (flt (by decide : ¬ ((127 : Int32) < (0 : Int32)))).2.2.1 kst) ?_
  show OwnWk _ _ _ _ (T1.setTop (mkF m 13 #[.val (.int (0 : Int32))] []))
  obtain ⟨T2, X2, e2, st2⟩ := getS2 X1 hx hZ hown (host := "") (Or.inl (hw _ (List.mem_of_getElem? (i := 34) rfl))) Via.refl e1 (Sta.ext O0.2 S_c) (g := (mkF m 13 #[.val (.int (0 : Int32))] [])) rfl (hb hby d5_13)
  refine own_go st2 ?_
  show OwnWk _ _ _ _ (T2.setTop (mkF m 16 #[.val (.int (0 : Int32))] [(.ref cac)]))
  refine own_go (fun tgt kst => XS.iloadN X2.here hx rfl (hb hby d5_16) rfl  kst) ?_
  show OwnWk _ _ _ _ (T2.setTop (mkF m 17 #[.val (.int (0 : Int32))] [(.int (0 : Int32)), (.ref cac)]))
  refine own_go (fun tgt kst => XS.sipush X2.here hx rfl (hb hby d5_17) kst) ?_
  show OwnWk _ _ _ _ (T2.setTop (mkF m 20 #[.val (.int (0 : Int32))] [(.int (128 : Int32)), (.int (0 : Int32)), (.ref cac)]))
  refine own_go (fun tgt kst => XS.iadd X2.here hx rfl (hb hby d5_20) rfl kst) ?_
  show OwnWk _ _ _ _ (T2.setTop (mkF m 21 #[.val (.int (0 : Int32))] [(.int (128 : Int32)), (.ref cac)]))
  refine own_ldEl X2 hx hZ e2 (OEl.ext O0.2 (hL 0 (by decide))) rfl (g := (mkF m 21 #[.val (.int (0 : Int32))] [(.int (128 : Int32)), (.ref cac)])) rfl rfl (hb hby d5_21) (by decide) rfl ?_
  show OwnWk _ _ _ _ (T2.setTop (mkF m 22 #[.val (.int (0 : Int32))] [(.ref (ia 0))]))
  exact own_retA X2 hx hlk hret rfl rfl rfl (hb hby d5_22) (by decide) (by decide) (by rw [e2]; exact ⟨rfl, N0, rfl⟩)
theorem ef_vo1 (m : MethodId) (x0 : Int32) : entryFrame m #[(.int x0)] 1 = mkF m 0 #[.val (.int x0)] [] := by first | (simp [entryFrame, mkF, argsToLocals, Value.category]; done) | rfl
def Q_vo1 (Z : State) (dce cac : Addr) (ia : Nat → Addr)  (h0 : Heap) (n0 : Nat) (v : Option Value) (h : Heap) (L : List Loc) : Prop := v = some (.ref (ia 1)) ∧ Fr n0 L ∧ h = h0
set_option maxRecDepth 65536 in
set_option maxHeartbeats 40000000 in
theorem vo1 (l : Launch) (Z : State) (a0 : Array Value) (hw : ∀ d ∈ tables_1, d.before a0 Z = true) (dce cac : Addr) (ia : Nat → Addr)  (h0 : Heap) (n0 : Nat) (Z0 : n0 ≤ h0.size) (O0 : Old Z n0 h0) (S_d : Sta Z Z.heap "java/util/ArrayList" "DEFAULTCAPACITY_EMPTY_ELEMENTDATA" "[Ljava/lang/Object;" (.ref dce)) (V_d : OAr Z Z.heap dce (.object "java/lang/Object") []) (S_h : Sta Z Z.heap "java/lang/Integer$IntegerCache" "high" "I" (.int (127 : Int32))) (S_c : Sta Z Z.heap "java/lang/Integer$IntegerCache" "cache" "[Ljava/lang/Integer;" (.ref cac)) (hL : ∀ k < 4, OEl Z Z.heap cac (.object "java/lang/Integer") (128 + k) (.ref (ia k))) (hE : ∀ k < 4, Exa Z Z.heap (ia k) "java/lang/Integer") (hV : ∀ k < 4, Fld Z Z.heap (ia k) "java/lang/Integer" "value" "I" (.int (Int32.ofNat k)))  :
    OwnMet l (⟨"java/lang/Integer", "valueOf", "(I)Ljava/lang/Integer;"⟩ : MethodName) jdk_33_method_22_code 1 (some (.object "java/lang/Integer")) [] ({ frames := 0, cells := 0, slots := 0, locals := 0 } : Room) Z #[(.int (1 : Int32))] h0 (Q_vo1 Z dce cac ia  h0 n0) := by
  refine own_met pn_5 (fun p e s m below meth c s₁ hx hby hml hown hnm hret hlk hZ X0 e0 => ?_)
  have hown : s.vm.findClass "java/lang/Integer" = some m.cls := hown
  have N0 := Fr.nil n0
  rw [ef_vo1]
  show OwnWk _ _ _ _ (s₁.setTop (mkF m 0 #[.val (.int (1 : Int32))] []))
  refine own_go (fun tgt kst => XS.iloadN X0.here hx rfl (hb hby d5_0) rfl  kst) ?_
  show OwnWk _ _ _ _ (s₁.setTop (mkF m 1 #[.val (.int (1 : Int32))] [(.int (1 : Int32))]))
  refine own_go (fun tgt kst => XS.bipush X0.here hx rfl (hb hby d5_1) kst) ?_
  show OwnWk _ _ _ _ (s₁.setTop (mkF m 3 #[.val (.int (1 : Int32))] [(.int (-128 : Int32)), (.int (1 : Int32))]))
  refine own_go (fun tgt kst => XS.icmpNo X0.here hx rfl (hb hby d5_3) rfl (flt (by decide : ¬ ((1 : Int32) < (-128 : Int32)))).1 kst) ?_
  show OwnWk _ _ _ _ (s₁.setTop (mkF m 6 #[.val (.int (1 : Int32))] []))
  refine own_go (fun tgt kst => XS.iloadN X0.here hx rfl (hb hby d5_6) rfl  kst) ?_
  show OwnWk _ _ _ _ (s₁.setTop (mkF m 7 #[.val (.int (1 : Int32))] [(.int (1 : Int32))]))
  obtain ⟨T1, X1, e1, st1⟩ := getS2 X0 hx hZ hown (host := "") (Or.inl (hw _ (List.mem_of_getElem? (i := 32) rfl))) Via.refl e0 (Sta.ext O0.2 S_h) (g := (mkF m 7 #[.val (.int (1 : Int32))] [(.int (1 : Int32))])) rfl (hb hby d5_7)
  refine own_go st1 ?_
  show OwnWk _ _ _ _ (T1.setTop (mkF m 10 #[.val (.int (1 : Int32))] [(.int (127 : Int32)), (.int (1 : Int32))]))
  refine own_go (fun tgt kst => XS.icmpNo X1.here hx rfl (hb hby d5_10) rfl (flt (by decide : ¬ ((127 : Int32) < (1 : Int32)))).2.2.1 kst) ?_
  show OwnWk _ _ _ _ (T1.setTop (mkF m 13 #[.val (.int (1 : Int32))] []))
  obtain ⟨T2, X2, e2, st2⟩ := getS2 X1 hx hZ hown (host := "") (Or.inl (hw _ (List.mem_of_getElem? (i := 34) rfl))) Via.refl e1 (Sta.ext O0.2 S_c) (g := (mkF m 13 #[.val (.int (1 : Int32))] [])) rfl (hb hby d5_13)
  refine own_go st2 ?_
  show OwnWk _ _ _ _ (T2.setTop (mkF m 16 #[.val (.int (1 : Int32))] [(.ref cac)]))
  refine own_go (fun tgt kst => XS.iloadN X2.here hx rfl (hb hby d5_16) rfl  kst) ?_
  show OwnWk _ _ _ _ (T2.setTop (mkF m 17 #[.val (.int (1 : Int32))] [(.int (1 : Int32)), (.ref cac)]))
  refine own_go (fun tgt kst => XS.sipush X2.here hx rfl (hb hby d5_17) kst) ?_
  show OwnWk _ _ _ _ (T2.setTop (mkF m 20 #[.val (.int (1 : Int32))] [(.int (128 : Int32)), (.int (1 : Int32)), (.ref cac)]))
  refine own_go (fun tgt kst => XS.iadd X2.here hx rfl (hb hby d5_20) rfl kst) ?_
  show OwnWk _ _ _ _ (T2.setTop (mkF m 21 #[.val (.int (1 : Int32))] [(.int (129 : Int32)), (.ref cac)]))
  refine own_ldEl X2 hx hZ e2 (OEl.ext O0.2 (hL 1 (by decide))) rfl (g := (mkF m 21 #[.val (.int (1 : Int32))] [(.int (129 : Int32)), (.ref cac)])) rfl rfl (hb hby d5_21) (by decide) rfl ?_
  show OwnWk _ _ _ _ (T2.setTop (mkF m 22 #[.val (.int (1 : Int32))] [(.ref (ia 1))]))
  exact own_retA X2 hx hlk hret rfl rfl rfl (hb hby d5_22) (by decide) (by decide) (by rw [e2]; exact ⟨rfl, N0, rfl⟩)
theorem ef_vo2 (m : MethodId) (x0 : Int32) : entryFrame m #[(.int x0)] 1 = mkF m 0 #[.val (.int x0)] [] := by first | (simp [entryFrame, mkF, argsToLocals, Value.category]; done) | rfl
def Q_vo2 (Z : State) (dce cac : Addr) (ia : Nat → Addr)  (h0 : Heap) (n0 : Nat) (v : Option Value) (h : Heap) (L : List Loc) : Prop := v = some (.ref (ia 2)) ∧ Fr n0 L ∧ h = h0
set_option maxRecDepth 65536 in
set_option maxHeartbeats 40000000 in
theorem vo2 (l : Launch) (Z : State) (a0 : Array Value) (hw : ∀ d ∈ tables_1, d.before a0 Z = true) (dce cac : Addr) (ia : Nat → Addr)  (h0 : Heap) (n0 : Nat) (Z0 : n0 ≤ h0.size) (O0 : Old Z n0 h0) (S_d : Sta Z Z.heap "java/util/ArrayList" "DEFAULTCAPACITY_EMPTY_ELEMENTDATA" "[Ljava/lang/Object;" (.ref dce)) (V_d : OAr Z Z.heap dce (.object "java/lang/Object") []) (S_h : Sta Z Z.heap "java/lang/Integer$IntegerCache" "high" "I" (.int (127 : Int32))) (S_c : Sta Z Z.heap "java/lang/Integer$IntegerCache" "cache" "[Ljava/lang/Integer;" (.ref cac)) (hL : ∀ k < 4, OEl Z Z.heap cac (.object "java/lang/Integer") (128 + k) (.ref (ia k))) (hE : ∀ k < 4, Exa Z Z.heap (ia k) "java/lang/Integer") (hV : ∀ k < 4, Fld Z Z.heap (ia k) "java/lang/Integer" "value" "I" (.int (Int32.ofNat k)))  :
    OwnMet l (⟨"java/lang/Integer", "valueOf", "(I)Ljava/lang/Integer;"⟩ : MethodName) jdk_33_method_22_code 1 (some (.object "java/lang/Integer")) [] ({ frames := 0, cells := 0, slots := 0, locals := 0 } : Room) Z #[(.int (2 : Int32))] h0 (Q_vo2 Z dce cac ia  h0 n0) := by
  refine own_met pn_5 (fun p e s m below meth c s₁ hx hby hml hown hnm hret hlk hZ X0 e0 => ?_)
  have hown : s.vm.findClass "java/lang/Integer" = some m.cls := hown
  have N0 := Fr.nil n0
  rw [ef_vo2]
  show OwnWk _ _ _ _ (s₁.setTop (mkF m 0 #[.val (.int (2 : Int32))] []))
  refine own_go (fun tgt kst => XS.iloadN X0.here hx rfl (hb hby d5_0) rfl  kst) ?_
  show OwnWk _ _ _ _ (s₁.setTop (mkF m 1 #[.val (.int (2 : Int32))] [(.int (2 : Int32))]))
  refine own_go (fun tgt kst => XS.bipush X0.here hx rfl (hb hby d5_1) kst) ?_
  show OwnWk _ _ _ _ (s₁.setTop (mkF m 3 #[.val (.int (2 : Int32))] [(.int (-128 : Int32)), (.int (2 : Int32))]))
  refine own_go (fun tgt kst => XS.icmpNo X0.here hx rfl (hb hby d5_3) rfl (flt (by decide : ¬ ((2 : Int32) < (-128 : Int32)))).1 kst) ?_
  show OwnWk _ _ _ _ (s₁.setTop (mkF m 6 #[.val (.int (2 : Int32))] []))
  refine own_go (fun tgt kst => XS.iloadN X0.here hx rfl (hb hby d5_6) rfl  kst) ?_
  show OwnWk _ _ _ _ (s₁.setTop (mkF m 7 #[.val (.int (2 : Int32))] [(.int (2 : Int32))]))
  obtain ⟨T1, X1, e1, st1⟩ := getS2 X0 hx hZ hown (host := "") (Or.inl (hw _ (List.mem_of_getElem? (i := 32) rfl))) Via.refl e0 (Sta.ext O0.2 S_h) (g := (mkF m 7 #[.val (.int (2 : Int32))] [(.int (2 : Int32))])) rfl (hb hby d5_7)
  refine own_go st1 ?_
  show OwnWk _ _ _ _ (T1.setTop (mkF m 10 #[.val (.int (2 : Int32))] [(.int (127 : Int32)), (.int (2 : Int32))]))
  refine own_go (fun tgt kst => XS.icmpNo X1.here hx rfl (hb hby d5_10) rfl (flt (by decide : ¬ ((127 : Int32) < (2 : Int32)))).2.2.1 kst) ?_
  show OwnWk _ _ _ _ (T1.setTop (mkF m 13 #[.val (.int (2 : Int32))] []))
  obtain ⟨T2, X2, e2, st2⟩ := getS2 X1 hx hZ hown (host := "") (Or.inl (hw _ (List.mem_of_getElem? (i := 34) rfl))) Via.refl e1 (Sta.ext O0.2 S_c) (g := (mkF m 13 #[.val (.int (2 : Int32))] [])) rfl (hb hby d5_13)
  refine own_go st2 ?_
  show OwnWk _ _ _ _ (T2.setTop (mkF m 16 #[.val (.int (2 : Int32))] [(.ref cac)]))
  refine own_go (fun tgt kst => XS.iloadN X2.here hx rfl (hb hby d5_16) rfl  kst) ?_
  show OwnWk _ _ _ _ (T2.setTop (mkF m 17 #[.val (.int (2 : Int32))] [(.int (2 : Int32)), (.ref cac)]))
  refine own_go (fun tgt kst => XS.sipush X2.here hx rfl (hb hby d5_17) kst) ?_
  show OwnWk _ _ _ _ (T2.setTop (mkF m 20 #[.val (.int (2 : Int32))] [(.int (128 : Int32)), (.int (2 : Int32)), (.ref cac)]))
  refine own_go (fun tgt kst => XS.iadd X2.here hx rfl (hb hby d5_20) rfl kst) ?_
  show OwnWk _ _ _ _ (T2.setTop (mkF m 21 #[.val (.int (2 : Int32))] [(.int (130 : Int32)), (.ref cac)]))
  refine own_ldEl X2 hx hZ e2 (OEl.ext O0.2 (hL 2 (by decide))) rfl (g := (mkF m 21 #[.val (.int (2 : Int32))] [(.int (130 : Int32)), (.ref cac)])) rfl rfl (hb hby d5_21) (by decide) rfl ?_
  show OwnWk _ _ _ _ (T2.setTop (mkF m 22 #[.val (.int (2 : Int32))] [(.ref (ia 2))]))
  exact own_retA X2 hx hlk hret rfl rfl rfl (hb hby d5_22) (by decide) (by decide) (by rw [e2]; exact ⟨rfl, N0, rfl⟩)
theorem ef_vo3 (m : MethodId) (x0 : Int32) : entryFrame m #[(.int x0)] 1 = mkF m 0 #[.val (.int x0)] [] := by first | (simp [entryFrame, mkF, argsToLocals, Value.category]; done) | rfl
def Q_vo3 (Z : State) (dce cac : Addr) (ia : Nat → Addr)  (h0 : Heap) (n0 : Nat) (v : Option Value) (h : Heap) (L : List Loc) : Prop := v = some (.ref (ia 3)) ∧ Fr n0 L ∧ h = h0
set_option maxRecDepth 65536 in
set_option maxHeartbeats 40000000 in
theorem vo3 (l : Launch) (Z : State) (a0 : Array Value) (hw : ∀ d ∈ tables_1, d.before a0 Z = true) (dce cac : Addr) (ia : Nat → Addr)  (h0 : Heap) (n0 : Nat) (Z0 : n0 ≤ h0.size) (O0 : Old Z n0 h0) (S_d : Sta Z Z.heap "java/util/ArrayList" "DEFAULTCAPACITY_EMPTY_ELEMENTDATA" "[Ljava/lang/Object;" (.ref dce)) (V_d : OAr Z Z.heap dce (.object "java/lang/Object") []) (S_h : Sta Z Z.heap "java/lang/Integer$IntegerCache" "high" "I" (.int (127 : Int32))) (S_c : Sta Z Z.heap "java/lang/Integer$IntegerCache" "cache" "[Ljava/lang/Integer;" (.ref cac)) (hL : ∀ k < 4, OEl Z Z.heap cac (.object "java/lang/Integer") (128 + k) (.ref (ia k))) (hE : ∀ k < 4, Exa Z Z.heap (ia k) "java/lang/Integer") (hV : ∀ k < 4, Fld Z Z.heap (ia k) "java/lang/Integer" "value" "I" (.int (Int32.ofNat k)))  :
    OwnMet l (⟨"java/lang/Integer", "valueOf", "(I)Ljava/lang/Integer;"⟩ : MethodName) jdk_33_method_22_code 1 (some (.object "java/lang/Integer")) [] ({ frames := 0, cells := 0, slots := 0, locals := 0 } : Room) Z #[(.int (3 : Int32))] h0 (Q_vo3 Z dce cac ia  h0 n0) := by
  refine own_met pn_5 (fun p e s m below meth c s₁ hx hby hml hown hnm hret hlk hZ X0 e0 => ?_)
  have hown : s.vm.findClass "java/lang/Integer" = some m.cls := hown
  have N0 := Fr.nil n0
  rw [ef_vo3]
  show OwnWk _ _ _ _ (s₁.setTop (mkF m 0 #[.val (.int (3 : Int32))] []))
  refine own_go (fun tgt kst => XS.iloadN X0.here hx rfl (hb hby d5_0) rfl  kst) ?_
  show OwnWk _ _ _ _ (s₁.setTop (mkF m 1 #[.val (.int (3 : Int32))] [(.int (3 : Int32))]))
  refine own_go (fun tgt kst => XS.bipush X0.here hx rfl (hb hby d5_1) kst) ?_
  show OwnWk _ _ _ _ (s₁.setTop (mkF m 3 #[.val (.int (3 : Int32))] [(.int (-128 : Int32)), (.int (3 : Int32))]))
  refine own_go (fun tgt kst => XS.icmpNo X0.here hx rfl (hb hby d5_3) rfl (flt (by decide : ¬ ((3 : Int32) < (-128 : Int32)))).1 kst) ?_
  show OwnWk _ _ _ _ (s₁.setTop (mkF m 6 #[.val (.int (3 : Int32))] []))
  refine own_go (fun tgt kst => XS.iloadN X0.here hx rfl (hb hby d5_6) rfl  kst) ?_
  show OwnWk _ _ _ _ (s₁.setTop (mkF m 7 #[.val (.int (3 : Int32))] [(.int (3 : Int32))]))
  obtain ⟨T1, X1, e1, st1⟩ := getS2 X0 hx hZ hown (host := "") (Or.inl (hw _ (List.mem_of_getElem? (i := 32) rfl))) Via.refl e0 (Sta.ext O0.2 S_h) (g := (mkF m 7 #[.val (.int (3 : Int32))] [(.int (3 : Int32))])) rfl (hb hby d5_7)
  refine own_go st1 ?_
  show OwnWk _ _ _ _ (T1.setTop (mkF m 10 #[.val (.int (3 : Int32))] [(.int (127 : Int32)), (.int (3 : Int32))]))
  refine own_go (fun tgt kst => XS.icmpNo X1.here hx rfl (hb hby d5_10) rfl (flt (by decide : ¬ ((127 : Int32) < (3 : Int32)))).2.2.1 kst) ?_
  show OwnWk _ _ _ _ (T1.setTop (mkF m 13 #[.val (.int (3 : Int32))] []))
  obtain ⟨T2, X2, e2, st2⟩ := getS2 X1 hx hZ hown (host := "") (Or.inl (hw _ (List.mem_of_getElem? (i := 34) rfl))) Via.refl e1 (Sta.ext O0.2 S_c) (g := (mkF m 13 #[.val (.int (3 : Int32))] [])) rfl (hb hby d5_13)
  refine own_go st2 ?_
  show OwnWk _ _ _ _ (T2.setTop (mkF m 16 #[.val (.int (3 : Int32))] [(.ref cac)]))
  refine own_go (fun tgt kst => XS.iloadN X2.here hx rfl (hb hby d5_16) rfl  kst) ?_
  show OwnWk _ _ _ _ (T2.setTop (mkF m 17 #[.val (.int (3 : Int32))] [(.int (3 : Int32)), (.ref cac)]))
  refine own_go (fun tgt kst => XS.sipush X2.here hx rfl (hb hby d5_17) kst) ?_
  show OwnWk _ _ _ _ (T2.setTop (mkF m 20 #[.val (.int (3 : Int32))] [(.int (128 : Int32)), (.int (3 : Int32)), (.ref cac)]))
  refine own_go (fun tgt kst => XS.iadd X2.here hx rfl (hb hby d5_20) rfl kst) ?_
  show OwnWk _ _ _ _ (T2.setTop (mkF m 21 #[.val (.int (3 : Int32))] [(.int (131 : Int32)), (.ref cac)]))
  refine own_ldEl X2 hx hZ e2 (OEl.ext O0.2 (hL 3 (by decide))) rfl (g := (mkF m 21 #[.val (.int (3 : Int32))] [(.int (131 : Int32)), (.ref cac)])) rfl rfl (hb hby d5_21) (by decide) rfl ?_
  show OwnWk _ _ _ _ (T2.setTop (mkF m 22 #[.val (.int (3 : Int32))] [(.ref (ia 3))]))
  exact own_retA X2 hx hlk hret rfl rfl rfl (hb hby d5_22) (by decide) (by decide) (by rw [e2]; exact ⟨rfl, N0, rfl⟩)
theorem pn_pn_9 : plainName "java/util/ArrayList" = true := by first | (simp [plainName, overriddenIn]; done) | decide +kernel
theorem pn_9 : plainFor (⟨"java/util/ArrayList", "grow", "(I)[Ljava/lang/Object;"⟩ : MethodName) = true := plainFor_of_name pn_pn_9
theorem d9_0 : decode jdk_38_method_6_code 0 = .ok (.aload_n 0, 1) := by decide +kernel
theorem d9_1 : decode jdk_38_method_6_code 1 = .ok (.getfield 9, 3) := by decide +kernel
theorem d9_4 : decode jdk_38_method_6_code 4 = .ok (.arraylength, 1) := by decide +kernel
theorem d9_5 : decode jdk_38_method_6_code 5 = .ok (.istore_n 2, 1) := by decide +kernel
theorem d9_6 : decode jdk_38_method_6_code 6 = .ok (.iload_n 2, 1) := by decide +kernel
theorem d9_7 : decode jdk_38_method_6_code 7 = .ok (.ifCond .gt 13, 3) := by decide +kernel
theorem d9_10 : decode jdk_38_method_6_code 10 = .ok (.aload_n 0, 1) := by decide +kernel
theorem d9_11 : decode jdk_38_method_6_code 11 = .ok (.getfield 9, 3) := by decide +kernel
theorem d9_14 : decode jdk_38_method_6_code 14 = .ok (.getstatic 39, 3) := by decide +kernel
theorem d9_17 : decode jdk_38_method_6_code 17 = .ok (.if_acmp .eq 28, 3) := by decide +kernel
theorem d9_45 : decode jdk_38_method_6_code 45 = .ok (.aload_n 0, 1) := by decide +kernel
theorem d9_46 : decode jdk_38_method_6_code 46 = .ok (.bipush 10, 2) := by decide +kernel
theorem d9_48 : decode jdk_38_method_6_code 48 = .ok (.iload_n 1, 1) := by decide +kernel
theorem d9_49 : decode jdk_38_method_6_code 49 = .ok (.invokestatic 79, 3) := by decide +kernel
theorem pd_1 : parseMethodDescriptor "(II)I" = some ⟨[.int, .int], some .int⟩ := by decide +kernel
theorem d9_52 : decode jdk_38_method_6_code 52 = .ok (.anewarray 7, 3) := by decide +kernel
theorem d9_55 : decode jdk_38_method_6_code 55 = .ok (.dup_x1, 1) := by decide +kernel
theorem d9_56 : decode jdk_38_method_6_code 56 = .ok (.putfield 9, 3) := by decide +kernel
theorem d9_59 : decode jdk_38_method_6_code 59 = .ok (.areturn, 1) := by decide +kernel
theorem ef_grI (m : MethodId) (x0 : Addr) (x1 : Int32) : entryFrame m #[(.ref x0), (.int x1)] 4 = mkF m 0 #[.val (.ref x0), .val (.int x1), .unset, .unset] [] := by first | (simp [entryFrame, mkF, argsToLocals, Value.category]; done) | rfl
def Q_grI (Z : State) (dce cac : Addr) (ia : Nat → Addr) (a : Addr) (h0 : Heap) (n0 : Nat) (v : Option Value) (h : Heap) (L : List Loc) : Prop := ∃ ed : Addr, v = some (.ref ed) ∧ Fr n0 L ∧ Keep h0 h [a] ∧ h0.size ≤ ed ∧ n0 ≤ ed ∧ Fld Z h a "java/util/AbstractList" "modCount" "I" (.int (1 : Int32)) ∧ Fld Z h a "java/util/ArrayList" "elementData" "[Ljava/lang/Object;" (.ref ed) ∧ Fld Z h a "java/util/ArrayList" "size" "I" (.int (0 : Int32)) ∧ OAr Z h ed (.object "java/lang/Object") [.null, .null, .null, .null, .null, .null, .null, .null, .null, .null] ∧ OOv Z h ed "java/lang/Object"
set_option maxRecDepth 65536 in
set_option maxHeartbeats 40000000 in
theorem grI (l : Launch) (Z : State) (a0 : Array Value) (hw : ∀ d ∈ tables_1, d.before a0 Z = true) (dce cac : Addr) (ia : Nat → Addr) (a : Addr) (h0 : Heap) (n0 : Nat) (Z0 : n0 ≤ h0.size) (O0 : Old Z n0 h0) (S_d : Sta Z Z.heap "java/util/ArrayList" "DEFAULTCAPACITY_EMPTY_ELEMENTDATA" "[Ljava/lang/Object;" (.ref dce)) (V_d : OAr Z Z.heap dce (.object "java/lang/Object") []) (S_h : Sta Z Z.heap "java/lang/Integer$IntegerCache" "high" "I" (.int (127 : Int32))) (S_c : Sta Z Z.heap "java/lang/Integer$IntegerCache" "cache" "[Ljava/lang/Integer;" (.ref cac)) (hL : ∀ k < 4, OEl Z Z.heap cac (.object "java/lang/Integer") (128 + k) (.ref (ia k))) (hE : ∀ k < 4, Exa Z Z.heap (ia k) "java/lang/Integer") (hV : ∀ k < 4, Fld Z Z.heap (ia k) "java/lang/Integer" "value" "I" (.int (Int32.ofNat k))) (E_a : Exa Z h0 a "java/util/ArrayList") (g_a : n0 ≤ a) (F_m : Fld Z h0 a "java/util/AbstractList" "modCount" "I" (.int (1 : Int32))) (F_e : Fld Z h0 a "java/util/ArrayList" "elementData" "[Ljava/lang/Object;" (.ref dce)) (F_s : Fld Z h0 a "java/util/ArrayList" "size" "I" (.int (0 : Int32))) :
    OwnMet l (⟨"java/util/ArrayList", "grow", "(I)[Ljava/lang/Object;"⟩ : MethodName) jdk_38_method_6_code 4 (some (.array (.object "java/lang/Object"))) [] ({ frames := 1, cells := 1, slots := 10, locals := 14 } : Room) Z #[(.ref a), (.int (1 : Int32))] h0 (Q_grI Z dce cac ia a h0 n0) := by
  refine own_met pn_9 (fun p e s m below meth c s₁ hx hby hml hown hnm hret hlk hZ X0 e0 => ?_)
  have hown : s.vm.findClass "java/util/ArrayList" = some m.cls := hown
  have N0 := Fr.nil n0
  have K0 := Keep.refl h0 [a]
  rw [ef_grI]
  show OwnWk _ _ _ _ (s₁.setTop (mkF m 0 #[.val (.ref a), .val (.int (1 : Int32)), .unset, .unset] []))
  refine own_go (fun tgt kst => XS.aloadN X0.here hx rfl (hb hby d9_0) rfl rfl  kst) ?_
  show OwnWk _ _ _ _ (s₁.setTop (mkF m 1 #[.val (.ref a), .val (.int (1 : Int32)), .unset, .unset] [(.ref a)]))
  obtain ⟨T1, X1, e1, st1⟩ := getF X0 hx hZ hown (host := "") (Or.inl (hw _ (List.mem_of_getElem? (i := 26) rfl))) Via.refl e0 F_e (g := (mkF m 1 #[.val (.ref a), .val (.int (1 : Int32)), .unset, .unset] [(.ref a)])) rfl rfl (hb hby d9_1)
  refine own_go st1 ?_
  show OwnWk _ _ _ _ (T1.setTop (mkF m 4 #[.val (.ref a), .val (.int (1 : Int32)), .unset, .unset] [(.ref dce)]))
  refine own_len X1 hx hZ e1 (OAr.ext V_d O0.2) (g := (mkF m 4 #[.val (.ref a), .val (.int (1 : Int32)), .unset, .unset] [(.ref dce)])) rfl rfl (hb hby d9_4) (N := (0 : Int32)) rfl ?_
  show OwnWk _ _ _ _ (T1.setTop (mkF m 5 #[.val (.ref a), .val (.int (1 : Int32)), .unset, .unset] [(.int (0 : Int32))]))
  refine own_go (fun tgt kst => XS.istoreN X1.here hx rfl (hb hby d9_5) rfl (l' := #[.val (.ref a), .val (.int (1 : Int32)), .val (.int (0 : Int32)), .unset]) rfl kst) ?_
  show OwnWk _ _ _ _ (T1.setTop (mkF m 6 #[.val (.ref a), .val (.int (1 : Int32)), .val (.int (0 : Int32)), .unset] []))
  refine own_go (fun tgt kst => XS.iloadN X1.here hx rfl (hb hby d9_6) rfl  kst) ?_
  show OwnWk _ _ _ _ (T1.setTop (mkF m 7 #[.val (.ref a), .val (.int (1 : Int32)), .val (.int (0 : Int32)), .unset] [(.int (0 : Int32))]))
  refine own_go (fun tgt kst => XS.ifNo X1.here hx rfl (hb hby d9_7) rfl ((if0 _ _).trans (flt (by decide : ¬ ((0 : Int32) < (0 : Int32)))).2.2.1) kst) ?_
  show OwnWk _ _ _ _ (T1.setTop (mkF m 10 #[.val (.ref a), .val (.int (1 : Int32)), .val (.int (0 : Int32)), .unset] []))
  refine own_go (fun tgt kst => XS.aloadN X1.here hx rfl (hb hby d9_10) rfl rfl  kst) ?_
  show OwnWk _ _ _ _ (T1.setTop (mkF m 11 #[.val (.ref a), .val (.int (1 : Int32)), .val (.int (0 : Int32)), .unset] [(.ref a)]))
  obtain ⟨T2, X2, e2, st2⟩ := getF X1 hx hZ hown (host := "") (Or.inl (hw _ (List.mem_of_getElem? (i := 26) rfl))) Via.refl e1 F_e (g := (mkF m 11 #[.val (.ref a), .val (.int (1 : Int32)), .val (.int (0 : Int32)), .unset] [(.ref a)])) rfl rfl (hb hby d9_11)
  refine own_go st2 ?_
  show OwnWk _ _ _ _ (T2.setTop (mkF m 14 #[.val (.ref a), .val (.int (1 : Int32)), .val (.int (0 : Int32)), .unset] [(.ref dce)]))
  obtain ⟨T3, X3, e3, st3⟩ := getS2 X2 hx hZ hown (host := "") (Or.inl (hw _ (List.mem_of_getElem? (i := 25) rfl))) Via.refl e2 (Sta.ext O0.2 S_d) (g := (mkF m 14 #[.val (.ref a), .val (.int (1 : Int32)), .val (.int (0 : Int32)), .unset] [(.ref dce)])) rfl (hb hby d9_14)
  refine own_go st3 ?_
  show OwnWk _ _ _ _ (T3.setTop (mkF m 17 #[.val (.ref a), .val (.int (1 : Int32)), .val (.int (0 : Int32)), .unset] [(.ref dce), (.ref dce)]))
  refine own_go (fun tgt kst => Jvm.RoadKit.acmp (g := (mkF m 17 #[.val (.ref a), .val (.int (1 : Int32)), .val (.int (0 : Int32)), .unset] [(.ref dce), (.ref dce)])) X3 hx rfl rfl rfl (pc0 := 17) (pc' := 45) (same := true) rfl (hb hby d9_17) rfl (decide_eq_true rfl) (by decide) (by decide) kst) ?_
  show OwnWk _ _ _ _ (T3.setTop (mkF m 45 #[.val (.ref a), .val (.int (1 : Int32)), .val (.int (0 : Int32)), .unset] []))
  refine own_go (fun tgt kst => XS.aloadN X3.here hx rfl (hb hby d9_45) rfl rfl  kst) ?_
  show OwnWk _ _ _ _ (T3.setTop (mkF m 46 #[.val (.ref a), .val (.int (1 : Int32)), .val (.int (0 : Int32)), .unset] [(.ref a)]))
  refine own_go (fun tgt kst => XS.bipush X3.here hx rfl (hb hby d9_46) kst) ?_
  show OwnWk _ _ _ _ (T3.setTop (mkF m 48 #[.val (.ref a), .val (.int (1 : Int32)), .val (.int (0 : Int32)), .unset] [(.int (10 : Int32)), (.ref a)]))
  refine own_go (fun tgt kst => XS.iloadN X3.here hx rfl (hb hby d9_48) rfl  kst) ?_
  show OwnWk _ _ _ _ (T3.setTop (mkF m 49 #[.val (.ref a), .val (.int (1 : Int32)), .val (.int (0 : Int32)), .unset] [(.int (1 : Int32)), (.int (10 : Int32)), (.ref a)]))
  refine own_callS X3 hx hZ (y := (⟨"java/lang/Math", "max", "(II)I"⟩ : MethodName)) hown (hw _ (List.mem_of_getElem? (i := 59) rfl)) (hw _ (List.mem_of_getElem? (i := 60) rfl)) (hw _ (List.mem_of_getElem? (i := 61) rfl)) (hw _ (List.mem_of_getElem? (i := 62) rfl)) (by decide) (argsL := [(.int (10 : Int32)), (.int (1 : Int32))]) (rest := [(.ref a)]) (rm := ({ frames := 0, cells := 0, slots := 0, locals := 0 } : Room)) (h := h0) (rm10 l Z a0 hw (10 : Int32) (1 : Int32) h0 n0 Z0) e3 (W := 1) (by decide) (by decide) (by decide) (by decide) (g := (mkF m 49 #[.val (.ref a), .val (.int (1 : Int32)), .val (.int (0 : Int32)), .unset] [(.int (1 : Int32)), (.int (10 : Int32)), (.ref a)])) rfl (by rw [hml]; rfl) (lenOf pd_1 rfl) rfl (by show 2 * 0 + _ ≤ _; exact Nat.le_of_eq rfl) (hb hby d9_49) (fun v4 T4 h4 L4 X4 e4 hQ4 => ?_)
  obtain ⟨rfl, Nq4, q4⟩ := hQ4
  have N4 := Fr.app N0 Nq4
  rw [q4] at e4
  show OwnWk _ _ _ _ (T4.setTop (mkF m 52 #[.val (.ref a), .val (.int (1 : Int32)), .val (.int (0 : Int32)), .unset] [(.int (10 : Int32)), (.ref a)]))
  refine own_newR X4 hx hZ hown (hw _ (List.mem_of_getElem? (i := 63) rfl)) (hw _ (List.mem_of_getElem? (i := 64) rfl)) e4 (g := (mkF m 52 #[.val (.ref a), .val (.int (1 : Int32)), .val (.int (0 : Int32)), .unset] [(.int (10 : Int32)), (.ref a)])) rfl (hb hby d9_52) rfl (by decide) (cap := 10) (by decide) (by decide) (by decide) (by decide) (ad := "[Ljava/lang/Object;") (by decide) (fun T5 h5 b5 X5 e5 g5 E5 V5 Ex5 Ov5 => ?_)
  have ne6 : a ≠ b5 := Nat.ne_of_lt (Nat.lt_of_lt_of_le E_a.lt (Nat.le_of_eq g5.symm))
  have ge7 : n0 ≤ b5 := Nat.le_trans Z0 (Nat.le_of_eq g5.symm)
  have sz8 : h0.size ≤ b5 := Nat.le_trans K0.1 (Nat.le_of_eq g5.symm)
  have F9 := Old.ext O0 E5
  have F10 := Exa.ext E5 E_a
  have F11 := Fld.ext E5 F_m
  have F12 := Fld.ext E5 F_e
  have F13 := Fld.ext E5 F_s
  have Z14 := Nat.le_trans Z0 E5.1
  have K15 := Keep.ext K0 E5
  have V5b : OAr Z h5 b5 (.object "java/lang/Object") [.null, .null, .null, .null, .null, .null, .null, .null, .null, .null] := V5
  show OwnWk _ _ _ _ (T5.setTop (mkF m 55 #[.val (.ref a), .val (.int (1 : Int32)), .val (.int (0 : Int32)), .unset] [(.ref b5), (.ref a)]))
  refine own_go (fun tgt kst => XS.dupX1 X5.here hx rfl (hb hby d9_55) rfl rfl rfl kst) ?_
  show OwnWk _ _ _ _ (T5.setTop (mkF m 56 #[.val (.ref a), .val (.int (1 : Int32)), .val (.int (0 : Int32)), .unset] [(.ref b5), (.ref a), (.ref b5)]))
  obtain ⟨T16, h16, X16, e16, W16, st16⟩ := putF X5 hx hZ hown (host := "") (Or.inl (hw _ (List.mem_of_getElem? (i := 26) rfl))) Via.refl e5 F12 F10 (Or.inl (hw _ (List.mem_of_getElem? (i := 27) rfl))) (hw _ (List.mem_of_getElem? (i := 3) rfl)) (v := (.ref b5)) (ty := (.array (.object "java/lang/Object"))) (by decide) rfl rfl (g := (mkF m 56 #[.val (.ref a), .val (.int (1 : Int32)), .val (.int (0 : Int32)), .unset] [(.ref b5), (.ref a), (.ref b5)])) rfl rfl (hb hby d9_56)
  refine own_go st16 ?_
  have N16 := Fr.snoc X16 N4 g_a
  have Fw16 := Fld.same W16 F12
  have F17 := Old.wr F9 W16 g_a
  have F18 := Exa.wr W16 F10
  have F19 := Fld.other W16 F11 (Or.inr (slot_ne (Or.inl (hw _ (List.mem_of_getElem? (i := 24) rfl))) (Or.inl (hw _ (List.mem_of_getElem? (i := 27) rfl))) (by decide) (t := .int) (t' := (.array (.object "java/lang/Object"))) (by decide) (by decide)))
  have F20 := Fld.other W16 F13 (Or.inr (slot_ne (Or.inl (hw _ (List.mem_of_getElem? (i := 43) rfl))) (Or.inl (hw _ (List.mem_of_getElem? (i := 27) rfl))) (by decide) (t := .int) (t' := (.array (.object "java/lang/Object"))) (by decide) (by decide)))
  have F21 := OAr.other V5b W16 (Ne.symm ne6)
  have F22 := Exa.wr W16 Ex5
  have F23 := OOv.wr W16 Ov5
  have Z24 := Nat.le_trans Z14 (Keep.of_wr W16).1
  have K25 := Keep.wr K15 W16 (Or.inl (List.mem_of_getElem? (i := 0) rfl))
  show OwnWk _ _ _ _ (T16.setTop (mkF m 59 #[.val (.ref a), .val (.int (1 : Int32)), .val (.int (0 : Int32)), .unset] [(.ref b5)]))
  exact own_retA X16 hx hlk hret rfl rfl rfl (hb hby d9_59) (by decide) (by decide) (by rw [e16]; exact ⟨b5, rfl, N16, K25, sz8, ge7, F19, Fw16, F20, F21, F23⟩)
theorem pn_pn_8 : plainName "java/util/ArrayList" = true := by first | (simp [plainName, overriddenIn]; done) | decide +kernel
theorem pn_8 : plainFor (⟨"java/util/ArrayList", "grow", "()[Ljava/lang/Object;"⟩ : MethodName) = true := plainFor_of_name pn_pn_8
theorem d8_0 : decode jdk_38_method_7_code 0 = .ok (.aload_n 0, 1) := by decide +kernel
theorem d8_1 : decode jdk_38_method_7_code 1 = .ok (.aload_n 0, 1) := by decide +kernel
theorem d8_2 : decode jdk_38_method_7_code 2 = .ok (.getfield 48, 3) := by decide +kernel
theorem d8_5 : decode jdk_38_method_7_code 5 = .ok (.iconst 1, 1) := by decide +kernel
theorem d8_6 : decode jdk_38_method_7_code 6 = .ok (.iadd, 1) := by decide +kernel
theorem d8_7 : decode jdk_38_method_7_code 7 = .ok (.invokevirtual 69, 3) := by decide +kernel
theorem pd_2 : parseMethodDescriptor "(I)[Ljava/lang/Object;" = some ⟨[.int], some (.array (.object "java/lang/Object"))⟩ := by decide +kernel
theorem d8_10 : decode jdk_38_method_7_code 10 = .ok (.areturn, 1) := by decide +kernel
theorem ef_grV (m : MethodId) (x0 : Addr) : entryFrame m #[(.ref x0)] 1 = mkF m 0 #[.val (.ref x0)] [] := by first | (simp [entryFrame, mkF, argsToLocals, Value.category]; done) | rfl
def Q_grV (Z : State) (dce cac : Addr) (ia : Nat → Addr) (a : Addr) (h0 : Heap) (n0 : Nat) (v : Option Value) (h : Heap) (L : List Loc) : Prop := ∃ ed : Addr, v = some (.ref ed) ∧ Fr n0 L ∧ Keep h0 h [a] ∧ h0.size ≤ ed ∧ n0 ≤ ed ∧ Fld Z h a "java/util/AbstractList" "modCount" "I" (.int (1 : Int32)) ∧ Fld Z h a "java/util/ArrayList" "elementData" "[Ljava/lang/Object;" (.ref ed) ∧ Fld Z h a "java/util/ArrayList" "size" "I" (.int (0 : Int32)) ∧ OAr Z h ed (.object "java/lang/Object") [.null, .null, .null, .null, .null, .null, .null, .null, .null, .null] ∧ OOv Z h ed "java/lang/Object"
set_option maxRecDepth 65536 in
set_option maxHeartbeats 40000000 in
theorem grV (l : Launch) (Z : State) (a0 : Array Value) (hw : ∀ d ∈ tables_1, d.before a0 Z = true) (dce cac : Addr) (ia : Nat → Addr) (a : Addr) (h0 : Heap) (n0 : Nat) (Z0 : n0 ≤ h0.size) (O0 : Old Z n0 h0) (S_d : Sta Z Z.heap "java/util/ArrayList" "DEFAULTCAPACITY_EMPTY_ELEMENTDATA" "[Ljava/lang/Object;" (.ref dce)) (V_d : OAr Z Z.heap dce (.object "java/lang/Object") []) (S_h : Sta Z Z.heap "java/lang/Integer$IntegerCache" "high" "I" (.int (127 : Int32))) (S_c : Sta Z Z.heap "java/lang/Integer$IntegerCache" "cache" "[Ljava/lang/Integer;" (.ref cac)) (hL : ∀ k < 4, OEl Z Z.heap cac (.object "java/lang/Integer") (128 + k) (.ref (ia k))) (hE : ∀ k < 4, Exa Z Z.heap (ia k) "java/lang/Integer") (hV : ∀ k < 4, Fld Z Z.heap (ia k) "java/lang/Integer" "value" "I" (.int (Int32.ofNat k))) (E_a : Exa Z h0 a "java/util/ArrayList") (g_a : n0 ≤ a) (F_m : Fld Z h0 a "java/util/AbstractList" "modCount" "I" (.int (1 : Int32))) (F_e : Fld Z h0 a "java/util/ArrayList" "elementData" "[Ljava/lang/Object;" (.ref dce)) (F_s : Fld Z h0 a "java/util/ArrayList" "size" "I" (.int (0 : Int32))) :
    OwnMet l (⟨"java/util/ArrayList", "grow", "()[Ljava/lang/Object;"⟩ : MethodName) jdk_38_method_7_code 1 (some (.array (.object "java/lang/Object"))) [] ({ frames := 2, cells := 1, slots := 10, locals := 29 } : Room) Z #[(.ref a)] h0 (Q_grV Z dce cac ia a h0 n0) := by
  refine own_met pn_8 (fun p e s m below meth c s₁ hx hby hml hown hnm hret hlk hZ X0 e0 => ?_)
  have hown : s.vm.findClass "java/util/ArrayList" = some m.cls := hown
  have N0 := Fr.nil n0
  have K0 := Keep.refl h0 [a]
  rw [ef_grV]
  show OwnWk _ _ _ _ (s₁.setTop (mkF m 0 #[.val (.ref a)] []))
  refine own_go (fun tgt kst => XS.aloadN X0.here hx rfl (hb hby d8_0) rfl rfl  kst) ?_
  show OwnWk _ _ _ _ (s₁.setTop (mkF m 1 #[.val (.ref a)] [(.ref a)]))
  refine own_go (fun tgt kst => XS.aloadN X0.here hx rfl (hb hby d8_1) rfl rfl  kst) ?_
  show OwnWk _ _ _ _ (s₁.setTop (mkF m 2 #[.val (.ref a)] [(.ref a), (.ref a)]))
  obtain ⟨T1, X1, e1, st1⟩ := getF X0 hx hZ hown (host := "") (Or.inl (hw _ (List.mem_of_getElem? (i := 42) rfl))) Via.refl e0 F_s (g := (mkF m 2 #[.val (.ref a)] [(.ref a), (.ref a)])) rfl rfl (hb hby d8_2)
  refine own_go st1 ?_
  show OwnWk _ _ _ _ (T1.setTop (mkF m 5 #[.val (.ref a)] [(.int (0 : Int32)), (.ref a)]))
  refine own_go (fun tgt kst => XS.iconst X1.here hx rfl (hb hby d8_5) kst) ?_
  show OwnWk _ _ _ _ (T1.setTop (mkF m 6 #[.val (.ref a)] [(.int (1 : Int32)), (.int (0 : Int32)), (.ref a)]))
  refine own_go (fun tgt kst => XS.iadd X1.here hx rfl (hb hby d8_6) rfl kst) ?_
  show OwnWk _ _ _ _ (T1.setTop (mkF m 7 #[.val (.ref a)] [(.int (1 : Int32)), (.ref a)]))
  have lt2 : a < h0.size := E_a.lt
  refine own_callP X1 hx hZ (y := (⟨"java/util/ArrayList", "grow", "(I)[Ljava/lang/Object;"⟩ : MethodName)) hown (hw _ (List.mem_of_getElem? (i := 54) rfl)) (hw _ (List.mem_of_getElem? (i := 55) rfl)) (hw _ (List.mem_of_getElem? (i := 57) rfl)) (hw _ (List.mem_of_getElem? (i := 56) rfl)) (hw _ (List.mem_of_getElem? (i := 4) rfl)) (hw _ (List.mem_of_getElem? (i := 58) rfl)) (by decide) (a := a) E_a (argsL := [(.int (1 : Int32))]) (rest := []) (rm := ({ frames := 1, cells := 1, slots := 10, locals := 14 } : Room)) (h := h0) (grI l Z a0 hw dce cac ia a h0 n0 Z0 O0 S_d V_d S_h S_c hL hE hV E_a g_a F_m F_e F_s) e1 (W := 0) (by decide) (by decide) (by decide) (by decide) (g := (mkF m 7 #[.val (.ref a)] [(.int (1 : Int32)), (.ref a)])) rfl (by rw [hml]; rfl) (lenOf pd_2 rfl) rfl (by show 2 * 0 + _ ≤ _; exact Nat.le_of_eq rfl) (hb hby d8_7) (fun v3 T3 h3 L3 X3 e3 hQ3 => ?_)
  obtain ⟨ed, rfl, Nq3, Kq3, szed, ged, Fm3, Fe3, Fs3, Ved, Oed⟩ := hQ3
  have N3 := Fr.app N0 Nq3
  have F4 := Old.keep O0 Kq3 (allS g_a all0)
  have F5 := Exa.keep E_a Kq3
  have Z6 := Nat.le_trans Z0 Kq3.1
  have K7 := Keep.trans K0 Kq3 (allS (Or.inl (List.mem_of_getElem? (i := 0) rfl)) all0)
  have ne8 : a ≠ ed := Nat.ne_of_lt (Nat.lt_of_lt_of_le lt2 szed)
  have szed0 : h0.size ≤ ed := Nat.le_trans K0.1 szed
  show OwnWk _ _ _ _ (T3.setTop (mkF m 10 #[.val (.ref a)] [(.ref ed)]))
  exact own_retA X3 hx hlk hret rfl rfl rfl (hb hby d8_10) (by decide) (by decide) (by rw [e3]; exact ⟨ed, rfl, N3, K7, szed0, ged, Fm3, Fe3, Fs3, Ved, Oed⟩)
theorem pn_pn_7 : plainName "java/util/ArrayList" = true := by first | (simp [plainName, overriddenIn]; done) | decide +kernel
theorem pn_7 : plainFor (⟨"java/util/ArrayList", "add", "(Ljava/lang/Object;[Ljava/lang/Object;I)V"⟩ : MethodName) = true := plainFor_of_name pn_pn_7
theorem d7_0 : decode jdk_38_method_24_code 0 = .ok (.iload_n 3, 1) := by decide +kernel
theorem d7_1 : decode jdk_38_method_24_code 1 = .ok (.aload_n 2, 1) := by decide +kernel
theorem d7_2 : decode jdk_38_method_24_code 2 = .ok (.arraylength, 1) := by decide +kernel
theorem d7_3 : decode jdk_38_method_24_code 3 = .ok (.if_icmp .ne 8, 3) := by decide +kernel
theorem d7_6 : decode jdk_38_method_24_code 6 = .ok (.aload_n 0, 1) := by decide +kernel
theorem d7_7 : decode jdk_38_method_24_code 7 = .ok (.invokevirtual 129, 3) := by decide +kernel
theorem pd_3 : parseMethodDescriptor "()[Ljava/lang/Object;" = some ⟨[], some (.array (.object "java/lang/Object"))⟩ := by decide +kernel
theorem d7_10 : decode jdk_38_method_24_code 10 = .ok (.astore_n 2, 1) := by decide +kernel
theorem d7_11 : decode jdk_38_method_24_code 11 = .ok (.aload_n 2, 1) := by decide +kernel
theorem d7_12 : decode jdk_38_method_24_code 12 = .ok (.iload_n 3, 1) := by decide +kernel
theorem d7_13 : decode jdk_38_method_24_code 13 = .ok (.aload_n 1, 1) := by decide +kernel
theorem d7_14 : decode jdk_38_method_24_code 14 = .ok (.aastore, 1) := by decide +kernel
theorem d7_15 : decode jdk_38_method_24_code 15 = .ok (.aload_n 0, 1) := by decide +kernel
theorem d7_16 : decode jdk_38_method_24_code 16 = .ok (.iload_n 3, 1) := by decide +kernel
theorem d7_17 : decode jdk_38_method_24_code 17 = .ok (.iconst 1, 1) := by decide +kernel
theorem d7_18 : decode jdk_38_method_24_code 18 = .ok (.iadd, 1) := by decide +kernel
theorem d7_19 : decode jdk_38_method_24_code 19 = .ok (.putfield 48, 3) := by decide +kernel
theorem d7_22 : decode jdk_38_method_24_code 22 = .ok (.return_, 1) := by decide +kernel
theorem ef_adA0 (m : MethodId) (x0 : Addr) (x1 : Addr) (x2 : Addr) (x3 : Int32) : entryFrame m #[(.ref x0), (.ref x1), (.ref x2), (.int x3)] 4 = mkF m 0 #[.val (.ref x0), .val (.ref x1), .val (.ref x2), .val (.int x3)] [] := by first | (simp [entryFrame, mkF, argsToLocals, Value.category]; done) | rfl
def Q_adA0 (Z : State) (dce cac : Addr) (ia : Nat → Addr) (a x : Addr)  (h0 : Heap) (n0 : Nat) (v : Option Value) (h : Heap) (L : List Loc) : Prop := ∃ ed : Addr, v = none ∧ Fr n0 L ∧ Keep h0 h [a] ∧ h0.size ≤ ed ∧ n0 ≤ ed ∧ Fld Z h a "java/util/AbstractList" "modCount" "I" (.int (1 : Int32)) ∧ Fld Z h a "java/util/ArrayList" "elementData" "[Ljava/lang/Object;" (.ref ed) ∧ Fld Z h a "java/util/ArrayList" "size" "I" (.int (1 : Int32)) ∧ OAr Z h ed (.object "java/lang/Object") [(.ref x), .null, .null, .null, .null, .null, .null, .null, .null, .null] ∧ OOv Z h ed "java/lang/Object"
set_option maxRecDepth 65536 in
set_option maxHeartbeats 40000000 in
theorem adA0 (l : Launch) (Z : State) (a0 : Array Value) (hw : ∀ d ∈ tables_1, d.before a0 Z = true) (dce cac : Addr) (ia : Nat → Addr) (a x : Addr)  (h0 : Heap) (n0 : Nat) (Z0 : n0 ≤ h0.size) (O0 : Old Z n0 h0) (S_d : Sta Z Z.heap "java/util/ArrayList" "DEFAULTCAPACITY_EMPTY_ELEMENTDATA" "[Ljava/lang/Object;" (.ref dce)) (V_d : OAr Z Z.heap dce (.object "java/lang/Object") []) (S_h : Sta Z Z.heap "java/lang/Integer$IntegerCache" "high" "I" (.int (127 : Int32))) (S_c : Sta Z Z.heap "java/lang/Integer$IntegerCache" "cache" "[Ljava/lang/Integer;" (.ref cac)) (hL : ∀ k < 4, OEl Z Z.heap cac (.object "java/lang/Integer") (128 + k) (.ref (ia k))) (hE : ∀ k < 4, Exa Z Z.heap (ia k) "java/lang/Integer") (hV : ∀ k < 4, Fld Z Z.heap (ia k) "java/lang/Integer" "value" "I" (.int (Int32.ofNat k))) (I_x : Ins Z h0 x "java/lang/Object" true) (E_a : Exa Z h0 a "java/util/ArrayList") (g_a : n0 ≤ a) (F_m : Fld Z h0 a "java/util/AbstractList" "modCount" "I" (.int (1 : Int32))) (F_e : Fld Z h0 a "java/util/ArrayList" "elementData" "[Ljava/lang/Object;" (.ref dce)) (F_s : Fld Z h0 a "java/util/ArrayList" "size" "I" (.int (0 : Int32))) :
    OwnMet l (⟨"java/util/ArrayList", "add", "(Ljava/lang/Object;[Ljava/lang/Object;I)V"⟩ : MethodName) jdk_38_method_24_code 4 none [] ({ frames := 3, cells := 1, slots := 10, locals := 41 } : Room) Z #[(.ref a), (.ref x), (.ref dce), (.int (0 : Int32))] h0 (Q_adA0 Z dce cac ia a x  h0 n0) := by
  refine own_met pn_7 (fun p e s m below meth c s₁ hx hby hml hown hnm hret hlk hZ X0 e0 => ?_)
  have hown : s.vm.findClass "java/util/ArrayList" = some m.cls := hown
  have N0 := Fr.nil n0
  have K0 := Keep.refl h0 [a]
  rw [ef_adA0]
  show OwnWk _ _ _ _ (s₁.setTop (mkF m 0 #[.val (.ref a), .val (.ref x), .val (.ref dce), .val (.int (0 : Int32))] []))
  refine own_go (fun tgt kst => XS.iloadN X0.here hx rfl (hb hby d7_0) rfl  kst) ?_
  show OwnWk _ _ _ _ (s₁.setTop (mkF m 1 #[.val (.ref a), .val (.ref x), .val (.ref dce), .val (.int (0 : Int32))] [(.int (0 : Int32))]))
  refine own_go (fun tgt kst => XS.aloadN X0.here hx rfl (hb hby d7_1) rfl rfl  kst) ?_
  show OwnWk _ _ _ _ (s₁.setTop (mkF m 2 #[.val (.ref a), .val (.ref x), .val (.ref dce), .val (.int (0 : Int32))] [(.ref dce), (.int (0 : Int32))]))
  refine own_len X0 hx hZ e0 (OAr.ext V_d O0.2) (g := (mkF m 2 #[.val (.ref a), .val (.ref x), .val (.ref dce), .val (.int (0 : Int32))] [(.ref dce), (.int (0 : Int32))])) rfl rfl (hb hby d7_2) (N := (0 : Int32)) rfl ?_
  show OwnWk _ _ _ _ (s₁.setTop (mkF m 3 #[.val (.ref a), .val (.ref x), .val (.ref dce), .val (.int (0 : Int32))] [(.int (0 : Int32)), (.int (0 : Int32))]))
  refine own_go (fun tgt kst => XS.icmpNo X0.here hx rfl (hb hby d7_3) rfl (teq (by decide : (0 : Int32) = (0 : Int32))).2 kst) ?_
  show OwnWk _ _ _ _ (s₁.setTop (mkF m 6 #[.val (.ref a), .val (.ref x), .val (.ref dce), .val (.int (0 : Int32))] []))
  refine own_go (fun tgt kst => XS.aloadN X0.here hx rfl (hb hby d7_6) rfl rfl  kst) ?_
  show OwnWk _ _ _ _ (s₁.setTop (mkF m 7 #[.val (.ref a), .val (.ref x), .val (.ref dce), .val (.int (0 : Int32))] [(.ref a)]))
  have lt1 : a < h0.size := E_a.lt
  refine own_callP X0 hx hZ (y := (⟨"java/util/ArrayList", "grow", "()[Ljava/lang/Object;"⟩ : MethodName)) hown (hw _ (List.mem_of_getElem? (i := 49) rfl)) (hw _ (List.mem_of_getElem? (i := 50) rfl)) (hw _ (List.mem_of_getElem? (i := 52) rfl)) (hw _ (List.mem_of_getElem? (i := 51) rfl)) (hw _ (List.mem_of_getElem? (i := 4) rfl)) (hw _ (List.mem_of_getElem? (i := 53) rfl)) (by decide) (a := a) E_a (argsL := []) (rest := []) (rm := ({ frames := 2, cells := 1, slots := 10, locals := 29 } : Room)) (h := h0) (grV l Z a0 hw dce cac ia a h0 n0 Z0 O0 S_d V_d S_h S_c hL hE hV E_a g_a F_m F_e F_s) e0 (W := 0) (by decide) (by decide) (by decide) (by decide) (g := (mkF m 7 #[.val (.ref a), .val (.ref x), .val (.ref dce), .val (.int (0 : Int32))] [(.ref a)])) rfl (by rw [hml]; rfl) (lenOf pd_3 rfl) rfl (by show 2 * 0 + _ ≤ _; exact Nat.le_of_eq rfl) (hb hby d7_7) (fun v2 T2 h2 L2 X2 e2 hQ2 => ?_)
  obtain ⟨ed, rfl, Nq2, Kq2, szed, ged, Fm2, Fe2, Fs2, Ved, Oed⟩ := hQ2
  have N2 := Fr.app N0 Nq2
  have F3 := Old.keep O0 Kq2 (allS g_a all0)
  have F4 := Exa.keep E_a Kq2
  have F5 := own_ins_keep I_x Kq2
  have Z6 := Nat.le_trans Z0 Kq2.1
  have K7 := Keep.trans K0 Kq2 (allS (Or.inl (List.mem_of_getElem? (i := 0) rfl)) all0)
  have ne8 : a ≠ ed := Nat.ne_of_lt (Nat.lt_of_lt_of_le lt1 szed)
  have szed0 : h0.size ≤ ed := Nat.le_trans K0.1 szed
  show OwnWk _ _ _ _ (T2.setTop (mkF m 10 #[.val (.ref a), .val (.ref x), .val (.ref dce), .val (.int (0 : Int32))] [(.ref ed)]))
  refine own_go (fun tgt kst => XS.astoreN X2.here hx rfl (hb hby d7_10) rfl rfl (l' := #[.val (.ref a), .val (.ref x), .val (.ref ed), .val (.int (0 : Int32))]) rfl kst) ?_
  show OwnWk _ _ _ _ (T2.setTop (mkF m 11 #[.val (.ref a), .val (.ref x), .val (.ref ed), .val (.int (0 : Int32))] []))
  refine own_go (fun tgt kst => XS.aloadN X2.here hx rfl (hb hby d7_11) rfl rfl  kst) ?_
  show OwnWk _ _ _ _ (T2.setTop (mkF m 12 #[.val (.ref a), .val (.ref x), .val (.ref ed), .val (.int (0 : Int32))] [(.ref ed)]))
  refine own_go (fun tgt kst => XS.iloadN X2.here hx rfl (hb hby d7_12) rfl  kst) ?_
  show OwnWk _ _ _ _ (T2.setTop (mkF m 13 #[.val (.ref a), .val (.ref x), .val (.ref ed), .val (.int (0 : Int32))] [(.int (0 : Int32)), (.ref ed)]))
  refine own_go (fun tgt kst => XS.aloadN X2.here hx rfl (hb hby d7_13) rfl rfl  kst) ?_
  show OwnWk _ _ _ _ (T2.setTop (mkF m 14 #[.val (.ref a), .val (.ref x), .val (.ref ed), .val (.int (0 : Int32))] [(.ref x), (.int (0 : Int32)), (.ref ed)]))
  refine own_stR X2 hx hZ e2 Ved Oed F5 (g := (mkF m 14 #[.val (.ref a), .val (.ref x), .val (.ref ed), .val (.int (0 : Int32))] [(.ref x), (.int (0 : Int32)), (.ref ed)])) rfl rfl (hb hby d7_14) (by decide) (Nat.le_of_ble_eq_true rfl) (fun T9 h9 X9 e9 W9 V9 => ?_)
  have N9 := Fr.snoc X9 N2 ged
  have F10 := Old.wr F3 W9 ged
  have F11 := Exa.wr W9 F4
  have F12 := Ins.wr W9 F5
  have F13 := Fld.other W9 Fm2 (Or.inl ne8)
  have F14 := Fld.other W9 Fe2 (Or.inl ne8)
  have F15 := Fld.other W9 Fs2 (Or.inl ne8)
  have F16 := OOv.wr W9 Oed
  have Z17 := Nat.le_trans Z6 (Keep.of_wr W9).1
  have K18 := Keep.wr K7 W9 (Or.inr szed0)
  show OwnWk _ _ _ _ (T9.setTop (mkF m 15 #[.val (.ref a), .val (.ref x), .val (.ref ed), .val (.int (0 : Int32))] []))
  refine own_go (fun tgt kst => XS.aloadN X9.here hx rfl (hb hby d7_15) rfl rfl  kst) ?_
  show OwnWk _ _ _ _ (T9.setTop (mkF m 16 #[.val (.ref a), .val (.ref x), .val (.ref ed), .val (.int (0 : Int32))] [(.ref a)]))
  refine own_go (fun tgt kst => XS.iloadN X9.here hx rfl (hb hby d7_16) rfl  kst) ?_
  show OwnWk _ _ _ _ (T9.setTop (mkF m 17 #[.val (.ref a), .val (.ref x), .val (.ref ed), .val (.int (0 : Int32))] [(.int (0 : Int32)), (.ref a)]))
  refine own_go (fun tgt kst => XS.iconst X9.here hx rfl (hb hby d7_17) kst) ?_
  show OwnWk _ _ _ _ (T9.setTop (mkF m 18 #[.val (.ref a), .val (.ref x), .val (.ref ed), .val (.int (0 : Int32))] [(.int (1 : Int32)), (.int (0 : Int32)), (.ref a)]))
  refine own_go (fun tgt kst => XS.iadd X9.here hx rfl (hb hby d7_18) rfl kst) ?_
  show OwnWk _ _ _ _ (T9.setTop (mkF m 19 #[.val (.ref a), .val (.ref x), .val (.ref ed), .val (.int (0 : Int32))] [(.int (1 : Int32)), (.ref a)]))
  obtain ⟨T19, h19, X19, e19, W19, st19⟩ := putF X9 hx hZ hown (host := "") (Or.inl (hw _ (List.mem_of_getElem? (i := 42) rfl))) Via.refl e9 F15 F11 (Or.inl (hw _ (List.mem_of_getElem? (i := 43) rfl))) (hw _ (List.mem_of_getElem? (i := 3) rfl)) (v := (.int (1 : Int32))) (ty := .int) (by decide) rfl rfl (g := (mkF m 19 #[.val (.ref a), .val (.ref x), .val (.ref ed), .val (.int (0 : Int32))] [(.int (1 : Int32)), (.ref a)])) rfl rfl (hb hby d7_19)
  refine own_go st19 ?_
  have N19 := Fr.snoc X19 N9 g_a
  have Fw19 := Fld.same W19 F15
  have F20 := Old.wr F10 W19 g_a
  have F21 := Exa.wr W19 F11
  have F22 := Ins.wr W19 F12
  have F23 := Fld.other W19 F13 (Or.inr (slot_ne (Or.inl (hw _ (List.mem_of_getElem? (i := 24) rfl))) (Or.inl (hw _ (List.mem_of_getElem? (i := 43) rfl))) (by decide) (t := .int) (t' := .int) (by decide) (by decide)))
  have F24 := Fld.other W19 F14 (Or.inr (slot_ne (Or.inl (hw _ (List.mem_of_getElem? (i := 27) rfl))) (Or.inl (hw _ (List.mem_of_getElem? (i := 43) rfl))) (by decide) (t := (.array (.object "java/lang/Object"))) (t' := .int) (by decide) (by decide)))
  have F25 := OOv.wr W19 F16
  have F26 := OAr.other V9 W19 (Ne.symm ne8)
  have Z27 := Nat.le_trans Z17 (Keep.of_wr W19).1
  have K28 := Keep.wr K18 W19 (Or.inl (List.mem_of_getElem? (i := 0) rfl))
  show OwnWk _ _ _ _ (T19.setTop (mkF m 22 #[.val (.ref a), .val (.ref x), .val (.ref ed), .val (.int (0 : Int32))] []))
  exact own_retV X19 hx hlk hret (hb hby d7_22) (by decide) (by decide) (by rw [e19]; exact ⟨ed, rfl, N19, K28, szed0, ged, F23, F24, Fw19, F26, F25⟩)
theorem pn_pn_6 : plainName "java/util/ArrayList" = true := by first | (simp [plainName, overriddenIn]; done) | decide +kernel
theorem pn_6 : plainFor (⟨"java/util/ArrayList", "add", "(Ljava/lang/Object;)Z"⟩ : MethodName) = true := plainFor_of_name pn_pn_6
theorem d6_0 : decode jdk_38_method_25_code 0 = .ok (.aload_n 0, 1) := by decide +kernel
theorem d6_1 : decode jdk_38_method_25_code 1 = .ok (.dup, 1) := by decide +kernel
theorem d6_2 : decode jdk_38_method_25_code 2 = .ok (.getfield 63, 3) := by decide +kernel
theorem d6_5 : decode jdk_38_method_25_code 5 = .ok (.iconst 1, 1) := by decide +kernel
theorem d6_6 : decode jdk_38_method_25_code 6 = .ok (.iadd, 1) := by decide +kernel
theorem d6_7 : decode jdk_38_method_25_code 7 = .ok (.putfield 63, 3) := by decide +kernel
theorem d6_10 : decode jdk_38_method_25_code 10 = .ok (.aload_n 0, 1) := by decide +kernel
theorem d6_11 : decode jdk_38_method_25_code 11 = .ok (.aload_n 1, 1) := by decide +kernel
theorem d6_12 : decode jdk_38_method_25_code 12 = .ok (.aload_n 0, 1) := by decide +kernel
theorem d6_13 : decode jdk_38_method_25_code 13 = .ok (.getfield 9, 3) := by decide +kernel
theorem d6_16 : decode jdk_38_method_25_code 16 = .ok (.aload_n 0, 1) := by decide +kernel
theorem d6_17 : decode jdk_38_method_25_code 17 = .ok (.getfield 48, 3) := by decide +kernel
theorem d6_20 : decode jdk_38_method_25_code 20 = .ok (.invokevirtual 131, 3) := by decide +kernel
theorem pd_4 : parseMethodDescriptor "(Ljava/lang/Object;[Ljava/lang/Object;I)V" = some ⟨[(.object "java/lang/Object"), (.array (.object "java/lang/Object")), .int], none⟩ := by decide +kernel
theorem d6_23 : decode jdk_38_method_25_code 23 = .ok (.iconst 1, 1) := by decide +kernel
theorem d6_24 : decode jdk_38_method_25_code 24 = .ok (.ireturn, 1) := by decide +kernel
theorem ef_adB0 (m : MethodId) (x0 : Addr) (x1 : Addr) : entryFrame m #[(.ref x0), (.ref x1)] 2 = mkF m 0 #[.val (.ref x0), .val (.ref x1)] [] := by first | (simp [entryFrame, mkF, argsToLocals, Value.category]; done) | rfl
def Q_adB0 (Z : State) (dce cac : Addr) (ia : Nat → Addr) (a x : Addr)  (h0 : Heap) (n0 : Nat) (v : Option Value) (h : Heap) (L : List Loc) : Prop := ∃ ed : Addr, v = some (.int 1) ∧ Fr n0 L ∧ Keep h0 h [a] ∧ h0.size ≤ ed ∧ n0 ≤ ed ∧ Fld Z h a "java/util/AbstractList" "modCount" "I" (.int (1 : Int32)) ∧ Fld Z h a "java/util/ArrayList" "elementData" "[Ljava/lang/Object;" (.ref ed) ∧ Fld Z h a "java/util/ArrayList" "size" "I" (.int (1 : Int32)) ∧ OAr Z h ed (.object "java/lang/Object") [(.ref x), .null, .null, .null, .null, .null, .null, .null, .null, .null] ∧ OOv Z h ed "java/lang/Object"
set_option maxRecDepth 65536 in
set_option maxHeartbeats 40000000 in
theorem adB0 (l : Launch) (Z : State) (a0 : Array Value) (hw : ∀ d ∈ tables_1, d.before a0 Z = true) (dce cac : Addr) (ia : Nat → Addr) (a x : Addr)  (h0 : Heap) (n0 : Nat) (Z0 : n0 ≤ h0.size) (O0 : Old Z n0 h0) (S_d : Sta Z Z.heap "java/util/ArrayList" "DEFAULTCAPACITY_EMPTY_ELEMENTDATA" "[Ljava/lang/Object;" (.ref dce)) (V_d : OAr Z Z.heap dce (.object "java/lang/Object") []) (S_h : Sta Z Z.heap "java/lang/Integer$IntegerCache" "high" "I" (.int (127 : Int32))) (S_c : Sta Z Z.heap "java/lang/Integer$IntegerCache" "cache" "[Ljava/lang/Integer;" (.ref cac)) (hL : ∀ k < 4, OEl Z Z.heap cac (.object "java/lang/Integer") (128 + k) (.ref (ia k))) (hE : ∀ k < 4, Exa Z Z.heap (ia k) "java/lang/Integer") (hV : ∀ k < 4, Fld Z Z.heap (ia k) "java/lang/Integer" "value" "I" (.int (Int32.ofNat k))) (I_x : Ins Z h0 x "java/lang/Object" true) (E_a : Exa Z h0 a "java/util/ArrayList") (g_a : n0 ≤ a) (F_m : Fld Z h0 a "java/util/AbstractList" "modCount" "I" (.int (0 : Int32))) (F_e : Fld Z h0 a "java/util/ArrayList" "elementData" "[Ljava/lang/Object;" (.ref dce)) (F_s : Fld Z h0 a "java/util/ArrayList" "size" "I" (.int (0 : Int32))) :
    OwnMet l (⟨"java/util/ArrayList", "add", "(Ljava/lang/Object;)Z"⟩ : MethodName) jdk_38_method_25_code 2 (some .boolean) [] ({ frames := 4, cells := 1, slots := 10, locals := 56 } : Room) Z #[(.ref a), (.ref x)] h0 (Q_adB0 Z dce cac ia a x  h0 n0) := by
  refine own_met pn_6 (fun p e s m below meth c s₁ hx hby hml hown hnm hret hlk hZ X0 e0 => ?_)
  have hown : s.vm.findClass "java/util/ArrayList" = some m.cls := hown
  have N0 := Fr.nil n0
  have K0 := Keep.refl h0 [a]
  rw [ef_adB0]
  show OwnWk _ _ _ _ (s₁.setTop (mkF m 0 #[.val (.ref a), .val (.ref x)] []))
  refine own_go (fun tgt kst => XS.aloadN X0.here hx rfl (hb hby d6_0) rfl rfl  kst) ?_
  show OwnWk _ _ _ _ (s₁.setTop (mkF m 1 #[.val (.ref a), .val (.ref x)] [(.ref a)]))
  refine own_go (fun tgt kst => XS.dup X0.here hx rfl (hb hby d6_1) rfl rfl kst) ?_
  show OwnWk _ _ _ _ (s₁.setTop (mkF m 2 #[.val (.ref a), .val (.ref x)] [(.ref a), (.ref a)]))
  obtain ⟨T1, X1, e1, st1⟩ := getF X0 hx hZ hown (host := "") (Or.inl (hw _ (List.mem_of_getElem? (i := 40) rfl))) (Via.of (hw _ (List.mem_of_getElem? (i := 41) rfl))) e0 F_m (g := (mkF m 2 #[.val (.ref a), .val (.ref x)] [(.ref a), (.ref a)])) rfl rfl (hb hby d6_2)
  refine own_go st1 ?_
  show OwnWk _ _ _ _ (T1.setTop (mkF m 5 #[.val (.ref a), .val (.ref x)] [(.int (0 : Int32)), (.ref a)]))
  refine own_go (fun tgt kst => XS.iconst X1.here hx rfl (hb hby d6_5) kst) ?_
  show OwnWk _ _ _ _ (T1.setTop (mkF m 6 #[.val (.ref a), .val (.ref x)] [(.int (1 : Int32)), (.int (0 : Int32)), (.ref a)]))
  refine own_go (fun tgt kst => XS.iadd X1.here hx rfl (hb hby d6_6) rfl kst) ?_
  show OwnWk _ _ _ _ (T1.setTop (mkF m 7 #[.val (.ref a), .val (.ref x)] [(.int (1 : Int32)), (.ref a)]))
  obtain ⟨T2, h2, X2, e2, W2, st2⟩ := putF X1 hx hZ hown (host := "") (Or.inl (hw _ (List.mem_of_getElem? (i := 40) rfl))) (Via.of (hw _ (List.mem_of_getElem? (i := 41) rfl))) e1 F_m E_a (Or.inl (hw _ (List.mem_of_getElem? (i := 24) rfl))) (hw _ (List.mem_of_getElem? (i := 3) rfl)) (v := (.int (1 : Int32))) (ty := .int) (by decide) rfl rfl (g := (mkF m 7 #[.val (.ref a), .val (.ref x)] [(.int (1 : Int32)), (.ref a)])) rfl rfl (hb hby d6_7)
  refine own_go st2 ?_
  have N2 := Fr.snoc X2 N0 g_a
  have Fw2 := Fld.same W2 F_m
  have F3 := Old.wr O0 W2 g_a
  have F4 := Exa.wr W2 E_a
  have F5 := Fld.other W2 F_e (Or.inr (slot_ne (Or.inl (hw _ (List.mem_of_getElem? (i := 27) rfl))) (Or.inl (hw _ (List.mem_of_getElem? (i := 24) rfl))) (by decide) (t := (.array (.object "java/lang/Object"))) (t' := .int) (by decide) (by decide)))
  have F6 := Fld.other W2 F_s (Or.inr (slot_ne (Or.inl (hw _ (List.mem_of_getElem? (i := 43) rfl))) (Or.inl (hw _ (List.mem_of_getElem? (i := 24) rfl))) (by decide) (t := .int) (t' := .int) (by decide) (by decide)))
  have F7 := Ins.wr W2 I_x
  have Z8 := Nat.le_trans Z0 (Keep.of_wr W2).1
  have K9 := Keep.wr K0 W2 (Or.inl (List.mem_of_getElem? (i := 0) rfl))
  show OwnWk _ _ _ _ (T2.setTop (mkF m 10 #[.val (.ref a), .val (.ref x)] []))
  refine own_go (fun tgt kst => XS.aloadN X2.here hx rfl (hb hby d6_10) rfl rfl  kst) ?_
  show OwnWk _ _ _ _ (T2.setTop (mkF m 11 #[.val (.ref a), .val (.ref x)] [(.ref a)]))
  refine own_go (fun tgt kst => XS.aloadN X2.here hx rfl (hb hby d6_11) rfl rfl  kst) ?_
  show OwnWk _ _ _ _ (T2.setTop (mkF m 12 #[.val (.ref a), .val (.ref x)] [(.ref x), (.ref a)]))
  refine own_go (fun tgt kst => XS.aloadN X2.here hx rfl (hb hby d6_12) rfl rfl  kst) ?_
  show OwnWk _ _ _ _ (T2.setTop (mkF m 13 #[.val (.ref a), .val (.ref x)] [(.ref a), (.ref x), (.ref a)]))
  obtain ⟨T10, X10, e10, st10⟩ := getF X2 hx hZ hown (host := "") (Or.inl (hw _ (List.mem_of_getElem? (i := 26) rfl))) Via.refl e2 F5 (g := (mkF m 13 #[.val (.ref a), .val (.ref x)] [(.ref a), (.ref x), (.ref a)])) rfl rfl (hb hby d6_13)
  refine own_go st10 ?_
  show OwnWk _ _ _ _ (T10.setTop (mkF m 16 #[.val (.ref a), .val (.ref x)] [(.ref dce), (.ref x), (.ref a)]))
  refine own_go (fun tgt kst => XS.aloadN X10.here hx rfl (hb hby d6_16) rfl rfl  kst) ?_
  show OwnWk _ _ _ _ (T10.setTop (mkF m 17 #[.val (.ref a), .val (.ref x)] [(.ref a), (.ref dce), (.ref x), (.ref a)]))
  obtain ⟨T11, X11, e11, st11⟩ := getF X10 hx hZ hown (host := "") (Or.inl (hw _ (List.mem_of_getElem? (i := 42) rfl))) Via.refl e10 F6 (g := (mkF m 17 #[.val (.ref a), .val (.ref x)] [(.ref a), (.ref dce), (.ref x), (.ref a)])) rfl rfl (hb hby d6_17)
  refine own_go st11 ?_
  show OwnWk _ _ _ _ (T11.setTop (mkF m 20 #[.val (.ref a), .val (.ref x)] [(.int (0 : Int32)), (.ref dce), (.ref x), (.ref a)]))
  have lt12 : a < h2.size := F4.lt
  refine own_callP X11 hx hZ (y := (⟨"java/util/ArrayList", "add", "(Ljava/lang/Object;[Ljava/lang/Object;I)V"⟩ : MethodName)) hown (hw _ (List.mem_of_getElem? (i := 44) rfl)) (hw _ (List.mem_of_getElem? (i := 45) rfl)) (hw _ (List.mem_of_getElem? (i := 47) rfl)) (hw _ (List.mem_of_getElem? (i := 46) rfl)) (hw _ (List.mem_of_getElem? (i := 4) rfl)) (hw _ (List.mem_of_getElem? (i := 48) rfl)) (by decide) (a := a) F4 (argsL := [(.ref x), (.ref dce), (.int (0 : Int32))]) (rest := []) (rm := ({ frames := 3, cells := 1, slots := 10, locals := 41 } : Room)) (h := h2) (adA0 l Z a0 hw dce cac ia a x h2 n0 Z8 F3 S_d V_d S_h S_c hL hE hV F7 F4 g_a Fw2 F5 F6) e11 (W := 0) (by decide) (by decide) (by decide) (by decide) (g := (mkF m 20 #[.val (.ref a), .val (.ref x)] [(.int (0 : Int32)), (.ref dce), (.ref x), (.ref a)])) rfl (by rw [hml]; rfl) (lenOf pd_4 rfl) rfl (by show 2 * 0 + _ ≤ _; exact Nat.le_of_eq rfl) (hb hby d6_20) (fun v13 T13 h13 L13 X13 e13 hQ13 => ?_)
  obtain ⟨ed, rfl, Nq13, Kq13, szed, ged, Fm13, Fe13, Fs13, Vq13, Oq13⟩ := hQ13
  have N13 := Fr.app N2 Nq13
  have F14 := Old.keep F3 Kq13 (allS g_a all0)
  have F15 := Exa.keep F4 Kq13
  have F16 := own_ins_keep F7 Kq13
  have Z17 := Nat.le_trans Z8 Kq13.1
  have K18 := Keep.trans K9 Kq13 (allS (Or.inl (List.mem_of_getElem? (i := 0) rfl)) all0)
  have ne19 : a ≠ ed := Nat.ne_of_lt (Nat.lt_of_lt_of_le lt12 szed)
  have szed0 : h0.size ≤ ed := Nat.le_trans K9.1 szed
  show OwnWk _ _ _ _ (T13.setTop (mkF m 23 #[.val (.ref a), .val (.ref x)] []))
  refine own_go (fun tgt kst => XS.iconst X13.here hx rfl (hb hby d6_23) kst) ?_
  show OwnWk _ _ _ _ (T13.setTop (mkF m 24 #[.val (.ref a), .val (.ref x)] [(.int (1 : Int32))]))
  exact own_retZ X13 hx hlk hret (by simp) (z' := (1 : Int32)) rfl (hb hby d6_24) (by decide) (by decide) (by rw [e13]; exact ⟨ed, rfl, N13, K18, szed0, ged, Fm13, Fe13, Fs13, Vq13, Oq13⟩)
theorem ef_adA1 (m : MethodId) (x0 : Addr) (x1 : Addr) (x2 : Addr) (x3 : Int32) : entryFrame m #[(.ref x0), (.ref x1), (.ref x2), (.int x3)] 4 = mkF m 0 #[.val (.ref x0), .val (.ref x1), .val (.ref x2), .val (.int x3)] [] := by first | (simp [entryFrame, mkF, argsToLocals, Value.category]; done) | rfl
def Q_adA1 (Z : State) (dce cac : Addr) (ia : Nat → Addr) (a x ed : Addr) (y0 : Addr)  (h0 : Heap) (n0 : Nat) (v : Option Value) (h : Heap) (L : List Loc) : Prop := v = none ∧ Fr n0 L ∧ Keep h0 h [a, ed] ∧ Fld Z h a "java/util/AbstractList" "modCount" "I" (.int (2 : Int32)) ∧ Fld Z h a "java/util/ArrayList" "elementData" "[Ljava/lang/Object;" (.ref ed) ∧ Fld Z h a "java/util/ArrayList" "size" "I" (.int (2 : Int32)) ∧ OAr Z h ed (.object "java/lang/Object") [(.ref y0), (.ref x), .null, .null, .null, .null, .null, .null, .null, .null] ∧ OOv Z h ed "java/lang/Object"
set_option maxRecDepth 65536 in
set_option maxHeartbeats 40000000 in
theorem adA1 (l : Launch) (Z : State) (a0 : Array Value) (hw : ∀ d ∈ tables_1, d.before a0 Z = true) (dce cac : Addr) (ia : Nat → Addr) (a x ed : Addr) (y0 : Addr)  (h0 : Heap) (n0 : Nat) (Z0 : n0 ≤ h0.size) (O0 : Old Z n0 h0) (S_d : Sta Z Z.heap "java/util/ArrayList" "DEFAULTCAPACITY_EMPTY_ELEMENTDATA" "[Ljava/lang/Object;" (.ref dce)) (V_d : OAr Z Z.heap dce (.object "java/lang/Object") []) (S_h : Sta Z Z.heap "java/lang/Integer$IntegerCache" "high" "I" (.int (127 : Int32))) (S_c : Sta Z Z.heap "java/lang/Integer$IntegerCache" "cache" "[Ljava/lang/Integer;" (.ref cac)) (hL : ∀ k < 4, OEl Z Z.heap cac (.object "java/lang/Integer") (128 + k) (.ref (ia k))) (hE : ∀ k < 4, Exa Z Z.heap (ia k) "java/lang/Integer") (hV : ∀ k < 4, Fld Z Z.heap (ia k) "java/lang/Integer" "value" "I" (.int (Int32.ofNat k))) (I_x : Ins Z h0 x "java/lang/Object" true) (E_a : Exa Z h0 a "java/util/ArrayList") (g_a : n0 ≤ a) (F_m : Fld Z h0 a "java/util/AbstractList" "modCount" "I" (.int (2 : Int32))) (F_e : Fld Z h0 a "java/util/ArrayList" "elementData" "[Ljava/lang/Object;" (.ref ed)) (F_s : Fld Z h0 a "java/util/ArrayList" "size" "I" (.int (1 : Int32))) (g_e : n0 ≤ ed) (ne_ae : a ≠ ed) (V_e : OAr Z h0 ed (.object "java/lang/Object") [(.ref y0), .null, .null, .null, .null, .null, .null, .null, .null, .null]) (O_e : OOv Z h0 ed "java/lang/Object") :
    OwnMet l (⟨"java/util/ArrayList", "add", "(Ljava/lang/Object;[Ljava/lang/Object;I)V"⟩ : MethodName) jdk_38_method_24_code 4 none [] ({ frames := 0, cells := 0, slots := 0, locals := 0 } : Room) Z #[(.ref a), (.ref x), (.ref ed), (.int (1 : Int32))] h0 (Q_adA1 Z dce cac ia a x ed y0 h0 n0) := by
  refine own_met pn_7 (fun p e s m below meth c s₁ hx hby hml hown hnm hret hlk hZ X0 e0 => ?_)
  have hown : s.vm.findClass "java/util/ArrayList" = some m.cls := hown
  have N0 := Fr.nil n0
  have K0 := Keep.refl h0 [a, ed]
  rw [ef_adA1]
  show OwnWk _ _ _ _ (s₁.setTop (mkF m 0 #[.val (.ref a), .val (.ref x), .val (.ref ed), .val (.int (1 : Int32))] []))
  refine own_go (fun tgt kst => XS.iloadN X0.here hx rfl (hb hby d7_0) rfl  kst) ?_
  show OwnWk _ _ _ _ (s₁.setTop (mkF m 1 #[.val (.ref a), .val (.ref x), .val (.ref ed), .val (.int (1 : Int32))] [(.int (1 : Int32))]))
  refine own_go (fun tgt kst => XS.aloadN X0.here hx rfl (hb hby d7_1) rfl rfl  kst) ?_
  show OwnWk _ _ _ _ (s₁.setTop (mkF m 2 #[.val (.ref a), .val (.ref x), .val (.ref ed), .val (.int (1 : Int32))] [(.ref ed), (.int (1 : Int32))]))
  refine own_len X0 hx hZ e0 V_e (g := (mkF m 2 #[.val (.ref a), .val (.ref x), .val (.ref ed), .val (.int (1 : Int32))] [(.ref ed), (.int (1 : Int32))])) rfl rfl (hb hby d7_2) (N := (10 : Int32)) rfl ?_
  show OwnWk _ _ _ _ (s₁.setTop (mkF m 3 #[.val (.ref a), .val (.ref x), .val (.ref ed), .val (.int (1 : Int32))] [(.int (10 : Int32)), (.int (1 : Int32))]))
  refine own_go (fun tgt kst => XS.icmpYes X0.here hx rfl (pc0 := 3) (pc' := 11) rfl (hb hby d7_3) rfl (feq (by decide : ¬ ((1 : Int32) = (10 : Int32)))).2 (by decide) (by decide) kst) ?_
  show OwnWk _ _ _ _ (s₁.setTop (mkF m 11 #[.val (.ref a), .val (.ref x), .val (.ref ed), .val (.int (1 : Int32))] []))
  refine own_go (fun tgt kst => XS.aloadN X0.here hx rfl (hb hby d7_11) rfl rfl  kst) ?_
  show OwnWk _ _ _ _ (s₁.setTop (mkF m 12 #[.val (.ref a), .val (.ref x), .val (.ref ed), .val (.int (1 : Int32))] [(.ref ed)]))
  refine own_go (fun tgt kst => XS.iloadN X0.here hx rfl (hb hby d7_12) rfl  kst) ?_
  show OwnWk _ _ _ _ (s₁.setTop (mkF m 13 #[.val (.ref a), .val (.ref x), .val (.ref ed), .val (.int (1 : Int32))] [(.int (1 : Int32)), (.ref ed)]))
  refine own_go (fun tgt kst => XS.aloadN X0.here hx rfl (hb hby d7_13) rfl rfl  kst) ?_
  show OwnWk _ _ _ _ (s₁.setTop (mkF m 14 #[.val (.ref a), .val (.ref x), .val (.ref ed), .val (.int (1 : Int32))] [(.ref x), (.int (1 : Int32)), (.ref ed)]))
  refine own_stR X0 hx hZ e0 V_e O_e I_x (g := (mkF m 14 #[.val (.ref a), .val (.ref x), .val (.ref ed), .val (.int (1 : Int32))] [(.ref x), (.int (1 : Int32)), (.ref ed)])) rfl rfl (hb hby d7_14) (by decide) (Nat.le_of_ble_eq_true rfl) (fun T1 h1 X1 e1 W1 V1 => ?_)
  have N1 := Fr.snoc X1 N0 g_e
  have F2 := Old.wr O0 W1 g_e
  have F3 := Exa.wr W1 E_a
  have F4 := Fld.other W1 F_m (Or.inl ne_ae)
  have F5 := Fld.other W1 F_e (Or.inl ne_ae)
  have F6 := Fld.other W1 F_s (Or.inl ne_ae)
  have F7 := Ins.wr W1 I_x
  have F8 := OOv.wr W1 O_e
  have Z9 := Nat.le_trans Z0 (Keep.of_wr W1).1
  have K10 := Keep.wr K0 W1 (Or.inl (List.mem_of_getElem? (i := 1) rfl))
  show OwnWk _ _ _ _ (T1.setTop (mkF m 15 #[.val (.ref a), .val (.ref x), .val (.ref ed), .val (.int (1 : Int32))] []))
  refine own_go (fun tgt kst => XS.aloadN X1.here hx rfl (hb hby d7_15) rfl rfl  kst) ?_
  show OwnWk _ _ _ _ (T1.setTop (mkF m 16 #[.val (.ref a), .val (.ref x), .val (.ref ed), .val (.int (1 : Int32))] [(.ref a)]))
  refine own_go (fun tgt kst => XS.iloadN X1.here hx rfl (hb hby d7_16) rfl  kst) ?_
  show OwnWk _ _ _ _ (T1.setTop (mkF m 17 #[.val (.ref a), .val (.ref x), .val (.ref ed), .val (.int (1 : Int32))] [(.int (1 : Int32)), (.ref a)]))
  refine own_go (fun tgt kst => XS.iconst X1.here hx rfl (hb hby d7_17) kst) ?_
  show OwnWk _ _ _ _ (T1.setTop (mkF m 18 #[.val (.ref a), .val (.ref x), .val (.ref ed), .val (.int (1 : Int32))] [(.int (1 : Int32)), (.int (1 : Int32)), (.ref a)]))
  refine own_go (fun tgt kst => XS.iadd X1.here hx rfl (hb hby d7_18) rfl kst) ?_
  show OwnWk _ _ _ _ (T1.setTop (mkF m 19 #[.val (.ref a), .val (.ref x), .val (.ref ed), .val (.int (1 : Int32))] [(.int (2 : Int32)), (.ref a)]))
  obtain ⟨T11, h11, X11, e11, W11, st11⟩ := putF X1 hx hZ hown (host := "") (Or.inl (hw _ (List.mem_of_getElem? (i := 42) rfl))) Via.refl e1 F6 F3 (Or.inl (hw _ (List.mem_of_getElem? (i := 43) rfl))) (hw _ (List.mem_of_getElem? (i := 3) rfl)) (v := (.int (2 : Int32))) (ty := .int) (by decide) rfl rfl (g := (mkF m 19 #[.val (.ref a), .val (.ref x), .val (.ref ed), .val (.int (1 : Int32))] [(.int (2 : Int32)), (.ref a)])) rfl rfl (hb hby d7_19)
  refine own_go st11 ?_
  have N11 := Fr.snoc X11 N1 g_a
  have Fw11 := Fld.same W11 F6
  have F12 := Old.wr F2 W11 g_a
  have F13 := Exa.wr W11 F3
  have F14 := Fld.other W11 F4 (Or.inr (slot_ne (Or.inl (hw _ (List.mem_of_getElem? (i := 24) rfl))) (Or.inl (hw _ (List.mem_of_getElem? (i := 43) rfl))) (by decide) (t := .int) (t' := .int) (by decide) (by decide)))
  have F15 := Fld.other W11 F5 (Or.inr (slot_ne (Or.inl (hw _ (List.mem_of_getElem? (i := 27) rfl))) (Or.inl (hw _ (List.mem_of_getElem? (i := 43) rfl))) (by decide) (t := (.array (.object "java/lang/Object"))) (t' := .int) (by decide) (by decide)))
  have F16 := Ins.wr W11 F7
  have F17 := OOv.wr W11 F8
  have F18 := OAr.other V1 W11 (Ne.symm ne_ae)
  have Z19 := Nat.le_trans Z9 (Keep.of_wr W11).1
  have K20 := Keep.wr K10 W11 (Or.inl (List.mem_of_getElem? (i := 0) rfl))
  show OwnWk _ _ _ _ (T11.setTop (mkF m 22 #[.val (.ref a), .val (.ref x), .val (.ref ed), .val (.int (1 : Int32))] []))
  exact own_retV X11 hx hlk hret (hb hby d7_22) (by decide) (by decide) (by rw [e11]; exact ⟨rfl, N11, K20, F14, F15, Fw11, F18, F17⟩)
theorem ef_adB1 (m : MethodId) (x0 : Addr) (x1 : Addr) : entryFrame m #[(.ref x0), (.ref x1)] 2 = mkF m 0 #[.val (.ref x0), .val (.ref x1)] [] := by first | (simp [entryFrame, mkF, argsToLocals, Value.category]; done) | rfl
def Q_adB1 (Z : State) (dce cac : Addr) (ia : Nat → Addr) (a x ed : Addr) (y0 : Addr)  (h0 : Heap) (n0 : Nat) (v : Option Value) (h : Heap) (L : List Loc) : Prop := v = some (.int 1) ∧ Fr n0 L ∧ Keep h0 h [a, ed] ∧ Fld Z h a "java/util/AbstractList" "modCount" "I" (.int (2 : Int32)) ∧ Fld Z h a "java/util/ArrayList" "elementData" "[Ljava/lang/Object;" (.ref ed) ∧ Fld Z h a "java/util/ArrayList" "size" "I" (.int (2 : Int32)) ∧ OAr Z h ed (.object "java/lang/Object") [(.ref y0), (.ref x), .null, .null, .null, .null, .null, .null, .null, .null] ∧ OOv Z h ed "java/lang/Object"
set_option maxRecDepth 65536 in
set_option maxHeartbeats 40000000 in
theorem adB1 (l : Launch) (Z : State) (a0 : Array Value) (hw : ∀ d ∈ tables_1, d.before a0 Z = true) (dce cac : Addr) (ia : Nat → Addr) (a x ed : Addr) (y0 : Addr)  (h0 : Heap) (n0 : Nat) (Z0 : n0 ≤ h0.size) (O0 : Old Z n0 h0) (S_d : Sta Z Z.heap "java/util/ArrayList" "DEFAULTCAPACITY_EMPTY_ELEMENTDATA" "[Ljava/lang/Object;" (.ref dce)) (V_d : OAr Z Z.heap dce (.object "java/lang/Object") []) (S_h : Sta Z Z.heap "java/lang/Integer$IntegerCache" "high" "I" (.int (127 : Int32))) (S_c : Sta Z Z.heap "java/lang/Integer$IntegerCache" "cache" "[Ljava/lang/Integer;" (.ref cac)) (hL : ∀ k < 4, OEl Z Z.heap cac (.object "java/lang/Integer") (128 + k) (.ref (ia k))) (hE : ∀ k < 4, Exa Z Z.heap (ia k) "java/lang/Integer") (hV : ∀ k < 4, Fld Z Z.heap (ia k) "java/lang/Integer" "value" "I" (.int (Int32.ofNat k))) (I_x : Ins Z h0 x "java/lang/Object" true) (E_a : Exa Z h0 a "java/util/ArrayList") (g_a : n0 ≤ a) (F_m : Fld Z h0 a "java/util/AbstractList" "modCount" "I" (.int (1 : Int32))) (F_e : Fld Z h0 a "java/util/ArrayList" "elementData" "[Ljava/lang/Object;" (.ref ed)) (F_s : Fld Z h0 a "java/util/ArrayList" "size" "I" (.int (1 : Int32))) (g_e : n0 ≤ ed) (ne_ae : a ≠ ed) (V_e : OAr Z h0 ed (.object "java/lang/Object") [(.ref y0), .null, .null, .null, .null, .null, .null, .null, .null, .null]) (O_e : OOv Z h0 ed "java/lang/Object") :
    OwnMet l (⟨"java/util/ArrayList", "add", "(Ljava/lang/Object;)Z"⟩ : MethodName) jdk_38_method_25_code 2 (some .boolean) [] ({ frames := 1, cells := 0, slots := 0, locals := 15 } : Room) Z #[(.ref a), (.ref x)] h0 (Q_adB1 Z dce cac ia a x ed y0 h0 n0) := by
  refine own_met pn_6 (fun p e s m below meth c s₁ hx hby hml hown hnm hret hlk hZ X0 e0 => ?_)
  have hown : s.vm.findClass "java/util/ArrayList" = some m.cls := hown
  have N0 := Fr.nil n0
  have K0 := Keep.refl h0 [a, ed]
  rw [ef_adB1]
  show OwnWk _ _ _ _ (s₁.setTop (mkF m 0 #[.val (.ref a), .val (.ref x)] []))
  refine own_go (fun tgt kst => XS.aloadN X0.here hx rfl (hb hby d6_0) rfl rfl  kst) ?_
  show OwnWk _ _ _ _ (s₁.setTop (mkF m 1 #[.val (.ref a), .val (.ref x)] [(.ref a)]))
  refine own_go (fun tgt kst => XS.dup X0.here hx rfl (hb hby d6_1) rfl rfl kst) ?_
  show OwnWk _ _ _ _ (s₁.setTop (mkF m 2 #[.val (.ref a), .val (.ref x)] [(.ref a), (.ref a)]))
  obtain ⟨T1, X1, e1, st1⟩ := getF X0 hx hZ hown (host := "") (Or.inl (hw _ (List.mem_of_getElem? (i := 40) rfl))) (Via.of (hw _ (List.mem_of_getElem? (i := 41) rfl))) e0 F_m (g := (mkF m 2 #[.val (.ref a), .val (.ref x)] [(.ref a), (.ref a)])) rfl rfl (hb hby d6_2)
  refine own_go st1 ?_
  show OwnWk _ _ _ _ (T1.setTop (mkF m 5 #[.val (.ref a), .val (.ref x)] [(.int (1 : Int32)), (.ref a)]))
  refine own_go (fun tgt kst => XS.iconst X1.here hx rfl (hb hby d6_5) kst) ?_
  show OwnWk _ _ _ _ (T1.setTop (mkF m 6 #[.val (.ref a), .val (.ref x)] [(.int (1 : Int32)), (.int (1 : Int32)), (.ref a)]))
  refine own_go (fun tgt kst => XS.iadd X1.here hx rfl (hb hby d6_6) rfl kst) ?_
  show OwnWk _ _ _ _ (T1.setTop (mkF m 7 #[.val (.ref a), .val (.ref x)] [(.int (2 : Int32)), (.ref a)]))
  obtain ⟨T2, h2, X2, e2, W2, st2⟩ := putF X1 hx hZ hown (host := "") (Or.inl (hw _ (List.mem_of_getElem? (i := 40) rfl))) (Via.of (hw _ (List.mem_of_getElem? (i := 41) rfl))) e1 F_m E_a (Or.inl (hw _ (List.mem_of_getElem? (i := 24) rfl))) (hw _ (List.mem_of_getElem? (i := 3) rfl)) (v := (.int (2 : Int32))) (ty := .int) (by decide) rfl rfl (g := (mkF m 7 #[.val (.ref a), .val (.ref x)] [(.int (2 : Int32)), (.ref a)])) rfl rfl (hb hby d6_7)
  refine own_go st2 ?_
  have N2 := Fr.snoc X2 N0 g_a
  have Fw2 := Fld.same W2 F_m
  have F3 := Old.wr O0 W2 g_a
  have F4 := Exa.wr W2 E_a
  have F5 := Fld.other W2 F_e (Or.inr (slot_ne (Or.inl (hw _ (List.mem_of_getElem? (i := 27) rfl))) (Or.inl (hw _ (List.mem_of_getElem? (i := 24) rfl))) (by decide) (t := (.array (.object "java/lang/Object"))) (t' := .int) (by decide) (by decide)))
  have F6 := Fld.other W2 F_s (Or.inr (slot_ne (Or.inl (hw _ (List.mem_of_getElem? (i := 43) rfl))) (Or.inl (hw _ (List.mem_of_getElem? (i := 24) rfl))) (by decide) (t := .int) (t' := .int) (by decide) (by decide)))
  have F7 := Ins.wr W2 I_x
  have F8 := OAr.other V_e W2 (Ne.symm ne_ae)
  have F9 := OOv.wr W2 O_e
  have Z10 := Nat.le_trans Z0 (Keep.of_wr W2).1
  have K11 := Keep.wr K0 W2 (Or.inl (List.mem_of_getElem? (i := 0) rfl))
  show OwnWk _ _ _ _ (T2.setTop (mkF m 10 #[.val (.ref a), .val (.ref x)] []))
  refine own_go (fun tgt kst => XS.aloadN X2.here hx rfl (hb hby d6_10) rfl rfl  kst) ?_
  show OwnWk _ _ _ _ (T2.setTop (mkF m 11 #[.val (.ref a), .val (.ref x)] [(.ref a)]))
  refine own_go (fun tgt kst => XS.aloadN X2.here hx rfl (hb hby d6_11) rfl rfl  kst) ?_
  show OwnWk _ _ _ _ (T2.setTop (mkF m 12 #[.val (.ref a), .val (.ref x)] [(.ref x), (.ref a)]))
  refine own_go (fun tgt kst => XS.aloadN X2.here hx rfl (hb hby d6_12) rfl rfl  kst) ?_
  show OwnWk _ _ _ _ (T2.setTop (mkF m 13 #[.val (.ref a), .val (.ref x)] [(.ref a), (.ref x), (.ref a)]))
  obtain ⟨T12, X12, e12, st12⟩ := getF X2 hx hZ hown (host := "") (Or.inl (hw _ (List.mem_of_getElem? (i := 26) rfl))) Via.refl e2 F5 (g := (mkF m 13 #[.val (.ref a), .val (.ref x)] [(.ref a), (.ref x), (.ref a)])) rfl rfl (hb hby d6_13)
  refine own_go st12 ?_
  show OwnWk _ _ _ _ (T12.setTop (mkF m 16 #[.val (.ref a), .val (.ref x)] [(.ref ed), (.ref x), (.ref a)]))
  refine own_go (fun tgt kst => XS.aloadN X12.here hx rfl (hb hby d6_16) rfl rfl  kst) ?_
  show OwnWk _ _ _ _ (T12.setTop (mkF m 17 #[.val (.ref a), .val (.ref x)] [(.ref a), (.ref ed), (.ref x), (.ref a)]))
  obtain ⟨T13, X13, e13, st13⟩ := getF X12 hx hZ hown (host := "") (Or.inl (hw _ (List.mem_of_getElem? (i := 42) rfl))) Via.refl e12 F6 (g := (mkF m 17 #[.val (.ref a), .val (.ref x)] [(.ref a), (.ref ed), (.ref x), (.ref a)])) rfl rfl (hb hby d6_17)
  refine own_go st13 ?_
  show OwnWk _ _ _ _ (T13.setTop (mkF m 20 #[.val (.ref a), .val (.ref x)] [(.int (1 : Int32)), (.ref ed), (.ref x), (.ref a)]))
  have lt14 : a < h2.size := F4.lt
  have lt15 : ed < h2.size := F8.lt
  refine own_callP X13 hx hZ (y := (⟨"java/util/ArrayList", "add", "(Ljava/lang/Object;[Ljava/lang/Object;I)V"⟩ : MethodName)) hown (hw _ (List.mem_of_getElem? (i := 44) rfl)) (hw _ (List.mem_of_getElem? (i := 45) rfl)) (hw _ (List.mem_of_getElem? (i := 47) rfl)) (hw _ (List.mem_of_getElem? (i := 46) rfl)) (hw _ (List.mem_of_getElem? (i := 4) rfl)) (hw _ (List.mem_of_getElem? (i := 48) rfl)) (by decide) (a := a) F4 (argsL := [(.ref x), (.ref ed), (.int (1 : Int32))]) (rest := []) (rm := ({ frames := 0, cells := 0, slots := 0, locals := 0 } : Room)) (h := h2) (adA1 l Z a0 hw dce cac ia a x ed y0 h2 n0 Z10 F3 S_d V_d S_h S_c hL hE hV F7 F4 g_a Fw2 F5 F6 g_e ne_ae F8 F9) e13 (W := 0) (by decide) (by decide) (by decide) (by decide) (g := (mkF m 20 #[.val (.ref a), .val (.ref x)] [(.int (1 : Int32)), (.ref ed), (.ref x), (.ref a)])) rfl (by rw [hml]; rfl) (lenOf pd_4 rfl) rfl (by show 2 * 0 + _ ≤ _; exact Nat.le_of_eq rfl) (hb hby d6_20) (fun v16 T16 h16 L16 X16 e16 hQ16 => ?_)
  obtain ⟨rfl, Nq16, Kq16, Fm16, Fe16, Fs16, Vq16, Oq16⟩ := hQ16
  have N16 := Fr.app N2 Nq16
  have F17 := Old.keep F3 Kq16 (allS g_a (allS g_e all0))
  have F18 := Exa.keep F4 Kq16
  have F19 := own_ins_keep F7 Kq16
  have F20 := OOv.keep F9 Kq16
  have Z21 := Nat.le_trans Z10 Kq16.1
  have K22 := Keep.trans K11 Kq16 (allS (Or.inl (List.mem_of_getElem? (i := 0) rfl)) (allS (Or.inl (List.mem_of_getElem? (i := 1) rfl)) all0))
  show OwnWk _ _ _ _ (T16.setTop (mkF m 23 #[.val (.ref a), .val (.ref x)] []))
  refine own_go (fun tgt kst => XS.iconst X16.here hx rfl (hb hby d6_23) kst) ?_
  show OwnWk _ _ _ _ (T16.setTop (mkF m 24 #[.val (.ref a), .val (.ref x)] [(.int (1 : Int32))]))
  exact own_retZ X16 hx hlk hret (by simp) (z' := (1 : Int32)) rfl (hb hby d6_24) (by decide) (by decide) (by rw [e16]; exact ⟨rfl, N16, K22, Fm16, Fe16, Fs16, Vq16, Oq16⟩)
theorem ef_adA2 (m : MethodId) (x0 : Addr) (x1 : Addr) (x2 : Addr) (x3 : Int32) : entryFrame m #[(.ref x0), (.ref x1), (.ref x2), (.int x3)] 4 = mkF m 0 #[.val (.ref x0), .val (.ref x1), .val (.ref x2), .val (.int x3)] [] := by first | (simp [entryFrame, mkF, argsToLocals, Value.category]; done) | rfl
def Q_adA2 (Z : State) (dce cac : Addr) (ia : Nat → Addr) (a x ed : Addr) (y0 y1 : Addr)  (h0 : Heap) (n0 : Nat) (v : Option Value) (h : Heap) (L : List Loc) : Prop := v = none ∧ Fr n0 L ∧ Keep h0 h [a, ed] ∧ Fld Z h a "java/util/AbstractList" "modCount" "I" (.int (3 : Int32)) ∧ Fld Z h a "java/util/ArrayList" "elementData" "[Ljava/lang/Object;" (.ref ed) ∧ Fld Z h a "java/util/ArrayList" "size" "I" (.int (3 : Int32)) ∧ OAr Z h ed (.object "java/lang/Object") [(.ref y0), (.ref y1), (.ref x), .null, .null, .null, .null, .null, .null, .null] ∧ OOv Z h ed "java/lang/Object"
set_option maxRecDepth 65536 in
set_option maxHeartbeats 40000000 in
theorem adA2 (l : Launch) (Z : State) (a0 : Array Value) (hw : ∀ d ∈ tables_1, d.before a0 Z = true) (dce cac : Addr) (ia : Nat → Addr) (a x ed : Addr) (y0 y1 : Addr)  (h0 : Heap) (n0 : Nat) (Z0 : n0 ≤ h0.size) (O0 : Old Z n0 h0) (S_d : Sta Z Z.heap "java/util/ArrayList" "DEFAULTCAPACITY_EMPTY_ELEMENTDATA" "[Ljava/lang/Object;" (.ref dce)) (V_d : OAr Z Z.heap dce (.object "java/lang/Object") []) (S_h : Sta Z Z.heap "java/lang/Integer$IntegerCache" "high" "I" (.int (127 : Int32))) (S_c : Sta Z Z.heap "java/lang/Integer$IntegerCache" "cache" "[Ljava/lang/Integer;" (.ref cac)) (hL : ∀ k < 4, OEl Z Z.heap cac (.object "java/lang/Integer") (128 + k) (.ref (ia k))) (hE : ∀ k < 4, Exa Z Z.heap (ia k) "java/lang/Integer") (hV : ∀ k < 4, Fld Z Z.heap (ia k) "java/lang/Integer" "value" "I" (.int (Int32.ofNat k))) (I_x : Ins Z h0 x "java/lang/Object" true) (E_a : Exa Z h0 a "java/util/ArrayList") (g_a : n0 ≤ a) (F_m : Fld Z h0 a "java/util/AbstractList" "modCount" "I" (.int (3 : Int32))) (F_e : Fld Z h0 a "java/util/ArrayList" "elementData" "[Ljava/lang/Object;" (.ref ed)) (F_s : Fld Z h0 a "java/util/ArrayList" "size" "I" (.int (2 : Int32))) (g_e : n0 ≤ ed) (ne_ae : a ≠ ed) (V_e : OAr Z h0 ed (.object "java/lang/Object") [(.ref y0), (.ref y1), .null, .null, .null, .null, .null, .null, .null, .null]) (O_e : OOv Z h0 ed "java/lang/Object") :
    OwnMet l (⟨"java/util/ArrayList", "add", "(Ljava/lang/Object;[Ljava/lang/Object;I)V"⟩ : MethodName) jdk_38_method_24_code 4 none [] ({ frames := 0, cells := 0, slots := 0, locals := 0 } : Room) Z #[(.ref a), (.ref x), (.ref ed), (.int (2 : Int32))] h0 (Q_adA2 Z dce cac ia a x ed y0 y1 h0 n0) := by
  refine own_met pn_7 (fun p e s m below meth c s₁ hx hby hml hown hnm hret hlk hZ X0 e0 => ?_)
  have hown : s.vm.findClass "java/util/ArrayList" = some m.cls := hown
  have N0 := Fr.nil n0
  have K0 := Keep.refl h0 [a, ed]
  rw [ef_adA2]
  show OwnWk _ _ _ _ (s₁.setTop (mkF m 0 #[.val (.ref a), .val (.ref x), .val (.ref ed), .val (.int (2 : Int32))] []))
  refine own_go (fun tgt kst => XS.iloadN X0.here hx rfl (hb hby d7_0) rfl  kst) ?_
  show OwnWk _ _ _ _ (s₁.setTop (mkF m 1 #[.val (.ref a), .val (.ref x), .val (.ref ed), .val (.int (2 : Int32))] [(.int (2 : Int32))]))
  refine own_go (fun tgt kst => XS.aloadN X0.here hx rfl (hb hby d7_1) rfl rfl  kst) ?_
  show OwnWk _ _ _ _ (s₁.setTop (mkF m 2 #[.val (.ref a), .val (.ref x), .val (.ref ed), .val (.int (2 : Int32))] [(.ref ed), (.int (2 : Int32))]))
  refine own_len X0 hx hZ e0 V_e (g := (mkF m 2 #[.val (.ref a), .val (.ref x), .val (.ref ed), .val (.int (2 : Int32))] [(.ref ed), (.int (2 : Int32))])) rfl rfl (hb hby d7_2) (N := (10 : Int32)) rfl ?_
  show OwnWk _ _ _ _ (s₁.setTop (mkF m 3 #[.val (.ref a), .val (.ref x), .val (.ref ed), .val (.int (2 : Int32))] [(.int (10 : Int32)), (.int (2 : Int32))]))
  refine own_go (fun tgt kst => XS.icmpYes X0.here hx rfl (pc0 := 3) (pc' := 11) rfl (hb hby d7_3) rfl (feq (by decide : ¬ ((2 : Int32) = (10 : Int32)))).2 (by decide) (by decide) kst) ?_
  show OwnWk _ _ _ _ (s₁.setTop (mkF m 11 #[.val (.ref a), .val (.ref x), .val (.ref ed), .val (.int (2 : Int32))] []))
  refine own_go (fun tgt kst => XS.aloadN X0.here hx rfl (hb hby d7_11) rfl rfl  kst) ?_
  show OwnWk _ _ _ _ (s₁.setTop (mkF m 12 #[.val (.ref a), .val (.ref x), .val (.ref ed), .val (.int (2 : Int32))] [(.ref ed)]))
  refine own_go (fun tgt kst => XS.iloadN X0.here hx rfl (hb hby d7_12) rfl  kst) ?_
  show OwnWk _ _ _ _ (s₁.setTop (mkF m 13 #[.val (.ref a), .val (.ref x), .val (.ref ed), .val (.int (2 : Int32))] [(.int (2 : Int32)), (.ref ed)]))
  refine own_go (fun tgt kst => XS.aloadN X0.here hx rfl (hb hby d7_13) rfl rfl  kst) ?_
  show OwnWk _ _ _ _ (s₁.setTop (mkF m 14 #[.val (.ref a), .val (.ref x), .val (.ref ed), .val (.int (2 : Int32))] [(.ref x), (.int (2 : Int32)), (.ref ed)]))
  refine own_stR X0 hx hZ e0 V_e O_e I_x (g := (mkF m 14 #[.val (.ref a), .val (.ref x), .val (.ref ed), .val (.int (2 : Int32))] [(.ref x), (.int (2 : Int32)), (.ref ed)])) rfl rfl (hb hby d7_14) (by decide) (Nat.le_of_ble_eq_true rfl) (fun T1 h1 X1 e1 W1 V1 => ?_)
  have N1 := Fr.snoc X1 N0 g_e
  have F2 := Old.wr O0 W1 g_e
  have F3 := Exa.wr W1 E_a
  have F4 := Fld.other W1 F_m (Or.inl ne_ae)
  have F5 := Fld.other W1 F_e (Or.inl ne_ae)
  have F6 := Fld.other W1 F_s (Or.inl ne_ae)
  have F7 := Ins.wr W1 I_x
  have F8 := OOv.wr W1 O_e
  have Z9 := Nat.le_trans Z0 (Keep.of_wr W1).1
  have K10 := Keep.wr K0 W1 (Or.inl (List.mem_of_getElem? (i := 1) rfl))
  show OwnWk _ _ _ _ (T1.setTop (mkF m 15 #[.val (.ref a), .val (.ref x), .val (.ref ed), .val (.int (2 : Int32))] []))
  refine own_go (fun tgt kst => XS.aloadN X1.here hx rfl (hb hby d7_15) rfl rfl  kst) ?_
  show OwnWk _ _ _ _ (T1.setTop (mkF m 16 #[.val (.ref a), .val (.ref x), .val (.ref ed), .val (.int (2 : Int32))] [(.ref a)]))
  refine own_go (fun tgt kst => XS.iloadN X1.here hx rfl (hb hby d7_16) rfl  kst) ?_
  show OwnWk _ _ _ _ (T1.setTop (mkF m 17 #[.val (.ref a), .val (.ref x), .val (.ref ed), .val (.int (2 : Int32))] [(.int (2 : Int32)), (.ref a)]))
  refine own_go (fun tgt kst => XS.iconst X1.here hx rfl (hb hby d7_17) kst) ?_
  show OwnWk _ _ _ _ (T1.setTop (mkF m 18 #[.val (.ref a), .val (.ref x), .val (.ref ed), .val (.int (2 : Int32))] [(.int (1 : Int32)), (.int (2 : Int32)), (.ref a)]))
  refine own_go (fun tgt kst => XS.iadd X1.here hx rfl (hb hby d7_18) rfl kst) ?_
  show OwnWk _ _ _ _ (T1.setTop (mkF m 19 #[.val (.ref a), .val (.ref x), .val (.ref ed), .val (.int (2 : Int32))] [(.int (3 : Int32)), (.ref a)]))
  obtain ⟨T11, h11, X11, e11, W11, st11⟩ := putF X1 hx hZ hown (host := "") (Or.inl (hw _ (List.mem_of_getElem? (i := 42) rfl))) Via.refl e1 F6 F3 (Or.inl (hw _ (List.mem_of_getElem? (i := 43) rfl))) (hw _ (List.mem_of_getElem? (i := 3) rfl)) (v := (.int (3 : Int32))) (ty := .int) (by decide) rfl rfl (g := (mkF m 19 #[.val (.ref a), .val (.ref x), .val (.ref ed), .val (.int (2 : Int32))] [(.int (3 : Int32)), (.ref a)])) rfl rfl (hb hby d7_19)
  refine own_go st11 ?_
  have N11 := Fr.snoc X11 N1 g_a
  have Fw11 := Fld.same W11 F6
  have F12 := Old.wr F2 W11 g_a
  have F13 := Exa.wr W11 F3
  have F14 := Fld.other W11 F4 (Or.inr (slot_ne (Or.inl (hw _ (List.mem_of_getElem? (i := 24) rfl))) (Or.inl (hw _ (List.mem_of_getElem? (i := 43) rfl))) (by decide) (t := .int) (t' := .int) (by decide) (by decide)))
  have F15 := Fld.other W11 F5 (Or.inr (slot_ne (Or.inl (hw _ (List.mem_of_getElem? (i := 27) rfl))) (Or.inl (hw _ (List.mem_of_getElem? (i := 43) rfl))) (by decide) (t := (.array (.object "java/lang/Object"))) (t' := .int) (by decide) (by decide)))
  have F16 := Ins.wr W11 F7
  have F17 := OOv.wr W11 F8
  have F18 := OAr.other V1 W11 (Ne.symm ne_ae)
  have Z19 := Nat.le_trans Z9 (Keep.of_wr W11).1
  have K20 := Keep.wr K10 W11 (Or.inl (List.mem_of_getElem? (i := 0) rfl))
  show OwnWk _ _ _ _ (T11.setTop (mkF m 22 #[.val (.ref a), .val (.ref x), .val (.ref ed), .val (.int (2 : Int32))] []))
  exact own_retV X11 hx hlk hret (hb hby d7_22) (by decide) (by decide) (by rw [e11]; exact ⟨rfl, N11, K20, F14, F15, Fw11, F18, F17⟩)
theorem ef_adB2 (m : MethodId) (x0 : Addr) (x1 : Addr) : entryFrame m #[(.ref x0), (.ref x1)] 2 = mkF m 0 #[.val (.ref x0), .val (.ref x1)] [] := by first | (simp [entryFrame, mkF, argsToLocals, Value.category]; done) | rfl
def Q_adB2 (Z : State) (dce cac : Addr) (ia : Nat → Addr) (a x ed : Addr) (y0 y1 : Addr)  (h0 : Heap) (n0 : Nat) (v : Option Value) (h : Heap) (L : List Loc) : Prop := v = some (.int 1) ∧ Fr n0 L ∧ Keep h0 h [a, ed] ∧ Fld Z h a "java/util/AbstractList" "modCount" "I" (.int (3 : Int32)) ∧ Fld Z h a "java/util/ArrayList" "elementData" "[Ljava/lang/Object;" (.ref ed) ∧ Fld Z h a "java/util/ArrayList" "size" "I" (.int (3 : Int32)) ∧ OAr Z h ed (.object "java/lang/Object") [(.ref y0), (.ref y1), (.ref x), .null, .null, .null, .null, .null, .null, .null] ∧ OOv Z h ed "java/lang/Object"
set_option maxRecDepth 65536 in
set_option maxHeartbeats 40000000 in
theorem adB2 (l : Launch) (Z : State) (a0 : Array Value) (hw : ∀ d ∈ tables_1, d.before a0 Z = true) (dce cac : Addr) (ia : Nat → Addr) (a x ed : Addr) (y0 y1 : Addr)  (h0 : Heap) (n0 : Nat) (Z0 : n0 ≤ h0.size) (O0 : Old Z n0 h0) (S_d : Sta Z Z.heap "java/util/ArrayList" "DEFAULTCAPACITY_EMPTY_ELEMENTDATA" "[Ljava/lang/Object;" (.ref dce)) (V_d : OAr Z Z.heap dce (.object "java/lang/Object") []) (S_h : Sta Z Z.heap "java/lang/Integer$IntegerCache" "high" "I" (.int (127 : Int32))) (S_c : Sta Z Z.heap "java/lang/Integer$IntegerCache" "cache" "[Ljava/lang/Integer;" (.ref cac)) (hL : ∀ k < 4, OEl Z Z.heap cac (.object "java/lang/Integer") (128 + k) (.ref (ia k))) (hE : ∀ k < 4, Exa Z Z.heap (ia k) "java/lang/Integer") (hV : ∀ k < 4, Fld Z Z.heap (ia k) "java/lang/Integer" "value" "I" (.int (Int32.ofNat k))) (I_x : Ins Z h0 x "java/lang/Object" true) (E_a : Exa Z h0 a "java/util/ArrayList") (g_a : n0 ≤ a) (F_m : Fld Z h0 a "java/util/AbstractList" "modCount" "I" (.int (2 : Int32))) (F_e : Fld Z h0 a "java/util/ArrayList" "elementData" "[Ljava/lang/Object;" (.ref ed)) (F_s : Fld Z h0 a "java/util/ArrayList" "size" "I" (.int (2 : Int32))) (g_e : n0 ≤ ed) (ne_ae : a ≠ ed) (V_e : OAr Z h0 ed (.object "java/lang/Object") [(.ref y0), (.ref y1), .null, .null, .null, .null, .null, .null, .null, .null]) (O_e : OOv Z h0 ed "java/lang/Object") :
    OwnMet l (⟨"java/util/ArrayList", "add", "(Ljava/lang/Object;)Z"⟩ : MethodName) jdk_38_method_25_code 2 (some .boolean) [] ({ frames := 1, cells := 0, slots := 0, locals := 15 } : Room) Z #[(.ref a), (.ref x)] h0 (Q_adB2 Z dce cac ia a x ed y0 y1 h0 n0) := by
  refine own_met pn_6 (fun p e s m below meth c s₁ hx hby hml hown hnm hret hlk hZ X0 e0 => ?_)
  have hown : s.vm.findClass "java/util/ArrayList" = some m.cls := hown
  have N0 := Fr.nil n0
  have K0 := Keep.refl h0 [a, ed]
  rw [ef_adB2]
  show OwnWk _ _ _ _ (s₁.setTop (mkF m 0 #[.val (.ref a), .val (.ref x)] []))
  refine own_go (fun tgt kst => XS.aloadN X0.here hx rfl (hb hby d6_0) rfl rfl  kst) ?_
  show OwnWk _ _ _ _ (s₁.setTop (mkF m 1 #[.val (.ref a), .val (.ref x)] [(.ref a)]))
  refine own_go (fun tgt kst => XS.dup X0.here hx rfl (hb hby d6_1) rfl rfl kst) ?_
  show OwnWk _ _ _ _ (s₁.setTop (mkF m 2 #[.val (.ref a), .val (.ref x)] [(.ref a), (.ref a)]))
  obtain ⟨T1, X1, e1, st1⟩ := getF X0 hx hZ hown (host := "") (Or.inl (hw _ (List.mem_of_getElem? (i := 40) rfl))) (Via.of (hw _ (List.mem_of_getElem? (i := 41) rfl))) e0 F_m (g := (mkF m 2 #[.val (.ref a), .val (.ref x)] [(.ref a), (.ref a)])) rfl rfl (hb hby d6_2)
  refine own_go st1 ?_
  show OwnWk _ _ _ _ (T1.setTop (mkF m 5 #[.val (.ref a), .val (.ref x)] [(.int (2 : Int32)), (.ref a)]))
  refine own_go (fun tgt kst => XS.iconst X1.here hx rfl (hb hby d6_5) kst) ?_
  show OwnWk _ _ _ _ (T1.setTop (mkF m 6 #[.val (.ref a), .val (.ref x)] [(.int (1 : Int32)), (.int (2 : Int32)), (.ref a)]))
  refine own_go (fun tgt kst => XS.iadd X1.here hx rfl (hb hby d6_6) rfl kst) ?_
  show OwnWk _ _ _ _ (T1.setTop (mkF m 7 #[.val (.ref a), .val (.ref x)] [(.int (3 : Int32)), (.ref a)]))
  obtain ⟨T2, h2, X2, e2, W2, st2⟩ := putF X1 hx hZ hown (host := "") (Or.inl (hw _ (List.mem_of_getElem? (i := 40) rfl))) (Via.of (hw _ (List.mem_of_getElem? (i := 41) rfl))) e1 F_m E_a (Or.inl (hw _ (List.mem_of_getElem? (i := 24) rfl))) (hw _ (List.mem_of_getElem? (i := 3) rfl)) (v := (.int (3 : Int32))) (ty := .int) (by decide) rfl rfl (g := (mkF m 7 #[.val (.ref a), .val (.ref x)] [(.int (3 : Int32)), (.ref a)])) rfl rfl (hb hby d6_7)
  refine own_go st2 ?_
  have N2 := Fr.snoc X2 N0 g_a
  have Fw2 := Fld.same W2 F_m
  have F3 := Old.wr O0 W2 g_a
  have F4 := Exa.wr W2 E_a
  have F5 := Fld.other W2 F_e (Or.inr (slot_ne (Or.inl (hw _ (List.mem_of_getElem? (i := 27) rfl))) (Or.inl (hw _ (List.mem_of_getElem? (i := 24) rfl))) (by decide) (t := (.array (.object "java/lang/Object"))) (t' := .int) (by decide) (by decide)))
  have F6 := Fld.other W2 F_s (Or.inr (slot_ne (Or.inl (hw _ (List.mem_of_getElem? (i := 43) rfl))) (Or.inl (hw _ (List.mem_of_getElem? (i := 24) rfl))) (by decide) (t := .int) (t' := .int) (by decide) (by decide)))
  have F7 := Ins.wr W2 I_x
  have F8 := OAr.other V_e W2 (Ne.symm ne_ae)
  have F9 := OOv.wr W2 O_e
  have Z10 := Nat.le_trans Z0 (Keep.of_wr W2).1
  have K11 := Keep.wr K0 W2 (Or.inl (List.mem_of_getElem? (i := 0) rfl))
  show OwnWk _ _ _ _ (T2.setTop (mkF m 10 #[.val (.ref a), .val (.ref x)] []))
  refine own_go (fun tgt kst => XS.aloadN X2.here hx rfl (hb hby d6_10) rfl rfl  kst) ?_
  show OwnWk _ _ _ _ (T2.setTop (mkF m 11 #[.val (.ref a), .val (.ref x)] [(.ref a)]))
  refine own_go (fun tgt kst => XS.aloadN X2.here hx rfl (hb hby d6_11) rfl rfl  kst) ?_
  show OwnWk _ _ _ _ (T2.setTop (mkF m 12 #[.val (.ref a), .val (.ref x)] [(.ref x), (.ref a)]))
  refine own_go (fun tgt kst => XS.aloadN X2.here hx rfl (hb hby d6_12) rfl rfl  kst) ?_
  show OwnWk _ _ _ _ (T2.setTop (mkF m 13 #[.val (.ref a), .val (.ref x)] [(.ref a), (.ref x), (.ref a)]))
  obtain ⟨T12, X12, e12, st12⟩ := getF X2 hx hZ hown (host := "") (Or.inl (hw _ (List.mem_of_getElem? (i := 26) rfl))) Via.refl e2 F5 (g := (mkF m 13 #[.val (.ref a), .val (.ref x)] [(.ref a), (.ref x), (.ref a)])) rfl rfl (hb hby d6_13)
  refine own_go st12 ?_
  show OwnWk _ _ _ _ (T12.setTop (mkF m 16 #[.val (.ref a), .val (.ref x)] [(.ref ed), (.ref x), (.ref a)]))
  refine own_go (fun tgt kst => XS.aloadN X12.here hx rfl (hb hby d6_16) rfl rfl  kst) ?_
  show OwnWk _ _ _ _ (T12.setTop (mkF m 17 #[.val (.ref a), .val (.ref x)] [(.ref a), (.ref ed), (.ref x), (.ref a)]))
  obtain ⟨T13, X13, e13, st13⟩ := getF X12 hx hZ hown (host := "") (Or.inl (hw _ (List.mem_of_getElem? (i := 42) rfl))) Via.refl e12 F6 (g := (mkF m 17 #[.val (.ref a), .val (.ref x)] [(.ref a), (.ref ed), (.ref x), (.ref a)])) rfl rfl (hb hby d6_17)
  refine own_go st13 ?_
  show OwnWk _ _ _ _ (T13.setTop (mkF m 20 #[.val (.ref a), .val (.ref x)] [(.int (2 : Int32)), (.ref ed), (.ref x), (.ref a)]))
  have lt14 : a < h2.size := F4.lt
  have lt15 : ed < h2.size := F8.lt
  refine own_callP X13 hx hZ (y := (⟨"java/util/ArrayList", "add", "(Ljava/lang/Object;[Ljava/lang/Object;I)V"⟩ : MethodName)) hown (hw _ (List.mem_of_getElem? (i := 44) rfl)) (hw _ (List.mem_of_getElem? (i := 45) rfl)) (hw _ (List.mem_of_getElem? (i := 47) rfl)) (hw _ (List.mem_of_getElem? (i := 46) rfl)) (hw _ (List.mem_of_getElem? (i := 4) rfl)) (hw _ (List.mem_of_getElem? (i := 48) rfl)) (by decide) (a := a) F4 (argsL := [(.ref x), (.ref ed), (.int (2 : Int32))]) (rest := []) (rm := ({ frames := 0, cells := 0, slots := 0, locals := 0 } : Room)) (h := h2) (adA2 l Z a0 hw dce cac ia a x ed y0 y1 h2 n0 Z10 F3 S_d V_d S_h S_c hL hE hV F7 F4 g_a Fw2 F5 F6 g_e ne_ae F8 F9) e13 (W := 0) (by decide) (by decide) (by decide) (by decide) (g := (mkF m 20 #[.val (.ref a), .val (.ref x)] [(.int (2 : Int32)), (.ref ed), (.ref x), (.ref a)])) rfl (by rw [hml]; rfl) (lenOf pd_4 rfl) rfl (by show 2 * 0 + _ ≤ _; exact Nat.le_of_eq rfl) (hb hby d6_20) (fun v16 T16 h16 L16 X16 e16 hQ16 => ?_)
  obtain ⟨rfl, Nq16, Kq16, Fm16, Fe16, Fs16, Vq16, Oq16⟩ := hQ16
  have N16 := Fr.app N2 Nq16
  have F17 := Old.keep F3 Kq16 (allS g_a (allS g_e all0))
  have F18 := Exa.keep F4 Kq16
  have F19 := own_ins_keep F7 Kq16
  have F20 := OOv.keep F9 Kq16
  have Z21 := Nat.le_trans Z10 Kq16.1
  have K22 := Keep.trans K11 Kq16 (allS (Or.inl (List.mem_of_getElem? (i := 0) rfl)) (allS (Or.inl (List.mem_of_getElem? (i := 1) rfl)) all0))
  show OwnWk _ _ _ _ (T16.setTop (mkF m 23 #[.val (.ref a), .val (.ref x)] []))
  refine own_go (fun tgt kst => XS.iconst X16.here hx rfl (hb hby d6_23) kst) ?_
  show OwnWk _ _ _ _ (T16.setTop (mkF m 24 #[.val (.ref a), .val (.ref x)] [(.int (1 : Int32))]))
  exact own_retZ X16 hx hlk hret (by simp) (z' := (1 : Int32)) rfl (hb hby d6_24) (by decide) (by decide) (by rw [e16]; exact ⟨rfl, N16, K22, Fm16, Fe16, Fs16, Vq16, Oq16⟩)
theorem ef_adA3 (m : MethodId) (x0 : Addr) (x1 : Addr) (x2 : Addr) (x3 : Int32) : entryFrame m #[(.ref x0), (.ref x1), (.ref x2), (.int x3)] 4 = mkF m 0 #[.val (.ref x0), .val (.ref x1), .val (.ref x2), .val (.int x3)] [] := by first | (simp [entryFrame, mkF, argsToLocals, Value.category]; done) | rfl
def Q_adA3 (Z : State) (dce cac : Addr) (ia : Nat → Addr) (a x ed : Addr) (y0 y1 y2 : Addr)  (h0 : Heap) (n0 : Nat) (v : Option Value) (h : Heap) (L : List Loc) : Prop := v = none ∧ Fr n0 L ∧ Keep h0 h [a, ed] ∧ Fld Z h a "java/util/AbstractList" "modCount" "I" (.int (4 : Int32)) ∧ Fld Z h a "java/util/ArrayList" "elementData" "[Ljava/lang/Object;" (.ref ed) ∧ Fld Z h a "java/util/ArrayList" "size" "I" (.int (4 : Int32)) ∧ OAr Z h ed (.object "java/lang/Object") [(.ref y0), (.ref y1), (.ref y2), (.ref x), .null, .null, .null, .null, .null, .null] ∧ OOv Z h ed "java/lang/Object"
set_option maxRecDepth 65536 in
set_option maxHeartbeats 40000000 in
theorem adA3 (l : Launch) (Z : State) (a0 : Array Value) (hw : ∀ d ∈ tables_1, d.before a0 Z = true) (dce cac : Addr) (ia : Nat → Addr) (a x ed : Addr) (y0 y1 y2 : Addr)  (h0 : Heap) (n0 : Nat) (Z0 : n0 ≤ h0.size) (O0 : Old Z n0 h0) (S_d : Sta Z Z.heap "java/util/ArrayList" "DEFAULTCAPACITY_EMPTY_ELEMENTDATA" "[Ljava/lang/Object;" (.ref dce)) (V_d : OAr Z Z.heap dce (.object "java/lang/Object") []) (S_h : Sta Z Z.heap "java/lang/Integer$IntegerCache" "high" "I" (.int (127 : Int32))) (S_c : Sta Z Z.heap "java/lang/Integer$IntegerCache" "cache" "[Ljava/lang/Integer;" (.ref cac)) (hL : ∀ k < 4, OEl Z Z.heap cac (.object "java/lang/Integer") (128 + k) (.ref (ia k))) (hE : ∀ k < 4, Exa Z Z.heap (ia k) "java/lang/Integer") (hV : ∀ k < 4, Fld Z Z.heap (ia k) "java/lang/Integer" "value" "I" (.int (Int32.ofNat k))) (I_x : Ins Z h0 x "java/lang/Object" true) (E_a : Exa Z h0 a "java/util/ArrayList") (g_a : n0 ≤ a) (F_m : Fld Z h0 a "java/util/AbstractList" "modCount" "I" (.int (4 : Int32))) (F_e : Fld Z h0 a "java/util/ArrayList" "elementData" "[Ljava/lang/Object;" (.ref ed)) (F_s : Fld Z h0 a "java/util/ArrayList" "size" "I" (.int (3 : Int32))) (g_e : n0 ≤ ed) (ne_ae : a ≠ ed) (V_e : OAr Z h0 ed (.object "java/lang/Object") [(.ref y0), (.ref y1), (.ref y2), .null, .null, .null, .null, .null, .null, .null]) (O_e : OOv Z h0 ed "java/lang/Object") :
    OwnMet l (⟨"java/util/ArrayList", "add", "(Ljava/lang/Object;[Ljava/lang/Object;I)V"⟩ : MethodName) jdk_38_method_24_code 4 none [] ({ frames := 0, cells := 0, slots := 0, locals := 0 } : Room) Z #[(.ref a), (.ref x), (.ref ed), (.int (3 : Int32))] h0 (Q_adA3 Z dce cac ia a x ed y0 y1 y2 h0 n0) := by
  refine own_met pn_7 (fun p e s m below meth c s₁ hx hby hml hown hnm hret hlk hZ X0 e0 => ?_)
  have hown : s.vm.findClass "java/util/ArrayList" = some m.cls := hown
  have N0 := Fr.nil n0
  have K0 := Keep.refl h0 [a, ed]
  rw [ef_adA3]
  show OwnWk _ _ _ _ (s₁.setTop (mkF m 0 #[.val (.ref a), .val (.ref x), .val (.ref ed), .val (.int (3 : Int32))] []))
  refine own_go (fun tgt kst => XS.iloadN X0.here hx rfl (hb hby d7_0) rfl  kst) ?_
  show OwnWk _ _ _ _ (s₁.setTop (mkF m 1 #[.val (.ref a), .val (.ref x), .val (.ref ed), .val (.int (3 : Int32))] [(.int (3 : Int32))]))
  refine own_go (fun tgt kst => XS.aloadN X0.here hx rfl (hb hby d7_1) rfl rfl  kst) ?_
  show OwnWk _ _ _ _ (s₁.setTop (mkF m 2 #[.val (.ref a), .val (.ref x), .val (.ref ed), .val (.int (3 : Int32))] [(.ref ed), (.int (3 : Int32))]))
  refine own_len X0 hx hZ e0 V_e (g := (mkF m 2 #[.val (.ref a), .val (.ref x), .val (.ref ed), .val (.int (3 : Int32))] [(.ref ed), (.int (3 : Int32))])) rfl rfl (hb hby d7_2) (N := (10 : Int32)) rfl ?_
  show OwnWk _ _ _ _ (s₁.setTop (mkF m 3 #[.val (.ref a), .val (.ref x), .val (.ref ed), .val (.int (3 : Int32))] [(.int (10 : Int32)), (.int (3 : Int32))]))
  refine own_go (fun tgt kst => XS.icmpYes X0.here hx rfl (pc0 := 3) (pc' := 11) rfl (hb hby d7_3) rfl (feq (by decide : ¬ ((3 : Int32) = (10 : Int32)))).2 (by decide) (by decide) kst) ?_
  show OwnWk _ _ _ _ (s₁.setTop (mkF m 11 #[.val (.ref a), .val (.ref x), .val (.ref ed), .val (.int (3 : Int32))] []))
  refine own_go (fun tgt kst => XS.aloadN X0.here hx rfl (hb hby d7_11) rfl rfl  kst) ?_
  show OwnWk _ _ _ _ (s₁.setTop (mkF m 12 #[.val (.ref a), .val (.ref x), .val (.ref ed), .val (.int (3 : Int32))] [(.ref ed)]))
  refine own_go (fun tgt kst => XS.iloadN X0.here hx rfl (hb hby d7_12) rfl  kst) ?_
  show OwnWk _ _ _ _ (s₁.setTop (mkF m 13 #[.val (.ref a), .val (.ref x), .val (.ref ed), .val (.int (3 : Int32))] [(.int (3 : Int32)), (.ref ed)]))
  refine own_go (fun tgt kst => XS.aloadN X0.here hx rfl (hb hby d7_13) rfl rfl  kst) ?_
  show OwnWk _ _ _ _ (s₁.setTop (mkF m 14 #[.val (.ref a), .val (.ref x), .val (.ref ed), .val (.int (3 : Int32))] [(.ref x), (.int (3 : Int32)), (.ref ed)]))
  refine own_stR X0 hx hZ e0 V_e O_e I_x (g := (mkF m 14 #[.val (.ref a), .val (.ref x), .val (.ref ed), .val (.int (3 : Int32))] [(.ref x), (.int (3 : Int32)), (.ref ed)])) rfl rfl (hb hby d7_14) (by decide) (Nat.le_of_ble_eq_true rfl) (fun T1 h1 X1 e1 W1 V1 => ?_)
  have N1 := Fr.snoc X1 N0 g_e
  have F2 := Old.wr O0 W1 g_e
  have F3 := Exa.wr W1 E_a
  have F4 := Fld.other W1 F_m (Or.inl ne_ae)
  have F5 := Fld.other W1 F_e (Or.inl ne_ae)
  have F6 := Fld.other W1 F_s (Or.inl ne_ae)
  have F7 := Ins.wr W1 I_x
  have F8 := OOv.wr W1 O_e
  have Z9 := Nat.le_trans Z0 (Keep.of_wr W1).1
  have K10 := Keep.wr K0 W1 (Or.inl (List.mem_of_getElem? (i := 1) rfl))
  show OwnWk _ _ _ _ (T1.setTop (mkF m 15 #[.val (.ref a), .val (.ref x), .val (.ref ed), .val (.int (3 : Int32))] []))
  refine own_go (fun tgt kst => XS.aloadN X1.here hx rfl (hb hby d7_15) rfl rfl  kst) ?_
  show OwnWk _ _ _ _ (T1.setTop (mkF m 16 #[.val (.ref a), .val (.ref x), .val (.ref ed), .val (.int (3 : Int32))] [(.ref a)]))
  refine own_go (fun tgt kst => XS.iloadN X1.here hx rfl (hb hby d7_16) rfl  kst) ?_
  show OwnWk _ _ _ _ (T1.setTop (mkF m 17 #[.val (.ref a), .val (.ref x), .val (.ref ed), .val (.int (3 : Int32))] [(.int (3 : Int32)), (.ref a)]))
  refine own_go (fun tgt kst => XS.iconst X1.here hx rfl (hb hby d7_17) kst) ?_
  show OwnWk _ _ _ _ (T1.setTop (mkF m 18 #[.val (.ref a), .val (.ref x), .val (.ref ed), .val (.int (3 : Int32))] [(.int (1 : Int32)), (.int (3 : Int32)), (.ref a)]))
  refine own_go (fun tgt kst => XS.iadd X1.here hx rfl (hb hby d7_18) rfl kst) ?_
  show OwnWk _ _ _ _ (T1.setTop (mkF m 19 #[.val (.ref a), .val (.ref x), .val (.ref ed), .val (.int (3 : Int32))] [(.int (4 : Int32)), (.ref a)]))
  obtain ⟨T11, h11, X11, e11, W11, st11⟩ := putF X1 hx hZ hown (host := "") (Or.inl (hw _ (List.mem_of_getElem? (i := 42) rfl))) Via.refl e1 F6 F3 (Or.inl (hw _ (List.mem_of_getElem? (i := 43) rfl))) (hw _ (List.mem_of_getElem? (i := 3) rfl)) (v := (.int (4 : Int32))) (ty := .int) (by decide) rfl rfl (g := (mkF m 19 #[.val (.ref a), .val (.ref x), .val (.ref ed), .val (.int (3 : Int32))] [(.int (4 : Int32)), (.ref a)])) rfl rfl (hb hby d7_19)
  refine own_go st11 ?_
  have N11 := Fr.snoc X11 N1 g_a
  have Fw11 := Fld.same W11 F6
  have F12 := Old.wr F2 W11 g_a
  have F13 := Exa.wr W11 F3
  have F14 := Fld.other W11 F4 (Or.inr (slot_ne (Or.inl (hw _ (List.mem_of_getElem? (i := 24) rfl))) (Or.inl (hw _ (List.mem_of_getElem? (i := 43) rfl))) (by decide) (t := .int) (t' := .int) (by decide) (by decide)))
  have F15 := Fld.other W11 F5 (Or.inr (slot_ne (Or.inl (hw _ (List.mem_of_getElem? (i := 27) rfl))) (Or.inl (hw _ (List.mem_of_getElem? (i := 43) rfl))) (by decide) (t := (.array (.object "java/lang/Object"))) (t' := .int) (by decide) (by decide)))
  have F16 := Ins.wr W11 F7
  have F17 := OOv.wr W11 F8
  have F18 := OAr.other V1 W11 (Ne.symm ne_ae)
  have Z19 := Nat.le_trans Z9 (Keep.of_wr W11).1
  have K20 := Keep.wr K10 W11 (Or.inl (List.mem_of_getElem? (i := 0) rfl))
  show OwnWk _ _ _ _ (T11.setTop (mkF m 22 #[.val (.ref a), .val (.ref x), .val (.ref ed), .val (.int (3 : Int32))] []))
  exact own_retV X11 hx hlk hret (hb hby d7_22) (by decide) (by decide) (by rw [e11]; exact ⟨rfl, N11, K20, F14, F15, Fw11, F18, F17⟩)
theorem ef_adB3 (m : MethodId) (x0 : Addr) (x1 : Addr) : entryFrame m #[(.ref x0), (.ref x1)] 2 = mkF m 0 #[.val (.ref x0), .val (.ref x1)] [] := by first | (simp [entryFrame, mkF, argsToLocals, Value.category]; done) | rfl
def Q_adB3 (Z : State) (dce cac : Addr) (ia : Nat → Addr) (a x ed : Addr) (y0 y1 y2 : Addr)  (h0 : Heap) (n0 : Nat) (v : Option Value) (h : Heap) (L : List Loc) : Prop := v = some (.int 1) ∧ Fr n0 L ∧ Keep h0 h [a, ed] ∧ Fld Z h a "java/util/AbstractList" "modCount" "I" (.int (4 : Int32)) ∧ Fld Z h a "java/util/ArrayList" "elementData" "[Ljava/lang/Object;" (.ref ed) ∧ Fld Z h a "java/util/ArrayList" "size" "I" (.int (4 : Int32)) ∧ OAr Z h ed (.object "java/lang/Object") [(.ref y0), (.ref y1), (.ref y2), (.ref x), .null, .null, .null, .null, .null, .null] ∧ OOv Z h ed "java/lang/Object"
set_option maxRecDepth 65536 in
set_option maxHeartbeats 40000000 in
theorem adB3 (l : Launch) (Z : State) (a0 : Array Value) (hw : ∀ d ∈ tables_1, d.before a0 Z = true) (dce cac : Addr) (ia : Nat → Addr) (a x ed : Addr) (y0 y1 y2 : Addr)  (h0 : Heap) (n0 : Nat) (Z0 : n0 ≤ h0.size) (O0 : Old Z n0 h0) (S_d : Sta Z Z.heap "java/util/ArrayList" "DEFAULTCAPACITY_EMPTY_ELEMENTDATA" "[Ljava/lang/Object;" (.ref dce)) (V_d : OAr Z Z.heap dce (.object "java/lang/Object") []) (S_h : Sta Z Z.heap "java/lang/Integer$IntegerCache" "high" "I" (.int (127 : Int32))) (S_c : Sta Z Z.heap "java/lang/Integer$IntegerCache" "cache" "[Ljava/lang/Integer;" (.ref cac)) (hL : ∀ k < 4, OEl Z Z.heap cac (.object "java/lang/Integer") (128 + k) (.ref (ia k))) (hE : ∀ k < 4, Exa Z Z.heap (ia k) "java/lang/Integer") (hV : ∀ k < 4, Fld Z Z.heap (ia k) "java/lang/Integer" "value" "I" (.int (Int32.ofNat k))) (I_x : Ins Z h0 x "java/lang/Object" true) (E_a : Exa Z h0 a "java/util/ArrayList") (g_a : n0 ≤ a) (F_m : Fld Z h0 a "java/util/AbstractList" "modCount" "I" (.int (3 : Int32))) (F_e : Fld Z h0 a "java/util/ArrayList" "elementData" "[Ljava/lang/Object;" (.ref ed)) (F_s : Fld Z h0 a "java/util/ArrayList" "size" "I" (.int (3 : Int32))) (g_e : n0 ≤ ed) (ne_ae : a ≠ ed) (V_e : OAr Z h0 ed (.object "java/lang/Object") [(.ref y0), (.ref y1), (.ref y2), .null, .null, .null, .null, .null, .null, .null]) (O_e : OOv Z h0 ed "java/lang/Object") :
    OwnMet l (⟨"java/util/ArrayList", "add", "(Ljava/lang/Object;)Z"⟩ : MethodName) jdk_38_method_25_code 2 (some .boolean) [] ({ frames := 1, cells := 0, slots := 0, locals := 15 } : Room) Z #[(.ref a), (.ref x)] h0 (Q_adB3 Z dce cac ia a x ed y0 y1 y2 h0 n0) := by
  refine own_met pn_6 (fun p e s m below meth c s₁ hx hby hml hown hnm hret hlk hZ X0 e0 => ?_)
  have hown : s.vm.findClass "java/util/ArrayList" = some m.cls := hown
  have N0 := Fr.nil n0
  have K0 := Keep.refl h0 [a, ed]
  rw [ef_adB3]
  show OwnWk _ _ _ _ (s₁.setTop (mkF m 0 #[.val (.ref a), .val (.ref x)] []))
  refine own_go (fun tgt kst => XS.aloadN X0.here hx rfl (hb hby d6_0) rfl rfl  kst) ?_
  show OwnWk _ _ _ _ (s₁.setTop (mkF m 1 #[.val (.ref a), .val (.ref x)] [(.ref a)]))
  refine own_go (fun tgt kst => XS.dup X0.here hx rfl (hb hby d6_1) rfl rfl kst) ?_
  show OwnWk _ _ _ _ (s₁.setTop (mkF m 2 #[.val (.ref a), .val (.ref x)] [(.ref a), (.ref a)]))
  obtain ⟨T1, X1, e1, st1⟩ := getF X0 hx hZ hown (host := "") (Or.inl (hw _ (List.mem_of_getElem? (i := 40) rfl))) (Via.of (hw _ (List.mem_of_getElem? (i := 41) rfl))) e0 F_m (g := (mkF m 2 #[.val (.ref a), .val (.ref x)] [(.ref a), (.ref a)])) rfl rfl (hb hby d6_2)
  refine own_go st1 ?_
  show OwnWk _ _ _ _ (T1.setTop (mkF m 5 #[.val (.ref a), .val (.ref x)] [(.int (3 : Int32)), (.ref a)]))
  refine own_go (fun tgt kst => XS.iconst X1.here hx rfl (hb hby d6_5) kst) ?_
  show OwnWk _ _ _ _ (T1.setTop (mkF m 6 #[.val (.ref a), .val (.ref x)] [(.int (1 : Int32)), (.int (3 : Int32)), (.ref a)]))
  refine own_go (fun tgt kst => XS.iadd X1.here hx rfl (hb hby d6_6) rfl kst) ?_
  show OwnWk _ _ _ _ (T1.setTop (mkF m 7 #[.val (.ref a), .val (.ref x)] [(.int (4 : Int32)), (.ref a)]))
  obtain ⟨T2, h2, X2, e2, W2, st2⟩ := putF X1 hx hZ hown (host := "") (Or.inl (hw _ (List.mem_of_getElem? (i := 40) rfl))) (Via.of (hw _ (List.mem_of_getElem? (i := 41) rfl))) e1 F_m E_a (Or.inl (hw _ (List.mem_of_getElem? (i := 24) rfl))) (hw _ (List.mem_of_getElem? (i := 3) rfl)) (v := (.int (4 : Int32))) (ty := .int) (by decide) rfl rfl (g := (mkF m 7 #[.val (.ref a), .val (.ref x)] [(.int (4 : Int32)), (.ref a)])) rfl rfl (hb hby d6_7)
  refine own_go st2 ?_
  have N2 := Fr.snoc X2 N0 g_a
  have Fw2 := Fld.same W2 F_m
  have F3 := Old.wr O0 W2 g_a
  have F4 := Exa.wr W2 E_a
  have F5 := Fld.other W2 F_e (Or.inr (slot_ne (Or.inl (hw _ (List.mem_of_getElem? (i := 27) rfl))) (Or.inl (hw _ (List.mem_of_getElem? (i := 24) rfl))) (by decide) (t := (.array (.object "java/lang/Object"))) (t' := .int) (by decide) (by decide)))
  have F6 := Fld.other W2 F_s (Or.inr (slot_ne (Or.inl (hw _ (List.mem_of_getElem? (i := 43) rfl))) (Or.inl (hw _ (List.mem_of_getElem? (i := 24) rfl))) (by decide) (t := .int) (t' := .int) (by decide) (by decide)))
  have F7 := Ins.wr W2 I_x
  have F8 := OAr.other V_e W2 (Ne.symm ne_ae)
  have F9 := OOv.wr W2 O_e
  have Z10 := Nat.le_trans Z0 (Keep.of_wr W2).1
  have K11 := Keep.wr K0 W2 (Or.inl (List.mem_of_getElem? (i := 0) rfl))
  show OwnWk _ _ _ _ (T2.setTop (mkF m 10 #[.val (.ref a), .val (.ref x)] []))
  refine own_go (fun tgt kst => XS.aloadN X2.here hx rfl (hb hby d6_10) rfl rfl  kst) ?_
  show OwnWk _ _ _ _ (T2.setTop (mkF m 11 #[.val (.ref a), .val (.ref x)] [(.ref a)]))
  refine own_go (fun tgt kst => XS.aloadN X2.here hx rfl (hb hby d6_11) rfl rfl  kst) ?_
  show OwnWk _ _ _ _ (T2.setTop (mkF m 12 #[.val (.ref a), .val (.ref x)] [(.ref x), (.ref a)]))
  refine own_go (fun tgt kst => XS.aloadN X2.here hx rfl (hb hby d6_12) rfl rfl  kst) ?_
  show OwnWk _ _ _ _ (T2.setTop (mkF m 13 #[.val (.ref a), .val (.ref x)] [(.ref a), (.ref x), (.ref a)]))
  obtain ⟨T12, X12, e12, st12⟩ := getF X2 hx hZ hown (host := "") (Or.inl (hw _ (List.mem_of_getElem? (i := 26) rfl))) Via.refl e2 F5 (g := (mkF m 13 #[.val (.ref a), .val (.ref x)] [(.ref a), (.ref x), (.ref a)])) rfl rfl (hb hby d6_13)
  refine own_go st12 ?_
  show OwnWk _ _ _ _ (T12.setTop (mkF m 16 #[.val (.ref a), .val (.ref x)] [(.ref ed), (.ref x), (.ref a)]))
  refine own_go (fun tgt kst => XS.aloadN X12.here hx rfl (hb hby d6_16) rfl rfl  kst) ?_
  show OwnWk _ _ _ _ (T12.setTop (mkF m 17 #[.val (.ref a), .val (.ref x)] [(.ref a), (.ref ed), (.ref x), (.ref a)]))
  obtain ⟨T13, X13, e13, st13⟩ := getF X12 hx hZ hown (host := "") (Or.inl (hw _ (List.mem_of_getElem? (i := 42) rfl))) Via.refl e12 F6 (g := (mkF m 17 #[.val (.ref a), .val (.ref x)] [(.ref a), (.ref ed), (.ref x), (.ref a)])) rfl rfl (hb hby d6_17)
  refine own_go st13 ?_
  show OwnWk _ _ _ _ (T13.setTop (mkF m 20 #[.val (.ref a), .val (.ref x)] [(.int (3 : Int32)), (.ref ed), (.ref x), (.ref a)]))
  have lt14 : a < h2.size := F4.lt
  have lt15 : ed < h2.size := F8.lt
  refine own_callP X13 hx hZ (y := (⟨"java/util/ArrayList", "add", "(Ljava/lang/Object;[Ljava/lang/Object;I)V"⟩ : MethodName)) hown (hw _ (List.mem_of_getElem? (i := 44) rfl)) (hw _ (List.mem_of_getElem? (i := 45) rfl)) (hw _ (List.mem_of_getElem? (i := 47) rfl)) (hw _ (List.mem_of_getElem? (i := 46) rfl)) (hw _ (List.mem_of_getElem? (i := 4) rfl)) (hw _ (List.mem_of_getElem? (i := 48) rfl)) (by decide) (a := a) F4 (argsL := [(.ref x), (.ref ed), (.int (3 : Int32))]) (rest := []) (rm := ({ frames := 0, cells := 0, slots := 0, locals := 0 } : Room)) (h := h2) (adA3 l Z a0 hw dce cac ia a x ed y0 y1 y2 h2 n0 Z10 F3 S_d V_d S_h S_c hL hE hV F7 F4 g_a Fw2 F5 F6 g_e ne_ae F8 F9) e13 (W := 0) (by decide) (by decide) (by decide) (by decide) (g := (mkF m 20 #[.val (.ref a), .val (.ref x)] [(.int (3 : Int32)), (.ref ed), (.ref x), (.ref a)])) rfl (by rw [hml]; rfl) (lenOf pd_4 rfl) rfl (by show 2 * 0 + _ ≤ _; exact Nat.le_of_eq rfl) (hb hby d6_20) (fun v16 T16 h16 L16 X16 e16 hQ16 => ?_)
  obtain ⟨rfl, Nq16, Kq16, Fm16, Fe16, Fs16, Vq16, Oq16⟩ := hQ16
  have N16 := Fr.app N2 Nq16
  have F17 := Old.keep F3 Kq16 (allS g_a (allS g_e all0))
  have F18 := Exa.keep F4 Kq16
  have F19 := own_ins_keep F7 Kq16
  have F20 := OOv.keep F9 Kq16
  have Z21 := Nat.le_trans Z10 Kq16.1
  have K22 := Keep.trans K11 Kq16 (allS (Or.inl (List.mem_of_getElem? (i := 0) rfl)) (allS (Or.inl (List.mem_of_getElem? (i := 1) rfl)) all0))
  show OwnWk _ _ _ _ (T16.setTop (mkF m 23 #[.val (.ref a), .val (.ref x)] []))
  refine own_go (fun tgt kst => XS.iconst X16.here hx rfl (hb hby d6_23) kst) ?_
  show OwnWk _ _ _ _ (T16.setTop (mkF m 24 #[.val (.ref a), .val (.ref x)] [(.int (1 : Int32))]))
  exact own_retZ X16 hx hlk hret (by simp) (z' := (1 : Int32)) rfl (hb hby d6_24) (by decide) (by decide) (by rw [e16]; exact ⟨rfl, N16, K22, Fm16, Fe16, Fs16, Vq16, Oq16⟩)
theorem pn_pn_19 : plainName "jdk/internal/util/Preconditions" = true := by first | (simp [plainName, overriddenIn]; done) | decide +kernel
theorem pn_19 : plainFor (⟨"jdk/internal/util/Preconditions", "checkIndex", "(IILjava/util/function/BiFunction;)I"⟩ : MethodName) = true := plainFor_of_name pn_pn_19
theorem d19_0 : decode jdk_41_method_11_code 0 = .ok (.iload_n 0, 1) := by decide +kernel
theorem d19_1 : decode jdk_41_method_11_code 1 = .ok (.ifCond .lt 8, 3) := by decide +kernel
theorem d19_4 : decode jdk_41_method_11_code 4 = .ok (.iload_n 0, 1) := by decide +kernel
theorem d19_5 : decode jdk_41_method_11_code 5 = .ok (.iload_n 1, 1) := by decide +kernel
theorem d19_6 : decode jdk_41_method_11_code 6 = .ok (.if_icmp .lt 10, 3) := by decide +kernel
theorem d19_16 : decode jdk_41_method_11_code 16 = .ok (.iload_n 0, 1) := by decide +kernel
theorem d19_17 : decode jdk_41_method_11_code 17 = .ok (.ireturn, 1) := by decide +kernel
theorem ef_rm19 (m : MethodId) (x0 : Int32) (x1 : Int32) : entryFrame m #[(.int x0), (.int x1), .null] 3 = mkF m 0 #[.val (.int x0), .val (.int x1), .val .null] [] := by first | (simp [entryFrame, mkF, argsToLocals, Value.category]; done) | rfl
def Q_rm19 (Z : State) (u r : Int32) (h0 : Heap) (n0 : Nat) (v : Option Value) (h : Heap) (L : List Loc) : Prop := v = some (.int u) ∧ Fr n0 L ∧ h = h0
set_option maxRecDepth 65536 in
set_option maxHeartbeats 40000000 in
theorem rm19 (l : Launch) (Z : State) (a0 : Array Value) (hw : ∀ d ∈ tables_1, d.before a0 Z = true) (u r : Int32) (h0 : Heap) (n0 : Nat) (Z0 : n0 ≤ h0.size) (hu : ¬ u < 0) (hur : u < r) :
    OwnMet l (⟨"jdk/internal/util/Preconditions", "checkIndex", "(IILjava/util/function/BiFunction;)I"⟩ : MethodName) jdk_41_method_11_code 3 (some .int) [] ({ frames := 0, cells := 0, slots := 0, locals := 0 } : Room) Z #[(.int u), (.int r), .null] h0 (Q_rm19 Z u r h0 n0) := by
  refine own_met pn_19 (fun p e s m below meth c s₁ hx hby hml hown hnm hret hlk hZ X0 e0 => ?_)
  have hown : s.vm.findClass "jdk/internal/util/Preconditions" = some m.cls := hown
  have N0 := Fr.nil n0
  rw [ef_rm19]
  show OwnWk _ _ _ _ (s₁.setTop (mkF m 0 #[.val (.int u), .val (.int r), .val .null] []))
  refine own_go (fun tgt kst => XS.iloadN X0.here hx rfl (hb hby d19_0) rfl  kst) ?_
  show OwnWk _ _ _ _ (s₁.setTop (mkF m 1 #[.val (.int u), .val (.int r), .val .null] [(.int u)]))
  refine own_go (fun tgt kst => XS.ifNo X0.here hx rfl (hb hby d19_1) rfl ((if0 _ _).trans (flt hu).1) kst) ?_
  show OwnWk _ _ _ _ (s₁.setTop (mkF m 4 #[.val (.int u), .val (.int r), .val .null] []))
  refine own_go (fun tgt kst => XS.iloadN X0.here hx rfl (hb hby d19_4) rfl  kst) ?_
  show OwnWk _ _ _ _ (s₁.setTop (mkF m 5 #[.val (.int u), .val (.int r), .val .null] [(.int u)]))
  refine own_go (fun tgt kst => XS.iloadN X0.here hx rfl (hb hby d19_5) rfl  kst) ?_
  show OwnWk _ _ _ _ (s₁.setTop (mkF m 6 #[.val (.int u), .val (.int r), .val .null] [(.int r), (.int u)]))
  refine own_go (fun tgt kst => XS.icmpYes X0.here hx rfl (pc0 := 6) (pc' := 16) rfl (hb hby d19_6) rfl (tlt hur).1 (by decide) (by decide) kst) ?_
  show OwnWk _ _ _ _ (s₁.setTop (mkF m 16 #[.val (.int u), .val (.int r), .val .null] []))
  refine own_go (fun tgt kst => XS.iloadN X0.here hx rfl (hb hby d19_16) rfl  kst) ?_
  show OwnWk _ _ _ _ (s₁.setTop (mkF m 17 #[.val (.int u), .val (.int r), .val .null] [(.int u)]))
  exact own_retI X0 hx hlk hret (hb hby d19_17) (by decide) (by decide) (by rw [e0]; exact ⟨rfl, N0, rfl⟩)
theorem pn_pn_18 : plainName "java/util/Objects" = true := by first | (simp [plainName, overriddenIn]; done) | decide +kernel
theorem pn_18 : plainFor (⟨"java/util/Objects", "checkIndex", "(II)I"⟩ : MethodName) = true := plainFor_of_name pn_pn_18
theorem d18_0 : decode jdk_31_method_17_code 0 = .ok (.iload_n 0, 1) := by decide +kernel
theorem d18_1 : decode jdk_31_method_17_code 1 = .ok (.iload_n 1, 1) := by decide +kernel
theorem d18_2 : decode jdk_31_method_17_code 2 = .ok (.aconst_null, 1) := by decide +kernel
theorem d18_3 : decode jdk_31_method_17_code 3 = .ok (.invokestatic 105, 3) := by decide +kernel
theorem pd_5 : parseMethodDescriptor "(IILjava/util/function/BiFunction;)I" = some ⟨[.int, .int, (.object "java/util/function/BiFunction")], some .int⟩ := by decide +kernel
theorem d18_6 : decode jdk_31_method_17_code 6 = .ok (.ireturn, 1) := by decide +kernel
theorem ef_rm18 (m : MethodId) (x0 : Int32) (x1 : Int32) : entryFrame m #[(.int x0), (.int x1)] 2 = mkF m 0 #[.val (.int x0), .val (.int x1)] [] := by first | (simp [entryFrame, mkF, argsToLocals, Value.category]; done) | rfl
def Q_rm18 (Z : State) (u r : Int32) (h0 : Heap) (n0 : Nat) (v : Option Value) (h : Heap) (L : List Loc) : Prop := v = some (.int u) ∧ Fr n0 L ∧ h = h0
set_option maxRecDepth 65536 in
set_option maxHeartbeats 40000000 in
theorem rm18 (l : Launch) (Z : State) (a0 : Array Value) (hw : ∀ d ∈ tables_1, d.before a0 Z = true) (u r : Int32) (h0 : Heap) (n0 : Nat) (Z0 : n0 ≤ h0.size) (hu : ¬ u < 0) (hur : u < r) :
    OwnMet l (⟨"java/util/Objects", "checkIndex", "(II)I"⟩ : MethodName) jdk_31_method_17_code 2 (some .int) [] ({ frames := 1, cells := 0, slots := 0, locals := 14 } : Room) Z #[(.int u), (.int r)] h0 (Q_rm18 Z u r h0 n0) := by
  refine own_met pn_18 (fun p e s m below meth c s₁ hx hby hml hown hnm hret hlk hZ X0 e0 => ?_)
  have hown : s.vm.findClass "java/util/Objects" = some m.cls := hown
  have N0 := Fr.nil n0
  rw [ef_rm18]
  show OwnWk _ _ _ _ (s₁.setTop (mkF m 0 #[.val (.int u), .val (.int r)] []))
  refine own_go (fun tgt kst => XS.iloadN X0.here hx rfl (hb hby d18_0) rfl  kst) ?_
  show OwnWk _ _ _ _ (s₁.setTop (mkF m 1 #[.val (.int u), .val (.int r)] [(.int u)]))
  refine own_go (fun tgt kst => XS.iloadN X0.here hx rfl (hb hby d18_1) rfl  kst) ?_
  show OwnWk _ _ _ _ (s₁.setTop (mkF m 2 #[.val (.int u), .val (.int r)] [(.int r), (.int u)]))
  refine own_go (fun tgt kst => XS.aconstNull X0.here hx rfl (hb hby d18_2) kst) ?_
  show OwnWk _ _ _ _ (s₁.setTop (mkF m 3 #[.val (.int u), .val (.int r)] [.null, (.int r), (.int u)]))
  refine own_callS X0 hx hZ (y := (⟨"jdk/internal/util/Preconditions", "checkIndex", "(IILjava/util/function/BiFunction;)I"⟩ : MethodName)) hown (hw _ (List.mem_of_getElem? (i := 119) rfl)) (hw _ (List.mem_of_getElem? (i := 120) rfl)) (hw _ (List.mem_of_getElem? (i := 121) rfl)) (hw _ (List.mem_of_getElem? (i := 122) rfl)) (by decide) (argsL := [(.int u), (.int r), .null]) (rest := []) (rm := ({ frames := 0, cells := 0, slots := 0, locals := 0 } : Room)) (h := h0) (rm19 l Z a0 hw u r h0 n0 Z0 hu hur) e0 (W := 0) (by decide) (by decide) (by decide) (by decide) (g := (mkF m 3 #[.val (.int u), .val (.int r)] [.null, (.int r), (.int u)])) rfl (by rw [hml]; rfl) (lenOf pd_5 rfl) rfl (by show 2 * 0 + _ ≤ _; exact Nat.le_of_eq rfl) (hb hby d18_3) (fun v1 T1 h1 L1 X1 e1 hQ1 => ?_)
  obtain ⟨rfl, Nq1, q1⟩ := hQ1
  have N1 := Fr.app N0 Nq1
  rw [q1] at e1
  show OwnWk _ _ _ _ (T1.setTop (mkF m 6 #[.val (.int u), .val (.int r)] [(.int u)]))
  exact own_retI X1 hx hlk hret (hb hby d18_6) (by decide) (by decide) (by rw [e1]; exact ⟨rfl, N1, rfl⟩)
theorem pn_pn_20 : plainName "java/util/ArrayList" = true := by first | (simp [plainName, overriddenIn]; done) | decide +kernel
theorem pn_20 : plainFor (⟨"java/util/ArrayList", "elementData", "(I)Ljava/lang/Object;"⟩ : MethodName) = true := plainFor_of_name pn_pn_20
theorem d20_0 : decode jdk_38_method_18_code 0 = .ok (.aload_n 0, 1) := by decide +kernel
theorem d20_1 : decode jdk_38_method_18_code 1 = .ok (.getfield 9, 3) := by decide +kernel
theorem d20_4 : decode jdk_38_method_18_code 4 = .ok (.iload_n 1, 1) := by decide +kernel
theorem d20_5 : decode jdk_38_method_18_code 5 = .ok (.aaload, 1) := by decide +kernel
theorem d20_6 : decode jdk_38_method_18_code 6 = .ok (.areturn, 1) := by decide +kernel
theorem ef_rm20 (m : MethodId) (x0 : Addr) (x1 : Int32) : entryFrame m #[(.ref x0), (.int x1)] 2 = mkF m 0 #[.val (.ref x0), .val (.int x1)] [] := by first | (simp [entryFrame, mkF, argsToLocals, Value.category]; done) | rfl
def Q_rm20 (Z : State) (a ed : Addr) (xs : List Addr) (I nn : Nat) (h0 : Heap) (n0 : Nat) (v : Option Value) (h : Heap) (L : List Loc) : Prop := v = some (.ref (xs.getD I 0)) ∧ Fr n0 L ∧ h = h0
set_option maxRecDepth 65536 in
set_option maxHeartbeats 40000000 in
theorem rm20 (l : Launch) (Z : State) (a0 : Array Value) (hw : ∀ d ∈ tables_1, d.before a0 Z = true) (a ed : Addr) (xs : List Addr) (I nn : Nat) (h0 : Heap) (n0 : Nat) (Z0 : n0 ≤ h0.size) (F_s : Fld Z h0 a "java/util/ArrayList" "size" "I" (.int (Int32.ofNat nn))) (F_e : Fld Z h0 a "java/util/ArrayList" "elementData" "[Ljava/lang/Object;" (.ref ed)) (V_e : OAr Z h0 ed (.object "java/lang/Object") (own_rv xs)) (hI : I < nn) (hxl : xs.length = nn) (hn : nn ≤ 4) :
    OwnMet l (⟨"java/util/ArrayList", "elementData", "(I)Ljava/lang/Object;"⟩ : MethodName) jdk_38_method_18_code 2 (some (.object "java/lang/Object")) [] ({ frames := 0, cells := 0, slots := 0, locals := 0 } : Room) Z #[(.ref a), (.int (Int32.ofNat I))] h0 (Q_rm20 Z a ed xs I nn h0 n0) := by
  refine own_met pn_20 (fun p e s m below meth c s₁ hx hby hml hown hnm hret hlk hZ X0 e0 => ?_)
  have hown : s.vm.findClass "java/util/ArrayList" = some m.cls := hown
  have N0 := Fr.nil n0
  rw [ef_rm20]
  show OwnWk _ _ _ _ (s₁.setTop (mkF m 0 #[.val (.ref a), .val (.int (Int32.ofNat I))] []))
  refine own_go (fun tgt kst => XS.aloadN X0.here hx rfl (hb hby d20_0) rfl rfl  kst) ?_
  show OwnWk _ _ _ _ (s₁.setTop (mkF m 1 #[.val (.ref a), .val (.int (Int32.ofNat I))] [(.ref a)]))
  obtain ⟨T1, X1, e1, st1⟩ := getF X0 hx hZ hown (host := "") (Or.inl (hw _ (List.mem_of_getElem? (i := 26) rfl))) Via.refl e0 F_e (g := (mkF m 1 #[.val (.ref a), .val (.int (Int32.ofNat I))] [(.ref a)])) rfl rfl (hb hby d20_1)
  refine own_go st1 ?_
  show OwnWk _ _ _ _ (T1.setTop (mkF m 4 #[.val (.ref a), .val (.int (Int32.ofNat I))] [(.ref ed)]))
  refine own_go (fun tgt kst => XS.iloadN X1.here hx rfl (hb hby d20_4) rfl  kst) ?_
  show OwnWk _ _ _ _ (T1.setTop (mkF m 5 #[.val (.ref a), .val (.int (Int32.ofNat I))] [(.int (Int32.ofNat I)), (.ref ed)]))
  refine own_ldA X1 hx hZ e1 V_e rfl (g := (mkF m 5 #[.val (.ref a), .val (.int (Int32.ofNat I))] [(.int (Int32.ofNat I)), (.ref ed)])) rfl rfl (hb hby d20_5) (v := (.ref (xs.getD I 0))) (own_n_nn (by omega)) (own_rv_at (by omega) (by omega)) ?_
  show OwnWk _ _ _ _ (T1.setTop (mkF m 6 #[.val (.ref a), .val (.int (Int32.ofNat I))] [(.ref (xs.getD I 0))]))
  exact own_retA X1 hx hlk hret rfl rfl rfl (hb hby d20_6) (by decide) (by decide) (by rw [e1]; exact ⟨rfl, N0, rfl⟩)
theorem pn_pn_17 : plainName "java/util/ArrayList" = true := by first | (simp [plainName, overriddenIn]; done) | decide +kernel
theorem pn_17 : plainFor (⟨"java/util/ArrayList", "get", "(I)Ljava/lang/Object;"⟩ : MethodName) = true := plainFor_of_name pn_pn_17
theorem d17_0 : decode jdk_38_method_20_code 0 = .ok (.iload_n 1, 1) := by decide +kernel
theorem d17_1 : decode jdk_38_method_20_code 1 = .ok (.aload_n 0, 1) := by decide +kernel
theorem d17_2 : decode jdk_38_method_20_code 2 = .ok (.getfield 48, 3) := by decide +kernel
theorem d17_5 : decode jdk_38_method_20_code 5 = .ok (.invokestatic 118, 3) := by decide +kernel
theorem d17_8 : decode jdk_38_method_20_code 8 = .ok (.pop, 1) := by decide +kernel
theorem d17_9 : decode jdk_38_method_20_code 9 = .ok (.aload_n 0, 1) := by decide +kernel
theorem d17_10 : decode jdk_38_method_20_code 10 = .ok (.iload_n 1, 1) := by decide +kernel
theorem d17_11 : decode jdk_38_method_20_code 11 = .ok (.invokevirtual 123, 3) := by decide +kernel
theorem pd_6 : parseMethodDescriptor "(I)Ljava/lang/Object;" = some ⟨[.int], some (.object "java/lang/Object")⟩ := by decide +kernel
theorem d17_14 : decode jdk_38_method_20_code 14 = .ok (.areturn, 1) := by decide +kernel
theorem ef_rm17 (m : MethodId) (x0 : Addr) (x1 : Int32) : entryFrame m #[(.ref x0), (.int x1)] 2 = mkF m 0 #[.val (.ref x0), .val (.int x1)] [] := by first | (simp [entryFrame, mkF, argsToLocals, Value.category]; done) | rfl
def Q_rm17 (Z : State) (a ed : Addr) (xs : List Addr) (I nn : Nat) (h0 : Heap) (n0 : Nat) (v : Option Value) (h : Heap) (L : List Loc) : Prop := v = some (.ref (xs.getD I 0)) ∧ Fr n0 L ∧ h = h0
set_option maxRecDepth 65536 in
set_option maxHeartbeats 40000000 in
theorem rm17 (l : Launch) (Z : State) (a0 : Array Value) (hw : ∀ d ∈ tables_1, d.before a0 Z = true) (a ed : Addr) (xs : List Addr) (I nn : Nat) (h0 : Heap) (n0 : Nat) (Z0 : n0 ≤ h0.size) (E_a : Exa Z h0 a "java/util/ArrayList") (F_s : Fld Z h0 a "java/util/ArrayList" "size" "I" (.int (Int32.ofNat nn))) (F_e : Fld Z h0 a "java/util/ArrayList" "elementData" "[Ljava/lang/Object;" (.ref ed)) (V_e : OAr Z h0 ed (.object "java/lang/Object") (own_rv xs)) (hI : I < nn) (hxl : xs.length = nn) (hn : nn ≤ 4) :
    OwnMet l (⟨"java/util/ArrayList", "get", "(I)Ljava/lang/Object;"⟩ : MethodName) jdk_38_method_20_code 2 (some (.object "java/lang/Object")) [] ({ frames := 2, cells := 0, slots := 0, locals := 27 } : Room) Z #[(.ref a), (.int (Int32.ofNat I))] h0 (Q_rm17 Z a ed xs I nn h0 n0) := by
  refine own_met pn_17 (fun p e s m below meth c s₁ hx hby hml hown hnm hret hlk hZ X0 e0 => ?_)
  have hown : s.vm.findClass "java/util/ArrayList" = some m.cls := hown
  have N0 := Fr.nil n0
  rw [ef_rm17]
  show OwnWk _ _ _ _ (s₁.setTop (mkF m 0 #[.val (.ref a), .val (.int (Int32.ofNat I))] []))
  refine own_go (fun tgt kst => XS.iloadN X0.here hx rfl (hb hby d17_0) rfl  kst) ?_
  show OwnWk _ _ _ _ (s₁.setTop (mkF m 1 #[.val (.ref a), .val (.int (Int32.ofNat I))] [(.int (Int32.ofNat I))]))
  refine own_go (fun tgt kst => XS.aloadN X0.here hx rfl (hb hby d17_1) rfl rfl  kst) ?_
  show OwnWk _ _ _ _ (s₁.setTop (mkF m 2 #[.val (.ref a), .val (.int (Int32.ofNat I))] [(.ref a), (.int (Int32.ofNat I))]))
  obtain ⟨T1, X1, e1, st1⟩ := getF X0 hx hZ hown (host := "") (Or.inl (hw _ (List.mem_of_getElem? (i := 42) rfl))) Via.refl e0 F_s (g := (mkF m 2 #[.val (.ref a), .val (.int (Int32.ofNat I))] [(.ref a), (.int (Int32.ofNat I))])) rfl rfl (hb hby d17_2)
  refine own_go st1 ?_
  show OwnWk _ _ _ _ (T1.setTop (mkF m 5 #[.val (.ref a), .val (.int (Int32.ofNat I))] [(.int (Int32.ofNat nn)), (.int (Int32.ofNat I))]))
  refine own_callS X1 hx hZ (y := (⟨"java/util/Objects", "checkIndex", "(II)I"⟩ : MethodName)) hown (hw _ (List.mem_of_getElem? (i := 115) rfl)) (hw _ (List.mem_of_getElem? (i := 116) rfl)) (hw _ (List.mem_of_getElem? (i := 117) rfl)) (hw _ (List.mem_of_getElem? (i := 118) rfl)) (by decide) (argsL := [(.int (Int32.ofNat I)), (.int (Int32.ofNat nn))]) (rest := []) (rm := ({ frames := 1, cells := 0, slots := 0, locals := 14 } : Room)) (h := h0) (rm18 l Z a0 hw (Int32.ofNat I) (Int32.ofNat nn) h0 n0 Z0 (own_n_nn (by omega)) ((own_n_lt (by omega) (by omega)).mpr hI)) e1 (W := 0) (by decide) (by decide) (by decide) (by decide) (g := (mkF m 5 #[.val (.ref a), .val (.int (Int32.ofNat I))] [(.int (Int32.ofNat nn)), (.int (Int32.ofNat I))])) rfl (by rw [hml]; rfl) (lenOf pd_1 rfl) rfl (by show 2 * 0 + _ ≤ _; exact Nat.le_of_eq rfl) (hb hby d17_5) (fun v2 T2 h2 L2 X2 e2 hQ2 => ?_)
  obtain ⟨rfl, Nq2, q2⟩ := hQ2
  have N2 := Fr.app N0 Nq2
  rw [q2] at e2
  show OwnWk _ _ _ _ (T2.setTop (mkF m 8 #[.val (.ref a), .val (.int (Int32.ofNat I))] [(.int (Int32.ofNat I))]))
  refine own_go (fun tgt kst => XS.pop X2.here hx rfl (hb hby d17_8) rfl rfl kst) ?_
  show OwnWk _ _ _ _ (T2.setTop (mkF m 9 #[.val (.ref a), .val (.int (Int32.ofNat I))] []))
  refine own_go (fun tgt kst => XS.aloadN X2.here hx rfl (hb hby d17_9) rfl rfl  kst) ?_
  show OwnWk _ _ _ _ (T2.setTop (mkF m 10 #[.val (.ref a), .val (.int (Int32.ofNat I))] [(.ref a)]))
  refine own_go (fun tgt kst => XS.iloadN X2.here hx rfl (hb hby d17_10) rfl  kst) ?_
  show OwnWk _ _ _ _ (T2.setTop (mkF m 11 #[.val (.ref a), .val (.int (Int32.ofNat I))] [(.int (Int32.ofNat I)), (.ref a)]))
  refine own_callV X2 hx hZ (y := (⟨"java/util/ArrayList", "elementData", "(I)Ljava/lang/Object;"⟩ : MethodName)) (z := (⟨"java/util/ArrayList", "elementData", "(I)Ljava/lang/Object;"⟩ : MethodName)) hown (hw _ (List.mem_of_getElem? (i := 123) rfl)) (hw _ (List.mem_of_getElem? (i := 124) rfl)) (notFace_of_selects (args := #[]) (mvT hZ (hw _ (List.mem_of_getElem? (i := 126) rfl)))) (hw _ (List.mem_of_getElem? (i := 126) rfl)) (hw _ (List.mem_of_getElem? (i := 125) rfl)) (hw _ (List.mem_of_getElem? (i := 4) rfl)) (hw _ (List.mem_of_getElem? (i := 127) rfl)) (by decide) (a := a) E_a (argsL := [(.int (Int32.ofNat I))]) (rest := []) (rm := ({ frames := 0, cells := 0, slots := 0, locals := 0 } : Room)) (h := h0) (rm20 l Z a0 hw a ed xs I nn h0 n0 Z0 F_s F_e V_e hI hxl hn) e2 (W := 0) (by decide) (by decide) (by decide) (by decide) (g := (mkF m 11 #[.val (.ref a), .val (.int (Int32.ofNat I))] [(.int (Int32.ofNat I)), (.ref a)])) rfl (by rw [hml]; rfl) (lenOf pd_6 rfl) rfl (by show 2 * 0 + _ ≤ _; exact Nat.le_of_eq rfl) (hb hby d17_11) (fun v3 T3 h3 L3 X3 e3 hQ3 => ?_)
  obtain ⟨rfl, Nq3, q3⟩ := hQ3
  have N3 := Fr.app N2 Nq3
  rw [q3] at e3
  show OwnWk _ _ _ _ (T3.setTop (mkF m 14 #[.val (.ref a), .val (.int (Int32.ofNat I))] [(.ref (xs.getD I 0))]))
  exact own_retA X3 hx hlk hret rfl rfl rfl (hb hby d17_14) (by decide) (by decide) (by rw [e3]; exact ⟨rfl, N3, rfl⟩)
theorem pn_pn_21 : plainName "java/util/ArrayList" = true := by first | (simp [plainName, overriddenIn]; done) | decide +kernel
theorem pn_21 : plainFor (⟨"java/util/ArrayList", "set", "(ILjava/lang/Object;)Ljava/lang/Object;"⟩ : MethodName) = true := plainFor_of_name pn_pn_21
theorem d21_0 : decode jdk_38_method_23_code 0 = .ok (.iload_n 1, 1) := by decide +kernel
theorem d21_1 : decode jdk_38_method_23_code 1 = .ok (.aload_n 0, 1) := by decide +kernel
theorem d21_2 : decode jdk_38_method_23_code 2 = .ok (.getfield 48, 3) := by decide +kernel
theorem d21_5 : decode jdk_38_method_23_code 5 = .ok (.invokestatic 118, 3) := by decide +kernel
theorem d21_8 : decode jdk_38_method_23_code 8 = .ok (.pop, 1) := by decide +kernel
theorem d21_9 : decode jdk_38_method_23_code 9 = .ok (.aload_n 0, 1) := by decide +kernel
theorem d21_10 : decode jdk_38_method_23_code 10 = .ok (.iload_n 1, 1) := by decide +kernel
theorem d21_11 : decode jdk_38_method_23_code 11 = .ok (.invokevirtual 123, 3) := by decide +kernel
theorem d21_14 : decode jdk_38_method_23_code 14 = .ok (.astore_n 3, 1) := by decide +kernel
theorem d21_15 : decode jdk_38_method_23_code 15 = .ok (.aload_n 0, 1) := by decide +kernel
theorem d21_16 : decode jdk_38_method_23_code 16 = .ok (.getfield 9, 3) := by decide +kernel
theorem d21_19 : decode jdk_38_method_23_code 19 = .ok (.iload_n 1, 1) := by decide +kernel
theorem d21_20 : decode jdk_38_method_23_code 20 = .ok (.aload_n 2, 1) := by decide +kernel
theorem d21_21 : decode jdk_38_method_23_code 21 = .ok (.aastore, 1) := by decide +kernel
theorem d21_22 : decode jdk_38_method_23_code 22 = .ok (.aload_n 3, 1) := by decide +kernel
theorem d21_23 : decode jdk_38_method_23_code 23 = .ok (.areturn, 1) := by decide +kernel
theorem ef_rm21 (m : MethodId) (x0 : Addr) (x1 : Int32) (x2 : Addr) : entryFrame m #[(.ref x0), (.int x1), (.ref x2)] 4 = mkF m 0 #[.val (.ref x0), .val (.int x1), .val (.ref x2), .unset] [] := by first | (simp [entryFrame, mkF, argsToLocals, Value.category]; done) | rfl
def Q_rm21 (Z : State) (a ed x : Addr) (xs : List Addr) (I nn : Nat) (h0 : Heap) (n0 : Nat) (v : Option Value) (h : Heap) (L : List Loc) : Prop := v = some (.ref (xs.getD I 0)) ∧ Fr n0 L ∧ Keep h0 h [ed] ∧ OAr Z h ed (.object "java/lang/Object") (own_rv (xs.set I x))
set_option maxRecDepth 65536 in
set_option maxHeartbeats 40000000 in
theorem rm21 (l : Launch) (Z : State) (a0 : Array Value) (hw : ∀ d ∈ tables_1, d.before a0 Z = true) (a ed x : Addr) (xs : List Addr) (I nn : Nat) (h0 : Heap) (n0 : Nat) (Z0 : n0 ≤ h0.size) (E_a : Exa Z h0 a "java/util/ArrayList") (F_s : Fld Z h0 a "java/util/ArrayList" "size" "I" (.int (Int32.ofNat nn))) (F_e : Fld Z h0 a "java/util/ArrayList" "elementData" "[Ljava/lang/Object;" (.ref ed)) (V_e : OAr Z h0 ed (.object "java/lang/Object") (own_rv xs)) (hI : I < nn) (hxl : xs.length = nn) (hn : nn ≤ 4) (I_x : Ins Z h0 x "java/lang/Object" true) (O_e : OOv Z h0 ed "java/lang/Object") (g_e : n0 ≤ ed) (ne_ae : a ≠ ed) :
    OwnMet l (⟨"java/util/ArrayList", "set", "(ILjava/lang/Object;)Ljava/lang/Object;"⟩ : MethodName) jdk_38_method_23_code 4 (some (.object "java/lang/Object")) [] ({ frames := 2, cells := 0, slots := 0, locals := 27 } : Room) Z #[(.ref a), (.int (Int32.ofNat I)), (.ref x)] h0 (Q_rm21 Z a ed x xs I nn h0 n0) := by
  refine own_met pn_21 (fun p e s m below meth c s₁ hx hby hml hown hnm hret hlk hZ X0 e0 => ?_)
  have hown : s.vm.findClass "java/util/ArrayList" = some m.cls := hown
  have N0 := Fr.nil n0
  have K0 := Keep.refl h0 [ed]
  rw [ef_rm21]
  show OwnWk _ _ _ _ (s₁.setTop (mkF m 0 #[.val (.ref a), .val (.int (Int32.ofNat I)), .val (.ref x), .unset] []))
  refine own_go (fun tgt kst => XS.iloadN X0.here hx rfl (hb hby d21_0) rfl  kst) ?_
  show OwnWk _ _ _ _ (s₁.setTop (mkF m 1 #[.val (.ref a), .val (.int (Int32.ofNat I)), .val (.ref x), .unset] [(.int (Int32.ofNat I))]))
  refine own_go (fun tgt kst => XS.aloadN X0.here hx rfl (hb hby d21_1) rfl rfl  kst) ?_
  show OwnWk _ _ _ _ (s₁.setTop (mkF m 2 #[.val (.ref a), .val (.int (Int32.ofNat I)), .val (.ref x), .unset] [(.ref a), (.int (Int32.ofNat I))]))
  obtain ⟨T1, X1, e1, st1⟩ := getF X0 hx hZ hown (host := "") (Or.inl (hw _ (List.mem_of_getElem? (i := 42) rfl))) Via.refl e0 F_s (g := (mkF m 2 #[.val (.ref a), .val (.int (Int32.ofNat I)), .val (.ref x), .unset] [(.ref a), (.int (Int32.ofNat I))])) rfl rfl (hb hby d21_2)
  refine own_go st1 ?_
  show OwnWk _ _ _ _ (T1.setTop (mkF m 5 #[.val (.ref a), .val (.int (Int32.ofNat I)), .val (.ref x), .unset] [(.int (Int32.ofNat nn)), (.int (Int32.ofNat I))]))
  refine own_callS X1 hx hZ (y := (⟨"java/util/Objects", "checkIndex", "(II)I"⟩ : MethodName)) hown (hw _ (List.mem_of_getElem? (i := 115) rfl)) (hw _ (List.mem_of_getElem? (i := 116) rfl)) (hw _ (List.mem_of_getElem? (i := 117) rfl)) (hw _ (List.mem_of_getElem? (i := 118) rfl)) (by decide) (argsL := [(.int (Int32.ofNat I)), (.int (Int32.ofNat nn))]) (rest := []) (rm := ({ frames := 1, cells := 0, slots := 0, locals := 14 } : Room)) (h := h0) (rm18 l Z a0 hw (Int32.ofNat I) (Int32.ofNat nn) h0 n0 Z0 (own_n_nn (by omega)) ((own_n_lt (by omega) (by omega)).mpr hI)) e1 (W := 0) (by decide) (by decide) (by decide) (by decide) (g := (mkF m 5 #[.val (.ref a), .val (.int (Int32.ofNat I)), .val (.ref x), .unset] [(.int (Int32.ofNat nn)), (.int (Int32.ofNat I))])) rfl (by rw [hml]; rfl) (lenOf pd_1 rfl) rfl (by show 2 * 0 + _ ≤ _; exact Nat.le_of_eq rfl) (hb hby d21_5) (fun v2 T2 h2 L2 X2 e2 hQ2 => ?_)
  obtain ⟨rfl, Nq2, q2⟩ := hQ2
  have N2 := Fr.app N0 Nq2
  rw [q2] at e2
  show OwnWk _ _ _ _ (T2.setTop (mkF m 8 #[.val (.ref a), .val (.int (Int32.ofNat I)), .val (.ref x), .unset] [(.int (Int32.ofNat I))]))
  refine own_go (fun tgt kst => XS.pop X2.here hx rfl (hb hby d21_8) rfl rfl kst) ?_
  show OwnWk _ _ _ _ (T2.setTop (mkF m 9 #[.val (.ref a), .val (.int (Int32.ofNat I)), .val (.ref x), .unset] []))
  refine own_go (fun tgt kst => XS.aloadN X2.here hx rfl (hb hby d21_9) rfl rfl  kst) ?_
  show OwnWk _ _ _ _ (T2.setTop (mkF m 10 #[.val (.ref a), .val (.int (Int32.ofNat I)), .val (.ref x), .unset] [(.ref a)]))
  refine own_go (fun tgt kst => XS.iloadN X2.here hx rfl (hb hby d21_10) rfl  kst) ?_
  show OwnWk _ _ _ _ (T2.setTop (mkF m 11 #[.val (.ref a), .val (.int (Int32.ofNat I)), .val (.ref x), .unset] [(.int (Int32.ofNat I)), (.ref a)]))
  refine own_callV X2 hx hZ (y := (⟨"java/util/ArrayList", "elementData", "(I)Ljava/lang/Object;"⟩ : MethodName)) (z := (⟨"java/util/ArrayList", "elementData", "(I)Ljava/lang/Object;"⟩ : MethodName)) hown (hw _ (List.mem_of_getElem? (i := 123) rfl)) (hw _ (List.mem_of_getElem? (i := 124) rfl)) (notFace_of_selects (args := #[]) (mvT hZ (hw _ (List.mem_of_getElem? (i := 126) rfl)))) (hw _ (List.mem_of_getElem? (i := 126) rfl)) (hw _ (List.mem_of_getElem? (i := 125) rfl)) (hw _ (List.mem_of_getElem? (i := 4) rfl)) (hw _ (List.mem_of_getElem? (i := 127) rfl)) (by decide) (a := a) E_a (argsL := [(.int (Int32.ofNat I))]) (rest := []) (rm := ({ frames := 0, cells := 0, slots := 0, locals := 0 } : Room)) (h := h0) (rm20 l Z a0 hw a ed xs I nn h0 n0 Z0 F_s F_e V_e hI hxl hn) e2 (W := 0) (by decide) (by decide) (by decide) (by decide) (g := (mkF m 11 #[.val (.ref a), .val (.int (Int32.ofNat I)), .val (.ref x), .unset] [(.int (Int32.ofNat I)), (.ref a)])) rfl (by rw [hml]; rfl) (lenOf pd_6 rfl) rfl (by show 2 * 0 + _ ≤ _; exact Nat.le_of_eq rfl) (hb hby d21_11) (fun v3 T3 h3 L3 X3 e3 hQ3 => ?_)
  obtain ⟨rfl, Nq3, q3⟩ := hQ3
  have N3 := Fr.app N2 Nq3
  rw [q3] at e3
  show OwnWk _ _ _ _ (T3.setTop (mkF m 14 #[.val (.ref a), .val (.int (Int32.ofNat I)), .val (.ref x), .unset] [(.ref (xs.getD I 0))]))
  refine own_go (fun tgt kst => XS.astoreN X3.here hx rfl (hb hby d21_14) rfl rfl (l' := #[.val (.ref a), .val (.int (Int32.ofNat I)), .val (.ref x), .val (.ref (xs.getD I 0))]) rfl kst) ?_
  show OwnWk _ _ _ _ (T3.setTop (mkF m 15 #[.val (.ref a), .val (.int (Int32.ofNat I)), .val (.ref x), .val (.ref (xs.getD I 0))] []))
  refine own_go (fun tgt kst => XS.aloadN X3.here hx rfl (hb hby d21_15) rfl rfl  kst) ?_
  show OwnWk _ _ _ _ (T3.setTop (mkF m 16 #[.val (.ref a), .val (.int (Int32.ofNat I)), .val (.ref x), .val (.ref (xs.getD I 0))] [(.ref a)]))
  obtain ⟨T4, X4, e4, st4⟩ := getF X3 hx hZ hown (host := "") (Or.inl (hw _ (List.mem_of_getElem? (i := 26) rfl))) Via.refl e3 F_e (g := (mkF m 16 #[.val (.ref a), .val (.int (Int32.ofNat I)), .val (.ref x), .val (.ref (xs.getD I 0))] [(.ref a)])) rfl rfl (hb hby d21_16)
  refine own_go st4 ?_
  show OwnWk _ _ _ _ (T4.setTop (mkF m 19 #[.val (.ref a), .val (.int (Int32.ofNat I)), .val (.ref x), .val (.ref (xs.getD I 0))] [(.ref ed)]))
  refine own_go (fun tgt kst => XS.iloadN X4.here hx rfl (hb hby d21_19) rfl  kst) ?_
  show OwnWk _ _ _ _ (T4.setTop (mkF m 20 #[.val (.ref a), .val (.int (Int32.ofNat I)), .val (.ref x), .val (.ref (xs.getD I 0))] [(.int (Int32.ofNat I)), (.ref ed)]))
  refine own_go (fun tgt kst => XS.aloadN X4.here hx rfl (hb hby d21_20) rfl rfl  kst) ?_
  show OwnWk _ _ _ _ (T4.setTop (mkF m 21 #[.val (.ref a), .val (.int (Int32.ofNat I)), .val (.ref x), .val (.ref (xs.getD I 0))] [(.ref x), (.int (Int32.ofNat I)), (.ref ed)]))
  refine own_stR X4 hx hZ e4 V_e O_e I_x (g := (mkF m 21 #[.val (.ref a), .val (.int (Int32.ofNat I)), .val (.ref x), .val (.ref (xs.getD I 0))] [(.ref x), (.int (Int32.ofNat I)), (.ref ed)])) rfl rfl (hb hby d21_21) (own_n_nn (by omega)) (own_rv_in (by omega) (by omega)) (fun T5 h5 X5 e5 W5 V5 => ?_)
  have V5b : OAr Z h5 ed (.object "java/lang/Object") (own_rv (xs.set I x)) := by exact own_cast (own_rv_set (by omega) (by omega)) V5
  have N5 := Fr.snoc X5 N3 g_e
  have F6 := Exa.wr W5 E_a
  have F7 := Fld.other W5 F_s (Or.inl ne_ae)
  have F8 := Fld.other W5 F_e (Or.inl ne_ae)
  have F9 := Ins.wr W5 I_x
  have F10 := OOv.wr W5 O_e
  have Z11 := Nat.le_trans Z0 (Keep.of_wr W5).1
  have K12 := Keep.wr K0 W5 (Or.inl (List.mem_of_getElem? (i := 0) rfl))
  show OwnWk _ _ _ _ (T5.setTop (mkF m 22 #[.val (.ref a), .val (.int (Int32.ofNat I)), .val (.ref x), .val (.ref (xs.getD I 0))] []))
  refine own_go (fun tgt kst => XS.aloadN X5.here hx rfl (hb hby d21_22) rfl rfl  kst) ?_
  show OwnWk _ _ _ _ (T5.setTop (mkF m 23 #[.val (.ref a), .val (.int (Int32.ofNat I)), .val (.ref x), .val (.ref (xs.getD I 0))] [(.ref (xs.getD I 0))]))
  exact own_retA X5 hx hlk hret rfl rfl rfl (hb hby d21_23) (by decide) (by decide) (by rw [e5]; exact ⟨rfl, N5, K12, V5b⟩)
theorem pn_pn_16 : plainName "java/util/Collections" = true := by first | (simp [plainName, overriddenIn]; done) | decide +kernel
theorem pn_16 : plainFor (⟨"java/util/Collections", "swap", "(Ljava/util/List;II)V"⟩ : MethodName) = true := plainFor_of_name pn_pn_16
theorem d16_0 : decode jdk_79_method_15_code 0 = .ok (.aload_n 0, 1) := by decide +kernel
theorem d16_1 : decode jdk_79_method_15_code 1 = .ok (.astore_n 3, 1) := by decide +kernel
theorem d16_2 : decode jdk_79_method_15_code 2 = .ok (.aload_n 3, 1) := by decide +kernel
theorem d16_3 : decode jdk_79_method_15_code 3 = .ok (.iload_n 1, 1) := by decide +kernel
theorem d16_4 : decode jdk_79_method_15_code 4 = .ok (.aload_n 3, 1) := by decide +kernel
theorem d16_5 : decode jdk_79_method_15_code 5 = .ok (.iload_n 2, 1) := by decide +kernel
theorem d16_6 : decode jdk_79_method_15_code 6 = .ok (.aload_n 3, 1) := by decide +kernel
theorem d16_7 : decode jdk_79_method_15_code 7 = .ok (.iload_n 1, 1) := by decide +kernel
theorem d16_8 : decode jdk_79_method_15_code 8 = .ok (.invokeinterface 28 2, 5) := by decide +kernel
theorem d16_13 : decode jdk_79_method_15_code 13 = .ok (.invokeinterface 109 3, 5) := by decide +kernel
theorem pd_7 : parseMethodDescriptor "(ILjava/lang/Object;)Ljava/lang/Object;" = some ⟨[.int, (.object "java/lang/Object")], some (.object "java/lang/Object")⟩ := by decide +kernel
theorem d16_18 : decode jdk_79_method_15_code 18 = .ok (.invokeinterface 109 3, 5) := by decide +kernel
theorem d16_23 : decode jdk_79_method_15_code 23 = .ok (.pop, 1) := by decide +kernel
theorem d16_24 : decode jdk_79_method_15_code 24 = .ok (.return_, 1) := by decide +kernel
theorem ef_csw (m : MethodId) (x0 : Addr) (x1 : Int32) (x2 : Int32) : entryFrame m #[(.ref x0), (.int x1), (.int x2)] 4 = mkF m 0 #[.val (.ref x0), .val (.int x1), .val (.int x2), .unset] [] := by first | (simp [entryFrame, mkF, argsToLocals, Value.category]; done) | rfl
def Q_csw (Z : State) (dce cac : Addr) (ia : Nat → Addr) (a ed : Addr) (ks : List Nat) (I J nn : Nat) (h0 : Heap) (n0 : Nat) (v : Option Value) (h : Heap) (L : List Loc) : Prop := v = none ∧ Fr n0 L ∧ Keep h0 h [ed] ∧ OAr Z h ed (.object "java/lang/Object") (own_rv ((own_exch ks I J).map ia))
set_option maxRecDepth 65536 in
set_option maxHeartbeats 40000000 in
theorem csw (l : Launch) (Z : State) (a0 : Array Value) (hw : ∀ d ∈ tables_1, d.before a0 Z = true) (dce cac : Addr) (ia : Nat → Addr) (a ed : Addr) (ks : List Nat) (I J nn : Nat) (h0 : Heap) (n0 : Nat) (Z0 : n0 ≤ h0.size) (O0 : Old Z n0 h0) (S_d : Sta Z Z.heap "java/util/ArrayList" "DEFAULTCAPACITY_EMPTY_ELEMENTDATA" "[Ljava/lang/Object;" (.ref dce)) (V_d : OAr Z Z.heap dce (.object "java/lang/Object") []) (S_h : Sta Z Z.heap "java/lang/Integer$IntegerCache" "high" "I" (.int (127 : Int32))) (S_c : Sta Z Z.heap "java/lang/Integer$IntegerCache" "cache" "[Ljava/lang/Integer;" (.ref cac)) (hL : ∀ k < 4, OEl Z Z.heap cac (.object "java/lang/Integer") (128 + k) (.ref (ia k))) (hE : ∀ k < 4, Exa Z Z.heap (ia k) "java/lang/Integer") (hV : ∀ k < 4, Fld Z Z.heap (ia k) "java/lang/Integer" "value" "I" (.int (Int32.ofNat k))) (E_a : Exa Z h0 a "java/util/ArrayList") (F_s : Fld Z h0 a "java/util/ArrayList" "size" "I" (.int (Int32.ofNat nn))) (F_e : Fld Z h0 a "java/util/ArrayList" "elementData" "[Ljava/lang/Object;" (.ref ed)) (V_e : OAr Z h0 ed (.object "java/lang/Object") (own_rv (ks.map ia))) (hI : I < nn) (hJ : J < nn) (hxl : ks.length = nn) (hn : nn ≤ 4) (hk4 : ∀ k ∈ ks, k < 4) (O_e : OOv Z h0 ed "java/lang/Object") (g_e : n0 ≤ ed) (ne_ae : a ≠ ed) :
    OwnMet l (⟨"java/util/Collections", "swap", "(Ljava/util/List;II)V"⟩ : MethodName) jdk_79_method_15_code 4 none [] ({ frames := 3, cells := 0, slots := 0, locals := 44 } : Room) Z #[(.ref a), (.int (Int32.ofNat I)), (.int (Int32.ofNat J))] h0 (Q_csw Z dce cac ia a ed ks I J nn h0 n0) := by
  refine own_met pn_16 (fun p e s m below meth c s₁ hx hby hml hown hnm hret hlk hZ X0 e0 => ?_)
  have hown : s.vm.findClass "java/util/Collections" = some m.cls := hown
  have N0 := Fr.nil n0
  have K0 := Keep.refl h0 [ed]
  rw [ef_csw]
  show OwnWk _ _ _ _ (s₁.setTop (mkF m 0 #[.val (.ref a), .val (.int (Int32.ofNat I)), .val (.int (Int32.ofNat J)), .unset] []))
  refine own_go (fun tgt kst => XS.aloadN X0.here hx rfl (hb hby d16_0) rfl rfl  kst) ?_
  show OwnWk _ _ _ _ (s₁.setTop (mkF m 1 #[.val (.ref a), .val (.int (Int32.ofNat I)), .val (.int (Int32.ofNat J)), .unset] [(.ref a)]))
  refine own_go (fun tgt kst => XS.astoreN X0.here hx rfl (hb hby d16_1) rfl rfl (l' := #[.val (.ref a), .val (.int (Int32.ofNat I)), .val (.int (Int32.ofNat J)), .val (.ref a)]) rfl kst) ?_
  show OwnWk _ _ _ _ (s₁.setTop (mkF m 2 #[.val (.ref a), .val (.int (Int32.ofNat I)), .val (.int (Int32.ofNat J)), .val (.ref a)] []))
  refine own_go (fun tgt kst => XS.aloadN X0.here hx rfl (hb hby d16_2) rfl rfl  kst) ?_
  show OwnWk _ _ _ _ (s₁.setTop (mkF m 3 #[.val (.ref a), .val (.int (Int32.ofNat I)), .val (.int (Int32.ofNat J)), .val (.ref a)] [(.ref a)]))
  refine own_go (fun tgt kst => XS.iloadN X0.here hx rfl (hb hby d16_3) rfl  kst) ?_
  show OwnWk _ _ _ _ (s₁.setTop (mkF m 4 #[.val (.ref a), .val (.int (Int32.ofNat I)), .val (.int (Int32.ofNat J)), .val (.ref a)] [(.int (Int32.ofNat I)), (.ref a)]))
  refine own_go (fun tgt kst => XS.aloadN X0.here hx rfl (hb hby d16_4) rfl rfl  kst) ?_
  show OwnWk _ _ _ _ (s₁.setTop (mkF m 5 #[.val (.ref a), .val (.int (Int32.ofNat I)), .val (.int (Int32.ofNat J)), .val (.ref a)] [(.ref a), (.int (Int32.ofNat I)), (.ref a)]))
  refine own_go (fun tgt kst => XS.iloadN X0.here hx rfl (hb hby d16_5) rfl  kst) ?_
  show OwnWk _ _ _ _ (s₁.setTop (mkF m 6 #[.val (.ref a), .val (.int (Int32.ofNat I)), .val (.int (Int32.ofNat J)), .val (.ref a)] [(.int (Int32.ofNat J)), (.ref a), (.int (Int32.ofNat I)), (.ref a)]))
  refine own_go (fun tgt kst => XS.aloadN X0.here hx rfl (hb hby d16_6) rfl rfl  kst) ?_
  show OwnWk _ _ _ _ (s₁.setTop (mkF m 7 #[.val (.ref a), .val (.int (Int32.ofNat I)), .val (.int (Int32.ofNat J)), .val (.ref a)] [(.ref a), (.int (Int32.ofNat J)), (.ref a), (.int (Int32.ofNat I)), (.ref a)]))
  refine own_go (fun tgt kst => XS.iloadN X0.here hx rfl (hb hby d16_7) rfl  kst) ?_
  show OwnWk _ _ _ _ (s₁.setTop (mkF m 8 #[.val (.ref a), .val (.int (Int32.ofNat I)), .val (.int (Int32.ofNat J)), .val (.ref a)] [(.int (Int32.ofNat I)), (.ref a), (.int (Int32.ofNat J)), (.ref a), (.int (Int32.ofNat I)), (.ref a)]))
  refine own_callI X0 hx hZ (y := (⟨"java/util/List", "get", "(I)Ljava/lang/Object;"⟩ : MethodName)) (z := (⟨"java/util/ArrayList", "get", "(I)Ljava/lang/Object;"⟩ : MethodName)) hown (hw _ (List.mem_of_getElem? (i := 107) rfl)) (hw _ (List.mem_of_getElem? (i := 108) rfl)) (mvT hZ (hw _ (List.mem_of_getElem? (i := 109) rfl))) (hw _ (List.mem_of_getElem? (i := 110) rfl)) (hw _ (List.mem_of_getElem? (i := 111) rfl)) (hw _ (List.mem_of_getElem? (i := 112) rfl)) (hw _ (List.mem_of_getElem? (i := 113) rfl)) (hw _ (List.mem_of_getElem? (i := 87) rfl)) (hw _ (List.mem_of_getElem? (i := 4) rfl)) (hw _ (List.mem_of_getElem? (i := 114) rfl)) (by decide) (a := a) E_a (argsL := [(.int (Int32.ofNat I))]) (rest := [(.int (Int32.ofNat J)), (.ref a), (.int (Int32.ofNat I)), (.ref a)]) (rm := ({ frames := 2, cells := 0, slots := 0, locals := 27 } : Room)) (h := h0) (rm17 l Z a0 hw a ed (ks.map ia) I nn h0 n0 Z0 E_a F_s F_e V_e hI (by simp [hxl]) hn) e0 (W := 4) (by decide) (by decide) (by decide) (by decide) (g := (mkF m 8 #[.val (.ref a), .val (.int (Int32.ofNat I)), .val (.int (Int32.ofNat J)), .val (.ref a)] [(.int (Int32.ofNat I)), (.ref a), (.int (Int32.ofNat J)), (.ref a), (.int (Int32.ofNat I)), (.ref a)])) rfl (by rw [hml]; rfl) (lenOf pd_6 rfl) rfl (by show 2 * 0 + _ ≤ _; exact Nat.le_of_eq rfl) (hb hby d16_8) (fun v1 T1 h1 L1 X1 e1 hQ1 => ?_)
  obtain ⟨rfl, Nq1, q1⟩ := hQ1
  have N1 := Fr.app N0 Nq1
  rw [q1] at e1
  show OwnWk _ _ _ _ (T1.setTop (mkF m 13 #[.val (.ref a), .val (.int (Int32.ofNat I)), .val (.int (Int32.ofNat J)), .val (.ref a)] [(.ref ((ks.map ia).getD I 0)), (.int (Int32.ofNat J)), (.ref a), (.int (Int32.ofNat I)), (.ref a)]))
  rw [own_map_getD (by omega : I < ks.length)]
  show OwnWk _ _ _ _ (T1.setTop (mkF m 13 #[.val (.ref a), .val (.int (Int32.ofNat I)), .val (.int (Int32.ofNat J)), .val (.ref a)] [(.ref (ia (ks.getD I 0))), (.int (Int32.ofNat J)), (.ref a), (.int (Int32.ofNat I)), (.ref a)]))
  refine own_callI X1 hx hZ (y := (⟨"java/util/List", "set", "(ILjava/lang/Object;)Ljava/lang/Object;"⟩ : MethodName)) (z := (⟨"java/util/ArrayList", "set", "(ILjava/lang/Object;)Ljava/lang/Object;"⟩ : MethodName)) hown (hw _ (List.mem_of_getElem? (i := 128) rfl)) (hw _ (List.mem_of_getElem? (i := 129) rfl)) (mvT hZ (hw _ (List.mem_of_getElem? (i := 130) rfl))) (hw _ (List.mem_of_getElem? (i := 131) rfl)) (hw _ (List.mem_of_getElem? (i := 132) rfl)) (hw _ (List.mem_of_getElem? (i := 133) rfl)) (hw _ (List.mem_of_getElem? (i := 134) rfl)) (hw _ (List.mem_of_getElem? (i := 87) rfl)) (hw _ (List.mem_of_getElem? (i := 4) rfl)) (hw _ (List.mem_of_getElem? (i := 135) rfl)) (by decide) (a := a) E_a (argsL := [(.int (Int32.ofNat J)), (.ref (ia (ks.getD I 0)))]) (rest := [(.int (Int32.ofNat I)), (.ref a)]) (rm := ({ frames := 2, cells := 0, slots := 0, locals := 27 } : Room)) (h := h0) (rm21 l Z a0 hw a ed (ia (ks.getD I 0)) (ks.map ia) J nn h0 n0 Z0 E_a F_s F_e V_e hJ (by simp [hxl]) hn (Ins.of_exa (Exa.ext O0.2 (own_ia_E hE hk4 (by omega : I < ks.length))) (hw _ (List.mem_of_getElem? (i := 65) rfl))) O_e g_e ne_ae) e1 (W := 2) (by decide) (by decide) (by decide) (by decide) (g := (mkF m 13 #[.val (.ref a), .val (.int (Int32.ofNat I)), .val (.int (Int32.ofNat J)), .val (.ref a)] [(.ref (ia (ks.getD I 0))), (.int (Int32.ofNat J)), (.ref a), (.int (Int32.ofNat I)), (.ref a)])) rfl (by rw [hml]; rfl) (lenOf pd_7 rfl) rfl (by show 2 * 0 + _ ≤ _; exact Nat.le_of_eq rfl) (hb hby d16_13) (fun v2 T2 h2 L2 X2 e2 hQ2 => ?_)
  obtain ⟨rfl, Nq2, Kq2, Vq2⟩ := hQ2
  have N2 := Fr.app N1 Nq2
  have F3 := Old.keep O0 Kq2 (allS g_e all0)
  have F4 := Exa.keep E_a Kq2
  have F5 := Fld.keep F_s Kq2 (ninS ne_ae nin0)
  have F6 := Fld.keep F_e Kq2 (ninS ne_ae nin0)
  have F7 := OOv.keep O_e Kq2
  have Z8 := Nat.le_trans Z0 Kq2.1
  have K9 := Keep.trans K0 Kq2 (allS (Or.inl (List.mem_of_getElem? (i := 0) rfl)) all0)
  show OwnWk _ _ _ _ (T2.setTop (mkF m 18 #[.val (.ref a), .val (.int (Int32.ofNat I)), .val (.int (Int32.ofNat J)), .val (.ref a)] [(.ref ((ks.map ia).getD J 0)), (.int (Int32.ofNat I)), (.ref a)]))
  rw [own_map_getD (by omega : J < ks.length)]
  show OwnWk _ _ _ _ (T2.setTop (mkF m 18 #[.val (.ref a), .val (.int (Int32.ofNat I)), .val (.int (Int32.ofNat J)), .val (.ref a)] [(.ref (ia (ks.getD J 0))), (.int (Int32.ofNat I)), (.ref a)]))
  refine own_callI X2 hx hZ (y := (⟨"java/util/List", "set", "(ILjava/lang/Object;)Ljava/lang/Object;"⟩ : MethodName)) (z := (⟨"java/util/ArrayList", "set", "(ILjava/lang/Object;)Ljava/lang/Object;"⟩ : MethodName)) hown (hw _ (List.mem_of_getElem? (i := 128) rfl)) (hw _ (List.mem_of_getElem? (i := 129) rfl)) (mvT hZ (hw _ (List.mem_of_getElem? (i := 130) rfl))) (hw _ (List.mem_of_getElem? (i := 131) rfl)) (hw _ (List.mem_of_getElem? (i := 132) rfl)) (hw _ (List.mem_of_getElem? (i := 133) rfl)) (hw _ (List.mem_of_getElem? (i := 134) rfl)) (hw _ (List.mem_of_getElem? (i := 87) rfl)) (hw _ (List.mem_of_getElem? (i := 4) rfl)) (hw _ (List.mem_of_getElem? (i := 135) rfl)) (by decide) (a := a) F4 (argsL := [(.int (Int32.ofNat I)), (.ref (ia (ks.getD J 0)))]) (rest := []) (rm := ({ frames := 2, cells := 0, slots := 0, locals := 27 } : Room)) (h := h2) (rm21 l Z a0 hw a ed (ia (ks.getD J 0)) ((ks.map ia).set J (ia (ks.getD I 0))) I nn h2 n0 Z8 F4 F5 F6 Vq2 hI (by simp [hxl]) hn (Ins.of_exa (Exa.ext F3.2 (own_ia_E hE hk4 (by omega : J < ks.length))) (hw _ (List.mem_of_getElem? (i := 65) rfl))) F7 g_e ne_ae) e2 (W := 0) (by decide) (by decide) (by decide) (by decide) (g := (mkF m 18 #[.val (.ref a), .val (.int (Int32.ofNat I)), .val (.int (Int32.ofNat J)), .val (.ref a)] [(.ref (ia (ks.getD J 0))), (.int (Int32.ofNat I)), (.ref a)])) rfl (by rw [hml]; rfl) (lenOf pd_7 rfl) rfl (by show 2 * 0 + _ ≤ _; exact Nat.le_of_eq rfl) (hb hby d16_18) (fun v10 T10 h10 L10 X10 e10 hQ10 => ?_)
  obtain ⟨rfl, Nq10, Kq10, Vq10⟩ := hQ10
  have N10 := Fr.app N2 Nq10
  have F11 := Old.keep F3 Kq10 (allS g_e all0)
  have F12 := Exa.keep F4 Kq10
  have F13 := Fld.keep F5 Kq10 (ninS ne_ae nin0)
  have F14 := Fld.keep F6 Kq10 (ninS ne_ae nin0)
  have F15 := OOv.keep F7 Kq10
  have Z16 := Nat.le_trans Z8 Kq10.1
  have K17 := Keep.trans K9 Kq10 (allS (Or.inl (List.mem_of_getElem? (i := 0) rfl)) all0)
  show OwnWk _ _ _ _ (T10.setTop (mkF m 23 #[.val (.ref a), .val (.int (Int32.ofNat I)), .val (.int (Int32.ofNat J)), .val (.ref a)] [(.ref (((ks.map ia).set J (ia (ks.getD I 0))).getD I 0))]))
  refine own_go (fun tgt kst => XS.pop X10.here hx rfl (hb hby d16_23) rfl rfl kst) ?_
  show OwnWk _ _ _ _ (T10.setTop (mkF m 24 #[.val (.ref a), .val (.int (Int32.ofNat I)), .val (.int (Int32.ofNat J)), .val (.ref a)] []))
  exact own_retV X10 hx hlk hret (hb hby d16_24) (by decide) (by decide) (by rw [e10]; exact ⟨rfl, N10, K17, own_cast (by rw [own_exch_map]) Vq10⟩)
theorem pn_pn_11 : plainName "com/example/spikeline/spikeline/core/SeededRandom" = true := by first | (simp [plainName, overriddenIn]; done) | decide +kernel
theorem pn_11 : plainFor (⟨"com/example/spikeline/spikeline/core/SeededRandom", "<init>", "(J)V"⟩ : MethodName) = true := plainFor_of_name pn_pn_11
theorem d11_0 : decode prog_8_method_1_code 0 = .ok (.aload_n 0, 1) := by decide +kernel
theorem d11_1 : decode prog_8_method_1_code 1 = .ok (.invokespecial 1, 3) := by decide +kernel
theorem d11_4 : decode prog_8_method_1_code 4 = .ok (.aload_n 0, 1) := by decide +kernel
theorem d11_5 : decode prog_8_method_1_code 5 = .ok (.lload_n 1, 1) := by decide +kernel
theorem d11_6 : decode prog_8_method_1_code 6 = .ok (.putfield 7, 3) := by decide +kernel
theorem d11_9 : decode prog_8_method_1_code 9 = .ok (.return_, 1) := by decide +kernel
theorem ef_rm11 (m : MethodId) (x0 : Addr) (x1 : Int64) : entryFrame m #[(.ref x0), (.long x1)] 3 = mkF m 0 #[.val (.ref x0), .val (.long x1), .second] [] := by first | (simp [entryFrame, mkF, argsToLocals, Value.category]; done) | rfl
def Q_rm11 (Z : State) (a : Addr) (q : Int64) (h0 : Heap) (n0 : Nat) (v : Option Value) (h : Heap) (L : List Loc) : Prop := v = none ∧ Fr n0 L ∧ Keep h0 h [a] ∧ Fld Z h a "com/example/spikeline/spikeline/core/SeededRandom" "state" "J" (.long q)
set_option maxRecDepth 65536 in
set_option maxHeartbeats 40000000 in
theorem rm11 (l : Launch) (Z : State) (a0 : Array Value) (hw : ∀ d ∈ tables_1, d.before a0 Z = true) (a : Addr) (q : Int64) (h0 : Heap) (n0 : Nat) (Z0 : n0 ≤ h0.size) (F_a : Fld Z h0 a "com/example/spikeline/spikeline/core/SeededRandom" "state" "J" (.long 0)) (E_a : Exa Z h0 a "com/example/spikeline/spikeline/core/SeededRandom") (g_a : n0 ≤ a) :
    OwnMet l (⟨"com/example/spikeline/spikeline/core/SeededRandom", "<init>", "(J)V"⟩ : MethodName) prog_8_method_1_code 3 none [] ({ frames := 1, cells := 0, slots := 0, locals := 12 } : Room) Z #[(.ref a), (.long q)] h0 (Q_rm11 Z a q h0 n0) := by
  refine own_met pn_11 (fun p e s m below meth c s₁ hx hby hml hown hnm hret hlk hZ X0 e0 => ?_)
  have hown : s.vm.findClass "com/example/spikeline/spikeline/core/SeededRandom" = some m.cls := hown
  have N0 := Fr.nil n0
  have K0 := Keep.refl h0 [a]
  rw [ef_rm11]
  show OwnWk _ _ _ _ (s₁.setTop (mkF m 0 #[.val (.ref a), .val (.long q), .second] []))
  refine own_go (fun tgt kst => XS.aloadN X0.here hx rfl (hb hby d11_0) rfl rfl  kst) ?_
  show OwnWk _ _ _ _ (s₁.setTop (mkF m 1 #[.val (.ref a), .val (.long q), .second] [(.ref a)]))
  obtain ⟨T1, X1, e1, st1⟩ := initO X0 hx hZ hown (hw _ (List.mem_of_getElem? (i := 72) rfl)) (hw _ (List.mem_of_getElem? (i := 21) rfl)) (hw _ (List.mem_of_getElem? (i := 22) rfl)) e0 (g := (mkF m 1 #[.val (.ref a), .val (.long q), .second] [(.ref a)])) rfl (by rw [hml]; rfl) rfl (hb hby d11_1) (by decide) (W := 0) (by show 2 * 0 + _ ≤ _; exact Nat.le_of_eq rfl) (by decide)
  refine own_go st1 ?_
  show OwnWk _ _ _ _ (T1.setTop (mkF m 4 #[.val (.ref a), .val (.long q), .second] []))
  refine own_go (fun tgt kst => XS.aloadN X1.here hx rfl (hb hby d11_4) rfl rfl  kst) ?_
  show OwnWk _ _ _ _ (T1.setTop (mkF m 5 #[.val (.ref a), .val (.long q), .second] [(.ref a)]))
  refine own_go (fun tgt kst => XS.lloadN X1.here hx rfl (hb hby d11_5) rfl  kst) ?_
  show OwnWk _ _ _ _ (T1.setTop (mkF m 6 #[.val (.ref a), .val (.long q), .second] [(.long q), (.ref a)]))
  obtain ⟨T2, h2, X2, e2, W2, st2⟩ := putF X1 hx hZ hown (host := "") (Or.inl (hw _ (List.mem_of_getElem? (i := 73) rfl))) Via.refl e1 F_a E_a (Or.inl (hw _ (List.mem_of_getElem? (i := 74) rfl))) (hw _ (List.mem_of_getElem? (i := 67) rfl)) (v := (.long q)) (ty := .long) (by decide) rfl rfl (g := (mkF m 6 #[.val (.ref a), .val (.long q), .second] [(.long q), (.ref a)])) rfl rfl (hb hby d11_6)
  refine own_go st2 ?_
  have N2 := Fr.snoc X2 N0 g_a
  have Fw2 := Fld.same W2 F_a
  have F3 := Exa.wr W2 E_a
  have Z4 := Nat.le_trans Z0 (Keep.of_wr W2).1
  have K5 := Keep.wr K0 W2 (Or.inl (List.mem_of_getElem? (i := 0) rfl))
  show OwnWk _ _ _ _ (T2.setTop (mkF m 9 #[.val (.ref a), .val (.long q), .second] []))
  exact own_retV X2 hx hlk hret (hb hby d11_9) (by decide) (by decide) (by rw [e2]; exact ⟨rfl, N2, K5, Fw2⟩)
theorem pn_pn_15 : plainName "com/example/spikeline/spikeline/core/SeededRandom" = true := by first | (simp [plainName, overriddenIn]; done) | decide +kernel
theorem pn_15 : plainFor (⟨"com/example/spikeline/spikeline/core/SeededRandom", "nextLong", "()J"⟩ : MethodName) = true := plainFor_of_name pn_pn_15
theorem d15_0 : decode prog_8_method_3_code 0 = .ok (.aload_n 0, 1) := by decide +kernel
theorem d15_1 : decode prog_8_method_3_code 1 = .ok (.dup, 1) := by decide +kernel
theorem d15_2 : decode prog_8_method_3_code 2 = .ok (.getfield 7, 3) := by decide +kernel
theorem d15_5 : decode prog_8_method_3_code 5 = .ok (.ldc2_w 13, 3) := by decide +kernel
theorem d15_8 : decode prog_8_method_3_code 8 = .ok (.ladd, 1) := by decide +kernel
theorem d15_9 : decode prog_8_method_3_code 9 = .ok (.putfield 7, 3) := by decide +kernel
theorem d15_12 : decode prog_8_method_3_code 12 = .ok (.aload_n 0, 1) := by decide +kernel
theorem d15_13 : decode prog_8_method_3_code 13 = .ok (.getfield 7, 3) := by decide +kernel
theorem d15_16 : decode prog_8_method_3_code 16 = .ok (.lstore_n 1, 1) := by decide +kernel
theorem d15_17 : decode prog_8_method_3_code 17 = .ok (.lload_n 1, 1) := by decide +kernel
theorem d15_18 : decode prog_8_method_3_code 18 = .ok (.lload_n 1, 1) := by decide +kernel
theorem d15_19 : decode prog_8_method_3_code 19 = .ok (.bipush 30, 2) := by decide +kernel
theorem d15_21 : decode prog_8_method_3_code 21 = .ok (.lushr, 1) := by decide +kernel
theorem d15_22 : decode prog_8_method_3_code 22 = .ok (.lxor, 1) := by decide +kernel
theorem d15_23 : decode prog_8_method_3_code 23 = .ok (.ldc2_w 15, 3) := by decide +kernel
theorem d15_26 : decode prog_8_method_3_code 26 = .ok (.lmul, 1) := by decide +kernel
theorem d15_27 : decode prog_8_method_3_code 27 = .ok (.lstore_n 1, 1) := by decide +kernel
theorem d15_28 : decode prog_8_method_3_code 28 = .ok (.lload_n 1, 1) := by decide +kernel
theorem d15_29 : decode prog_8_method_3_code 29 = .ok (.lload_n 1, 1) := by decide +kernel
theorem d15_30 : decode prog_8_method_3_code 30 = .ok (.bipush 27, 2) := by decide +kernel
theorem d15_32 : decode prog_8_method_3_code 32 = .ok (.lushr, 1) := by decide +kernel
theorem d15_33 : decode prog_8_method_3_code 33 = .ok (.lxor, 1) := by decide +kernel
theorem d15_34 : decode prog_8_method_3_code 34 = .ok (.ldc2_w 17, 3) := by decide +kernel
theorem d15_37 : decode prog_8_method_3_code 37 = .ok (.lmul, 1) := by decide +kernel
theorem d15_38 : decode prog_8_method_3_code 38 = .ok (.lstore_n 1, 1) := by decide +kernel
theorem d15_39 : decode prog_8_method_3_code 39 = .ok (.lload_n 1, 1) := by decide +kernel
theorem d15_40 : decode prog_8_method_3_code 40 = .ok (.lload_n 1, 1) := by decide +kernel
theorem d15_41 : decode prog_8_method_3_code 41 = .ok (.bipush 31, 2) := by decide +kernel
theorem d15_43 : decode prog_8_method_3_code 43 = .ok (.lushr, 1) := by decide +kernel
theorem d15_44 : decode prog_8_method_3_code 44 = .ok (.lxor, 1) := by decide +kernel
theorem d15_45 : decode prog_8_method_3_code 45 = .ok (.lreturn, 1) := by decide +kernel
theorem ef_rm15 (m : MethodId) (x0 : Addr) : entryFrame m #[(.ref x0)] 3 = mkF m 0 #[.val (.ref x0), .unset, .unset] [] := by first | (simp [entryFrame, mkF, argsToLocals, Value.category]; done) | rfl
def Q_rm15 (Z : State) (a : Addr) (q : Int64) (h0 : Heap) (n0 : Nat) (v : Option Value) (h : Heap) (L : List Loc) : Prop := v = some (.long (own_mix (q + (-7046029254386353131 : Int64)))) ∧ Fr n0 L ∧ Keep h0 h [a] ∧ Fld Z h a "com/example/spikeline/spikeline/core/SeededRandom" "state" "J" (.long (q + (-7046029254386353131 : Int64)))
set_option maxRecDepth 65536 in
set_option maxHeartbeats 40000000 in
theorem rm15 (l : Launch) (Z : State) (a0 : Array Value) (hw : ∀ d ∈ tables_1, d.before a0 Z = true) (a : Addr) (q : Int64) (h0 : Heap) (n0 : Nat) (Z0 : n0 ≤ h0.size) (F_a : Fld Z h0 a "com/example/spikeline/spikeline/core/SeededRandom" "state" "J" (.long q)) (E_a : Exa Z h0 a "com/example/spikeline/spikeline/core/SeededRandom") (g_a : n0 ≤ a) :
    OwnMet l (⟨"com/example/spikeline/spikeline/core/SeededRandom", "nextLong", "()J"⟩ : MethodName) prog_8_method_3_code 3 (some .long) [] ({ frames := 0, cells := 0, slots := 0, locals := 0 } : Room) Z #[(.ref a)] h0 (Q_rm15 Z a q h0 n0) := by
  refine own_met pn_15 (fun p e s m below meth c s₁ hx hby hml hown hnm hret hlk hZ X0 e0 => ?_)
  have hown : s.vm.findClass "com/example/spikeline/spikeline/core/SeededRandom" = some m.cls := hown
  have N0 := Fr.nil n0
  have K0 := Keep.refl h0 [a]
  rw [ef_rm15]
  show OwnWk _ _ _ _ (s₁.setTop (mkF m 0 #[.val (.ref a), .unset, .unset] []))
  refine own_go (fun tgt kst => XS.aloadN X0.here hx rfl (hb hby d15_0) rfl rfl  kst) ?_
  show OwnWk _ _ _ _ (s₁.setTop (mkF m 1 #[.val (.ref a), .unset, .unset] [(.ref a)]))
  refine own_go (fun tgt kst => XS.dup X0.here hx rfl (hb hby d15_1) rfl rfl kst) ?_
  show OwnWk _ _ _ _ (s₁.setTop (mkF m 2 #[.val (.ref a), .unset, .unset] [(.ref a), (.ref a)]))
  obtain ⟨T1, X1, e1, st1⟩ := getF X0 hx hZ hown (host := "") (Or.inl (hw _ (List.mem_of_getElem? (i := 73) rfl))) Via.refl e0 F_a (g := (mkF m 2 #[.val (.ref a), .unset, .unset] [(.ref a), (.ref a)])) rfl rfl (hb hby d15_2)
  refine own_go st1 ?_
  show OwnWk _ _ _ _ (T1.setTop (mkF m 5 #[.val (.ref a), .unset, .unset] [(.long q), (.ref a)]))
  refine own_go (X1.ldc2Long hx hown (mvT hZ (hw _ (List.mem_of_getElem? (i := 99) rfl))) (g := (mkF m 5 #[.val (.ref a), .unset, .unset] [(.long q), (.ref a)])) rfl (hb hby d15_5)) ?_
  show OwnWk _ _ _ _ (T1.setTop (mkF m 8 #[.val (.ref a), .unset, .unset] [(.long (-7046029254386353131 : Int64)), (.long q), (.ref a)]))
  refine own_go (fun tgt kst => XS.ladd X1.here hx rfl (hb hby d15_8) rfl kst) ?_
  show OwnWk _ _ _ _ (T1.setTop (mkF m 9 #[.val (.ref a), .unset, .unset] [(.long (q + (-7046029254386353131 : Int64))), (.ref a)]))
  obtain ⟨T2, h2, X2, e2, W2, st2⟩ := putF X1 hx hZ hown (host := "") (Or.inl (hw _ (List.mem_of_getElem? (i := 73) rfl))) Via.refl e1 F_a E_a (Or.inl (hw _ (List.mem_of_getElem? (i := 74) rfl))) (hw _ (List.mem_of_getElem? (i := 67) rfl)) (v := (.long (q + (-7046029254386353131 : Int64)))) (ty := .long) (by decide) rfl rfl (g := (mkF m 9 #[.val (.ref a), .unset, .unset] [(.long (q + (-7046029254386353131 : Int64))), (.ref a)])) rfl rfl (hb hby d15_9)
  refine own_go st2 ?_
  have N2 := Fr.snoc X2 N0 g_a
  have Fw2 := Fld.same W2 F_a
  have F3 := Exa.wr W2 E_a
  have Z4 := Nat.le_trans Z0 (Keep.of_wr W2).1
  have K5 := Keep.wr K0 W2 (Or.inl (List.mem_of_getElem? (i := 0) rfl))
  show OwnWk _ _ _ _ (T2.setTop (mkF m 12 #[.val (.ref a), .unset, .unset] []))
  refine own_go (fun tgt kst => XS.aloadN X2.here hx rfl (hb hby d15_12) rfl rfl  kst) ?_
  show OwnWk _ _ _ _ (T2.setTop (mkF m 13 #[.val (.ref a), .unset, .unset] [(.ref a)]))
  obtain ⟨T6, X6, e6, st6⟩ := getF X2 hx hZ hown (host := "") (Or.inl (hw _ (List.mem_of_getElem? (i := 73) rfl))) Via.refl e2 Fw2 (g := (mkF m 13 #[.val (.ref a), .unset, .unset] [(.ref a)])) rfl rfl (hb hby d15_13)
  refine own_go st6 ?_
  show OwnWk _ _ _ _ (T6.setTop (mkF m 16 #[.val (.ref a), .unset, .unset] [(.long (q + (-7046029254386353131 : Int64)))]))
  refine own_go (fun tgt kst => XS.lstoreN X6.here hx rfl (hb hby d15_16) rfl (l' := #[.val (.ref a), .val (.long (q + (-7046029254386353131 : Int64))), .second]) rfl kst) ?_
  show OwnWk _ _ _ _ (T6.setTop (mkF m 17 #[.val (.ref a), .val (.long (q + (-7046029254386353131 : Int64))), .second] []))
  refine own_go (fun tgt kst => XS.lloadN X6.here hx rfl (hb hby d15_17) rfl  kst) ?_
  show OwnWk _ _ _ _ (T6.setTop (mkF m 18 #[.val (.ref a), .val (.long (q + (-7046029254386353131 : Int64))), .second] [(.long (q + (-7046029254386353131 : Int64)))]))
  refine own_go (fun tgt kst => XS.lloadN X6.here hx rfl (hb hby d15_18) rfl  kst) ?_
  show OwnWk _ _ _ _ (T6.setTop (mkF m 19 #[.val (.ref a), .val (.long (q + (-7046029254386353131 : Int64))), .second] [(.long (q + (-7046029254386353131 : Int64))), (.long (q + (-7046029254386353131 : Int64)))]))
  refine own_go (fun tgt kst => XS.bipush X6.here hx rfl (hb hby d15_19) kst) ?_
  show OwnWk _ _ _ _ (T6.setTop (mkF m 21 #[.val (.ref a), .val (.long (q + (-7046029254386353131 : Int64))), .second] [(.int (30 : Int32)), (.long (q + (-7046029254386353131 : Int64))), (.long (q + (-7046029254386353131 : Int64)))]))
  refine own_go (fun tgt kst => XS.lushr X6.here hx rfl (hb hby d15_21) rfl kst) ?_
  show OwnWk _ _ _ _ (T6.setTop (mkF m 22 #[.val (.ref a), .val (.long (q + (-7046029254386353131 : Int64))), .second] [(.long (((q + (-7046029254386353131 : Int64)).toUInt64 >>> ((30 : Int32) &&& 0x3f).toInt64.toUInt64).toInt64)), (.long (q + (-7046029254386353131 : Int64)))]))
  refine own_go (fun tgt kst => XS.lxor X6.here hx rfl (hb hby d15_22) rfl kst) ?_
  show OwnWk _ _ _ _ (T6.setTop (mkF m 23 #[.val (.ref a), .val (.long (q + (-7046029254386353131 : Int64))), .second] [(.long ((q + (-7046029254386353131 : Int64)) ^^^ (((q + (-7046029254386353131 : Int64)).toUInt64 >>> ((30 : Int32) &&& 0x3f).toInt64.toUInt64).toInt64)))]))
  refine own_go (X6.ldc2Long hx hown (mvT hZ (hw _ (List.mem_of_getElem? (i := 100) rfl))) (g := (mkF m 23 #[.val (.ref a), .val (.long (q + (-7046029254386353131 : Int64))), .second] [(.long ((q + (-7046029254386353131 : Int64)) ^^^ (((q + (-7046029254386353131 : Int64)).toUInt64 >>> ((30 : Int32) &&& 0x3f).toInt64.toUInt64).toInt64)))])) rfl (hb hby d15_23)) ?_
  show OwnWk _ _ _ _ (T6.setTop (mkF m 26 #[.val (.ref a), .val (.long (q + (-7046029254386353131 : Int64))), .second] [(.long (-4658895280553007687 : Int64)), (.long ((q + (-7046029254386353131 : Int64)) ^^^ (((q + (-7046029254386353131 : Int64)).toUInt64 >>> ((30 : Int32) &&& 0x3f).toInt64.toUInt64).toInt64)))]))
  refine own_go (fun tgt kst => XS.lmul X6.here hx rfl (hb hby d15_26) rfl kst) ?_
  show OwnWk _ _ _ _ (T6.setTop (mkF m 27 #[.val (.ref a), .val (.long (q + (-7046029254386353131 : Int64))), .second] [(.long (((q + (-7046029254386353131 : Int64)) ^^^ (((q + (-7046029254386353131 : Int64)).toUInt64 >>> ((30 : Int32) &&& 0x3f).toInt64.toUInt64).toInt64)) * (-4658895280553007687 : Int64)))]))
  refine own_go (fun tgt kst => XS.lstoreN X6.here hx rfl (hb hby d15_27) rfl (l' := #[.val (.ref a), .val (.long (((q + (-7046029254386353131 : Int64)) ^^^ (((q + (-7046029254386353131 : Int64)).toUInt64 >>> ((30 : Int32) &&& 0x3f).toInt64.toUInt64).toInt64)) * (-4658895280553007687 : Int64))), .second]) rfl kst) ?_
  show OwnWk _ _ _ _ (T6.setTop (mkF m 28 #[.val (.ref a), .val (.long (((q + (-7046029254386353131 : Int64)) ^^^ (((q + (-7046029254386353131 : Int64)).toUInt64 >>> ((30 : Int32) &&& 0x3f).toInt64.toUInt64).toInt64)) * (-4658895280553007687 : Int64))), .second] []))
  refine own_go (fun tgt kst => XS.lloadN X6.here hx rfl (hb hby d15_28) rfl  kst) ?_
  show OwnWk _ _ _ _ (T6.setTop (mkF m 29 #[.val (.ref a), .val (.long (((q + (-7046029254386353131 : Int64)) ^^^ (((q + (-7046029254386353131 : Int64)).toUInt64 >>> ((30 : Int32) &&& 0x3f).toInt64.toUInt64).toInt64)) * (-4658895280553007687 : Int64))), .second] [(.long (((q + (-7046029254386353131 : Int64)) ^^^ (((q + (-7046029254386353131 : Int64)).toUInt64 >>> ((30 : Int32) &&& 0x3f).toInt64.toUInt64).toInt64)) * (-4658895280553007687 : Int64)))]))
  refine own_go (fun tgt kst => XS.lloadN X6.here hx rfl (hb hby d15_29) rfl  kst) ?_
  show OwnWk _ _ _ _ (T6.setTop (mkF m 30 #[.val (.ref a), .val (.long (((q + (-7046029254386353131 : Int64)) ^^^ (((q + (-7046029254386353131 : Int64)).toUInt64 >>> ((30 : Int32) &&& 0x3f).toInt64.toUInt64).toInt64)) * (-4658895280553007687 : Int64))), .second] [(.long (((q + (-7046029254386353131 : Int64)) ^^^ (((q + (-7046029254386353131 : Int64)).toUInt64 >>> ((30 : Int32) &&& 0x3f).toInt64.toUInt64).toInt64)) * (-4658895280553007687 : Int64))), (.long (((q + (-7046029254386353131 : Int64)) ^^^ (((q + (-7046029254386353131 : Int64)).toUInt64 >>> ((30 : Int32) &&& 0x3f).toInt64.toUInt64).toInt64)) * (-4658895280553007687 : Int64)))]))
  refine own_go (fun tgt kst => XS.bipush X6.here hx rfl (hb hby d15_30) kst) ?_
  show OwnWk _ _ _ _ (T6.setTop (mkF m 32 #[.val (.ref a), .val (.long (((q + (-7046029254386353131 : Int64)) ^^^ (((q + (-7046029254386353131 : Int64)).toUInt64 >>> ((30 : Int32) &&& 0x3f).toInt64.toUInt64).toInt64)) * (-4658895280553007687 : Int64))), .second] [(.int (27 : Int32)), (.long (((q + (-7046029254386353131 : Int64)) ^^^ (((q + (-7046029254386353131 : Int64)).toUInt64 >>> ((30 : Int32) &&& 0x3f).toInt64.toUInt64).toInt64)) * (-4658895280553007687 : Int64))), (.long (((q + (-7046029254386353131 : Int64)) ^^^ (((q + (-7046029254386353131 : Int64)).toUInt64 >>> ((30 : Int32) &&& 0x3f).toInt64.toUInt64).toInt64)) * (-4658895280553007687 : Int64)))]))
  refine own_go (fun tgt kst => XS.lushr X6.here hx rfl (hb hby d15_32) rfl kst) ?_
  show OwnWk _ _ _ _ (T6.setTop (mkF m 33 #[.val (.ref a), .val (.long (((q + (-7046029254386353131 : Int64)) ^^^ (((q + (-7046029254386353131 : Int64)).toUInt64 >>> ((30 : Int32) &&& 0x3f).toInt64.toUInt64).toInt64)) * (-4658895280553007687 : Int64))), .second] [(.long (((((q + (-7046029254386353131 : Int64)) ^^^ (((q + (-7046029254386353131 : Int64)).toUInt64 >>> ((30 : Int32) &&& 0x3f).toInt64.toUInt64).toInt64)) * (-4658895280553007687 : Int64)).toUInt64 >>> ((27 : Int32) &&& 0x3f).toInt64.toUInt64).toInt64)), (.long (((q + (-7046029254386353131 : Int64)) ^^^ (((q + (-7046029254386353131 : Int64)).toUInt64 >>> ((30 : Int32) &&& 0x3f).toInt64.toUInt64).toInt64)) * (-4658895280553007687 : Int64)))]))
  refine own_go (fun tgt kst => XS.lxor X6.here hx rfl (hb hby d15_33) rfl kst) ?_
  show OwnWk _ _ _ _ (T6.setTop (mkF m 34 #[.val (.ref a), .val (.long (((q + (-7046029254386353131 : Int64)) ^^^ (((q + (-7046029254386353131 : Int64)).toUInt64 >>> ((30 : Int32) &&& 0x3f).toInt64.toUInt64).toInt64)) * (-4658895280553007687 : Int64))), .second] [(.long ((((q + (-7046029254386353131 : Int64)) ^^^ (((q + (-7046029254386353131 : Int64)).toUInt64 >>> ((30 : Int32) &&& 0x3f).toInt64.toUInt64).toInt64)) * (-4658895280553007687 : Int64)) ^^^ (((((q + (-7046029254386353131 : Int64)) ^^^ (((q + (-7046029254386353131 : Int64)).toUInt64 >>> ((30 : Int32) &&& 0x3f).toInt64.toUInt64).toInt64)) * (-4658895280553007687 : Int64)).toUInt64 >>> ((27 : Int32) &&& 0x3f).toInt64.toUInt64).toInt64)))]))
  refine own_go (X6.ldc2Long hx hown (mvT hZ (hw _ (List.mem_of_getElem? (i := 101) rfl))) (g := (mkF m 34 #[.val (.ref a), .val (.long (((q + (-7046029254386353131 : Int64)) ^^^ (((q + (-7046029254386353131 : Int64)).toUInt64 >>> ((30 : Int32) &&& 0x3f).toInt64.toUInt64).toInt64)) * (-4658895280553007687 : Int64))), .second] [(.long ((((q + (-7046029254386353131 : Int64)) ^^^ (((q + (-7046029254386353131 : Int64)).toUInt64 >>> ((30 : Int32) &&& 0x3f).toInt64.toUInt64).toInt64)) * (-4658895280553007687 : Int64)) ^^^ (((((q + (-7046029254386353131 : Int64)) ^^^ (((q + (-7046029254386353131 : Int64)).toUInt64 >>> ((30 : Int32) &&& 0x3f).toInt64.toUInt64).toInt64)) * (-4658895280553007687 : Int64)).toUInt64 >>> ((27 : Int32) &&& 0x3f).toInt64.toUInt64).toInt64)))])) rfl (hb hby d15_34)) ?_
  show OwnWk _ _ _ _ (T6.setTop (mkF m 37 #[.val (.ref a), .val (.long (((q + (-7046029254386353131 : Int64)) ^^^ (((q + (-7046029254386353131 : Int64)).toUInt64 >>> ((30 : Int32) &&& 0x3f).toInt64.toUInt64).toInt64)) * (-4658895280553007687 : Int64))), .second] [(.long (-7723592293110705685 : Int64)), (.long ((((q + (-7046029254386353131 : Int64)) ^^^ (((q + (-7046029254386353131 : Int64)).toUInt64 >>> ((30 : Int32) &&& 0x3f).toInt64.toUInt64).toInt64)) * (-4658895280553007687 : Int64)) ^^^ (((((q + (-7046029254386353131 : Int64)) ^^^ (((q + (-7046029254386353131 : Int64)).toUInt64 >>> ((30 : Int32) &&& 0x3f).toInt64.toUInt64).toInt64)) * (-4658895280553007687 : Int64)).toUInt64 >>> ((27 : Int32) &&& 0x3f).toInt64.toUInt64).toInt64)))]))
  refine own_go (fun tgt kst => XS.lmul X6.here hx rfl (hb hby d15_37) rfl kst) ?_
  show OwnWk _ _ _ _ (T6.setTop (mkF m 38 #[.val (.ref a), .val (.long (((q + (-7046029254386353131 : Int64)) ^^^ (((q + (-7046029254386353131 : Int64)).toUInt64 >>> ((30 : Int32) &&& 0x3f).toInt64.toUInt64).toInt64)) * (-4658895280553007687 : Int64))), .second] [(.long (((((q + (-7046029254386353131 : Int64)) ^^^ (((q + (-7046029254386353131 : Int64)).toUInt64 >>> ((30 : Int32) &&& 0x3f).toInt64.toUInt64).toInt64)) * (-4658895280553007687 : Int64)) ^^^ (((((q + (-7046029254386353131 : Int64)) ^^^ (((q + (-7046029254386353131 : Int64)).toUInt64 >>> ((30 : Int32) &&& 0x3f).toInt64.toUInt64).toInt64)) * (-4658895280553007687 : Int64)).toUInt64 >>> ((27 : Int32) &&& 0x3f).toInt64.toUInt64).toInt64)) * (-7723592293110705685 : Int64)))]))
  refine own_go (fun tgt kst => XS.lstoreN X6.here hx rfl (hb hby d15_38) rfl (l' := #[.val (.ref a), .val (.long (((((q + (-7046029254386353131 : Int64)) ^^^ (((q + (-7046029254386353131 : Int64)).toUInt64 >>> ((30 : Int32) &&& 0x3f).toInt64.toUInt64).toInt64)) * (-4658895280553007687 : Int64)) ^^^ (((((q + (-7046029254386353131 : Int64)) ^^^ (((q + (-7046029254386353131 : Int64)).toUInt64 >>> ((30 : Int32) &&& 0x3f).toInt64.toUInt64).toInt64)) * (-4658895280553007687 : Int64)).toUInt64 >>> ((27 : Int32) &&& 0x3f).toInt64.toUInt64).toInt64)) * (-7723592293110705685 : Int64))), .second]) rfl kst) ?_
  show OwnWk _ _ _ _ (T6.setTop (mkF m 39 #[.val (.ref a), .val (.long (((((q + (-7046029254386353131 : Int64)) ^^^ (((q + (-7046029254386353131 : Int64)).toUInt64 >>> ((30 : Int32) &&& 0x3f).toInt64.toUInt64).toInt64)) * (-4658895280553007687 : Int64)) ^^^ (((((q + (-7046029254386353131 : Int64)) ^^^ (((q + (-7046029254386353131 : Int64)).toUInt64 >>> ((30 : Int32) &&& 0x3f).toInt64.toUInt64).toInt64)) * (-4658895280553007687 : Int64)).toUInt64 >>> ((27 : Int32) &&& 0x3f).toInt64.toUInt64).toInt64)) * (-7723592293110705685 : Int64))), .second] []))
  refine own_go (fun tgt kst => XS.lloadN X6.here hx rfl (hb hby d15_39) rfl  kst) ?_
  show OwnWk _ _ _ _ (T6.setTop (mkF m 40 #[.val (.ref a), .val (.long (((((q + (-7046029254386353131 : Int64)) ^^^ (((q + (-7046029254386353131 : Int64)).toUInt64 >>> ((30 : Int32) &&& 0x3f).toInt64.toUInt64).toInt64)) * (-4658895280553007687 : Int64)) ^^^ (((((q + (-7046029254386353131 : Int64)) ^^^ (((q + (-7046029254386353131 : Int64)).toUInt64 >>> ((30 : Int32) &&& 0x3f).toInt64.toUInt64).toInt64)) * (-4658895280553007687 : Int64)).toUInt64 >>> ((27 : Int32) &&& 0x3f).toInt64.toUInt64).toInt64)) * (-7723592293110705685 : Int64))), .second] [(.long (((((q + (-7046029254386353131 : Int64)) ^^^ (((q + (-7046029254386353131 : Int64)).toUInt64 >>> ((30 : Int32) &&& 0x3f).toInt64.toUInt64).toInt64)) * (-4658895280553007687 : Int64)) ^^^ (((((q + (-7046029254386353131 : Int64)) ^^^ (((q + (-7046029254386353131 : Int64)).toUInt64 >>> ((30 : Int32) &&& 0x3f).toInt64.toUInt64).toInt64)) * (-4658895280553007687 : Int64)).toUInt64 >>> ((27 : Int32) &&& 0x3f).toInt64.toUInt64).toInt64)) * (-7723592293110705685 : Int64)))]))
  refine own_go (fun tgt kst => XS.lloadN X6.here hx rfl (hb hby d15_40) rfl  kst) ?_
  show OwnWk _ _ _ _ (T6.setTop (mkF m 41 #[.val (.ref a), .val (.long (((((q + (-7046029254386353131 : Int64)) ^^^ (((q + (-7046029254386353131 : Int64)).toUInt64 >>> ((30 : Int32) &&& 0x3f).toInt64.toUInt64).toInt64)) * (-4658895280553007687 : Int64)) ^^^ (((((q + (-7046029254386353131 : Int64)) ^^^ (((q + (-7046029254386353131 : Int64)).toUInt64 >>> ((30 : Int32) &&& 0x3f).toInt64.toUInt64).toInt64)) * (-4658895280553007687 : Int64)).toUInt64 >>> ((27 : Int32) &&& 0x3f).toInt64.toUInt64).toInt64)) * (-7723592293110705685 : Int64))), .second] [(.long (((((q + (-7046029254386353131 : Int64)) ^^^ (((q + (-7046029254386353131 : Int64)).toUInt64 >>> ((30 : Int32) &&& 0x3f).toInt64.toUInt64).toInt64)) * (-4658895280553007687 : Int64)) ^^^ (((((q + (-7046029254386353131 : Int64)) ^^^ (((q + (-7046029254386353131 : Int64)).toUInt64 >>> ((30 : Int32) &&& 0x3f).toInt64.toUInt64).toInt64)) * (-4658895280553007687 : Int64)).toUInt64 >>> ((27 : Int32) &&& 0x3f).toInt64.toUInt64).toInt64)) * (-7723592293110705685 : Int64))), (.long (((((q + (-7046029254386353131 : Int64)) ^^^ (((q + (-7046029254386353131 : Int64)).toUInt64 >>> ((30 : Int32) &&& 0x3f).toInt64.toUInt64).toInt64)) * (-4658895280553007687 : Int64)) ^^^ (((((q + (-7046029254386353131 : Int64)) ^^^ (((q + (-7046029254386353131 : Int64)).toUInt64 >>> ((30 : Int32) &&& 0x3f).toInt64.toUInt64).toInt64)) * (-4658895280553007687 : Int64)).toUInt64 >>> ((27 : Int32) &&& 0x3f).toInt64.toUInt64).toInt64)) * (-7723592293110705685 : Int64)))]))
  refine own_go (fun tgt kst => XS.bipush X6.here hx rfl (hb hby d15_41) kst) ?_
  show OwnWk _ _ _ _ (T6.setTop (mkF m 43 #[.val (.ref a), .val (.long (((((q + (-7046029254386353131 : Int64)) ^^^ (((q + (-7046029254386353131 : Int64)).toUInt64 >>> ((30 : Int32) &&& 0x3f).toInt64.toUInt64).toInt64)) * (-4658895280553007687 : Int64)) ^^^ (((((q + (-7046029254386353131 : Int64)) ^^^ (((q + (-7046029254386353131 : Int64)).toUInt64 >>> ((30 : Int32) &&& 0x3f).toInt64.toUInt64).toInt64)) * (-4658895280553007687 : Int64)).toUInt64 >>> ((27 : Int32) &&& 0x3f).toInt64.toUInt64).toInt64)) * (-7723592293110705685 : Int64))), .second] [(.int (31 : Int32)), (.long (((((q + (-7046029254386353131 : Int64)) ^^^ (((q + (-7046029254386353131 : Int64)).toUInt64 >>> ((30 : Int32) &&& 0x3f).toInt64.toUInt64).toInt64)) * (-4658895280553007687 : Int64)) ^^^ (((((q + (-7046029254386353131 : Int64)) ^^^ (((q + (-7046029254386353131 : Int64)).toUInt64 >>> ((30 : Int32) &&& 0x3f).toInt64.toUInt64).toInt64)) * (-4658895280553007687 : Int64)).toUInt64 >>> ((27 : Int32) &&& 0x3f).toInt64.toUInt64).toInt64)) * (-7723592293110705685 : Int64))), (.long (((((q + (-7046029254386353131 : Int64)) ^^^ (((q + (-7046029254386353131 : Int64)).toUInt64 >>> ((30 : Int32) &&& 0x3f).toInt64.toUInt64).toInt64)) * (-4658895280553007687 : Int64)) ^^^ (((((q + (-7046029254386353131 : Int64)) ^^^ (((q + (-7046029254386353131 : Int64)).toUInt64 >>> ((30 : Int32) &&& 0x3f).toInt64.toUInt64).toInt64)) * (-4658895280553007687 : Int64)).toUInt64 >>> ((27 : Int32) &&& 0x3f).toInt64.toUInt64).toInt64)) * (-7723592293110705685 : Int64)))]))
  refine own_go (fun tgt kst => XS.lushr X6.here hx rfl (hb hby d15_43) rfl kst) ?_
  show OwnWk _ _ _ _ (T6.setTop (mkF m 44 #[.val (.ref a), .val (.long (((((q + (-7046029254386353131 : Int64)) ^^^ (((q + (-7046029254386353131 : Int64)).toUInt64 >>> ((30 : Int32) &&& 0x3f).toInt64.toUInt64).toInt64)) * (-4658895280553007687 : Int64)) ^^^ (((((q + (-7046029254386353131 : Int64)) ^^^ (((q + (-7046029254386353131 : Int64)).toUInt64 >>> ((30 : Int32) &&& 0x3f).toInt64.toUInt64).toInt64)) * (-4658895280553007687 : Int64)).toUInt64 >>> ((27 : Int32) &&& 0x3f).toInt64.toUInt64).toInt64)) * (-7723592293110705685 : Int64))), .second] [(.long (((((((q + (-7046029254386353131 : Int64)) ^^^ (((q + (-7046029254386353131 : Int64)).toUInt64 >>> ((30 : Int32) &&& 0x3f).toInt64.toUInt64).toInt64)) * (-4658895280553007687 : Int64)) ^^^ (((((q + (-7046029254386353131 : Int64)) ^^^ (((q + (-7046029254386353131 : Int64)).toUInt64 >>> ((30 : Int32) &&& 0x3f).toInt64.toUInt64).toInt64)) * (-4658895280553007687 : Int64)).toUInt64 >>> ((27 : Int32) &&& 0x3f).toInt64.toUInt64).toInt64)) * (-7723592293110705685 : Int64)).toUInt64 >>> ((31 : Int32) &&& 0x3f).toInt64.toUInt64).toInt64)), (.long (((((q + (-7046029254386353131 : Int64)) ^^^ (((q + (-7046029254386353131 : Int64)).toUInt64 >>> ((30 : Int32) &&& 0x3f).toInt64.toUInt64).toInt64)) * (-4658895280553007687 : Int64)) ^^^ (((((q + (-7046029254386353131 : Int64)) ^^^ (((q + (-7046029254386353131 : Int64)).toUInt64 >>> ((30 : Int32) &&& 0x3f).toInt64.toUInt64).toInt64)) * (-4658895280553007687 : Int64)).toUInt64 >>> ((27 : Int32) &&& 0x3f).toInt64.toUInt64).toInt64)) * (-7723592293110705685 : Int64)))]))
  refine own_go (fun tgt kst => XS.lxor X6.here hx rfl (hb hby d15_44) rfl kst) ?_
  show OwnWk _ _ _ _ (T6.setTop (mkF m 45 #[.val (.ref a), .val (.long (((((q + (-7046029254386353131 : Int64)) ^^^ (((q + (-7046029254386353131 : Int64)).toUInt64 >>> ((30 : Int32) &&& 0x3f).toInt64.toUInt64).toInt64)) * (-4658895280553007687 : Int64)) ^^^ (((((q + (-7046029254386353131 : Int64)) ^^^ (((q + (-7046029254386353131 : Int64)).toUInt64 >>> ((30 : Int32) &&& 0x3f).toInt64.toUInt64).toInt64)) * (-4658895280553007687 : Int64)).toUInt64 >>> ((27 : Int32) &&& 0x3f).toInt64.toUInt64).toInt64)) * (-7723592293110705685 : Int64))), .second] [(.long ((((((q + (-7046029254386353131 : Int64)) ^^^ (((q + (-7046029254386353131 : Int64)).toUInt64 >>> ((30 : Int32) &&& 0x3f).toInt64.toUInt64).toInt64)) * (-4658895280553007687 : Int64)) ^^^ (((((q + (-7046029254386353131 : Int64)) ^^^ (((q + (-7046029254386353131 : Int64)).toUInt64 >>> ((30 : Int32) &&& 0x3f).toInt64.toUInt64).toInt64)) * (-4658895280553007687 : Int64)).toUInt64 >>> ((27 : Int32) &&& 0x3f).toInt64.toUInt64).toInt64)) * (-7723592293110705685 : Int64)) ^^^ (((((((q + (-7046029254386353131 : Int64)) ^^^ (((q + (-7046029254386353131 : Int64)).toUInt64 >>> ((30 : Int32) &&& 0x3f).toInt64.toUInt64).toInt64)) * (-4658895280553007687 : Int64)) ^^^ (((((q + (-7046029254386353131 : Int64)) ^^^ (((q + (-7046029254386353131 : Int64)).toUInt64 >>> ((30 : Int32) &&& 0x3f).toInt64.toUInt64).toInt64)) * (-4658895280553007687 : Int64)).toUInt64 >>> ((27 : Int32) &&& 0x3f).toInt64.toUInt64).toInt64)) * (-7723592293110705685 : Int64)).toUInt64 >>> ((31 : Int32) &&& 0x3f).toInt64.toUInt64).toInt64)))]))
  exact own_retJ X6 hx hlk hret (hb hby d15_45) (by decide) (by decide) (by rw [e6]; exact ⟨rfl, N2, K5, Fw2⟩)
theorem pn_pn_23 : plainName "com/example/spikeline/spikeline/core/SeededRandom" = true := by first | (simp [plainName, overriddenIn]; done) | decide +kernel
theorem pn_23 : plainFor (⟨"com/example/spikeline/spikeline/core/SeededRandom", "state", "()J"⟩ : MethodName) = true := plainFor_of_name pn_pn_23
theorem d23_0 : decode prog_8_method_2_code 0 = .ok (.aload_n 0, 1) := by decide +kernel
theorem d23_1 : decode prog_8_method_2_code 1 = .ok (.getfield 7, 3) := by decide +kernel
theorem d23_4 : decode prog_8_method_2_code 4 = .ok (.lreturn, 1) := by decide +kernel
theorem ef_rm23 (m : MethodId) (x0 : Addr) : entryFrame m #[(.ref x0)] 1 = mkF m 0 #[.val (.ref x0)] [] := by first | (simp [entryFrame, mkF, argsToLocals, Value.category]; done) | rfl
def Q_rm23 (Z : State) (a : Addr) (q : Int64) (h0 : Heap) (n0 : Nat) (v : Option Value) (h : Heap) (L : List Loc) : Prop := v = some (.long q) ∧ Fr n0 L ∧ h = h0
set_option maxRecDepth 65536 in
set_option maxHeartbeats 40000000 in
theorem rm23 (l : Launch) (Z : State) (a0 : Array Value) (hw : ∀ d ∈ tables_1, d.before a0 Z = true) (a : Addr) (q : Int64) (h0 : Heap) (n0 : Nat) (Z0 : n0 ≤ h0.size) (F_a : Fld Z h0 a "com/example/spikeline/spikeline/core/SeededRandom" "state" "J" (.long q)) :
    OwnMet l (⟨"com/example/spikeline/spikeline/core/SeededRandom", "state", "()J"⟩ : MethodName) prog_8_method_2_code 1 (some .long) [] ({ frames := 0, cells := 0, slots := 0, locals := 0 } : Room) Z #[(.ref a)] h0 (Q_rm23 Z a q h0 n0) := by
  refine own_met pn_23 (fun p e s m below meth c s₁ hx hby hml hown hnm hret hlk hZ X0 e0 => ?_)
  have hown : s.vm.findClass "com/example/spikeline/spikeline/core/SeededRandom" = some m.cls := hown
  have N0 := Fr.nil n0
  rw [ef_rm23]
  show OwnWk _ _ _ _ (s₁.setTop (mkF m 0 #[.val (.ref a)] []))
  refine own_go (fun tgt kst => XS.aloadN X0.here hx rfl (hb hby d23_0) rfl rfl  kst) ?_
  show OwnWk _ _ _ _ (s₁.setTop (mkF m 1 #[.val (.ref a)] [(.ref a)]))
  obtain ⟨T1, X1, e1, st1⟩ := getF X0 hx hZ hown (host := "") (Or.inl (hw _ (List.mem_of_getElem? (i := 73) rfl))) Via.refl e0 F_a (g := (mkF m 1 #[.val (.ref a)] [(.ref a)])) rfl rfl (hb hby d23_1)
  refine own_go st1 ?_
  show OwnWk _ _ _ _ (T1.setTop (mkF m 4 #[.val (.ref a)] [(.long q)]))
  exact own_retJ X1 hx hlk hret (hb hby d23_4) (by decide) (by decide) (by rw [e1]; exact ⟨rfl, N0, rfl⟩)
theorem pn_pn_14 : plainName "com/example/spikeline/spikeline/core/SeededRandom" = true := by first | (simp [plainName, overriddenIn]; done) | decide +kernel
theorem pn_14 : plainFor (⟨"com/example/spikeline/spikeline/core/SeededRandom", "nextInt", "(I)I"⟩ : MethodName) = true := plainFor_of_name pn_pn_14
theorem d14_0 : decode prog_8_method_4_code 0 = .ok (.iload_n 1, 1) := by decide +kernel
theorem d14_1 : decode prog_8_method_4_code 1 = .ok (.ifCond .gt 17, 3) := by decide +kernel
theorem d14_18 : decode prog_8_method_4_code 18 = .ok (.aload_n 0, 1) := by decide +kernel
theorem d14_19 : decode prog_8_method_4_code 19 = .ok (.invokevirtual 28, 3) := by decide +kernel
theorem pd_8 : parseMethodDescriptor "()J" = some ⟨[], some .long⟩ := by decide +kernel
theorem d14_22 : decode prog_8_method_4_code 22 = .ok (.bipush 32, 2) := by decide +kernel
theorem d14_24 : decode prog_8_method_4_code 24 = .ok (.lushr, 1) := by decide +kernel
theorem d14_25 : decode prog_8_method_4_code 25 = .ok (.iload_n 1, 1) := by decide +kernel
theorem d14_26 : decode prog_8_method_4_code 26 = .ok (.i2l, 1) := by decide +kernel
theorem d14_27 : decode prog_8_method_4_code 27 = .ok (.lmul, 1) := by decide +kernel
theorem d14_28 : decode prog_8_method_4_code 28 = .ok (.lstore_n 2, 1) := by decide +kernel
theorem d14_29 : decode prog_8_method_4_code 29 = .ok (.lload_n 2, 1) := by decide +kernel
theorem d14_30 : decode prog_8_method_4_code 30 = .ok (.ldc2_w 32, 3) := by decide +kernel
theorem d14_33 : decode prog_8_method_4_code 33 = .ok (.land, 1) := by decide +kernel
theorem d14_34 : decode prog_8_method_4_code 34 = .ok (.iload_n 1, 1) := by decide +kernel
theorem d14_35 : decode prog_8_method_4_code 35 = .ok (.i2l, 1) := by decide +kernel
theorem d14_36 : decode prog_8_method_4_code 36 = .ok (.lcmp, 1) := by decide +kernel
theorem d14_37 : decode prog_8_method_4_code 37 = .ok (.ifCond .ge 39, 3) := by decide +kernel
theorem d14_40 : decode prog_8_method_4_code 40 = .ok (.ldc2_w 34, 3) := by decide +kernel
theorem d14_43 : decode prog_8_method_4_code 43 = .ok (.iload_n 1, 1) := by decide +kernel
theorem d14_44 : decode prog_8_method_4_code 44 = .ok (.i2l, 1) := by decide +kernel
theorem d14_45 : decode prog_8_method_4_code 45 = .ok (.lsub, 1) := by decide +kernel
theorem d14_46 : decode prog_8_method_4_code 46 = .ok (.iload_n 1, 1) := by decide +kernel
theorem d14_47 : decode prog_8_method_4_code 47 = .ok (.i2l, 1) := by decide +kernel
theorem d14_48 : decode prog_8_method_4_code 48 = .ok (.lrem, 1) := by decide +kernel
theorem d14_49 : decode prog_8_method_4_code 49 = .ok (.lstore 4, 2) := by decide +kernel
theorem d14_51 : decode prog_8_method_4_code 51 = .ok (.lload_n 2, 1) := by decide +kernel
theorem d14_52 : decode prog_8_method_4_code 52 = .ok (.ldc2_w 32, 3) := by decide +kernel
theorem d14_55 : decode prog_8_method_4_code 55 = .ok (.land, 1) := by decide +kernel
theorem d14_56 : decode prog_8_method_4_code 56 = .ok (.lload 4, 2) := by decide +kernel
theorem d14_58 : decode prog_8_method_4_code 58 = .ok (.lcmp, 1) := by decide +kernel
theorem d14_59 : decode prog_8_method_4_code 59 = .ok (.ifCond .ge 17, 3) := by decide +kernel
theorem d14_76 : decode prog_8_method_4_code 76 = .ok (.lload_n 2, 1) := by decide +kernel
theorem d14_77 : decode prog_8_method_4_code 77 = .ok (.bipush 32, 2) := by decide +kernel
theorem d14_79 : decode prog_8_method_4_code 79 = .ok (.lushr, 1) := by decide +kernel
theorem d14_80 : decode prog_8_method_4_code 80 = .ok (.l2i, 1) := by decide +kernel
theorem d14_81 : decode prog_8_method_4_code 81 = .ok (.ireturn, 1) := by decide +kernel
theorem d14_62 : decode prog_8_method_4_code 62 = .ok (.aload_n 0, 1) := by decide +kernel
theorem d14_63 : decode prog_8_method_4_code 63 = .ok (.invokevirtual 28, 3) := by decide +kernel
theorem d14_66 : decode prog_8_method_4_code 66 = .ok (.bipush 32, 2) := by decide +kernel
theorem d14_68 : decode prog_8_method_4_code 68 = .ok (.lushr, 1) := by decide +kernel
theorem d14_69 : decode prog_8_method_4_code 69 = .ok (.iload_n 1, 1) := by decide +kernel
theorem d14_70 : decode prog_8_method_4_code 70 = .ok (.i2l, 1) := by decide +kernel
theorem d14_71 : decode prog_8_method_4_code 71 = .ok (.lmul, 1) := by decide +kernel
theorem d14_72 : decode prog_8_method_4_code 72 = .ok (.lstore_n 2, 1) := by decide +kernel
theorem d14_73 : decode prog_8_method_4_code 73 = .ok (.goto (-22), 3) := by decide +kernel
theorem ef_rm14 (m : MethodId) (x0 : Addr) (x1 : Int32) : entryFrame m #[(.ref x0), (.int x1)] 6 = mkF m 0 #[.val (.ref x0), .val (.int x1), .unset, .unset, .unset, .unset] [] := by first | (simp [entryFrame, mkF, argsToLocals, Value.category]; done) | rfl
def Q_rm14 (Z : State) (a : Addr) (b : Int32) (q : Int64) (h0 : Heap) (n0 : Nat) (v : Option Value) (h : Heap) (L : List Loc) : Prop := v = some (.int (own_r (own_land q b) b)) ∧ Fr n0 L ∧ Keep h0 h [a] ∧ Fld Z h a "com/example/spikeline/spikeline/core/SeededRandom" "state" "J" (.long (own_land q b))
set_option maxRecDepth 65536 in
set_option maxHeartbeats 40000000 in
theorem rm14 (l : Launch) (Z : State) (a0 : Array Value) (hw : ∀ d ∈ tables_1, d.before a0 Z = true) (a : Addr) (b : Int32) (q : Int64) (h0 : Heap) (n0 : Nat) (Z0 : n0 ≤ h0.size) (F_a : Fld Z h0 a "com/example/spikeline/spikeline/core/SeededRandom" "state" "J" (.long q)) (E_a : Exa Z h0 a "com/example/spikeline/spikeline/core/SeededRandom") (g_a : n0 ≤ a) (hb0 : 0 < b) :
    OwnMet l (⟨"com/example/spikeline/spikeline/core/SeededRandom", "nextInt", "(I)I"⟩ : MethodName) prog_8_method_4_code 6 (some .int) [] ({ frames := 1, cells := 0, slots := 0, locals := 14 } : Room) Z #[(.ref a), (.int b)] h0 (Q_rm14 Z a b q h0 n0) := by
  refine own_met pn_14 (fun p e s m below meth c s₁ hx hby hml hown hnm hret hlk hZ X0 e0 => ?_)
  have hown : s.vm.findClass "com/example/spikeline/spikeline/core/SeededRandom" = some m.cls := hown
  have N0 := Fr.nil n0
  have K0 := Keep.refl h0 [a]
  rw [ef_rm14]
  show OwnWk _ _ _ _ (s₁.setTop (mkF m 0 #[.val (.ref a), .val (.int b), .unset, .unset, .unset, .unset] []))
  refine own_go (fun tgt kst => XS.iloadN X0.here hx rfl (hb hby d14_0) rfl  kst) ?_
  show OwnWk _ _ _ _ (s₁.setTop (mkF m 1 #[.val (.ref a), .val (.int b), .unset, .unset, .unset, .unset] [(.int b)]))
  refine own_go (fun tgt kst => XS.ifYes X0.here hx rfl (pc0 := 1) (pc' := 18) rfl (hb hby d14_1) rfl ((if0 _ _).trans (tlt hb0).2.2.1) (by decide) (by decide) kst) ?_
  show OwnWk _ _ _ _ (s₁.setTop (mkF m 18 #[.val (.ref a), .val (.int b), .unset, .unset, .unset, .unset] []))
  refine own_go (fun tgt kst => XS.aloadN X0.here hx rfl (hb hby d14_18) rfl rfl  kst) ?_
  show OwnWk _ _ _ _ (s₁.setTop (mkF m 19 #[.val (.ref a), .val (.int b), .unset, .unset, .unset, .unset] [(.ref a)]))
  refine own_callV X0 hx hZ (y := (⟨"com/example/spikeline/spikeline/core/SeededRandom", "nextLong", "()J"⟩ : MethodName)) (z := (⟨"com/example/spikeline/spikeline/core/SeededRandom", "nextLong", "()J"⟩ : MethodName)) hown (hw _ (List.mem_of_getElem? (i := 94) rfl)) (hw _ (List.mem_of_getElem? (i := 95) rfl)) (notFace_of_selects (args := #[]) (mvT hZ (hw _ (List.mem_of_getElem? (i := 97) rfl)))) (hw _ (List.mem_of_getElem? (i := 97) rfl)) (hw _ (List.mem_of_getElem? (i := 96) rfl)) (hw _ (List.mem_of_getElem? (i := 68) rfl)) (hw _ (List.mem_of_getElem? (i := 98) rfl)) (by decide) (a := a) E_a (argsL := []) (rest := []) (rm := ({ frames := 0, cells := 0, slots := 0, locals := 0 } : Room)) (h := h0) (rm15 l Z a0 hw a q h0 n0 Z0 F_a E_a g_a) e0 (W := 0) (by decide) (by decide) (by decide) (by decide) (g := (mkF m 19 #[.val (.ref a), .val (.int b), .unset, .unset, .unset, .unset] [(.ref a)])) rfl (by rw [hml]; rfl) (lenOf pd_8 rfl) rfl (by show 2 * 0 + _ ≤ _; exact Nat.le_of_eq rfl) (hb hby d14_19) (fun v1 T1 h1 L1 X1 e1 hQ1 => ?_)
  obtain ⟨rfl, Nq1, Kq1, Fq1⟩ := hQ1
  have N1 := Fr.app N0 Nq1
  have F2 := Exa.keep E_a Kq1
  have Z3 := Nat.le_trans Z0 Kq1.1
  have K4 := Keep.trans K0 Kq1 (allS (Or.inl (List.mem_of_getElem? (i := 0) rfl)) all0)
  show OwnWk _ _ _ _ (T1.setTop (mkF m 22 #[.val (.ref a), .val (.int b), .unset, .unset, .unset, .unset] [(.long (own_mix (q + (-7046029254386353131 : Int64))))]))
  refine own_go (fun tgt kst => XS.bipush X1.here hx rfl (hb hby d14_22) kst) ?_
  show OwnWk _ _ _ _ (T1.setTop (mkF m 24 #[.val (.ref a), .val (.int b), .unset, .unset, .unset, .unset] [(.int (32 : Int32)), (.long (own_mix (q + (-7046029254386353131 : Int64))))]))
  refine own_go (fun tgt kst => XS.lushr X1.here hx rfl (hb hby d14_24) rfl kst) ?_
  show OwnWk _ _ _ _ (T1.setTop (mkF m 25 #[.val (.ref a), .val (.int b), .unset, .unset, .unset, .unset] [(.long (((own_mix (q + (-7046029254386353131 : Int64))).toUInt64 >>> ((32 : Int32) &&& 0x3f).toInt64.toUInt64).toInt64))]))
  refine own_go (fun tgt kst => XS.iloadN X1.here hx rfl (hb hby d14_25) rfl  kst) ?_
  show OwnWk _ _ _ _ (T1.setTop (mkF m 26 #[.val (.ref a), .val (.int b), .unset, .unset, .unset, .unset] [(.int b), (.long (((own_mix (q + (-7046029254386353131 : Int64))).toUInt64 >>> ((32 : Int32) &&& 0x3f).toInt64.toUInt64).toInt64))]))
  refine own_go (fun tgt kst => XS.i2l X1.here hx rfl (hb hby d14_26) rfl kst) ?_
  show OwnWk _ _ _ _ (T1.setTop (mkF m 27 #[.val (.ref a), .val (.int b), .unset, .unset, .unset, .unset] [(.long (b.toInt64)), (.long (((own_mix (q + (-7046029254386353131 : Int64))).toUInt64 >>> ((32 : Int32) &&& 0x3f).toInt64.toUInt64).toInt64))]))
  refine own_go (fun tgt kst => XS.lmul X1.here hx rfl (hb hby d14_27) rfl kst) ?_
  show OwnWk _ _ _ _ (T1.setTop (mkF m 28 #[.val (.ref a), .val (.int b), .unset, .unset, .unset, .unset] [(.long ((((own_mix (q + (-7046029254386353131 : Int64))).toUInt64 >>> ((32 : Int32) &&& 0x3f).toInt64.toUInt64).toInt64) * (b.toInt64)))]))
  show OwnWk _ _ _ _ (T1.setTop (mkF m 28 #[.val (.ref a), .val (.int b), .unset, .unset, .unset, .unset] [(.long (own_prod (q + (-7046029254386353131 : Int64)) b))]))
  refine own_go (fun tgt kst => XS.lstoreN X1.here hx rfl (hb hby d14_28) rfl (l' := #[.val (.ref a), .val (.int b), .val (.long (own_prod (q + (-7046029254386353131 : Int64)) b)), .second, .unset, .unset]) rfl kst) ?_
  show OwnWk _ _ _ _ (T1.setTop (mkF m 29 #[.val (.ref a), .val (.int b), .val (.long (own_prod (q + (-7046029254386353131 : Int64)) b)), .second, .unset, .unset] []))
  refine own_go (fun tgt kst => XS.lloadN X1.here hx rfl (hb hby d14_29) rfl  kst) ?_
  show OwnWk _ _ _ _ (T1.setTop (mkF m 30 #[.val (.ref a), .val (.int b), .val (.long (own_prod (q + (-7046029254386353131 : Int64)) b)), .second, .unset, .unset] [(.long (own_prod (q + (-7046029254386353131 : Int64)) b))]))
  refine own_go (X1.ldc2Long hx hown (mvT hZ (hw _ (List.mem_of_getElem? (i := 102) rfl))) (g := (mkF m 30 #[.val (.ref a), .val (.int b), .val (.long (own_prod (q + (-7046029254386353131 : Int64)) b)), .second, .unset, .unset] [(.long (own_prod (q + (-7046029254386353131 : Int64)) b))])) rfl (hb hby d14_30)) ?_
  show OwnWk _ _ _ _ (T1.setTop (mkF m 33 #[.val (.ref a), .val (.int b), .val (.long (own_prod (q + (-7046029254386353131 : Int64)) b)), .second, .unset, .unset] [(.long (4294967295 : Int64)), (.long (own_prod (q + (-7046029254386353131 : Int64)) b))]))
  refine own_go (fun tgt kst => XS.land X1.here hx rfl (hb hby d14_33) rfl kst) ?_
  show OwnWk _ _ _ _ (T1.setTop (mkF m 34 #[.val (.ref a), .val (.int b), .val (.long (own_prod (q + (-7046029254386353131 : Int64)) b)), .second, .unset, .unset] [(.long ((own_prod (q + (-7046029254386353131 : Int64)) b) &&& (4294967295 : Int64)))]))
  refine own_go (fun tgt kst => XS.iloadN X1.here hx rfl (hb hby d14_34) rfl  kst) ?_
  show OwnWk _ _ _ _ (T1.setTop (mkF m 35 #[.val (.ref a), .val (.int b), .val (.long (own_prod (q + (-7046029254386353131 : Int64)) b)), .second, .unset, .unset] [(.int b), (.long ((own_prod (q + (-7046029254386353131 : Int64)) b) &&& (4294967295 : Int64)))]))
  refine own_go (fun tgt kst => XS.i2l X1.here hx rfl (hb hby d14_35) rfl kst) ?_
  show OwnWk _ _ _ _ (T1.setTop (mkF m 36 #[.val (.ref a), .val (.int b), .val (.long (own_prod (q + (-7046029254386353131 : Int64)) b)), .second, .unset, .unset] [(.long (b.toInt64)), (.long ((own_prod (q + (-7046029254386353131 : Int64)) b) &&& (4294967295 : Int64)))]))
  refine own_go (fun tgt kst => XS.lcmp X1.here hx rfl (hb hby d14_36) rfl kst) ?_
  show OwnWk _ _ _ _ (T1.setTop (mkF m 37 #[.val (.ref a), .val (.int b), .val (.long (own_prod (q + (-7046029254386353131 : Int64)) b)), .second, .unset, .unset] [(.int (lcmpW ((own_prod (q + (-7046029254386353131 : Int64)) b) &&& (4294967295 : Int64)) (b.toInt64)))]))
  by_cases hc5 : ((own_prod (q + (-7046029254386353131 : Int64)) b) &&& (4294967295 : Int64)) < (b.toInt64)
  ·
    refine own_go (fun tgt kst => XS.ifNo X1.here hx rfl (hb hby d14_37) rfl ((if0 _ _).trans (tlt (own_lc_lt.mpr hc5)).2.1) kst) ?_
    show OwnWk _ _ _ _ (T1.setTop (mkF m 40 #[.val (.ref a), .val (.int b), .val (.long (own_prod (q + (-7046029254386353131 : Int64)) b)), .second, .unset, .unset] []))
    refine own_go (X1.ldc2Long hx hown (mvT hZ (hw _ (List.mem_of_getElem? (i := 164) rfl))) (g := (mkF m 40 #[.val (.ref a), .val (.int b), .val (.long (own_prod (q + (-7046029254386353131 : Int64)) b)), .second, .unset, .unset] [])) rfl (hb hby d14_40)) ?_
    show OwnWk _ _ _ _ (T1.setTop (mkF m 43 #[.val (.ref a), .val (.int b), .val (.long (own_prod (q + (-7046029254386353131 : Int64)) b)), .second, .unset, .unset] [(.long (4294967296 : Int64))]))
    refine own_go (fun tgt kst => XS.iloadN X1.here hx rfl (hb hby d14_43) rfl  kst) ?_
    show OwnWk _ _ _ _ (T1.setTop (mkF m 44 #[.val (.ref a), .val (.int b), .val (.long (own_prod (q + (-7046029254386353131 : Int64)) b)), .second, .unset, .unset] [(.int b), (.long (4294967296 : Int64))]))
    refine own_go (fun tgt kst => XS.i2l X1.here hx rfl (hb hby d14_44) rfl kst) ?_
    show OwnWk _ _ _ _ (T1.setTop (mkF m 45 #[.val (.ref a), .val (.int b), .val (.long (own_prod (q + (-7046029254386353131 : Int64)) b)), .second, .unset, .unset] [(.long (b.toInt64)), (.long (4294967296 : Int64))]))
    refine own_go (fun tgt kst => XS.lsub X1.here hx rfl (hb hby d14_45) rfl kst) ?_
    show OwnWk _ _ _ _ (T1.setTop (mkF m 46 #[.val (.ref a), .val (.int b), .val (.long (own_prod (q + (-7046029254386353131 : Int64)) b)), .second, .unset, .unset] [(.long ((4294967296 : Int64) - (b.toInt64)))]))
    refine own_go (fun tgt kst => XS.iloadN X1.here hx rfl (hb hby d14_46) rfl  kst) ?_
    show OwnWk _ _ _ _ (T1.setTop (mkF m 47 #[.val (.ref a), .val (.int b), .val (.long (own_prod (q + (-7046029254386353131 : Int64)) b)), .second, .unset, .unset] [(.int b), (.long ((4294967296 : Int64) - (b.toInt64)))]))
    refine own_go (fun tgt kst => XS.i2l X1.here hx rfl (hb hby d14_47) rfl kst) ?_
    show OwnWk _ _ _ _ (T1.setTop (mkF m 48 #[.val (.ref a), .val (.int b), .val (.long (own_prod (q + (-7046029254386353131 : Int64)) b)), .second, .unset, .unset] [(.long (b.toInt64)), (.long ((4294967296 : Int64) - (b.toInt64)))]))
    refine own_go (fun tgt kst => XS.lrem X1.here hx rfl (hb hby d14_48) rfl (own_nz hb0) kst) ?_
    show OwnWk _ _ _ _ (T1.setTop (mkF m 49 #[.val (.ref a), .val (.int b), .val (.long (own_prod (q + (-7046029254386353131 : Int64)) b)), .second, .unset, .unset] [(.long (((4294967296 : Int64) - (b.toInt64)) - ((4294967296 : Int64) - (b.toInt64)) / (b.toInt64) * (b.toInt64)))]))
    show OwnWk _ _ _ _ (T1.setTop (mkF m 49 #[.val (.ref a), .val (.int b), .val (.long (own_prod (q + (-7046029254386353131 : Int64)) b)), .second, .unset, .unset] [(.long (own_bias b))]))
    refine own_go (fun tgt kst => XS.lstore X1.here hx rfl (hb hby d14_49) rfl (l' := #[.val (.ref a), .val (.int b), .val (.long (own_prod (q + (-7046029254386353131 : Int64)) b)), .second, .val (.long (own_bias b)), .second]) rfl kst) ?_
    show OwnWk _ _ _ _ (T1.setTop (mkF m 51 #[.val (.ref a), .val (.int b), .val (.long (own_prod (q + (-7046029254386353131 : Int64)) b)), .second, .val (.long (own_bias b)), .second] []))
    have LP : ∀ (n : Nat) (st : Int64) (T : State) (h : Heap) (Lc : List Loc), own_M st = n → own_iter n st b = own_land q b → Stand p l e ({ frames := 1, cells := 0, slots := 0, locals := 14 } : Room) s m #[.ref a, .int b] below meth c T Lc 0 0 → T.heap = h → Fr n0 Lc → n0 ≤ h.size → Keep h0 h [a] → Fld Z h a "com/example/spikeline/spikeline/core/SeededRandom" "state" "J" (.long st) → Exa Z h a "com/example/spikeline/spikeline/core/SeededRandom" →
        OwnWk p e below (OwnP s (Q_rm14 Z a b q h0 n0) ({ frames := 1, cells := 0, slots := 0, locals := 14 } : Room).cells ({ frames := 1, cells := 0, slots := 0, locals := 14 } : Room).slots) (T.setTop (mkF m 51 #[.val (.ref a), .val (.int b), .val (.long (own_prod st b)), .second, .val (.long (own_bias b)), .second] [])) := by
      intro n
      induction n with
      | zero =>
        intro st T h Lc hM hc X eT NL ZL KL FL EL
        show OwnWk _ _ _ _ (T.setTop (mkF m 51 #[.val (.ref a), .val (.int b), .val (.long (own_prod st b)), .second, .val (.long (own_bias b)), .second] []))
        refine own_go (fun tgt kst => XS.lloadN X.here hx rfl (hb hby d14_51) rfl  kst) ?_
        show OwnWk _ _ _ _ (T.setTop (mkF m 52 #[.val (.ref a), .val (.int b), .val (.long (own_prod st b)), .second, .val (.long (own_bias b)), .second] [(.long (own_prod st b))]))
        refine own_go (X.ldc2Long hx hown (mvT hZ (hw _ (List.mem_of_getElem? (i := 102) rfl))) (g := (mkF m 52 #[.val (.ref a), .val (.int b), .val (.long (own_prod st b)), .second, .val (.long (own_bias b)), .second] [(.long (own_prod st b))])) rfl (hb hby d14_52)) ?_
        show OwnWk _ _ _ _ (T.setTop (mkF m 55 #[.val (.ref a), .val (.int b), .val (.long (own_prod st b)), .second, .val (.long (own_bias b)), .second] [(.long (4294967295 : Int64)), (.long (own_prod st b))]))
        refine own_go (fun tgt kst => XS.land X.here hx rfl (hb hby d14_55) rfl kst) ?_
        show OwnWk _ _ _ _ (T.setTop (mkF m 56 #[.val (.ref a), .val (.int b), .val (.long (own_prod st b)), .second, .val (.long (own_bias b)), .second] [(.long ((own_prod st b) &&& (4294967295 : Int64)))]))
        refine own_go (fun tgt kst => XS.lload X.here hx rfl (hb hby d14_56) rfl  kst) ?_
        show OwnWk _ _ _ _ (T.setTop (mkF m 58 #[.val (.ref a), .val (.int b), .val (.long (own_prod st b)), .second, .val (.long (own_bias b)), .second] [(.long (own_bias b)), (.long ((own_prod st b) &&& (4294967295 : Int64)))]))
        refine own_go (fun tgt kst => XS.lcmp X.here hx rfl (hb hby d14_58) rfl kst) ?_
        show OwnWk _ _ _ _ (T.setTop (mkF m 59 #[.val (.ref a), .val (.int b), .val (.long (own_prod st b)), .second, .val (.long (own_bias b)), .second] [(.int (lcmpW ((own_prod st b) &&& (4294967295 : Int64)) (own_bias b)))]))
        by_cases hc6 : ((own_prod st b) &&& (4294967295 : Int64)) < (own_bias b)
        ·
          refine own_go (fun tgt kst => XS.ifNo X.here hx rfl (hb hby d14_59) rfl ((if0 _ _).trans (tlt (own_lc_lt.mpr hc6)).2.1) kst) ?_
          show OwnWk _ _ _ _ (T.setTop (mkF m 62 #[.val (.ref a), .val (.int b), .val (.long (own_prod st b)), .second, .val (.long (own_bias b)), .second] []))
          exact absurd hc6 (own_zero hb0 hM)
        ·
          refine own_go (fun tgt kst => XS.ifYes X.here hx rfl (pc0 := 59) (pc' := 76) rfl (hb hby d14_59) rfl ((if0 _ _).trans (flt (fun q => hc6 (own_lc_lt.mp q))).2.1) (by decide) (by decide) kst) ?_
          show OwnWk _ _ _ _ (T.setTop (mkF m 76 #[.val (.ref a), .val (.int b), .val (.long (own_prod st b)), .second, .val (.long (own_bias b)), .second] []))
          have hst : own_land q b = st := by rw [← hc]; rfl
          refine own_go (fun tgt kst => XS.lloadN X.here hx rfl (hb hby d14_76) rfl  kst) ?_
          show OwnWk _ _ _ _ (T.setTop (mkF m 77 #[.val (.ref a), .val (.int b), .val (.long (own_prod st b)), .second, .val (.long (own_bias b)), .second] [(.long (own_prod st b))]))
          refine own_go (fun tgt kst => XS.bipush X.here hx rfl (hb hby d14_77) kst) ?_
          show OwnWk _ _ _ _ (T.setTop (mkF m 79 #[.val (.ref a), .val (.int b), .val (.long (own_prod st b)), .second, .val (.long (own_bias b)), .second] [(.int (32 : Int32)), (.long (own_prod st b))]))
          refine own_go (fun tgt kst => XS.lushr X.here hx rfl (hb hby d14_79) rfl kst) ?_
          show OwnWk _ _ _ _ (T.setTop (mkF m 80 #[.val (.ref a), .val (.int b), .val (.long (own_prod st b)), .second, .val (.long (own_bias b)), .second] [(.long (((own_prod st b).toUInt64 >>> ((32 : Int32) &&& 0x3f).toInt64.toUInt64).toInt64))]))
          refine own_go (fun tgt kst => XS.l2i X.here hx rfl (hb hby d14_80) rfl kst) ?_
          show OwnWk _ _ _ _ (T.setTop (mkF m 81 #[.val (.ref a), .val (.int b), .val (.long (own_prod st b)), .second, .val (.long (own_bias b)), .second] [(.int ((((own_prod st b).toUInt64 >>> ((32 : Int32) &&& 0x3f).toInt64.toUInt64).toInt64).toInt32))]))
          exact own_retI X hx hlk hret (hb hby d14_81) (by decide) (by decide) (by rw [eT]; exact (by rw [← hst] at FL; exact ⟨by rw [← hst]; rfl, NL, KL, FL⟩))
      | succ n ih =>
        intro st T h Lc hM hc X eT NL ZL KL FL EL
        show OwnWk _ _ _ _ (T.setTop (mkF m 51 #[.val (.ref a), .val (.int b), .val (.long (own_prod st b)), .second, .val (.long (own_bias b)), .second] []))
        refine own_go (fun tgt kst => XS.lloadN X.here hx rfl (hb hby d14_51) rfl  kst) ?_
        show OwnWk _ _ _ _ (T.setTop (mkF m 52 #[.val (.ref a), .val (.int b), .val (.long (own_prod st b)), .second, .val (.long (own_bias b)), .second] [(.long (own_prod st b))]))
        refine own_go (X.ldc2Long hx hown (mvT hZ (hw _ (List.mem_of_getElem? (i := 102) rfl))) (g := (mkF m 52 #[.val (.ref a), .val (.int b), .val (.long (own_prod st b)), .second, .val (.long (own_bias b)), .second] [(.long (own_prod st b))])) rfl (hb hby d14_52)) ?_
        show OwnWk _ _ _ _ (T.setTop (mkF m 55 #[.val (.ref a), .val (.int b), .val (.long (own_prod st b)), .second, .val (.long (own_bias b)), .second] [(.long (4294967295 : Int64)), (.long (own_prod st b))]))
        refine own_go (fun tgt kst => XS.land X.here hx rfl (hb hby d14_55) rfl kst) ?_
        show OwnWk _ _ _ _ (T.setTop (mkF m 56 #[.val (.ref a), .val (.int b), .val (.long (own_prod st b)), .second, .val (.long (own_bias b)), .second] [(.long ((own_prod st b) &&& (4294967295 : Int64)))]))
        refine own_go (fun tgt kst => XS.lload X.here hx rfl (hb hby d14_56) rfl  kst) ?_
        show OwnWk _ _ _ _ (T.setTop (mkF m 58 #[.val (.ref a), .val (.int b), .val (.long (own_prod st b)), .second, .val (.long (own_bias b)), .second] [(.long (own_bias b)), (.long ((own_prod st b) &&& (4294967295 : Int64)))]))
        refine own_go (fun tgt kst => XS.lcmp X.here hx rfl (hb hby d14_58) rfl kst) ?_
        show OwnWk _ _ _ _ (T.setTop (mkF m 59 #[.val (.ref a), .val (.int b), .val (.long (own_prod st b)), .second, .val (.long (own_bias b)), .second] [(.int (lcmpW ((own_prod st b) &&& (4294967295 : Int64)) (own_bias b)))]))
        by_cases hc7 : ((own_prod st b) &&& (4294967295 : Int64)) < (own_bias b)
        ·
          refine own_go (fun tgt kst => XS.ifNo X.here hx rfl (hb hby d14_59) rfl ((if0 _ _).trans (tlt (own_lc_lt.mpr hc7)).2.1) kst) ?_
          show OwnWk _ _ _ _ (T.setTop (mkF m 62 #[.val (.ref a), .val (.int b), .val (.long (own_prod st b)), .second, .val (.long (own_bias b)), .second] []))
          have hc2 : own_iter n (st + (-7046029254386353131 : Int64)) b = own_land q b := by rw [← hc]; exact (if_pos hc7).symm
          refine own_go (fun tgt kst => XS.aloadN X.here hx rfl (hb hby d14_62) rfl rfl  kst) ?_
          show OwnWk _ _ _ _ (T.setTop (mkF m 63 #[.val (.ref a), .val (.int b), .val (.long (own_prod st b)), .second, .val (.long (own_bias b)), .second] [(.ref a)]))
          refine own_callV X hx hZ (y := (⟨"com/example/spikeline/spikeline/core/SeededRandom", "nextLong", "()J"⟩ : MethodName)) (z := (⟨"com/example/spikeline/spikeline/core/SeededRandom", "nextLong", "()J"⟩ : MethodName)) hown (hw _ (List.mem_of_getElem? (i := 94) rfl)) (hw _ (List.mem_of_getElem? (i := 95) rfl)) (notFace_of_selects (args := #[]) (mvT hZ (hw _ (List.mem_of_getElem? (i := 97) rfl)))) (hw _ (List.mem_of_getElem? (i := 97) rfl)) (hw _ (List.mem_of_getElem? (i := 96) rfl)) (hw _ (List.mem_of_getElem? (i := 68) rfl)) (hw _ (List.mem_of_getElem? (i := 98) rfl)) (by decide) (a := a) EL (argsL := []) (rest := []) (rm := ({ frames := 0, cells := 0, slots := 0, locals := 0 } : Room)) (h := h) (rm15 l Z a0 hw a st h n0 ZL FL EL g_a) eT (W := 0) (by decide) (by decide) (by decide) (by decide) (g := (mkF m 63 #[.val (.ref a), .val (.int b), .val (.long (own_prod st b)), .second, .val (.long (own_bias b)), .second] [(.ref a)])) rfl (by rw [hml]; rfl) (lenOf pd_8 rfl) rfl (by show 2 * 0 + _ ≤ _; exact Nat.le_of_eq rfl) (hb hby d14_63) (fun v8 T8 h8 L8 X8 e8 hQ8 => ?_)
          obtain ⟨rfl, Nq8, Kq8, Fq8⟩ := hQ8
          have N8 := Fr.app NL Nq8
          have F9 := Exa.keep EL Kq8
          have Z10 := Nat.le_trans ZL Kq8.1
          have K11 := Keep.trans KL Kq8 (allS (Or.inl (List.mem_of_getElem? (i := 0) rfl)) all0)
          show OwnWk _ _ _ _ (T8.setTop (mkF m 66 #[.val (.ref a), .val (.int b), .val (.long (own_prod st b)), .second, .val (.long (own_bias b)), .second] [(.long (own_mix (st + (-7046029254386353131 : Int64))))]))
          refine own_go (fun tgt kst => XS.bipush X8.here hx rfl (hb hby d14_66) kst) ?_
          show OwnWk _ _ _ _ (T8.setTop (mkF m 68 #[.val (.ref a), .val (.int b), .val (.long (own_prod st b)), .second, .val (.long (own_bias b)), .second] [(.int (32 : Int32)), (.long (own_mix (st + (-7046029254386353131 : Int64))))]))
          refine own_go (fun tgt kst => XS.lushr X8.here hx rfl (hb hby d14_68) rfl kst) ?_
          show OwnWk _ _ _ _ (T8.setTop (mkF m 69 #[.val (.ref a), .val (.int b), .val (.long (own_prod st b)), .second, .val (.long (own_bias b)), .second] [(.long (((own_mix (st + (-7046029254386353131 : Int64))).toUInt64 >>> ((32 : Int32) &&& 0x3f).toInt64.toUInt64).toInt64))]))
          refine own_go (fun tgt kst => XS.iloadN X8.here hx rfl (hb hby d14_69) rfl  kst) ?_
          show OwnWk _ _ _ _ (T8.setTop (mkF m 70 #[.val (.ref a), .val (.int b), .val (.long (own_prod st b)), .second, .val (.long (own_bias b)), .second] [(.int b), (.long (((own_mix (st + (-7046029254386353131 : Int64))).toUInt64 >>> ((32 : Int32) &&& 0x3f).toInt64.toUInt64).toInt64))]))
          refine own_go (fun tgt kst => XS.i2l X8.here hx rfl (hb hby d14_70) rfl kst) ?_
          show OwnWk _ _ _ _ (T8.setTop (mkF m 71 #[.val (.ref a), .val (.int b), .val (.long (own_prod st b)), .second, .val (.long (own_bias b)), .second] [(.long (b.toInt64)), (.long (((own_mix (st + (-7046029254386353131 : Int64))).toUInt64 >>> ((32 : Int32) &&& 0x3f).toInt64.toUInt64).toInt64))]))
          refine own_go (fun tgt kst => XS.lmul X8.here hx rfl (hb hby d14_71) rfl kst) ?_
          show OwnWk _ _ _ _ (T8.setTop (mkF m 72 #[.val (.ref a), .val (.int b), .val (.long (own_prod st b)), .second, .val (.long (own_bias b)), .second] [(.long ((((own_mix (st + (-7046029254386353131 : Int64))).toUInt64 >>> ((32 : Int32) &&& 0x3f).toInt64.toUInt64).toInt64) * (b.toInt64)))]))
          show OwnWk _ _ _ _ (T8.setTop (mkF m 72 #[.val (.ref a), .val (.int b), .val (.long (own_prod st b)), .second, .val (.long (own_bias b)), .second] [(.long (own_prod (st + (-7046029254386353131 : Int64)) b))]))
          refine own_go (fun tgt kst => XS.lstoreN X8.here hx rfl (hb hby d14_72) rfl (l' := #[.val (.ref a), .val (.int b), .val (.long (own_prod (st + (-7046029254386353131 : Int64)) b)), .second, .val (.long (own_bias b)), .second]) rfl kst) ?_
          show OwnWk _ _ _ _ (T8.setTop (mkF m 73 #[.val (.ref a), .val (.int b), .val (.long (own_prod (st + (-7046029254386353131 : Int64)) b)), .second, .val (.long (own_bias b)), .second] []))
          refine own_go (fun tgt kst => XS.goto X8.here hx rfl (pc0 := 73) (pc' := 51) rfl (hb hby d14_73) (by decide) (by decide) kst) ?_
          show OwnWk _ _ _ _ (T8.setTop (mkF m 51 #[.val (.ref a), .val (.int b), .val (.long (own_prod (st + (-7046029254386353131 : Int64)) b)), .second, .val (.long (own_bias b)), .second] []))
          exact ih _ _ _ _ (own_succ hM) hc2 X8 e8 N8 Z10 K11 Fq8 F9
        ·
          refine own_go (fun tgt kst => XS.ifYes X.here hx rfl (pc0 := 59) (pc' := 76) rfl (hb hby d14_59) rfl ((if0 _ _).trans (flt (fun q => hc7 (own_lc_lt.mp q))).2.1) (by decide) (by decide) kst) ?_
          show OwnWk _ _ _ _ (T.setTop (mkF m 76 #[.val (.ref a), .val (.int b), .val (.long (own_prod st b)), .second, .val (.long (own_bias b)), .second] []))
          have hst : own_land q b = st := by rw [← hc]; exact if_neg hc7
          refine own_go (fun tgt kst => XS.lloadN X.here hx rfl (hb hby d14_76) rfl  kst) ?_
          show OwnWk _ _ _ _ (T.setTop (mkF m 77 #[.val (.ref a), .val (.int b), .val (.long (own_prod st b)), .second, .val (.long (own_bias b)), .second] [(.long (own_prod st b))]))
          refine own_go (fun tgt kst => XS.bipush X.here hx rfl (hb hby d14_77) kst) ?_
          show OwnWk _ _ _ _ (T.setTop (mkF m 79 #[.val (.ref a), .val (.int b), .val (.long (own_prod st b)), .second, .val (.long (own_bias b)), .second] [(.int (32 : Int32)), (.long (own_prod st b))]))
          refine own_go (fun tgt kst => XS.lushr X.here hx rfl (hb hby d14_79) rfl kst) ?_
          show OwnWk _ _ _ _ (T.setTop (mkF m 80 #[.val (.ref a), .val (.int b), .val (.long (own_prod st b)), .second, .val (.long (own_bias b)), .second] [(.long (((own_prod st b).toUInt64 >>> ((32 : Int32) &&& 0x3f).toInt64.toUInt64).toInt64))]))
          refine own_go (fun tgt kst => XS.l2i X.here hx rfl (hb hby d14_80) rfl kst) ?_
          show OwnWk _ _ _ _ (T.setTop (mkF m 81 #[.val (.ref a), .val (.int b), .val (.long (own_prod st b)), .second, .val (.long (own_bias b)), .second] [(.int ((((own_prod st b).toUInt64 >>> ((32 : Int32) &&& 0x3f).toInt64.toUInt64).toInt64).toInt32))]))
          exact own_retI X hx hlk hret (hb hby d14_81) (by decide) (by decide) (by rw [eT]; exact (by rw [← hst] at FL; exact ⟨by rw [← hst]; rfl, NL, KL, FL⟩))
    exact LP _ _ _ _ _ rfl rfl X1 e1 N1 Z3 K4 Fq1 F2
  ·
    refine own_go (fun tgt kst => XS.ifYes X1.here hx rfl (pc0 := 37) (pc' := 76) rfl (hb hby d14_37) rfl ((if0 _ _).trans (flt (fun q => hc5 (own_lc_lt.mp q))).2.1) (by decide) (by decide) kst) ?_
    show OwnWk _ _ _ _ (T1.setTop (mkF m 76 #[.val (.ref a), .val (.int b), .val (.long (own_prod (q + (-7046029254386353131 : Int64)) b)), .second, .unset, .unset] []))
    have hst : own_land q b = (q + (-7046029254386353131 : Int64)) := own_land_1 (own_not_lt hb0 hc5)
    refine own_go (fun tgt kst => XS.lloadN X1.here hx rfl (hb hby d14_76) rfl  kst) ?_
    show OwnWk _ _ _ _ (T1.setTop (mkF m 77 #[.val (.ref a), .val (.int b), .val (.long (own_prod (q + (-7046029254386353131 : Int64)) b)), .second, .unset, .unset] [(.long (own_prod (q + (-7046029254386353131 : Int64)) b))]))
    refine own_go (fun tgt kst => XS.bipush X1.here hx rfl (hb hby d14_77) kst) ?_
    show OwnWk _ _ _ _ (T1.setTop (mkF m 79 #[.val (.ref a), .val (.int b), .val (.long (own_prod (q + (-7046029254386353131 : Int64)) b)), .second, .unset, .unset] [(.int (32 : Int32)), (.long (own_prod (q + (-7046029254386353131 : Int64)) b))]))
    refine own_go (fun tgt kst => XS.lushr X1.here hx rfl (hb hby d14_79) rfl kst) ?_
    show OwnWk _ _ _ _ (T1.setTop (mkF m 80 #[.val (.ref a), .val (.int b), .val (.long (own_prod (q + (-7046029254386353131 : Int64)) b)), .second, .unset, .unset] [(.long (((own_prod (q + (-7046029254386353131 : Int64)) b).toUInt64 >>> ((32 : Int32) &&& 0x3f).toInt64.toUInt64).toInt64))]))
    refine own_go (fun tgt kst => XS.l2i X1.here hx rfl (hb hby d14_80) rfl kst) ?_
    show OwnWk _ _ _ _ (T1.setTop (mkF m 81 #[.val (.ref a), .val (.int b), .val (.long (own_prod (q + (-7046029254386353131 : Int64)) b)), .second, .unset, .unset] [(.int ((((own_prod (q + (-7046029254386353131 : Int64)) b).toUInt64 >>> ((32 : Int32) &&& 0x3f).toInt64.toUInt64).toInt64).toInt32))]))
    exact own_retI X1 hx hlk hret (hb hby d14_81) (by decide) (by decide) (by rw [e1]; exact (by rw [← hst] at Fq1; exact ⟨by rw [← hst]; rfl, N1, K4, Fq1⟩))
theorem pn_pn_12 : plainName "com/example/spikeline/spikeline/core/SeededRandom" = true := by first | (simp [plainName, overriddenIn]; done) | decide +kernel
theorem pn_12 : plainFor (⟨"com/example/spikeline/spikeline/core/SeededRandom", "shuffle", "(Ljava/util/List;)V"⟩ : MethodName) = true := plainFor_of_name pn_pn_12
theorem d12_0 : decode prog_8_method_5_code 0 = .ok (.aload_n 1, 1) := by decide +kernel
theorem d12_1 : decode prog_8_method_5_code 1 = .ok (.invokeinterface 36 1, 5) := by decide +kernel
theorem pd_9 : parseMethodDescriptor "()I" = some ⟨[], some .int⟩ := by decide +kernel
theorem d12_6 : decode prog_8_method_5_code 6 = .ok (.iconst 1, 1) := by decide +kernel
theorem d12_7 : decode prog_8_method_5_code 7 = .ok (.isub, 1) := by decide +kernel
theorem d12_8 : decode prog_8_method_5_code 8 = .ok (.istore_n 2, 1) := by decide +kernel
theorem d12_9 : decode prog_8_method_5_code 9 = .ok (.iload_n 2, 1) := by decide +kernel
theorem d12_10 : decode prog_8_method_5_code 10 = .ok (.ifCond .le 21, 3) := by decide +kernel
theorem d12_31 : decode prog_8_method_5_code 31 = .ok (.return_, 1) := by decide +kernel
theorem ef_shf0 (m : MethodId) (x0 : Addr) (x1 : Addr) : entryFrame m #[(.ref x0), (.ref x1)] 3 = mkF m 0 #[.val (.ref x0), .val (.ref x1), .unset] [] := by first | (simp [entryFrame, mkF, argsToLocals, Value.category]; done) | rfl
def Q_shf0 (Z : State) (dce cac : Addr) (ia : Nat → Addr) (r a ed : Addr) (q : Int64) (ks : List Nat) (h0 : Heap) (n0 : Nat) (v : Option Value) (h : Heap) (L : List Loc) : Prop := v = none ∧ Fr n0 L ∧ h = h0
set_option maxRecDepth 65536 in
set_option maxHeartbeats 40000000 in
theorem shf0 (l : Launch) (Z : State) (a0 : Array Value) (hw : ∀ d ∈ tables_1, d.before a0 Z = true) (dce cac : Addr) (ia : Nat → Addr) (r a ed : Addr) (q : Int64) (ks : List Nat) (h0 : Heap) (n0 : Nat) (Z0 : n0 ≤ h0.size) (O0 : Old Z n0 h0) (S_d : Sta Z Z.heap "java/util/ArrayList" "DEFAULTCAPACITY_EMPTY_ELEMENTDATA" "[Ljava/lang/Object;" (.ref dce)) (V_d : OAr Z Z.heap dce (.object "java/lang/Object") []) (S_h : Sta Z Z.heap "java/lang/Integer$IntegerCache" "high" "I" (.int (127 : Int32))) (S_c : Sta Z Z.heap "java/lang/Integer$IntegerCache" "cache" "[Ljava/lang/Integer;" (.ref cac)) (hL : ∀ k < 4, OEl Z Z.heap cac (.object "java/lang/Integer") (128 + k) (.ref (ia k))) (hE : ∀ k < 4, Exa Z Z.heap (ia k) "java/lang/Integer") (hV : ∀ k < 4, Fld Z Z.heap (ia k) "java/lang/Integer" "value" "I" (.int (Int32.ofNat k))) (F_q : Fld Z h0 r "com/example/spikeline/spikeline/core/SeededRandom" "state" "J" (.long q)) (E_r : Exa Z h0 r "com/example/spikeline/spikeline/core/SeededRandom") (g_r : n0 ≤ r) (E_a : Exa Z h0 a "java/util/ArrayList") (F_s : Fld Z h0 a "java/util/ArrayList" "size" "I" (.int (0 : Int32))) :
    OwnMet l (⟨"com/example/spikeline/spikeline/core/SeededRandom", "shuffle", "(Ljava/util/List;)V"⟩ : MethodName) prog_8_method_5_code 3 none [] ({ frames := 1, cells := 0, slots := 0, locals := 12 } : Room) Z #[(.ref r), (.ref a)] h0 (Q_shf0 Z dce cac ia r a ed q ks h0 n0) := by
  refine own_met pn_12 (fun p e s m below meth c s₁ hx hby hml hown hnm hret hlk hZ X0 e0 => ?_)
  have hown : s.vm.findClass "com/example/spikeline/spikeline/core/SeededRandom" = some m.cls := hown
  have N0 := Fr.nil n0
  rw [ef_shf0]
  show OwnWk _ _ _ _ (s₁.setTop (mkF m 0 #[.val (.ref r), .val (.ref a), .unset] []))
  refine own_go (fun tgt kst => XS.aloadN X0.here hx rfl (hb hby d12_0) rfl rfl  kst) ?_
  show OwnWk _ _ _ _ (s₁.setTop (mkF m 1 #[.val (.ref r), .val (.ref a), .unset] [(.ref a)]))
  refine own_callI X0 hx hZ (y := (⟨"java/util/List", "size", "()I"⟩ : MethodName)) (z := (⟨"java/util/ArrayList", "size", "()I"⟩ : MethodName)) hown (hw _ (List.mem_of_getElem? (i := 80) rfl)) (hw _ (List.mem_of_getElem? (i := 81) rfl)) (mvT hZ (hw _ (List.mem_of_getElem? (i := 82) rfl))) (hw _ (List.mem_of_getElem? (i := 83) rfl)) (hw _ (List.mem_of_getElem? (i := 84) rfl)) (hw _ (List.mem_of_getElem? (i := 85) rfl)) (hw _ (List.mem_of_getElem? (i := 86) rfl)) (hw _ (List.mem_of_getElem? (i := 87) rfl)) (hw _ (List.mem_of_getElem? (i := 4) rfl)) (hw _ (List.mem_of_getElem? (i := 88) rfl)) (by decide) (a := a) E_a (argsL := []) (rest := []) (rm := ({ frames := 0, cells := 0, slots := 0, locals := 0 } : Room)) (h := h0) (rm13 l Z a0 hw a (0 : Int32) h0 n0 Z0 F_s) e0 (W := 0) (by decide) (by decide) (by decide) (by decide) (g := (mkF m 1 #[.val (.ref r), .val (.ref a), .unset] [(.ref a)])) rfl (by rw [hml]; rfl) (lenOf pd_9 rfl) rfl (by show 2 * 0 + _ ≤ _; exact Nat.le_of_eq rfl) (hb hby d12_1) (fun v1 T1 h1 L1 X1 e1 hQ1 => ?_)
  obtain ⟨rfl, Nq1, q1⟩ := hQ1
  have N1 := Fr.app N0 Nq1
  rw [q1] at e1
  show OwnWk _ _ _ _ (T1.setTop (mkF m 6 #[.val (.ref r), .val (.ref a), .unset] [(.int (0 : Int32))]))
  refine own_go (fun tgt kst => XS.iconst X1.here hx rfl (hb hby d12_6) kst) ?_
  show OwnWk _ _ _ _ (T1.setTop (mkF m 7 #[.val (.ref r), .val (.ref a), .unset] [(.int (1 : Int32)), (.int (0 : Int32))]))
  refine own_go (fun tgt kst => XS.isub X1.here hx rfl (hb hby d12_7) rfl kst) ?_
  show OwnWk _ _ _ _ (T1.setTop (mkF m 8 #[.val (.ref r), .val (.ref a), .unset] [(.int (-1 : Int32))]))
  refine own_go (fun tgt kst => XS.istoreN X1.here hx rfl (hb hby d12_8) rfl (l' := #[.val (.ref r), .val (.ref a), .val (.int (-1 : Int32))]) rfl kst) ?_
  show OwnWk _ _ _ _ (T1.setTop (mkF m 9 #[.val (.ref r), .val (.ref a), .val (.int (-1 : Int32))] []))
  refine own_go (fun tgt kst => XS.iloadN X1.here hx rfl (hb hby d12_9) rfl  kst) ?_
  show OwnWk _ _ _ _ (T1.setTop (mkF m 10 #[.val (.ref r), .val (.ref a), .val (.int (-1 : Int32))] [(.int (-1 : Int32))]))
  refine own_go (fun tgt kst => XS.ifYes X1.here hx rfl (pc0 := 10) (pc' := 31) rfl (hb hby d12_10) rfl ((if0 _ _).trans (flt (by decide : ¬ ((0 : Int32) < (-1 : Int32)))).2.2.2) (by decide) (by decide) kst) ?_
  show OwnWk _ _ _ _ (T1.setTop (mkF m 31 #[.val (.ref r), .val (.ref a), .val (.int (-1 : Int32))] []))
  exact own_retV X1 hx hlk hret (hb hby d12_31) (by decide) (by decide) (by rw [e1]; exact ⟨rfl, N1, rfl⟩)
theorem ef_shf1 (m : MethodId) (x0 : Addr) (x1 : Addr) : entryFrame m #[(.ref x0), (.ref x1)] 3 = mkF m 0 #[.val (.ref x0), .val (.ref x1), .unset] [] := by first | (simp [entryFrame, mkF, argsToLocals, Value.category]; done) | rfl
def Q_shf1 (Z : State) (dce cac : Addr) (ia : Nat → Addr) (r a ed : Addr) (q : Int64) (ks : List Nat) (h0 : Heap) (n0 : Nat) (v : Option Value) (h : Heap) (L : List Loc) : Prop := v = none ∧ Fr n0 L ∧ h = h0
set_option maxRecDepth 65536 in
set_option maxHeartbeats 40000000 in
theorem shf1 (l : Launch) (Z : State) (a0 : Array Value) (hw : ∀ d ∈ tables_1, d.before a0 Z = true) (dce cac : Addr) (ia : Nat → Addr) (r a ed : Addr) (q : Int64) (ks : List Nat) (h0 : Heap) (n0 : Nat) (Z0 : n0 ≤ h0.size) (O0 : Old Z n0 h0) (S_d : Sta Z Z.heap "java/util/ArrayList" "DEFAULTCAPACITY_EMPTY_ELEMENTDATA" "[Ljava/lang/Object;" (.ref dce)) (V_d : OAr Z Z.heap dce (.object "java/lang/Object") []) (S_h : Sta Z Z.heap "java/lang/Integer$IntegerCache" "high" "I" (.int (127 : Int32))) (S_c : Sta Z Z.heap "java/lang/Integer$IntegerCache" "cache" "[Ljava/lang/Integer;" (.ref cac)) (hL : ∀ k < 4, OEl Z Z.heap cac (.object "java/lang/Integer") (128 + k) (.ref (ia k))) (hE : ∀ k < 4, Exa Z Z.heap (ia k) "java/lang/Integer") (hV : ∀ k < 4, Fld Z Z.heap (ia k) "java/lang/Integer" "value" "I" (.int (Int32.ofNat k))) (F_q : Fld Z h0 r "com/example/spikeline/spikeline/core/SeededRandom" "state" "J" (.long q)) (E_r : Exa Z h0 r "com/example/spikeline/spikeline/core/SeededRandom") (g_r : n0 ≤ r) (E_a : Exa Z h0 a "java/util/ArrayList") (F_s : Fld Z h0 a "java/util/ArrayList" "size" "I" (.int (1 : Int32))) :
    OwnMet l (⟨"com/example/spikeline/spikeline/core/SeededRandom", "shuffle", "(Ljava/util/List;)V"⟩ : MethodName) prog_8_method_5_code 3 none [] ({ frames := 1, cells := 0, slots := 0, locals := 12 } : Room) Z #[(.ref r), (.ref a)] h0 (Q_shf1 Z dce cac ia r a ed q ks h0 n0) := by
  refine own_met pn_12 (fun p e s m below meth c s₁ hx hby hml hown hnm hret hlk hZ X0 e0 => ?_)
  have hown : s.vm.findClass "com/example/spikeline/spikeline/core/SeededRandom" = some m.cls := hown
  have N0 := Fr.nil n0
  rw [ef_shf1]
  show OwnWk _ _ _ _ (s₁.setTop (mkF m 0 #[.val (.ref r), .val (.ref a), .unset] []))
  refine own_go (fun tgt kst => XS.aloadN X0.here hx rfl (hb hby d12_0) rfl rfl  kst) ?_
  show OwnWk _ _ _ _ (s₁.setTop (mkF m 1 #[.val (.ref r), .val (.ref a), .unset] [(.ref a)]))
  refine own_callI X0 hx hZ (y := (⟨"java/util/List", "size", "()I"⟩ : MethodName)) (z := (⟨"java/util/ArrayList", "size", "()I"⟩ : MethodName)) hown (hw _ (List.mem_of_getElem? (i := 80) rfl)) (hw _ (List.mem_of_getElem? (i := 81) rfl)) (mvT hZ (hw _ (List.mem_of_getElem? (i := 82) rfl))) (hw _ (List.mem_of_getElem? (i := 83) rfl)) (hw _ (List.mem_of_getElem? (i := 84) rfl)) (hw _ (List.mem_of_getElem? (i := 85) rfl)) (hw _ (List.mem_of_getElem? (i := 86) rfl)) (hw _ (List.mem_of_getElem? (i := 87) rfl)) (hw _ (List.mem_of_getElem? (i := 4) rfl)) (hw _ (List.mem_of_getElem? (i := 88) rfl)) (by decide) (a := a) E_a (argsL := []) (rest := []) (rm := ({ frames := 0, cells := 0, slots := 0, locals := 0 } : Room)) (h := h0) (rm13 l Z a0 hw a (1 : Int32) h0 n0 Z0 F_s) e0 (W := 0) (by decide) (by decide) (by decide) (by decide) (g := (mkF m 1 #[.val (.ref r), .val (.ref a), .unset] [(.ref a)])) rfl (by rw [hml]; rfl) (lenOf pd_9 rfl) rfl (by show 2 * 0 + _ ≤ _; exact Nat.le_of_eq rfl) (hb hby d12_1) (fun v1 T1 h1 L1 X1 e1 hQ1 => ?_)
  obtain ⟨rfl, Nq1, q1⟩ := hQ1
  have N1 := Fr.app N0 Nq1
  rw [q1] at e1
  show OwnWk _ _ _ _ (T1.setTop (mkF m 6 #[.val (.ref r), .val (.ref a), .unset] [(.int (1 : Int32))]))
  refine own_go (fun tgt kst => XS.iconst X1.here hx rfl (hb hby d12_6) kst) ?_
  show OwnWk _ _ _ _ (T1.setTop (mkF m 7 #[.val (.ref r), .val (.ref a), .unset] [(.int (1 : Int32)), (.int (1 : Int32))]))
  refine own_go (fun tgt kst => XS.isub X1.here hx rfl (hb hby d12_7) rfl kst) ?_
  show OwnWk _ _ _ _ (T1.setTop (mkF m 8 #[.val (.ref r), .val (.ref a), .unset] [(.int (0 : Int32))]))
  refine own_go (fun tgt kst => XS.istoreN X1.here hx rfl (hb hby d12_8) rfl (l' := #[.val (.ref r), .val (.ref a), .val (.int (0 : Int32))]) rfl kst) ?_
  show OwnWk _ _ _ _ (T1.setTop (mkF m 9 #[.val (.ref r), .val (.ref a), .val (.int (0 : Int32))] []))
  refine own_go (fun tgt kst => XS.iloadN X1.here hx rfl (hb hby d12_9) rfl  kst) ?_
  show OwnWk _ _ _ _ (T1.setTop (mkF m 10 #[.val (.ref r), .val (.ref a), .val (.int (0 : Int32))] [(.int (0 : Int32))]))
  refine own_go (fun tgt kst => XS.ifYes X1.here hx rfl (pc0 := 10) (pc' := 31) rfl (hb hby d12_10) rfl ((if0 _ _).trans (flt (by decide : ¬ ((0 : Int32) < (0 : Int32)))).2.2.2) (by decide) (by decide) kst) ?_
  show OwnWk _ _ _ _ (T1.setTop (mkF m 31 #[.val (.ref r), .val (.ref a), .val (.int (0 : Int32))] []))
  exact own_retV X1 hx hlk hret (hb hby d12_31) (by decide) (by decide) (by rw [e1]; exact ⟨rfl, N1, rfl⟩)
theorem d12_13 : decode prog_8_method_5_code 13 = .ok (.aload_n 1, 1) := by decide +kernel
theorem d12_14 : decode prog_8_method_5_code 14 = .ok (.iload_n 2, 1) := by decide +kernel
theorem d12_15 : decode prog_8_method_5_code 15 = .ok (.aload_n 0, 1) := by decide +kernel
theorem d12_16 : decode prog_8_method_5_code 16 = .ok (.iload_n 2, 1) := by decide +kernel
theorem d12_17 : decode prog_8_method_5_code 17 = .ok (.iconst 1, 1) := by decide +kernel
theorem d12_18 : decode prog_8_method_5_code 18 = .ok (.iadd, 1) := by decide +kernel
theorem d12_19 : decode prog_8_method_5_code 19 = .ok (.invokevirtual 42, 3) := by decide +kernel
theorem pd_10 : parseMethodDescriptor "(I)I" = some ⟨[.int], some .int⟩ := by decide +kernel
theorem d12_22 : decode prog_8_method_5_code 22 = .ok (.invokestatic 46, 3) := by decide +kernel
theorem pd_11 : parseMethodDescriptor "(Ljava/util/List;II)V" = some ⟨[(.object "java/util/List"), .int, .int], none⟩ := by decide +kernel
theorem d12_25 : decode prog_8_method_5_code 25 = .ok (.iinc 2 (-1), 3) := by decide +kernel
theorem d12_28 : decode prog_8_method_5_code 28 = .ok (.goto (-19), 3) := by decide +kernel
theorem ef_shf2 (m : MethodId) (x0 : Addr) (x1 : Addr) : entryFrame m #[(.ref x0), (.ref x1)] 3 = mkF m 0 #[.val (.ref x0), .val (.ref x1), .unset] [] := by first | (simp [entryFrame, mkF, argsToLocals, Value.category]; done) | rfl
def Q_shf2 (Z : State) (dce cac : Addr) (ia : Nat → Addr) (r a ed : Addr) (q : Int64) (ks : List Nat) (h0 : Heap) (n0 : Nat) (v : Option Value) (h : Heap) (L : List Loc) : Prop := v = none ∧ Fr n0 L ∧ Keep h0 h [r, ed] ∧ Fld Z h r "com/example/spikeline/spikeline/core/SeededRandom" "state" "J" (.long (own_land q (2 : Int32))) ∧ OAr Z h ed (.object "java/lang/Object") (own_rv ((own_exch ks 1 (own_j q (2 : Int32))).map ia))
set_option maxRecDepth 65536 in
set_option maxHeartbeats 40000000 in
theorem shf2 (l : Launch) (Z : State) (a0 : Array Value) (hw : ∀ d ∈ tables_1, d.before a0 Z = true) (dce cac : Addr) (ia : Nat → Addr) (r a ed : Addr) (q : Int64) (ks : List Nat) (h0 : Heap) (n0 : Nat) (Z0 : n0 ≤ h0.size) (O0 : Old Z n0 h0) (S_d : Sta Z Z.heap "java/util/ArrayList" "DEFAULTCAPACITY_EMPTY_ELEMENTDATA" "[Ljava/lang/Object;" (.ref dce)) (V_d : OAr Z Z.heap dce (.object "java/lang/Object") []) (S_h : Sta Z Z.heap "java/lang/Integer$IntegerCache" "high" "I" (.int (127 : Int32))) (S_c : Sta Z Z.heap "java/lang/Integer$IntegerCache" "cache" "[Ljava/lang/Integer;" (.ref cac)) (hL : ∀ k < 4, OEl Z Z.heap cac (.object "java/lang/Integer") (128 + k) (.ref (ia k))) (hE : ∀ k < 4, Exa Z Z.heap (ia k) "java/lang/Integer") (hV : ∀ k < 4, Fld Z Z.heap (ia k) "java/lang/Integer" "value" "I" (.int (Int32.ofNat k))) (F_q : Fld Z h0 r "com/example/spikeline/spikeline/core/SeededRandom" "state" "J" (.long q)) (E_r : Exa Z h0 r "com/example/spikeline/spikeline/core/SeededRandom") (g_r : n0 ≤ r) (E_a : Exa Z h0 a "java/util/ArrayList") (F_s : Fld Z h0 a "java/util/ArrayList" "size" "I" (.int (2 : Int32))) (F_e : Fld Z h0 a "java/util/ArrayList" "elementData" "[Ljava/lang/Object;" (.ref ed)) (V_e : OAr Z h0 ed (.object "java/lang/Object") (own_rv (ks.map ia))) (hxl : ks.length = 2) (hk4 : ∀ k ∈ ks, k < 4) (O_e : OOv Z h0 ed "java/lang/Object") (g_e : n0 ≤ ed) (ne_ae : a ≠ ed) (ne_re : r ≠ ed) (ne_ra : r ≠ a) :
    OwnMet l (⟨"com/example/spikeline/spikeline/core/SeededRandom", "shuffle", "(Ljava/util/List;)V"⟩ : MethodName) prog_8_method_5_code 3 none [] ({ frames := 4, cells := 0, slots := 0, locals := 59 } : Room) Z #[(.ref r), (.ref a)] h0 (Q_shf2 Z dce cac ia r a ed q ks h0 n0) := by
  refine own_met pn_12 (fun p e s m below meth c s₁ hx hby hml hown hnm hret hlk hZ X0 e0 => ?_)
  have hown : s.vm.findClass "com/example/spikeline/spikeline/core/SeededRandom" = some m.cls := hown
  have N0 := Fr.nil n0
  have K0 := Keep.refl h0 [r, ed]
  rw [ef_shf2]
  show OwnWk _ _ _ _ (s₁.setTop (mkF m 0 #[.val (.ref r), .val (.ref a), .unset] []))
  refine own_go (fun tgt kst => XS.aloadN X0.here hx rfl (hb hby d12_0) rfl rfl  kst) ?_
  show OwnWk _ _ _ _ (s₁.setTop (mkF m 1 #[.val (.ref r), .val (.ref a), .unset] [(.ref a)]))
  refine own_callI X0 hx hZ (y := (⟨"java/util/List", "size", "()I"⟩ : MethodName)) (z := (⟨"java/util/ArrayList", "size", "()I"⟩ : MethodName)) hown (hw _ (List.mem_of_getElem? (i := 80) rfl)) (hw _ (List.mem_of_getElem? (i := 81) rfl)) (mvT hZ (hw _ (List.mem_of_getElem? (i := 82) rfl))) (hw _ (List.mem_of_getElem? (i := 83) rfl)) (hw _ (List.mem_of_getElem? (i := 84) rfl)) (hw _ (List.mem_of_getElem? (i := 85) rfl)) (hw _ (List.mem_of_getElem? (i := 86) rfl)) (hw _ (List.mem_of_getElem? (i := 87) rfl)) (hw _ (List.mem_of_getElem? (i := 4) rfl)) (hw _ (List.mem_of_getElem? (i := 88) rfl)) (by decide) (a := a) E_a (argsL := []) (rest := []) (rm := ({ frames := 0, cells := 0, slots := 0, locals := 0 } : Room)) (h := h0) (rm13 l Z a0 hw a (2 : Int32) h0 n0 Z0 F_s) e0 (W := 0) (by decide) (by decide) (by decide) (by decide) (g := (mkF m 1 #[.val (.ref r), .val (.ref a), .unset] [(.ref a)])) rfl (by rw [hml]; rfl) (lenOf pd_9 rfl) rfl (by show 2 * 0 + _ ≤ _; exact Nat.le_of_eq rfl) (hb hby d12_1) (fun v1 T1 h1 L1 X1 e1 hQ1 => ?_)
  obtain ⟨rfl, Nq1, q1⟩ := hQ1
  have N1 := Fr.app N0 Nq1
  rw [q1] at e1
  show OwnWk _ _ _ _ (T1.setTop (mkF m 6 #[.val (.ref r), .val (.ref a), .unset] [(.int (2 : Int32))]))
  refine own_go (fun tgt kst => XS.iconst X1.here hx rfl (hb hby d12_6) kst) ?_
  show OwnWk _ _ _ _ (T1.setTop (mkF m 7 #[.val (.ref r), .val (.ref a), .unset] [(.int (1 : Int32)), (.int (2 : Int32))]))
  refine own_go (fun tgt kst => XS.isub X1.here hx rfl (hb hby d12_7) rfl kst) ?_
  show OwnWk _ _ _ _ (T1.setTop (mkF m 8 #[.val (.ref r), .val (.ref a), .unset] [(.int (1 : Int32))]))
  refine own_go (fun tgt kst => XS.istoreN X1.here hx rfl (hb hby d12_8) rfl (l' := #[.val (.ref r), .val (.ref a), .val (.int (1 : Int32))]) rfl kst) ?_
  show OwnWk _ _ _ _ (T1.setTop (mkF m 9 #[.val (.ref r), .val (.ref a), .val (.int (1 : Int32))] []))
  refine own_go (fun tgt kst => XS.iloadN X1.here hx rfl (hb hby d12_9) rfl  kst) ?_
  show OwnWk _ _ _ _ (T1.setTop (mkF m 10 #[.val (.ref r), .val (.ref a), .val (.int (1 : Int32))] [(.int (1 : Int32))]))
  refine own_go (fun tgt kst => XS.ifNo X1.here hx rfl (hb hby d12_10) rfl ((if0 _ _).trans (tlt (by decide : (0 : Int32) < (1 : Int32))).2.2.2) kst) ?_
  show OwnWk _ _ _ _ (T1.setTop (mkF m 13 #[.val (.ref r), .val (.ref a), .val (.int (1 : Int32))] []))
  refine own_go (fun tgt kst => XS.aloadN X1.here hx rfl (hb hby d12_13) rfl rfl  kst) ?_
  show OwnWk _ _ _ _ (T1.setTop (mkF m 14 #[.val (.ref r), .val (.ref a), .val (.int (1 : Int32))] [(.ref a)]))
  refine own_go (fun tgt kst => XS.iloadN X1.here hx rfl (hb hby d12_14) rfl  kst) ?_
  show OwnWk _ _ _ _ (T1.setTop (mkF m 15 #[.val (.ref r), .val (.ref a), .val (.int (1 : Int32))] [(.int (1 : Int32)), (.ref a)]))
  refine own_go (fun tgt kst => XS.aloadN X1.here hx rfl (hb hby d12_15) rfl rfl  kst) ?_
  show OwnWk _ _ _ _ (T1.setTop (mkF m 16 #[.val (.ref r), .val (.ref a), .val (.int (1 : Int32))] [(.ref r), (.int (1 : Int32)), (.ref a)]))
  refine own_go (fun tgt kst => XS.iloadN X1.here hx rfl (hb hby d12_16) rfl  kst) ?_
  show OwnWk _ _ _ _ (T1.setTop (mkF m 17 #[.val (.ref r), .val (.ref a), .val (.int (1 : Int32))] [(.int (1 : Int32)), (.ref r), (.int (1 : Int32)), (.ref a)]))
  refine own_go (fun tgt kst => XS.iconst X1.here hx rfl (hb hby d12_17) kst) ?_
  show OwnWk _ _ _ _ (T1.setTop (mkF m 18 #[.val (.ref r), .val (.ref a), .val (.int (1 : Int32))] [(.int (1 : Int32)), (.int (1 : Int32)), (.ref r), (.int (1 : Int32)), (.ref a)]))
  refine own_go (fun tgt kst => XS.iadd X1.here hx rfl (hb hby d12_18) rfl kst) ?_
  show OwnWk _ _ _ _ (T1.setTop (mkF m 19 #[.val (.ref r), .val (.ref a), .val (.int (1 : Int32))] [(.int (2 : Int32)), (.ref r), (.int (1 : Int32)), (.ref a)]))
  refine own_callV X1 hx hZ (y := (⟨"com/example/spikeline/spikeline/core/SeededRandom", "nextInt", "(I)I"⟩ : MethodName)) (z := (⟨"com/example/spikeline/spikeline/core/SeededRandom", "nextInt", "(I)I"⟩ : MethodName)) hown (hw _ (List.mem_of_getElem? (i := 89) rfl)) (hw _ (List.mem_of_getElem? (i := 90) rfl)) (notFace_of_selects (args := #[]) (mvT hZ (hw _ (List.mem_of_getElem? (i := 92) rfl)))) (hw _ (List.mem_of_getElem? (i := 92) rfl)) (hw _ (List.mem_of_getElem? (i := 91) rfl)) (hw _ (List.mem_of_getElem? (i := 68) rfl)) (hw _ (List.mem_of_getElem? (i := 93) rfl)) (by decide) (a := r) E_r (argsL := [(.int (2 : Int32))]) (rest := [(.int (1 : Int32)), (.ref a)]) (rm := ({ frames := 1, cells := 0, slots := 0, locals := 14 } : Room)) (h := h0) (rm14 l Z a0 hw r (2 : Int32) q h0 n0 Z0 F_q E_r g_r (by decide)) e1 (W := 2) (by decide) (by decide) (by decide) (by decide) (g := (mkF m 19 #[.val (.ref r), .val (.ref a), .val (.int (1 : Int32))] [(.int (2 : Int32)), (.ref r), (.int (1 : Int32)), (.ref a)])) rfl (by rw [hml]; rfl) (lenOf pd_10 rfl) rfl (by show 2 * 0 + _ ≤ _; exact Nat.le_of_eq rfl) (hb hby d12_19) (fun v2 T2 h2 L2 X2 e2 hQ2 => ?_)
  obtain ⟨rfl, Nq2, Kq2, Fq2⟩ := hQ2
  have N2 := Fr.app N1 Nq2
  have F3 := Old.keep O0 Kq2 (allS g_r all0)
  have F4 := Exa.keep E_r Kq2
  have F5 := Exa.keep E_a Kq2
  have F6 := Fld.keep F_s Kq2 (ninS (Ne.symm ne_ra) nin0)
  have F7 := Fld.keep F_e Kq2 (ninS (Ne.symm ne_ra) nin0)
  have F8 := OAr.keep V_e Kq2 (ninS (Ne.symm ne_re) nin0)
  have F9 := OOv.keep O_e Kq2
  have Z10 := Nat.le_trans Z0 Kq2.1
  have K11 := Keep.trans K0 Kq2 (allS (Or.inl (List.mem_of_getElem? (i := 0) rfl)) all0)
  show OwnWk _ _ _ _ (T2.setTop (mkF m 22 #[.val (.ref r), .val (.ref a), .val (.int (1 : Int32))] [(.int (own_r (own_land q (2 : Int32)) (2 : Int32))), (.int (1 : Int32)), (.ref a)]))
  rw [own_j_eq (q := q) (b := (2 : Int32)) (by decide)]
  show OwnWk _ _ _ _ (T2.setTop (mkF m 22 #[.val (.ref r), .val (.ref a), .val (.int (1 : Int32))] [(.int (Int32.ofNat (own_j q (2 : Int32)))), (.int (1 : Int32)), (.ref a)]))
  refine own_callS X2 hx hZ (y := (⟨"java/util/Collections", "swap", "(Ljava/util/List;II)V"⟩ : MethodName)) hown (hw _ (List.mem_of_getElem? (i := 103) rfl)) (hw _ (List.mem_of_getElem? (i := 104) rfl)) (hw _ (List.mem_of_getElem? (i := 105) rfl)) (hw _ (List.mem_of_getElem? (i := 106) rfl)) (by decide) (argsL := [(.ref a), (.int (1 : Int32)), (.int (Int32.ofNat (own_j q (2 : Int32))))]) (rest := []) (rm := ({ frames := 3, cells := 0, slots := 0, locals := 44 } : Room)) (h := h2) (csw l Z a0 hw dce cac ia a ed ks 1 (own_j q (2 : Int32)) 2 h2 n0 Z10 F3 S_d V_d S_h S_c hL hE hV F5 F6 F7 F8 (by decide) (own_j_lt (q := q) (b := (2 : Int32)) (by decide) (n := 2) rfl (by decide)) (by simp [own_elen, hxl]) (by decide) hk4 F9 g_e ne_ae) e2 (W := 0) (by decide) (by decide) (by decide) (by decide) (g := (mkF m 22 #[.val (.ref r), .val (.ref a), .val (.int (1 : Int32))] [(.int (Int32.ofNat (own_j q (2 : Int32)))), (.int (1 : Int32)), (.ref a)])) rfl (by rw [hml]; rfl) (lenOf pd_11 rfl) rfl (by show 2 * 0 + _ ≤ _; exact Nat.le_of_eq rfl) (hb hby d12_22) (fun v12 T12 h12 L12 X12 e12 hQ12 => ?_)
  obtain ⟨rfl, Nq12, Kq12, Vq12⟩ := hQ12
  have N12 := Fr.app N2 Nq12
  have F13 := Old.keep F3 Kq12 (allS g_e all0)
  have F14 := Exa.keep F4 Kq12
  have F15 := Exa.keep F5 Kq12
  have F16 := Fld.keep F6 Kq12 (ninS ne_ae nin0)
  have F17 := Fld.keep F7 Kq12 (ninS ne_ae nin0)
  have F18 := OOv.keep F9 Kq12
  have F19 := Fld.keep Fq2 Kq12 (ninS ne_re nin0)
  have Z20 := Nat.le_trans Z10 Kq12.1
  have K21 := Keep.trans K11 Kq12 (allS (Or.inl (List.mem_of_getElem? (i := 1) rfl)) all0)
  show OwnWk _ _ _ _ (T12.setTop (mkF m 25 #[.val (.ref r), .val (.ref a), .val (.int (1 : Int32))] []))
  refine own_go (fun tgt kst => XS.iinc X12.here hx rfl (hb hby d12_25) rfl (l' := #[.val (.ref r), .val (.ref a), .val (.int (0 : Int32))]) rfl kst) ?_
  show OwnWk _ _ _ _ (T12.setTop (mkF m 28 #[.val (.ref r), .val (.ref a), .val (.int (0 : Int32))] []))
  refine own_go (fun tgt kst => XS.goto X12.here hx rfl (pc0 := 28) (pc' := 9) rfl (hb hby d12_28) (by decide) (by decide) kst) ?_
  show OwnWk _ _ _ _ (T12.setTop (mkF m 9 #[.val (.ref r), .val (.ref a), .val (.int (0 : Int32))] []))
  refine own_go (fun tgt kst => XS.iloadN X12.here hx rfl (hb hby d12_9) rfl  kst) ?_
  show OwnWk _ _ _ _ (T12.setTop (mkF m 10 #[.val (.ref r), .val (.ref a), .val (.int (0 : Int32))] [(.int (0 : Int32))]))
  refine own_go (fun tgt kst => XS.ifYes X12.here hx rfl (pc0 := 10) (pc' := 31) rfl (hb hby d12_10) rfl ((if0 _ _).trans (flt (by decide : ¬ ((0 : Int32) < (0 : Int32)))).2.2.2) (by decide) (by decide) kst) ?_
  show OwnWk _ _ _ _ (T12.setTop (mkF m 31 #[.val (.ref r), .val (.ref a), .val (.int (0 : Int32))] []))
  exact own_retV X12 hx hlk hret (hb hby d12_31) (by decide) (by decide) (by rw [e12]; exact ⟨rfl, N12, K21, F19, Vq12⟩)
theorem ef_shf3 (m : MethodId) (x0 : Addr) (x1 : Addr) : entryFrame m #[(.ref x0), (.ref x1)] 3 = mkF m 0 #[.val (.ref x0), .val (.ref x1), .unset] [] := by first | (simp [entryFrame, mkF, argsToLocals, Value.category]; done) | rfl
def Q_shf3 (Z : State) (dce cac : Addr) (ia : Nat → Addr) (r a ed : Addr) (q : Int64) (ks : List Nat) (h0 : Heap) (n0 : Nat) (v : Option Value) (h : Heap) (L : List Loc) : Prop := v = none ∧ Fr n0 L ∧ Keep h0 h [r, ed] ∧ Fld Z h r "com/example/spikeline/spikeline/core/SeededRandom" "state" "J" (.long (own_land (own_land q (3 : Int32)) (2 : Int32))) ∧ OAr Z h ed (.object "java/lang/Object") (own_rv ((own_exch (own_exch ks 2 (own_j q (3 : Int32))) 1 (own_j (own_land q (3 : Int32)) (2 : Int32))).map ia))
set_option maxRecDepth 65536 in
set_option maxHeartbeats 40000000 in
theorem shf3 (l : Launch) (Z : State) (a0 : Array Value) (hw : ∀ d ∈ tables_1, d.before a0 Z = true) (dce cac : Addr) (ia : Nat → Addr) (r a ed : Addr) (q : Int64) (ks : List Nat) (h0 : Heap) (n0 : Nat) (Z0 : n0 ≤ h0.size) (O0 : Old Z n0 h0) (S_d : Sta Z Z.heap "java/util/ArrayList" "DEFAULTCAPACITY_EMPTY_ELEMENTDATA" "[Ljava/lang/Object;" (.ref dce)) (V_d : OAr Z Z.heap dce (.object "java/lang/Object") []) (S_h : Sta Z Z.heap "java/lang/Integer$IntegerCache" "high" "I" (.int (127 : Int32))) (S_c : Sta Z Z.heap "java/lang/Integer$IntegerCache" "cache" "[Ljava/lang/Integer;" (.ref cac)) (hL : ∀ k < 4, OEl Z Z.heap cac (.object "java/lang/Integer") (128 + k) (.ref (ia k))) (hE : ∀ k < 4, Exa Z Z.heap (ia k) "java/lang/Integer") (hV : ∀ k < 4, Fld Z Z.heap (ia k) "java/lang/Integer" "value" "I" (.int (Int32.ofNat k))) (F_q : Fld Z h0 r "com/example/spikeline/spikeline/core/SeededRandom" "state" "J" (.long q)) (E_r : Exa Z h0 r "com/example/spikeline/spikeline/core/SeededRandom") (g_r : n0 ≤ r) (E_a : Exa Z h0 a "java/util/ArrayList") (F_s : Fld Z h0 a "java/util/ArrayList" "size" "I" (.int (3 : Int32))) (F_e : Fld Z h0 a "java/util/ArrayList" "elementData" "[Ljava/lang/Object;" (.ref ed)) (V_e : OAr Z h0 ed (.object "java/lang/Object") (own_rv (ks.map ia))) (hxl : ks.length = 3) (hk4 : ∀ k ∈ ks, k < 4) (O_e : OOv Z h0 ed "java/lang/Object") (g_e : n0 ≤ ed) (ne_ae : a ≠ ed) (ne_re : r ≠ ed) (ne_ra : r ≠ a) :
    OwnMet l (⟨"com/example/spikeline/spikeline/core/SeededRandom", "shuffle", "(Ljava/util/List;)V"⟩ : MethodName) prog_8_method_5_code 3 none [] ({ frames := 4, cells := 0, slots := 0, locals := 59 } : Room) Z #[(.ref r), (.ref a)] h0 (Q_shf3 Z dce cac ia r a ed q ks h0 n0) := by
  refine own_met pn_12 (fun p e s m below meth c s₁ hx hby hml hown hnm hret hlk hZ X0 e0 => ?_)
  have hown : s.vm.findClass "com/example/spikeline/spikeline/core/SeededRandom" = some m.cls := hown
  have N0 := Fr.nil n0
  have K0 := Keep.refl h0 [r, ed]
  rw [ef_shf3]
  show OwnWk _ _ _ _ (s₁.setTop (mkF m 0 #[.val (.ref r), .val (.ref a), .unset] []))
  refine own_go (fun tgt kst => XS.aloadN X0.here hx rfl (hb hby d12_0) rfl rfl  kst) ?_
  show OwnWk _ _ _ _ (s₁.setTop (mkF m 1 #[.val (.ref r), .val (.ref a), .unset] [(.ref a)]))
  refine own_callI X0 hx hZ (y := (⟨"java/util/List", "size", "()I"⟩ : MethodName)) (z := (⟨"java/util/ArrayList", "size", "()I"⟩ : MethodName)) hown (hw _ (List.mem_of_getElem? (i := 80) rfl)) (hw _ (List.mem_of_getElem? (i := 81) rfl)) (mvT hZ (hw _ (List.mem_of_getElem? (i := 82) rfl))) (hw _ (List.mem_of_getElem? (i := 83) rfl)) (hw _ (List.mem_of_getElem? (i := 84) rfl)) (hw _ (List.mem_of_getElem? (i := 85) rfl)) (hw _ (List.mem_of_getElem? (i := 86) rfl)) (hw _ (List.mem_of_getElem? (i := 87) rfl)) (hw _ (List.mem_of_getElem? (i := 4) rfl)) (hw _ (List.mem_of_getElem? (i := 88) rfl)) (by decide) (a := a) E_a (argsL := []) (rest := []) (rm := ({ frames := 0, cells := 0, slots := 0, locals := 0 } : Room)) (h := h0) (rm13 l Z a0 hw a (3 : Int32) h0 n0 Z0 F_s) e0 (W := 0) (by decide) (by decide) (by decide) (by decide) (g := (mkF m 1 #[.val (.ref r), .val (.ref a), .unset] [(.ref a)])) rfl (by rw [hml]; rfl) (lenOf pd_9 rfl) rfl (by show 2 * 0 + _ ≤ _; exact Nat.le_of_eq rfl) (hb hby d12_1) (fun v1 T1 h1 L1 X1 e1 hQ1 => ?_)
  obtain ⟨rfl, Nq1, q1⟩ := hQ1
  have N1 := Fr.app N0 Nq1
  rw [q1] at e1
  show OwnWk _ _ _ _ (T1.setTop (mkF m 6 #[.val (.ref r), .val (.ref a), .unset] [(.int (3 : Int32))]))
  refine own_go (fun tgt kst => XS.iconst X1.here hx rfl (hb hby d12_6) kst) ?_
  show OwnWk _ _ _ _ (T1.setTop (mkF m 7 #[.val (.ref r), .val (.ref a), .unset] [(.int (1 : Int32)), (.int (3 : Int32))]))
  refine own_go (fun tgt kst => XS.isub X1.here hx rfl (hb hby d12_7) rfl kst) ?_
  show OwnWk _ _ _ _ (T1.setTop (mkF m 8 #[.val (.ref r), .val (.ref a), .unset] [(.int (2 : Int32))]))
  refine own_go (fun tgt kst => XS.istoreN X1.here hx rfl (hb hby d12_8) rfl (l' := #[.val (.ref r), .val (.ref a), .val (.int (2 : Int32))]) rfl kst) ?_
  show OwnWk _ _ _ _ (T1.setTop (mkF m 9 #[.val (.ref r), .val (.ref a), .val (.int (2 : Int32))] []))
  refine own_go (fun tgt kst => XS.iloadN X1.here hx rfl (hb hby d12_9) rfl  kst) ?_
  show OwnWk _ _ _ _ (T1.setTop (mkF m 10 #[.val (.ref r), .val (.ref a), .val (.int (2 : Int32))] [(.int (2 : Int32))]))
  refine own_go (fun tgt kst => XS.ifNo X1.here hx rfl (hb hby d12_10) rfl ((if0 _ _).trans (tlt (by decide : (0 : Int32) < (2 : Int32))).2.2.2) kst) ?_
  show OwnWk _ _ _ _ (T1.setTop (mkF m 13 #[.val (.ref r), .val (.ref a), .val (.int (2 : Int32))] []))
  refine own_go (fun tgt kst => XS.aloadN X1.here hx rfl (hb hby d12_13) rfl rfl  kst) ?_
  show OwnWk _ _ _ _ (T1.setTop (mkF m 14 #[.val (.ref r), .val (.ref a), .val (.int (2 : Int32))] [(.ref a)]))
  refine own_go (fun tgt kst => XS.iloadN X1.here hx rfl (hb hby d12_14) rfl  kst) ?_
  show OwnWk _ _ _ _ (T1.setTop (mkF m 15 #[.val (.ref r), .val (.ref a), .val (.int (2 : Int32))] [(.int (2 : Int32)), (.ref a)]))
  refine own_go (fun tgt kst => XS.aloadN X1.here hx rfl (hb hby d12_15) rfl rfl  kst) ?_
  show OwnWk _ _ _ _ (T1.setTop (mkF m 16 #[.val (.ref r), .val (.ref a), .val (.int (2 : Int32))] [(.ref r), (.int (2 : Int32)), (.ref a)]))
  refine own_go (fun tgt kst => XS.iloadN X1.here hx rfl (hb hby d12_16) rfl  kst) ?_
  show OwnWk _ _ _ _ (T1.setTop (mkF m 17 #[.val (.ref r), .val (.ref a), .val (.int (2 : Int32))] [(.int (2 : Int32)), (.ref r), (.int (2 : Int32)), (.ref a)]))
  refine own_go (fun tgt kst => XS.iconst X1.here hx rfl (hb hby d12_17) kst) ?_
  show OwnWk _ _ _ _ (T1.setTop (mkF m 18 #[.val (.ref r), .val (.ref a), .val (.int (2 : Int32))] [(.int (1 : Int32)), (.int (2 : Int32)), (.ref r), (.int (2 : Int32)), (.ref a)]))
  refine own_go (fun tgt kst => XS.iadd X1.here hx rfl (hb hby d12_18) rfl kst) ?_
  show OwnWk _ _ _ _ (T1.setTop (mkF m 19 #[.val (.ref r), .val (.ref a), .val (.int (2 : Int32))] [(.int (3 : Int32)), (.ref r), (.int (2 : Int32)), (.ref a)]))
  refine own_callV X1 hx hZ (y := (⟨"com/example/spikeline/spikeline/core/SeededRandom", "nextInt", "(I)I"⟩ : MethodName)) (z := (⟨"com/example/spikeline/spikeline/core/SeededRandom", "nextInt", "(I)I"⟩ : MethodName)) hown (hw _ (List.mem_of_getElem? (i := 89) rfl)) (hw _ (List.mem_of_getElem? (i := 90) rfl)) (notFace_of_selects (args := #[]) (mvT hZ (hw _ (List.mem_of_getElem? (i := 92) rfl)))) (hw _ (List.mem_of_getElem? (i := 92) rfl)) (hw _ (List.mem_of_getElem? (i := 91) rfl)) (hw _ (List.mem_of_getElem? (i := 68) rfl)) (hw _ (List.mem_of_getElem? (i := 93) rfl)) (by decide) (a := r) E_r (argsL := [(.int (3 : Int32))]) (rest := [(.int (2 : Int32)), (.ref a)]) (rm := ({ frames := 1, cells := 0, slots := 0, locals := 14 } : Room)) (h := h0) (rm14 l Z a0 hw r (3 : Int32) q h0 n0 Z0 F_q E_r g_r (by decide)) e1 (W := 2) (by decide) (by decide) (by decide) (by decide) (g := (mkF m 19 #[.val (.ref r), .val (.ref a), .val (.int (2 : Int32))] [(.int (3 : Int32)), (.ref r), (.int (2 : Int32)), (.ref a)])) rfl (by rw [hml]; rfl) (lenOf pd_10 rfl) rfl (by show 2 * 0 + _ ≤ _; exact Nat.le_of_eq rfl) (hb hby d12_19) (fun v2 T2 h2 L2 X2 e2 hQ2 => ?_)
  obtain ⟨rfl, Nq2, Kq2, Fq2⟩ := hQ2
  have N2 := Fr.app N1 Nq2
  have F3 := Old.keep O0 Kq2 (allS g_r all0)
  have F4 := Exa.keep E_r Kq2
  have F5 := Exa.keep E_a Kq2
  have F6 := Fld.keep F_s Kq2 (ninS (Ne.symm ne_ra) nin0)
  have F7 := Fld.keep F_e Kq2 (ninS (Ne.symm ne_ra) nin0)
  have F8 := OAr.keep V_e Kq2 (ninS (Ne.symm ne_re) nin0)
  have F9 := OOv.keep O_e Kq2
  have Z10 := Nat.le_trans Z0 Kq2.1
  have K11 := Keep.trans K0 Kq2 (allS (Or.inl (List.mem_of_getElem? (i := 0) rfl)) all0)
  show OwnWk _ _ _ _ (T2.setTop (mkF m 22 #[.val (.ref r), .val (.ref a), .val (.int (2 : Int32))] [(.int (own_r (own_land q (3 : Int32)) (3 : Int32))), (.int (2 : Int32)), (.ref a)]))
  rw [own_j_eq (q := q) (b := (3 : Int32)) (by decide)]
  show OwnWk _ _ _ _ (T2.setTop (mkF m 22 #[.val (.ref r), .val (.ref a), .val (.int (2 : Int32))] [(.int (Int32.ofNat (own_j q (3 : Int32)))), (.int (2 : Int32)), (.ref a)]))
  refine own_callS X2 hx hZ (y := (⟨"java/util/Collections", "swap", "(Ljava/util/List;II)V"⟩ : MethodName)) hown (hw _ (List.mem_of_getElem? (i := 103) rfl)) (hw _ (List.mem_of_getElem? (i := 104) rfl)) (hw _ (List.mem_of_getElem? (i := 105) rfl)) (hw _ (List.mem_of_getElem? (i := 106) rfl)) (by decide) (argsL := [(.ref a), (.int (2 : Int32)), (.int (Int32.ofNat (own_j q (3 : Int32))))]) (rest := []) (rm := ({ frames := 3, cells := 0, slots := 0, locals := 44 } : Room)) (h := h2) (csw l Z a0 hw dce cac ia a ed ks 2 (own_j q (3 : Int32)) 3 h2 n0 Z10 F3 S_d V_d S_h S_c hL hE hV F5 F6 F7 F8 (by decide) (own_j_lt (q := q) (b := (3 : Int32)) (by decide) (n := 3) rfl (by decide)) (by simp [own_elen, hxl]) (by decide) hk4 F9 g_e ne_ae) e2 (W := 0) (by decide) (by decide) (by decide) (by decide) (g := (mkF m 22 #[.val (.ref r), .val (.ref a), .val (.int (2 : Int32))] [(.int (Int32.ofNat (own_j q (3 : Int32)))), (.int (2 : Int32)), (.ref a)])) rfl (by rw [hml]; rfl) (lenOf pd_11 rfl) rfl (by show 2 * 0 + _ ≤ _; exact Nat.le_of_eq rfl) (hb hby d12_22) (fun v12 T12 h12 L12 X12 e12 hQ12 => ?_)
  obtain ⟨rfl, Nq12, Kq12, Vq12⟩ := hQ12
  have N12 := Fr.app N2 Nq12
  have F13 := Old.keep F3 Kq12 (allS g_e all0)
  have F14 := Exa.keep F4 Kq12
  have F15 := Exa.keep F5 Kq12
  have F16 := Fld.keep F6 Kq12 (ninS ne_ae nin0)
  have F17 := Fld.keep F7 Kq12 (ninS ne_ae nin0)
  have F18 := OOv.keep F9 Kq12
  have F19 := Fld.keep Fq2 Kq12 (ninS ne_re nin0)
  have Z20 := Nat.le_trans Z10 Kq12.1
  have K21 := Keep.trans K11 Kq12 (allS (Or.inl (List.mem_of_getElem? (i := 1) rfl)) all0)
  show OwnWk _ _ _ _ (T12.setTop (mkF m 25 #[.val (.ref r), .val (.ref a), .val (.int (2 : Int32))] []))
  refine own_go (fun tgt kst => XS.iinc X12.here hx rfl (hb hby d12_25) rfl (l' := #[.val (.ref r), .val (.ref a), .val (.int (1 : Int32))]) rfl kst) ?_
  show OwnWk _ _ _ _ (T12.setTop (mkF m 28 #[.val (.ref r), .val (.ref a), .val (.int (1 : Int32))] []))
  refine own_go (fun tgt kst => XS.goto X12.here hx rfl (pc0 := 28) (pc' := 9) rfl (hb hby d12_28) (by decide) (by decide) kst) ?_
  show OwnWk _ _ _ _ (T12.setTop (mkF m 9 #[.val (.ref r), .val (.ref a), .val (.int (1 : Int32))] []))
  refine own_go (fun tgt kst => XS.iloadN X12.here hx rfl (hb hby d12_9) rfl  kst) ?_
  show OwnWk _ _ _ _ (T12.setTop (mkF m 10 #[.val (.ref r), .val (.ref a), .val (.int (1 : Int32))] [(.int (1 : Int32))]))
  refine own_go (fun tgt kst => XS.ifNo X12.here hx rfl (hb hby d12_10) rfl ((if0 _ _).trans (tlt (by decide : (0 : Int32) < (1 : Int32))).2.2.2) kst) ?_
  show OwnWk _ _ _ _ (T12.setTop (mkF m 13 #[.val (.ref r), .val (.ref a), .val (.int (1 : Int32))] []))
  refine own_go (fun tgt kst => XS.aloadN X12.here hx rfl (hb hby d12_13) rfl rfl  kst) ?_
  show OwnWk _ _ _ _ (T12.setTop (mkF m 14 #[.val (.ref r), .val (.ref a), .val (.int (1 : Int32))] [(.ref a)]))
  refine own_go (fun tgt kst => XS.iloadN X12.here hx rfl (hb hby d12_14) rfl  kst) ?_
  show OwnWk _ _ _ _ (T12.setTop (mkF m 15 #[.val (.ref r), .val (.ref a), .val (.int (1 : Int32))] [(.int (1 : Int32)), (.ref a)]))
  refine own_go (fun tgt kst => XS.aloadN X12.here hx rfl (hb hby d12_15) rfl rfl  kst) ?_
  show OwnWk _ _ _ _ (T12.setTop (mkF m 16 #[.val (.ref r), .val (.ref a), .val (.int (1 : Int32))] [(.ref r), (.int (1 : Int32)), (.ref a)]))
  refine own_go (fun tgt kst => XS.iloadN X12.here hx rfl (hb hby d12_16) rfl  kst) ?_
  show OwnWk _ _ _ _ (T12.setTop (mkF m 17 #[.val (.ref r), .val (.ref a), .val (.int (1 : Int32))] [(.int (1 : Int32)), (.ref r), (.int (1 : Int32)), (.ref a)]))
  refine own_go (fun tgt kst => XS.iconst X12.here hx rfl (hb hby d12_17) kst) ?_
  show OwnWk _ _ _ _ (T12.setTop (mkF m 18 #[.val (.ref r), .val (.ref a), .val (.int (1 : Int32))] [(.int (1 : Int32)), (.int (1 : Int32)), (.ref r), (.int (1 : Int32)), (.ref a)]))
  refine own_go (fun tgt kst => XS.iadd X12.here hx rfl (hb hby d12_18) rfl kst) ?_
  show OwnWk _ _ _ _ (T12.setTop (mkF m 19 #[.val (.ref r), .val (.ref a), .val (.int (1 : Int32))] [(.int (2 : Int32)), (.ref r), (.int (1 : Int32)), (.ref a)]))
  refine own_callV X12 hx hZ (y := (⟨"com/example/spikeline/spikeline/core/SeededRandom", "nextInt", "(I)I"⟩ : MethodName)) (z := (⟨"com/example/spikeline/spikeline/core/SeededRandom", "nextInt", "(I)I"⟩ : MethodName)) hown (hw _ (List.mem_of_getElem? (i := 89) rfl)) (hw _ (List.mem_of_getElem? (i := 90) rfl)) (notFace_of_selects (args := #[]) (mvT hZ (hw _ (List.mem_of_getElem? (i := 92) rfl)))) (hw _ (List.mem_of_getElem? (i := 92) rfl)) (hw _ (List.mem_of_getElem? (i := 91) rfl)) (hw _ (List.mem_of_getElem? (i := 68) rfl)) (hw _ (List.mem_of_getElem? (i := 93) rfl)) (by decide) (a := r) F14 (argsL := [(.int (2 : Int32))]) (rest := [(.int (1 : Int32)), (.ref a)]) (rm := ({ frames := 1, cells := 0, slots := 0, locals := 14 } : Room)) (h := h12) (rm14 l Z a0 hw r (2 : Int32) (own_land q (3 : Int32)) h12 n0 Z20 F19 F14 g_r (by decide)) e12 (W := 2) (by decide) (by decide) (by decide) (by decide) (g := (mkF m 19 #[.val (.ref r), .val (.ref a), .val (.int (1 : Int32))] [(.int (2 : Int32)), (.ref r), (.int (1 : Int32)), (.ref a)])) rfl (by rw [hml]; rfl) (lenOf pd_10 rfl) rfl (by show 2 * 0 + _ ≤ _; exact Nat.le_of_eq rfl) (hb hby d12_19) (fun v22 T22 h22 L22 X22 e22 hQ22 => ?_)
  obtain ⟨rfl, Nq22, Kq22, Fq22⟩ := hQ22
  have N22 := Fr.app N12 Nq22
  have F23 := Old.keep F13 Kq22 (allS g_r all0)
  have F24 := Exa.keep F14 Kq22
  have F25 := Exa.keep F15 Kq22
  have F26 := Fld.keep F16 Kq22 (ninS (Ne.symm ne_ra) nin0)
  have F27 := Fld.keep F17 Kq22 (ninS (Ne.symm ne_ra) nin0)
  have F28 := OOv.keep F18 Kq22
  have F29 := OAr.keep Vq12 Kq22 (ninS (Ne.symm ne_re) nin0)
  have Z30 := Nat.le_trans Z20 Kq22.1
  have K31 := Keep.trans K21 Kq22 (allS (Or.inl (List.mem_of_getElem? (i := 0) rfl)) all0)
  show OwnWk _ _ _ _ (T22.setTop (mkF m 22 #[.val (.ref r), .val (.ref a), .val (.int (1 : Int32))] [(.int (own_r (own_land (own_land q (3 : Int32)) (2 : Int32)) (2 : Int32))), (.int (1 : Int32)), (.ref a)]))
  rw [own_j_eq (q := (own_land q (3 : Int32))) (b := (2 : Int32)) (by decide)]
  show OwnWk _ _ _ _ (T22.setTop (mkF m 22 #[.val (.ref r), .val (.ref a), .val (.int (1 : Int32))] [(.int (Int32.ofNat (own_j (own_land q (3 : Int32)) (2 : Int32)))), (.int (1 : Int32)), (.ref a)]))
  refine own_callS X22 hx hZ (y := (⟨"java/util/Collections", "swap", "(Ljava/util/List;II)V"⟩ : MethodName)) hown (hw _ (List.mem_of_getElem? (i := 103) rfl)) (hw _ (List.mem_of_getElem? (i := 104) rfl)) (hw _ (List.mem_of_getElem? (i := 105) rfl)) (hw _ (List.mem_of_getElem? (i := 106) rfl)) (by decide) (argsL := [(.ref a), (.int (1 : Int32)), (.int (Int32.ofNat (own_j (own_land q (3 : Int32)) (2 : Int32))))]) (rest := []) (rm := ({ frames := 3, cells := 0, slots := 0, locals := 44 } : Room)) (h := h22) (csw l Z a0 hw dce cac ia a ed (own_exch ks 2 (own_j q (3 : Int32))) 1 (own_j (own_land q (3 : Int32)) (2 : Int32)) 3 h22 n0 Z30 F23 S_d V_d S_h S_c hL hE hV F25 F26 F27 F29 (by decide) (own_j_lt (q := (own_land q (3 : Int32))) (b := (2 : Int32)) (by decide) (n := 3) rfl (by decide)) (by simp [own_elen, hxl]) (by decide) (own_k4 hk4) F28 g_e ne_ae) e22 (W := 0) (by decide) (by decide) (by decide) (by decide) (g := (mkF m 22 #[.val (.ref r), .val (.ref a), .val (.int (1 : Int32))] [(.int (Int32.ofNat (own_j (own_land q (3 : Int32)) (2 : Int32)))), (.int (1 : Int32)), (.ref a)])) rfl (by rw [hml]; rfl) (lenOf pd_11 rfl) rfl (by show 2 * 0 + _ ≤ _; exact Nat.le_of_eq rfl) (hb hby d12_22) (fun v32 T32 h32 L32 X32 e32 hQ32 => ?_)
  obtain ⟨rfl, Nq32, Kq32, Vq32⟩ := hQ32
  have N32 := Fr.app N22 Nq32
  have F33 := Old.keep F23 Kq32 (allS g_e all0)
  have F34 := Exa.keep F24 Kq32
  have F35 := Exa.keep F25 Kq32
  have F36 := Fld.keep F26 Kq32 (ninS ne_ae nin0)
  have F37 := Fld.keep F27 Kq32 (ninS ne_ae nin0)
  have F38 := OOv.keep F28 Kq32
  have F39 := Fld.keep Fq22 Kq32 (ninS ne_re nin0)
  have Z40 := Nat.le_trans Z30 Kq32.1
  have K41 := Keep.trans K31 Kq32 (allS (Or.inl (List.mem_of_getElem? (i := 1) rfl)) all0)
  show OwnWk _ _ _ _ (T32.setTop (mkF m 25 #[.val (.ref r), .val (.ref a), .val (.int (1 : Int32))] []))
  refine own_go (fun tgt kst => XS.iinc X32.here hx rfl (hb hby d12_25) rfl (l' := #[.val (.ref r), .val (.ref a), .val (.int (0 : Int32))]) rfl kst) ?_
  show OwnWk _ _ _ _ (T32.setTop (mkF m 28 #[.val (.ref r), .val (.ref a), .val (.int (0 : Int32))] []))
  refine own_go (fun tgt kst => XS.goto X32.here hx rfl (pc0 := 28) (pc' := 9) rfl (hb hby d12_28) (by decide) (by decide) kst) ?_
  show OwnWk _ _ _ _ (T32.setTop (mkF m 9 #[.val (.ref r), .val (.ref a), .val (.int (0 : Int32))] []))
  refine own_go (fun tgt kst => XS.iloadN X32.here hx rfl (hb hby d12_9) rfl  kst) ?_
  show OwnWk _ _ _ _ (T32.setTop (mkF m 10 #[.val (.ref r), .val (.ref a), .val (.int (0 : Int32))] [(.int (0 : Int32))]))
  refine own_go (fun tgt kst => XS.ifYes X32.here hx rfl (pc0 := 10) (pc' := 31) rfl (hb hby d12_10) rfl ((if0 _ _).trans (flt (by decide : ¬ ((0 : Int32) < (0 : Int32)))).2.2.2) (by decide) (by decide) kst) ?_
  show OwnWk _ _ _ _ (T32.setTop (mkF m 31 #[.val (.ref r), .val (.ref a), .val (.int (0 : Int32))] []))
  exact own_retV X32 hx hlk hret (hb hby d12_31) (by decide) (by decide) (by rw [e32]; exact ⟨rfl, N32, K41, F39, Vq32⟩)
theorem ef_shf4 (m : MethodId) (x0 : Addr) (x1 : Addr) : entryFrame m #[(.ref x0), (.ref x1)] 3 = mkF m 0 #[.val (.ref x0), .val (.ref x1), .unset] [] := by first | (simp [entryFrame, mkF, argsToLocals, Value.category]; done) | rfl
def Q_shf4 (Z : State) (dce cac : Addr) (ia : Nat → Addr) (r a ed : Addr) (q : Int64) (ks : List Nat) (h0 : Heap) (n0 : Nat) (v : Option Value) (h : Heap) (L : List Loc) : Prop := v = none ∧ Fr n0 L ∧ Keep h0 h [r, ed] ∧ Fld Z h r "com/example/spikeline/spikeline/core/SeededRandom" "state" "J" (.long (own_land (own_land (own_land q (4 : Int32)) (3 : Int32)) (2 : Int32))) ∧ OAr Z h ed (.object "java/lang/Object") (own_rv ((own_exch (own_exch (own_exch ks 3 (own_j q (4 : Int32))) 2 (own_j (own_land q (4 : Int32)) (3 : Int32))) 1 (own_j (own_land (own_land q (4 : Int32)) (3 : Int32)) (2 : Int32))).map ia))
set_option maxRecDepth 65536 in
set_option maxHeartbeats 40000000 in
theorem shf4 (l : Launch) (Z : State) (a0 : Array Value) (hw : ∀ d ∈ tables_1, d.before a0 Z = true) (dce cac : Addr) (ia : Nat → Addr) (r a ed : Addr) (q : Int64) (ks : List Nat) (h0 : Heap) (n0 : Nat) (Z0 : n0 ≤ h0.size) (O0 : Old Z n0 h0) (S_d : Sta Z Z.heap "java/util/ArrayList" "DEFAULTCAPACITY_EMPTY_ELEMENTDATA" "[Ljava/lang/Object;" (.ref dce)) (V_d : OAr Z Z.heap dce (.object "java/lang/Object") []) (S_h : Sta Z Z.heap "java/lang/Integer$IntegerCache" "high" "I" (.int (127 : Int32))) (S_c : Sta Z Z.heap "java/lang/Integer$IntegerCache" "cache" "[Ljava/lang/Integer;" (.ref cac)) (hL : ∀ k < 4, OEl Z Z.heap cac (.object "java/lang/Integer") (128 + k) (.ref (ia k))) (hE : ∀ k < 4, Exa Z Z.heap (ia k) "java/lang/Integer") (hV : ∀ k < 4, Fld Z Z.heap (ia k) "java/lang/Integer" "value" "I" (.int (Int32.ofNat k))) (F_q : Fld Z h0 r "com/example/spikeline/spikeline/core/SeededRandom" "state" "J" (.long q)) (E_r : Exa Z h0 r "com/example/spikeline/spikeline/core/SeededRandom") (g_r : n0 ≤ r) (E_a : Exa Z h0 a "java/util/ArrayList") (F_s : Fld Z h0 a "java/util/ArrayList" "size" "I" (.int (4 : Int32))) (F_e : Fld Z h0 a "java/util/ArrayList" "elementData" "[Ljava/lang/Object;" (.ref ed)) (V_e : OAr Z h0 ed (.object "java/lang/Object") (own_rv (ks.map ia))) (hxl : ks.length = 4) (hk4 : ∀ k ∈ ks, k < 4) (O_e : OOv Z h0 ed "java/lang/Object") (g_e : n0 ≤ ed) (ne_ae : a ≠ ed) (ne_re : r ≠ ed) (ne_ra : r ≠ a) :
    OwnMet l (⟨"com/example/spikeline/spikeline/core/SeededRandom", "shuffle", "(Ljava/util/List;)V"⟩ : MethodName) prog_8_method_5_code 3 none [] ({ frames := 4, cells := 0, slots := 0, locals := 59 } : Room) Z #[(.ref r), (.ref a)] h0 (Q_shf4 Z dce cac ia r a ed q ks h0 n0) := by
  refine own_met pn_12 (fun p e s m below meth c s₁ hx hby hml hown hnm hret hlk hZ X0 e0 => ?_)
  have hown : s.vm.findClass "com/example/spikeline/spikeline/core/SeededRandom" = some m.cls := hown
  have N0 := Fr.nil n0
  have K0 := Keep.refl h0 [r, ed]
  rw [ef_shf4]
  show OwnWk _ _ _ _ (s₁.setTop (mkF m 0 #[.val (.ref r), .val (.ref a), .unset] []))
  refine own_go (fun tgt kst => XS.aloadN X0.here hx rfl (hb hby d12_0) rfl rfl  kst) ?_
  show OwnWk _ _ _ _ (s₁.setTop (mkF m 1 #[.val (.ref r), .val (.ref a), .unset] [(.ref a)]))
  refine own_callI X0 hx hZ (y := (⟨"java/util/List", "size", "()I"⟩ : MethodName)) (z := (⟨"java/util/ArrayList", "size", "()I"⟩ : MethodName)) hown (hw _ (List.mem_of_getElem? (i := 80) rfl)) (hw _ (List.mem_of_getElem? (i := 81) rfl)) (mvT hZ (hw _ (List.mem_of_getElem? (i := 82) rfl))) (hw _ (List.mem_of_getElem? (i := 83) rfl)) (hw _ (List.mem_of_getElem? (i := 84) rfl)) (hw _ (List.mem_of_getElem? (i := 85) rfl)) (hw _ (List.mem_of_getElem? (i := 86) rfl)) (hw _ (List.mem_of_getElem? (i := 87) rfl)) (hw _ (List.mem_of_getElem? (i := 4) rfl)) (hw _ (List.mem_of_getElem? (i := 88) rfl)) (by decide) (a := a) E_a (argsL := []) (rest := []) (rm := ({ frames := 0, cells := 0, slots := 0, locals := 0 } : Room)) (h := h0) (rm13 l Z a0 hw a (4 : Int32) h0 n0 Z0 F_s) e0 (W := 0) (by decide) (by decide) (by decide) (by decide) (g := (mkF m 1 #[.val (.ref r), .val (.ref a), .unset] [(.ref a)])) rfl (by rw [hml]; rfl) (lenOf pd_9 rfl) rfl (by show 2 * 0 + _ ≤ _; exact Nat.le_of_eq rfl) (hb hby d12_1) (fun v1 T1 h1 L1 X1 e1 hQ1 => ?_)
  obtain ⟨rfl, Nq1, q1⟩ := hQ1
  have N1 := Fr.app N0 Nq1
  rw [q1] at e1
  show OwnWk _ _ _ _ (T1.setTop (mkF m 6 #[.val (.ref r), .val (.ref a), .unset] [(.int (4 : Int32))]))
  refine own_go (fun tgt kst => XS.iconst X1.here hx rfl (hb hby d12_6) kst) ?_
  show OwnWk _ _ _ _ (T1.setTop (mkF m 7 #[.val (.ref r), .val (.ref a), .unset] [(.int (1 : Int32)), (.int (4 : Int32))]))
  refine own_go (fun tgt kst => XS.isub X1.here hx rfl (hb hby d12_7) rfl kst) ?_
  show OwnWk _ _ _ _ (T1.setTop (mkF m 8 #[.val (.ref r), .val (.ref a), .unset] [(.int (3 : Int32))]))
  refine own_go (fun tgt kst => XS.istoreN X1.here hx rfl (hb hby d12_8) rfl (l' := #[.val (.ref r), .val (.ref a), .val (.int (3 : Int32))]) rfl kst) ?_
  show OwnWk _ _ _ _ (T1.setTop (mkF m 9 #[.val (.ref r), .val (.ref a), .val (.int (3 : Int32))] []))
  refine own_go (fun tgt kst => XS.iloadN X1.here hx rfl (hb hby d12_9) rfl  kst) ?_
  show OwnWk _ _ _ _ (T1.setTop (mkF m 10 #[.val (.ref r), .val (.ref a), .val (.int (3 : Int32))] [(.int (3 : Int32))]))
  refine own_go (fun tgt kst => XS.ifNo X1.here hx rfl (hb hby d12_10) rfl ((if0 _ _).trans (tlt (by decide : (0 : Int32) < (3 : Int32))).2.2.2) kst) ?_
  show OwnWk _ _ _ _ (T1.setTop (mkF m 13 #[.val (.ref r), .val (.ref a), .val (.int (3 : Int32))] []))
  refine own_go (fun tgt kst => XS.aloadN X1.here hx rfl (hb hby d12_13) rfl rfl  kst) ?_
  show OwnWk _ _ _ _ (T1.setTop (mkF m 14 #[.val (.ref r), .val (.ref a), .val (.int (3 : Int32))] [(.ref a)]))
  refine own_go (fun tgt kst => XS.iloadN X1.here hx rfl (hb hby d12_14) rfl  kst) ?_
  show OwnWk _ _ _ _ (T1.setTop (mkF m 15 #[.val (.ref r), .val (.ref a), .val (.int (3 : Int32))] [(.int (3 : Int32)), (.ref a)]))
  refine own_go (fun tgt kst => XS.aloadN X1.here hx rfl (hb hby d12_15) rfl rfl  kst) ?_
  show OwnWk _ _ _ _ (T1.setTop (mkF m 16 #[.val (.ref r), .val (.ref a), .val (.int (3 : Int32))] [(.ref r), (.int (3 : Int32)), (.ref a)]))
  refine own_go (fun tgt kst => XS.iloadN X1.here hx rfl (hb hby d12_16) rfl  kst) ?_
  show OwnWk _ _ _ _ (T1.setTop (mkF m 17 #[.val (.ref r), .val (.ref a), .val (.int (3 : Int32))] [(.int (3 : Int32)), (.ref r), (.int (3 : Int32)), (.ref a)]))
  refine own_go (fun tgt kst => XS.iconst X1.here hx rfl (hb hby d12_17) kst) ?_
  show OwnWk _ _ _ _ (T1.setTop (mkF m 18 #[.val (.ref r), .val (.ref a), .val (.int (3 : Int32))] [(.int (1 : Int32)), (.int (3 : Int32)), (.ref r), (.int (3 : Int32)), (.ref a)]))
  refine own_go (fun tgt kst => XS.iadd X1.here hx rfl (hb hby d12_18) rfl kst) ?_
  show OwnWk _ _ _ _ (T1.setTop (mkF m 19 #[.val (.ref r), .val (.ref a), .val (.int (3 : Int32))] [(.int (4 : Int32)), (.ref r), (.int (3 : Int32)), (.ref a)]))
  refine own_callV X1 hx hZ (y := (⟨"com/example/spikeline/spikeline/core/SeededRandom", "nextInt", "(I)I"⟩ : MethodName)) (z := (⟨"com/example/spikeline/spikeline/core/SeededRandom", "nextInt", "(I)I"⟩ : MethodName)) hown (hw _ (List.mem_of_getElem? (i := 89) rfl)) (hw _ (List.mem_of_getElem? (i := 90) rfl)) (notFace_of_selects (args := #[]) (mvT hZ (hw _ (List.mem_of_getElem? (i := 92) rfl)))) (hw _ (List.mem_of_getElem? (i := 92) rfl)) (hw _ (List.mem_of_getElem? (i := 91) rfl)) (hw _ (List.mem_of_getElem? (i := 68) rfl)) (hw _ (List.mem_of_getElem? (i := 93) rfl)) (by decide) (a := r) E_r (argsL := [(.int (4 : Int32))]) (rest := [(.int (3 : Int32)), (.ref a)]) (rm := ({ frames := 1, cells := 0, slots := 0, locals := 14 } : Room)) (h := h0) (rm14 l Z a0 hw r (4 : Int32) q h0 n0 Z0 F_q E_r g_r (by decide)) e1 (W := 2) (by decide) (by decide) (by decide) (by decide) (g := (mkF m 19 #[.val (.ref r), .val (.ref a), .val (.int (3 : Int32))] [(.int (4 : Int32)), (.ref r), (.int (3 : Int32)), (.ref a)])) rfl (by rw [hml]; rfl) (lenOf pd_10 rfl) rfl (by show 2 * 0 + _ ≤ _; exact Nat.le_of_eq rfl) (hb hby d12_19) (fun v2 T2 h2 L2 X2 e2 hQ2 => ?_)
  obtain ⟨rfl, Nq2, Kq2, Fq2⟩ := hQ2
  have N2 := Fr.app N1 Nq2
  have F3 := Old.keep O0 Kq2 (allS g_r all0)
  have F4 := Exa.keep E_r Kq2
  have F5 := Exa.keep E_a Kq2
  have F6 := Fld.keep F_s Kq2 (ninS (Ne.symm ne_ra) nin0)
  have F7 := Fld.keep F_e Kq2 (ninS (Ne.symm ne_ra) nin0)
  have F8 := OAr.keep V_e Kq2 (ninS (Ne.symm ne_re) nin0)
  have F9 := OOv.keep O_e Kq2
  have Z10 := Nat.le_trans Z0 Kq2.1
  have K11 := Keep.trans K0 Kq2 (allS (Or.inl (List.mem_of_getElem? (i := 0) rfl)) all0)
  show OwnWk _ _ _ _ (T2.setTop (mkF m 22 #[.val (.ref r), .val (.ref a), .val (.int (3 : Int32))] [(.int (own_r (own_land q (4 : Int32)) (4 : Int32))), (.int (3 : Int32)), (.ref a)]))
  rw [own_j_eq (q := q) (b := (4 : Int32)) (by decide)]
  show OwnWk _ _ _ _ (T2.setTop (mkF m 22 #[.val (.ref r), .val (.ref a), .val (.int (3 : Int32))] [(.int (Int32.ofNat (own_j q (4 : Int32)))), (.int (3 : Int32)), (.ref a)]))
  refine own_callS X2 hx hZ (y := (⟨"java/util/Collections", "swap", "(Ljava/util/List;II)V"⟩ : MethodName)) hown (hw _ (List.mem_of_getElem? (i := 103) rfl)) (hw _ (List.mem_of_getElem? (i := 104) rfl)) (hw _ (List.mem_of_getElem? (i := 105) rfl)) (hw _ (List.mem_of_getElem? (i := 106) rfl)) (by decide) (argsL := [(.ref a), (.int (3 : Int32)), (.int (Int32.ofNat (own_j q (4 : Int32))))]) (rest := []) (rm := ({ frames := 3, cells := 0, slots := 0, locals := 44 } : Room)) (h := h2) (csw l Z a0 hw dce cac ia a ed ks 3 (own_j q (4 : Int32)) 4 h2 n0 Z10 F3 S_d V_d S_h S_c hL hE hV F5 F6 F7 F8 (by decide) (own_j_lt (q := q) (b := (4 : Int32)) (by decide) (n := 4) rfl (by decide)) (by simp [own_elen, hxl]) (by decide) hk4 F9 g_e ne_ae) e2 (W := 0) (by decide) (by decide) (by decide) (by decide) (g := (mkF m 22 #[.val (.ref r), .val (.ref a), .val (.int (3 : Int32))] [(.int (Int32.ofNat (own_j q (4 : Int32)))), (.int (3 : Int32)), (.ref a)])) rfl (by rw [hml]; rfl) (lenOf pd_11 rfl) rfl (by show 2 * 0 + _ ≤ _; exact Nat.le_of_eq rfl) (hb hby d12_22) (fun v12 T12 h12 L12 X12 e12 hQ12 => ?_)
  obtain ⟨rfl, Nq12, Kq12, Vq12⟩ := hQ12
  have N12 := Fr.app N2 Nq12
  have F13 := Old.keep F3 Kq12 (allS g_e all0)
  have F14 := Exa.keep F4 Kq12
  have F15 := Exa.keep F5 Kq12
  have F16 := Fld.keep F6 Kq12 (ninS ne_ae nin0)
  have F17 := Fld.keep F7 Kq12 (ninS ne_ae nin0)
  have F18 := OOv.keep F9 Kq12
  have F19 := Fld.keep Fq2 Kq12 (ninS ne_re nin0)
  have Z20 := Nat.le_trans Z10 Kq12.1
  have K21 := Keep.trans K11 Kq12 (allS (Or.inl (List.mem_of_getElem? (i := 1) rfl)) all0)
  show OwnWk _ _ _ _ (T12.setTop (mkF m 25 #[.val (.ref r), .val (.ref a), .val (.int (3 : Int32))] []))
  refine own_go (fun tgt kst => XS.iinc X12.here hx rfl (hb hby d12_25) rfl (l' := #[.val (.ref r), .val (.ref a), .val (.int (2 : Int32))]) rfl kst) ?_
  show OwnWk _ _ _ _ (T12.setTop (mkF m 28 #[.val (.ref r), .val (.ref a), .val (.int (2 : Int32))] []))
  refine own_go (fun tgt kst => XS.goto X12.here hx rfl (pc0 := 28) (pc' := 9) rfl (hb hby d12_28) (by decide) (by decide) kst) ?_
  show OwnWk _ _ _ _ (T12.setTop (mkF m 9 #[.val (.ref r), .val (.ref a), .val (.int (2 : Int32))] []))
  refine own_go (fun tgt kst => XS.iloadN X12.here hx rfl (hb hby d12_9) rfl  kst) ?_
  show OwnWk _ _ _ _ (T12.setTop (mkF m 10 #[.val (.ref r), .val (.ref a), .val (.int (2 : Int32))] [(.int (2 : Int32))]))
  refine own_go (fun tgt kst => XS.ifNo X12.here hx rfl (hb hby d12_10) rfl ((if0 _ _).trans (tlt (by decide : (0 : Int32) < (2 : Int32))).2.2.2) kst) ?_
  show OwnWk _ _ _ _ (T12.setTop (mkF m 13 #[.val (.ref r), .val (.ref a), .val (.int (2 : Int32))] []))
  refine own_go (fun tgt kst => XS.aloadN X12.here hx rfl (hb hby d12_13) rfl rfl  kst) ?_
  show OwnWk _ _ _ _ (T12.setTop (mkF m 14 #[.val (.ref r), .val (.ref a), .val (.int (2 : Int32))] [(.ref a)]))
  refine own_go (fun tgt kst => XS.iloadN X12.here hx rfl (hb hby d12_14) rfl  kst) ?_
  show OwnWk _ _ _ _ (T12.setTop (mkF m 15 #[.val (.ref r), .val (.ref a), .val (.int (2 : Int32))] [(.int (2 : Int32)), (.ref a)]))
  refine own_go (fun tgt kst => XS.aloadN X12.here hx rfl (hb hby d12_15) rfl rfl  kst) ?_
  show OwnWk _ _ _ _ (T12.setTop (mkF m 16 #[.val (.ref r), .val (.ref a), .val (.int (2 : Int32))] [(.ref r), (.int (2 : Int32)), (.ref a)]))
  refine own_go (fun tgt kst => XS.iloadN X12.here hx rfl (hb hby d12_16) rfl  kst) ?_
  show OwnWk _ _ _ _ (T12.setTop (mkF m 17 #[.val (.ref r), .val (.ref a), .val (.int (2 : Int32))] [(.int (2 : Int32)), (.ref r), (.int (2 : Int32)), (.ref a)]))
  refine own_go (fun tgt kst => XS.iconst X12.here hx rfl (hb hby d12_17) kst) ?_
  show OwnWk _ _ _ _ (T12.setTop (mkF m 18 #[.val (.ref r), .val (.ref a), .val (.int (2 : Int32))] [(.int (1 : Int32)), (.int (2 : Int32)), (.ref r), (.int (2 : Int32)), (.ref a)]))
  refine own_go (fun tgt kst => XS.iadd X12.here hx rfl (hb hby d12_18) rfl kst) ?_
  show OwnWk _ _ _ _ (T12.setTop (mkF m 19 #[.val (.ref r), .val (.ref a), .val (.int (2 : Int32))] [(.int (3 : Int32)), (.ref r), (.int (2 : Int32)), (.ref a)]))
  refine own_callV X12 hx hZ (y := (⟨"com/example/spikeline/spikeline/core/SeededRandom", "nextInt", "(I)I"⟩ : MethodName)) (z := (⟨"com/example/spikeline/spikeline/core/SeededRandom", "nextInt", "(I)I"⟩ : MethodName)) hown (hw _ (List.mem_of_getElem? (i := 89) rfl)) (hw _ (List.mem_of_getElem? (i := 90) rfl)) (notFace_of_selects (args := #[]) (mvT hZ (hw _ (List.mem_of_getElem? (i := 92) rfl)))) (hw _ (List.mem_of_getElem? (i := 92) rfl)) (hw _ (List.mem_of_getElem? (i := 91) rfl)) (hw _ (List.mem_of_getElem? (i := 68) rfl)) (hw _ (List.mem_of_getElem? (i := 93) rfl)) (by decide) (a := r) F14 (argsL := [(.int (3 : Int32))]) (rest := [(.int (2 : Int32)), (.ref a)]) (rm := ({ frames := 1, cells := 0, slots := 0, locals := 14 } : Room)) (h := h12) (rm14 l Z a0 hw r (3 : Int32) (own_land q (4 : Int32)) h12 n0 Z20 F19 F14 g_r (by decide)) e12 (W := 2) (by decide) (by decide) (by decide) (by decide) (g := (mkF m 19 #[.val (.ref r), .val (.ref a), .val (.int (2 : Int32))] [(.int (3 : Int32)), (.ref r), (.int (2 : Int32)), (.ref a)])) rfl (by rw [hml]; rfl) (lenOf pd_10 rfl) rfl (by show 2 * 0 + _ ≤ _; exact Nat.le_of_eq rfl) (hb hby d12_19) (fun v22 T22 h22 L22 X22 e22 hQ22 => ?_)
  obtain ⟨rfl, Nq22, Kq22, Fq22⟩ := hQ22
  have N22 := Fr.app N12 Nq22
  have F23 := Old.keep F13 Kq22 (allS g_r all0)
  have F24 := Exa.keep F14 Kq22
  have F25 := Exa.keep F15 Kq22
  have F26 := Fld.keep F16 Kq22 (ninS (Ne.symm ne_ra) nin0)
  have F27 := Fld.keep F17 Kq22 (ninS (Ne.symm ne_ra) nin0)
  have F28 := OOv.keep F18 Kq22
  have F29 := OAr.keep Vq12 Kq22 (ninS (Ne.symm ne_re) nin0)
  have Z30 := Nat.le_trans Z20 Kq22.1
  have K31 := Keep.trans K21 Kq22 (allS (Or.inl (List.mem_of_getElem? (i := 0) rfl)) all0)
  show OwnWk _ _ _ _ (T22.setTop (mkF m 22 #[.val (.ref r), .val (.ref a), .val (.int (2 : Int32))] [(.int (own_r (own_land (own_land q (4 : Int32)) (3 : Int32)) (3 : Int32))), (.int (2 : Int32)), (.ref a)]))
  rw [own_j_eq (q := (own_land q (4 : Int32))) (b := (3 : Int32)) (by decide)]
  show OwnWk _ _ _ _ (T22.setTop (mkF m 22 #[.val (.ref r), .val (.ref a), .val (.int (2 : Int32))] [(.int (Int32.ofNat (own_j (own_land q (4 : Int32)) (3 : Int32)))), (.int (2 : Int32)), (.ref a)]))
  refine own_callS X22 hx hZ (y := (⟨"java/util/Collections", "swap", "(Ljava/util/List;II)V"⟩ : MethodName)) hown (hw _ (List.mem_of_getElem? (i := 103) rfl)) (hw _ (List.mem_of_getElem? (i := 104) rfl)) (hw _ (List.mem_of_getElem? (i := 105) rfl)) (hw _ (List.mem_of_getElem? (i := 106) rfl)) (by decide) (argsL := [(.ref a), (.int (2 : Int32)), (.int (Int32.ofNat (own_j (own_land q (4 : Int32)) (3 : Int32))))]) (rest := []) (rm := ({ frames := 3, cells := 0, slots := 0, locals := 44 } : Room)) (h := h22) (csw l Z a0 hw dce cac ia a ed (own_exch ks 3 (own_j q (4 : Int32))) 2 (own_j (own_land q (4 : Int32)) (3 : Int32)) 4 h22 n0 Z30 F23 S_d V_d S_h S_c hL hE hV F25 F26 F27 F29 (by decide) (own_j_lt (q := (own_land q (4 : Int32))) (b := (3 : Int32)) (by decide) (n := 4) rfl (by decide)) (by simp [own_elen, hxl]) (by decide) (own_k4 hk4) F28 g_e ne_ae) e22 (W := 0) (by decide) (by decide) (by decide) (by decide) (g := (mkF m 22 #[.val (.ref r), .val (.ref a), .val (.int (2 : Int32))] [(.int (Int32.ofNat (own_j (own_land q (4 : Int32)) (3 : Int32)))), (.int (2 : Int32)), (.ref a)])) rfl (by rw [hml]; rfl) (lenOf pd_11 rfl) rfl (by show 2 * 0 + _ ≤ _; exact Nat.le_of_eq rfl) (hb hby d12_22) (fun v32 T32 h32 L32 X32 e32 hQ32 => ?_)
  obtain ⟨rfl, Nq32, Kq32, Vq32⟩ := hQ32
  have N32 := Fr.app N22 Nq32
  have F33 := Old.keep F23 Kq32 (allS g_e all0)
  have F34 := Exa.keep F24 Kq32
  have F35 := Exa.keep F25 Kq32
  have F36 := Fld.keep F26 Kq32 (ninS ne_ae nin0)
  have F37 := Fld.keep F27 Kq32 (ninS ne_ae nin0)
  have F38 := OOv.keep F28 Kq32
  have F39 := Fld.keep Fq22 Kq32 (ninS ne_re nin0)
  have Z40 := Nat.le_trans Z30 Kq32.1
  have K41 := Keep.trans K31 Kq32 (allS (Or.inl (List.mem_of_getElem? (i := 1) rfl)) all0)
  show OwnWk _ _ _ _ (T32.setTop (mkF m 25 #[.val (.ref r), .val (.ref a), .val (.int (2 : Int32))] []))
  refine own_go (fun tgt kst => XS.iinc X32.here hx rfl (hb hby d12_25) rfl (l' := #[.val (.ref r), .val (.ref a), .val (.int (1 : Int32))]) rfl kst) ?_
  show OwnWk _ _ _ _ (T32.setTop (mkF m 28 #[.val (.ref r), .val (.ref a), .val (.int (1 : Int32))] []))
  refine own_go (fun tgt kst => XS.goto X32.here hx rfl (pc0 := 28) (pc' := 9) rfl (hb hby d12_28) (by decide) (by decide) kst) ?_
  show OwnWk _ _ _ _ (T32.setTop (mkF m 9 #[.val (.ref r), .val (.ref a), .val (.int (1 : Int32))] []))
  refine own_go (fun tgt kst => XS.iloadN X32.here hx rfl (hb hby d12_9) rfl  kst) ?_
  show OwnWk _ _ _ _ (T32.setTop (mkF m 10 #[.val (.ref r), .val (.ref a), .val (.int (1 : Int32))] [(.int (1 : Int32))]))
  refine own_go (fun tgt kst => XS.ifNo X32.here hx rfl (hb hby d12_10) rfl ((if0 _ _).trans (tlt (by decide : (0 : Int32) < (1 : Int32))).2.2.2) kst) ?_
  show OwnWk _ _ _ _ (T32.setTop (mkF m 13 #[.val (.ref r), .val (.ref a), .val (.int (1 : Int32))] []))
  refine own_go (fun tgt kst => XS.aloadN X32.here hx rfl (hb hby d12_13) rfl rfl  kst) ?_
  show OwnWk _ _ _ _ (T32.setTop (mkF m 14 #[.val (.ref r), .val (.ref a), .val (.int (1 : Int32))] [(.ref a)]))
  refine own_go (fun tgt kst => XS.iloadN X32.here hx rfl (hb hby d12_14) rfl  kst) ?_
  show OwnWk _ _ _ _ (T32.setTop (mkF m 15 #[.val (.ref r), .val (.ref a), .val (.int (1 : Int32))] [(.int (1 : Int32)), (.ref a)]))
  refine own_go (fun tgt kst => XS.aloadN X32.here hx rfl (hb hby d12_15) rfl rfl  kst) ?_
  show OwnWk _ _ _ _ (T32.setTop (mkF m 16 #[.val (.ref r), .val (.ref a), .val (.int (1 : Int32))] [(.ref r), (.int (1 : Int32)), (.ref a)]))
  refine own_go (fun tgt kst => XS.iloadN X32.here hx rfl (hb hby d12_16) rfl  kst) ?_
  show OwnWk _ _ _ _ (T32.setTop (mkF m 17 #[.val (.ref r), .val (.ref a), .val (.int (1 : Int32))] [(.int (1 : Int32)), (.ref r), (.int (1 : Int32)), (.ref a)]))
  refine own_go (fun tgt kst => XS.iconst X32.here hx rfl (hb hby d12_17) kst) ?_
  show OwnWk _ _ _ _ (T32.setTop (mkF m 18 #[.val (.ref r), .val (.ref a), .val (.int (1 : Int32))] [(.int (1 : Int32)), (.int (1 : Int32)), (.ref r), (.int (1 : Int32)), (.ref a)]))
  refine own_go (fun tgt kst => XS.iadd X32.here hx rfl (hb hby d12_18) rfl kst) ?_
  show OwnWk _ _ _ _ (T32.setTop (mkF m 19 #[.val (.ref r), .val (.ref a), .val (.int (1 : Int32))] [(.int (2 : Int32)), (.ref r), (.int (1 : Int32)), (.ref a)]))
  refine own_callV X32 hx hZ (y := (⟨"com/example/spikeline/spikeline/core/SeededRandom", "nextInt", "(I)I"⟩ : MethodName)) (z := (⟨"com/example/spikeline/spikeline/core/SeededRandom", "nextInt", "(I)I"⟩ : MethodName)) hown (hw _ (List.mem_of_getElem? (i := 89) rfl)) (hw _ (List.mem_of_getElem? (i := 90) rfl)) (notFace_of_selects (args := #[]) (mvT hZ (hw _ (List.mem_of_getElem? (i := 92) rfl)))) (hw _ (List.mem_of_getElem? (i := 92) rfl)) (hw _ (List.mem_of_getElem? (i := 91) rfl)) (hw _ (List.mem_of_getElem? (i := 68) rfl)) (hw _ (List.mem_of_getElem? (i := 93) rfl)) (by decide) (a := r) F34 (argsL := [(.int (2 : Int32))]) (rest := [(.int (1 : Int32)), (.ref a)]) (rm := ({ frames := 1, cells := 0, slots := 0, locals := 14 } : Room)) (h := h32) (rm14 l Z a0 hw r (2 : Int32) (own_land (own_land q (4 : Int32)) (3 : Int32)) h32 n0 Z40 F39 F34 g_r (by decide)) e32 (W := 2) (by decide) (by decide) (by decide) (by decide) (g := (mkF m 19 #[.val (.ref r), .val (.ref a), .val (.int (1 : Int32))] [(.int (2 : Int32)), (.ref r), (.int (1 : Int32)), (.ref a)])) rfl (by rw [hml]; rfl) (lenOf pd_10 rfl) rfl (by show 2 * 0 + _ ≤ _; exact Nat.le_of_eq rfl) (hb hby d12_19) (fun v42 T42 h42 L42 X42 e42 hQ42 => ?_)
  obtain ⟨rfl, Nq42, Kq42, Fq42⟩ := hQ42
  have N42 := Fr.app N32 Nq42
  have F43 := Old.keep F33 Kq42 (allS g_r all0)
  have F44 := Exa.keep F34 Kq42
  have F45 := Exa.keep F35 Kq42
  have F46 := Fld.keep F36 Kq42 (ninS (Ne.symm ne_ra) nin0)
  have F47 := Fld.keep F37 Kq42 (ninS (Ne.symm ne_ra) nin0)
  have F48 := OOv.keep F38 Kq42
  have F49 := OAr.keep Vq32 Kq42 (ninS (Ne.symm ne_re) nin0)
  have Z50 := Nat.le_trans Z40 Kq42.1
  have K51 := Keep.trans K41 Kq42 (allS (Or.inl (List.mem_of_getElem? (i := 0) rfl)) all0)
  show OwnWk _ _ _ _ (T42.setTop (mkF m 22 #[.val (.ref r), .val (.ref a), .val (.int (1 : Int32))] [(.int (own_r (own_land (own_land (own_land q (4 : Int32)) (3 : Int32)) (2 : Int32)) (2 : Int32))), (.int (1 : Int32)), (.ref a)]))
  rw [own_j_eq (q := (own_land (own_land q (4 : Int32)) (3 : Int32))) (b := (2 : Int32)) (by decide)]
  show OwnWk _ _ _ _ (T42.setTop (mkF m 22 #[.val (.ref r), .val (.ref a), .val (.int (1 : Int32))] [(.int (Int32.ofNat (own_j (own_land (own_land q (4 : Int32)) (3 : Int32)) (2 : Int32)))), (.int (1 : Int32)), (.ref a)]))
  refine own_callS X42 hx hZ (y := (⟨"java/util/Collections", "swap", "(Ljava/util/List;II)V"⟩ : MethodName)) hown (hw _ (List.mem_of_getElem? (i := 103) rfl)) (hw _ (List.mem_of_getElem? (i := 104) rfl)) (hw _ (List.mem_of_getElem? (i := 105) rfl)) (hw _ (List.mem_of_getElem? (i := 106) rfl)) (by decide) (argsL := [(.ref a), (.int (1 : Int32)), (.int (Int32.ofNat (own_j (own_land (own_land q (4 : Int32)) (3 : Int32)) (2 : Int32))))]) (rest := []) (rm := ({ frames := 3, cells := 0, slots := 0, locals := 44 } : Room)) (h := h42) (csw l Z a0 hw dce cac ia a ed (own_exch (own_exch ks 3 (own_j q (4 : Int32))) 2 (own_j (own_land q (4 : Int32)) (3 : Int32))) 1 (own_j (own_land (own_land q (4 : Int32)) (3 : Int32)) (2 : Int32)) 4 h42 n0 Z50 F43 S_d V_d S_h S_c hL hE hV F45 F46 F47 F49 (by decide) (own_j_lt (q := (own_land (own_land q (4 : Int32)) (3 : Int32))) (b := (2 : Int32)) (by decide) (n := 4) rfl (by decide)) (by simp [own_elen, hxl]) (by decide) (own_k4 (own_k4 hk4)) F48 g_e ne_ae) e42 (W := 0) (by decide) (by decide) (by decide) (by decide) (g := (mkF m 22 #[.val (.ref r), .val (.ref a), .val (.int (1 : Int32))] [(.int (Int32.ofNat (own_j (own_land (own_land q (4 : Int32)) (3 : Int32)) (2 : Int32)))), (.int (1 : Int32)), (.ref a)])) rfl (by rw [hml]; rfl) (lenOf pd_11 rfl) rfl (by show 2 * 0 + _ ≤ _; exact Nat.le_of_eq rfl) (hb hby d12_22) (fun v52 T52 h52 L52 X52 e52 hQ52 => ?_)
  obtain ⟨rfl, Nq52, Kq52, Vq52⟩ := hQ52
  have N52 := Fr.app N42 Nq52
  have F53 := Old.keep F43 Kq52 (allS g_e all0)
  have F54 := Exa.keep F44 Kq52
  have F55 := Exa.keep F45 Kq52
  have F56 := Fld.keep F46 Kq52 (ninS ne_ae nin0)
  have F57 := Fld.keep F47 Kq52 (ninS ne_ae nin0)
  have F58 := OOv.keep F48 Kq52
  have F59 := Fld.keep Fq42 Kq52 (ninS ne_re nin0)
  have Z60 := Nat.le_trans Z50 Kq52.1
  have K61 := Keep.trans K51 Kq52 (allS (Or.inl (List.mem_of_getElem? (i := 1) rfl)) all0)
  show OwnWk _ _ _ _ (T52.setTop (mkF m 25 #[.val (.ref r), .val (.ref a), .val (.int (1 : Int32))] []))
  refine own_go (fun tgt kst => XS.iinc X52.here hx rfl (hb hby d12_25) rfl (l' := #[.val (.ref r), .val (.ref a), .val (.int (0 : Int32))]) rfl kst) ?_
  show OwnWk _ _ _ _ (T52.setTop (mkF m 28 #[.val (.ref r), .val (.ref a), .val (.int (0 : Int32))] []))
  refine own_go (fun tgt kst => XS.goto X52.here hx rfl (pc0 := 28) (pc' := 9) rfl (hb hby d12_28) (by decide) (by decide) kst) ?_
  show OwnWk _ _ _ _ (T52.setTop (mkF m 9 #[.val (.ref r), .val (.ref a), .val (.int (0 : Int32))] []))
  refine own_go (fun tgt kst => XS.iloadN X52.here hx rfl (hb hby d12_9) rfl  kst) ?_
  show OwnWk _ _ _ _ (T52.setTop (mkF m 10 #[.val (.ref r), .val (.ref a), .val (.int (0 : Int32))] [(.int (0 : Int32))]))
  refine own_go (fun tgt kst => XS.ifYes X52.here hx rfl (pc0 := 10) (pc' := 31) rfl (hb hby d12_10) rfl ((if0 _ _).trans (flt (by decide : ¬ ((0 : Int32) < (0 : Int32)))).2.2.2) (by decide) (by decide) kst) ?_
  show OwnWk _ _ _ _ (T52.setTop (mkF m 31 #[.val (.ref r), .val (.ref a), .val (.int (0 : Int32))] []))
  exact own_retV X52 hx hlk hret (hb hby d12_31) (by decide) (by decide) (by rw [e52]; exact ⟨rfl, N52, K61, F59, Vq52⟩)
theorem pn_pn_22 : plainName "com/example/spikeline/spikeline/core/SeededRandomShufflePinLaw" = true := by first | (simp [plainName, overriddenIn]; done) | decide +kernel
theorem pn_22 : plainFor (⟨"com/example/spikeline/spikeline/core/SeededRandomShufflePinLaw", "swap", "([III)V"⟩ : MethodName) = true := plainFor_of_name pn_pn_22
theorem d22_0 : decode method_3_code 0 = .ok (.aload_n 0, 1) := by decide +kernel
theorem d22_1 : decode method_3_code 1 = .ok (.iload_n 1, 1) := by decide +kernel
theorem d22_2 : decode method_3_code 2 = .ok (.iaload, 1) := by decide +kernel
theorem d22_3 : decode method_3_code 3 = .ok (.istore_n 3, 1) := by decide +kernel
theorem d22_4 : decode method_3_code 4 = .ok (.aload_n 0, 1) := by decide +kernel
theorem d22_5 : decode method_3_code 5 = .ok (.iload_n 1, 1) := by decide +kernel
theorem d22_6 : decode method_3_code 6 = .ok (.aload_n 0, 1) := by decide +kernel
theorem d22_7 : decode method_3_code 7 = .ok (.iload_n 2, 1) := by decide +kernel
theorem d22_8 : decode method_3_code 8 = .ok (.iaload, 1) := by decide +kernel
theorem d22_9 : decode method_3_code 9 = .ok (.iastore, 1) := by decide +kernel
theorem d22_10 : decode method_3_code 10 = .ok (.aload_n 0, 1) := by decide +kernel
theorem d22_11 : decode method_3_code 11 = .ok (.iload_n 2, 1) := by decide +kernel
theorem d22_12 : decode method_3_code 12 = .ok (.iload_n 3, 1) := by decide +kernel
theorem d22_13 : decode method_3_code 13 = .ok (.iastore, 1) := by decide +kernel
theorem d22_14 : decode method_3_code 14 = .ok (.return_, 1) := by decide +kernel
theorem ef_lsw (m : MethodId) (x0 : Addr) (x1 : Int32) (x2 : Int32) : entryFrame m #[(.ref x0), (.int x1), (.int x2)] 4 = mkF m 0 #[.val (.ref x0), .val (.int x1), .val (.int x2), .unset] [] := by first | (simp [entryFrame, mkF, argsToLocals, Value.category]; done) | rfl
def Q_lsw (Z : State) (t : Addr) (ns : List Nat) (I J : Nat) (h0 : Heap) (n0 : Nat) (v : Option Value) (h : Heap) (L : List Loc) : Prop := v = none ∧ Fr n0 L ∧ Keep h0 h [t] ∧ OAr Z h t .int (own_iv (own_swp ns I J))
set_option maxRecDepth 65536 in
set_option maxHeartbeats 40000000 in
theorem lsw (l : Launch) (Z : State) (a0 : Array Value) (hw : ∀ d ∈ tables_1, d.before a0 Z = true) (t : Addr) (ns : List Nat) (I J : Nat) (h0 : Heap) (n0 : Nat) (Z0 : n0 ≤ h0.size) (V_t : OAr Z h0 t .int (own_iv ns)) (g_t : n0 ≤ t) (hlen : ns.length = 4) (hI : I < 4) (hJ : J < 4) :
    OwnMet l (⟨"com/example/spikeline/spikeline/core/SeededRandomShufflePinLaw", "swap", "([III)V"⟩ : MethodName) method_3_code 4 none [] ({ frames := 0, cells := 0, slots := 0, locals := 0 } : Room) Z #[(.ref t), (.int (Int32.ofNat I)), (.int (Int32.ofNat J))] h0 (Q_lsw Z t ns I J h0 n0) := by
  refine own_met pn_22 (fun p e s m below meth c s₁ hx hby hml hown hnm hret hlk hZ X0 e0 => ?_)
  have hown : s.vm.findClass "com/example/spikeline/spikeline/core/SeededRandomShufflePinLaw" = some m.cls := hown
  have N0 := Fr.nil n0
  have K0 := Keep.refl h0 [t]
  rw [ef_lsw]
  show OwnWk _ _ _ _ (s₁.setTop (mkF m 0 #[.val (.ref t), .val (.int (Int32.ofNat I)), .val (.int (Int32.ofNat J)), .unset] []))
  refine own_go (fun tgt kst => XS.aloadN X0.here hx rfl (hb hby d22_0) rfl rfl  kst) ?_
  show OwnWk _ _ _ _ (s₁.setTop (mkF m 1 #[.val (.ref t), .val (.int (Int32.ofNat I)), .val (.int (Int32.ofNat J)), .unset] [(.ref t)]))
  refine own_go (fun tgt kst => XS.iloadN X0.here hx rfl (hb hby d22_1) rfl  kst) ?_
  show OwnWk _ _ _ _ (s₁.setTop (mkF m 2 #[.val (.ref t), .val (.int (Int32.ofNat I)), .val (.int (Int32.ofNat J)), .unset] [(.int (Int32.ofNat I)), (.ref t)]))
  refine own_ldI X0 hx hZ e0 V_t (g := (mkF m 2 #[.val (.ref t), .val (.int (Int32.ofNat I)), .val (.int (Int32.ofNat J)), .unset] [(.int (Int32.ofNat I)), (.ref t)])) rfl rfl (hb hby d22_2) (v := (.int (Int32.ofNat (ns.getD I 0)))) (own_n_nn (by have := hI; omega)) (own_iv4_at (NS := ns) (J := I) (by simp [own_slen, hlen]) hI) ?_
  show OwnWk _ _ _ _ (s₁.setTop (mkF m 3 #[.val (.ref t), .val (.int (Int32.ofNat I)), .val (.int (Int32.ofNat J)), .unset] [(.int (Int32.ofNat (ns.getD I 0)))]))
  refine own_go (fun tgt kst => XS.istoreN X0.here hx rfl (hb hby d22_3) rfl (l' := #[.val (.ref t), .val (.int (Int32.ofNat I)), .val (.int (Int32.ofNat J)), .val (.int (Int32.ofNat (ns.getD I 0)))]) rfl kst) ?_
  show OwnWk _ _ _ _ (s₁.setTop (mkF m 4 #[.val (.ref t), .val (.int (Int32.ofNat I)), .val (.int (Int32.ofNat J)), .val (.int (Int32.ofNat (ns.getD I 0)))] []))
  refine own_go (fun tgt kst => XS.aloadN X0.here hx rfl (hb hby d22_4) rfl rfl  kst) ?_
  show OwnWk _ _ _ _ (s₁.setTop (mkF m 5 #[.val (.ref t), .val (.int (Int32.ofNat I)), .val (.int (Int32.ofNat J)), .val (.int (Int32.ofNat (ns.getD I 0)))] [(.ref t)]))
  refine own_go (fun tgt kst => XS.iloadN X0.here hx rfl (hb hby d22_5) rfl  kst) ?_
  show OwnWk _ _ _ _ (s₁.setTop (mkF m 6 #[.val (.ref t), .val (.int (Int32.ofNat I)), .val (.int (Int32.ofNat J)), .val (.int (Int32.ofNat (ns.getD I 0)))] [(.int (Int32.ofNat I)), (.ref t)]))
  refine own_go (fun tgt kst => XS.aloadN X0.here hx rfl (hb hby d22_6) rfl rfl  kst) ?_
  show OwnWk _ _ _ _ (s₁.setTop (mkF m 7 #[.val (.ref t), .val (.int (Int32.ofNat I)), .val (.int (Int32.ofNat J)), .val (.int (Int32.ofNat (ns.getD I 0)))] [(.ref t), (.int (Int32.ofNat I)), (.ref t)]))
  refine own_go (fun tgt kst => XS.iloadN X0.here hx rfl (hb hby d22_7) rfl  kst) ?_
  show OwnWk _ _ _ _ (s₁.setTop (mkF m 8 #[.val (.ref t), .val (.int (Int32.ofNat I)), .val (.int (Int32.ofNat J)), .val (.int (Int32.ofNat (ns.getD I 0)))] [(.int (Int32.ofNat J)), (.ref t), (.int (Int32.ofNat I)), (.ref t)]))
  refine own_ldI X0 hx hZ e0 V_t (g := (mkF m 8 #[.val (.ref t), .val (.int (Int32.ofNat I)), .val (.int (Int32.ofNat J)), .val (.int (Int32.ofNat (ns.getD I 0)))] [(.int (Int32.ofNat J)), (.ref t), (.int (Int32.ofNat I)), (.ref t)])) rfl rfl (hb hby d22_8) (v := (.int (Int32.ofNat (ns.getD J 0)))) (own_n_nn (by have := hJ; omega)) (own_iv4_at (NS := ns) (J := J) (by simp [own_slen, hlen]) hJ) ?_
  show OwnWk _ _ _ _ (s₁.setTop (mkF m 9 #[.val (.ref t), .val (.int (Int32.ofNat I)), .val (.int (Int32.ofNat J)), .val (.int (Int32.ofNat (ns.getD I 0)))] [(.int (Int32.ofNat (ns.getD J 0))), (.int (Int32.ofNat I)), (.ref t)]))
  refine own_stI X0 hx hZ e0 V_t (g := (mkF m 9 #[.val (.ref t), .val (.int (Int32.ofNat I)), .val (.int (Int32.ofNat J)), .val (.int (Int32.ofNat (ns.getD I 0)))] [(.int (Int32.ofNat (ns.getD J 0))), (.int (Int32.ofNat I)), (.ref t)])) rfl rfl (hb hby d22_9) (own_n_nn (by have := hI; omega)) (own_iv4_in (NS := ns) (J := I) (by simp [own_slen, hlen]) hI) (fun T1 h1 X1 e1 W1 V1 => ?_)
  have V1b : OAr Z h1 t .int (own_iv (ns.set I (ns.getD J 0))) := by exact own_cast (own_iv4_set (NS := ns) (J := I) (X := (ns.getD J 0)) hI) V1
  have N1 := Fr.snoc X1 N0 g_t
  have Z2 := Nat.le_trans Z0 (Keep.of_wr W1).1
  have K3 := Keep.wr K0 W1 (Or.inl (List.mem_of_getElem? (i := 0) rfl))
  show OwnWk _ _ _ _ (T1.setTop (mkF m 10 #[.val (.ref t), .val (.int (Int32.ofNat I)), .val (.int (Int32.ofNat J)), .val (.int (Int32.ofNat (ns.getD I 0)))] []))
  refine own_go (fun tgt kst => XS.aloadN X1.here hx rfl (hb hby d22_10) rfl rfl  kst) ?_
  show OwnWk _ _ _ _ (T1.setTop (mkF m 11 #[.val (.ref t), .val (.int (Int32.ofNat I)), .val (.int (Int32.ofNat J)), .val (.int (Int32.ofNat (ns.getD I 0)))] [(.ref t)]))
  refine own_go (fun tgt kst => XS.iloadN X1.here hx rfl (hb hby d22_11) rfl  kst) ?_
  show OwnWk _ _ _ _ (T1.setTop (mkF m 12 #[.val (.ref t), .val (.int (Int32.ofNat I)), .val (.int (Int32.ofNat J)), .val (.int (Int32.ofNat (ns.getD I 0)))] [(.int (Int32.ofNat J)), (.ref t)]))
  refine own_go (fun tgt kst => XS.iloadN X1.here hx rfl (hb hby d22_12) rfl  kst) ?_
  show OwnWk _ _ _ _ (T1.setTop (mkF m 13 #[.val (.ref t), .val (.int (Int32.ofNat I)), .val (.int (Int32.ofNat J)), .val (.int (Int32.ofNat (ns.getD I 0)))] [(.int (Int32.ofNat (ns.getD I 0))), (.int (Int32.ofNat J)), (.ref t)]))
  refine own_stI X1 hx hZ e1 V1b (g := (mkF m 13 #[.val (.ref t), .val (.int (Int32.ofNat I)), .val (.int (Int32.ofNat J)), .val (.int (Int32.ofNat (ns.getD I 0)))] [(.int (Int32.ofNat (ns.getD I 0))), (.int (Int32.ofNat J)), (.ref t)])) rfl rfl (hb hby d22_13) (own_n_nn (by have := hJ; omega)) (own_iv4_in (NS := (ns.set I (ns.getD J 0))) (J := J) (by simp [own_slen, hlen]) hJ) (fun T4 h4 X4 e4 W4 V4 => ?_)
  have V4b : OAr Z h4 t .int (own_iv ((ns.set I (ns.getD J 0)).set J (ns.getD I 0))) := by exact own_cast (own_iv4_set (NS := (ns.set I (ns.getD J 0))) (J := J) (X := (ns.getD I 0)) hJ) V4
  have N4 := Fr.snoc X4 N1 g_t
  have Z5 := Nat.le_trans Z2 (Keep.of_wr W4).1
  have K6 := Keep.wr K3 W4 (Or.inl (List.mem_of_getElem? (i := 0) rfl))
  show OwnWk _ _ _ _ (T4.setTop (mkF m 14 #[.val (.ref t), .val (.int (Int32.ofNat I)), .val (.int (Int32.ofNat J)), .val (.int (Int32.ofNat (ns.getD I 0)))] []))
  exact own_retV X4 hx hlk hret (hb hby d22_14) (by decide) (by decide) (by rw [e4]; exact ⟨rfl, N4, K6, V4b⟩)
theorem pn_pn_25 : plainName "java/lang/Integer" = true := by first | (simp [plainName, overriddenIn]; done) | decide +kernel
theorem pn_25 : plainFor (⟨"java/lang/Integer", "intValue", "()I"⟩ : MethodName) = true := plainFor_of_name pn_pn_25
theorem d25_0 : decode jdk_33_method_27_code 0 = .ok (.aload_n 0, 1) := by decide +kernel
theorem d25_1 : decode jdk_33_method_27_code 1 = .ok (.getfield 205, 3) := by decide +kernel
theorem d25_4 : decode jdk_33_method_27_code 4 = .ok (.ireturn, 1) := by decide +kernel
theorem ef_rm25 (m : MethodId) (x0 : Addr) : entryFrame m #[(.ref x0)] 1 = mkF m 0 #[.val (.ref x0)] [] := by first | (simp [entryFrame, mkF, argsToLocals, Value.category]; done) | rfl
def Q_rm25 (Z : State) (a : Addr) (u : Int32) (h0 : Heap) (n0 : Nat) (v : Option Value) (h : Heap) (L : List Loc) : Prop := v = some (.int u) ∧ Fr n0 L ∧ h = h0
set_option maxRecDepth 65536 in
set_option maxHeartbeats 40000000 in
theorem rm25 (l : Launch) (Z : State) (a0 : Array Value) (hw : ∀ d ∈ tables_1, d.before a0 Z = true) (a : Addr) (u : Int32) (h0 : Heap) (n0 : Nat) (Z0 : n0 ≤ h0.size) (F_v : Fld Z h0 a "java/lang/Integer" "value" "I" (.int u)) :
    OwnMet l (⟨"java/lang/Integer", "intValue", "()I"⟩ : MethodName) jdk_33_method_27_code 1 (some .int) [] ({ frames := 0, cells := 0, slots := 0, locals := 0 } : Room) Z #[(.ref a)] h0 (Q_rm25 Z a u h0 n0) := by
  refine own_met pn_25 (fun p e s m below meth c s₁ hx hby hml hown hnm hret hlk hZ X0 e0 => ?_)
  have hown : s.vm.findClass "java/lang/Integer" = some m.cls := hown
  have N0 := Fr.nil n0
  rw [ef_rm25]
  show OwnWk _ _ _ _ (s₁.setTop (mkF m 0 #[.val (.ref a)] []))
  refine own_go (fun tgt kst => XS.aloadN X0.here hx rfl (hb hby d25_0) rfl rfl  kst) ?_
  show OwnWk _ _ _ _ (s₁.setTop (mkF m 1 #[.val (.ref a)] [(.ref a)]))
  obtain ⟨T1, X1, e1, st1⟩ := getF X0 hx hZ hown (host := "") (Or.inl (hw _ (List.mem_of_getElem? (i := 162) rfl))) Via.refl e0 F_v (g := (mkF m 1 #[.val (.ref a)] [(.ref a)])) rfl rfl (hb hby d25_1)
  refine own_go st1 ?_
  show OwnWk _ _ _ _ (T1.setTop (mkF m 4 #[.val (.ref a)] [(.int u)]))
  exact own_retI X1 hx hlk hret (hb hby d25_4) (by decide) (by decide) (by rw [e1]; exact ⟨rfl, N0, rfl⟩)
theorem pn_pn_24 : plainName "com/example/spikeline/spikeline/core/SeededRandomShufflePinLaw" = true := by first | (simp [plainName, overriddenIn]; done) | decide +kernel
theorem pn_24 : plainFor (⟨"com/example/spikeline/spikeline/core/SeededRandomShufflePinLaw", "same", "(Ljava/util/ArrayList;[III)Z"⟩ : MethodName) = true := plainFor_of_name pn_pn_24
theorem d24_0 : decode method_4_code 0 = .ok (.iload_n 2, 1) := by decide +kernel
theorem d24_1 : decode method_4_code 1 = .ok (.iload_n 3, 1) := by decide +kernel
theorem d24_2 : decode method_4_code 2 = .ok (.if_icmp .ge 20, 3) := by decide +kernel
theorem d24_22 : decode method_4_code 22 = .ok (.iconst 1, 1) := by decide +kernel
theorem d24_23 : decode method_4_code 23 = .ok (.goto 4, 3) := by decide +kernel
theorem d24_27 : decode method_4_code 27 = .ok (.ireturn, 1) := by decide +kernel
theorem ef_smO (m : MethodId) (x0 : Addr) (x1 : Addr) (x2 : Int32) (x3 : Int32) : entryFrame m #[(.ref x0), (.ref x1), (.int x2), (.int x3)] 4 = mkF m 0 #[.val (.ref x0), .val (.ref x1), .val (.int x2), .val (.int x3)] [] := by first | (simp [entryFrame, mkF, argsToLocals, Value.category]; done) | rfl
def Q_smO (Z : State) (a t : Addr) (u r : Int32) (h0 : Heap) (n0 : Nat) (v : Option Value) (h : Heap) (L : List Loc) : Prop := v = some (.int 1) ∧ Fr n0 L ∧ h = h0
set_option maxRecDepth 65536 in
set_option maxHeartbeats 40000000 in
theorem smO (l : Launch) (Z : State) (a0 : Array Value) (hw : ∀ d ∈ tables_1, d.before a0 Z = true) (a t : Addr) (u r : Int32) (h0 : Heap) (n0 : Nat) (Z0 : n0 ≤ h0.size) (hur : ¬ u < r) :
    OwnMet l (⟨"com/example/spikeline/spikeline/core/SeededRandomShufflePinLaw", "same", "(Ljava/util/ArrayList;[III)Z"⟩ : MethodName) method_4_code 4 (some .boolean) [] ({ frames := 0, cells := 0, slots := 0, locals := 0 } : Room) Z #[(.ref a), (.ref t), (.int u), (.int r)] h0 (Q_smO Z a t u r h0 n0) := by
  refine own_met pn_24 (fun p e s m below meth c s₁ hx hby hml hown hnm hret hlk hZ X0 e0 => ?_)
  have hown : s.vm.findClass "com/example/spikeline/spikeline/core/SeededRandomShufflePinLaw" = some m.cls := hown
  have N0 := Fr.nil n0
  rw [ef_smO]
  show OwnWk _ _ _ _ (s₁.setTop (mkF m 0 #[.val (.ref a), .val (.ref t), .val (.int u), .val (.int r)] []))
  refine own_go (fun tgt kst => XS.iloadN X0.here hx rfl (hb hby d24_0) rfl  kst) ?_
  show OwnWk _ _ _ _ (s₁.setTop (mkF m 1 #[.val (.ref a), .val (.ref t), .val (.int u), .val (.int r)] [(.int u)]))
  refine own_go (fun tgt kst => XS.iloadN X0.here hx rfl (hb hby d24_1) rfl  kst) ?_
  show OwnWk _ _ _ _ (s₁.setTop (mkF m 2 #[.val (.ref a), .val (.ref t), .val (.int u), .val (.int r)] [(.int r), (.int u)]))
  refine own_go (fun tgt kst => XS.icmpYes X0.here hx rfl (pc0 := 2) (pc' := 22) rfl (hb hby d24_2) rfl (flt hur).2.1 (by decide) (by decide) kst) ?_
  show OwnWk _ _ _ _ (s₁.setTop (mkF m 22 #[.val (.ref a), .val (.ref t), .val (.int u), .val (.int r)] []))
  refine own_go (fun tgt kst => XS.iconst X0.here hx rfl (hb hby d24_22) kst) ?_
  show OwnWk _ _ _ _ (s₁.setTop (mkF m 23 #[.val (.ref a), .val (.ref t), .val (.int u), .val (.int r)] [(.int (1 : Int32))]))
  refine own_go (fun tgt kst => XS.goto X0.here hx rfl (pc0 := 23) (pc' := 27) rfl (hb hby d24_23) (by decide) (by decide) kst) ?_
  show OwnWk _ _ _ _ (s₁.setTop (mkF m 27 #[.val (.ref a), .val (.ref t), .val (.int u), .val (.int r)] [(.int (1 : Int32))]))
  exact own_retZ X0 hx hlk hret (by simp) (z' := (1 : Int32)) rfl (hb hby d24_27) (by decide) (by decide) (by rw [e0]; exact ⟨rfl, N0, rfl⟩)
theorem d24_5 : decode method_4_code 5 = .ok (.aload_n 0, 1) := by decide +kernel
theorem d24_6 : decode method_4_code 6 = .ok (.iload_n 2, 1) := by decide +kernel
theorem d24_7 : decode method_4_code 7 = .ok (.invokevirtual 52, 3) := by decide +kernel
theorem d24_10 : decode method_4_code 10 = .ok (.checkcast 12, 3) := by decide +kernel
theorem d24_13 : decode method_4_code 13 = .ok (.invokevirtual 56, 3) := by decide +kernel
theorem d24_16 : decode method_4_code 16 = .ok (.aload_n 1, 1) := by decide +kernel
theorem d24_17 : decode method_4_code 17 = .ok (.iload_n 2, 1) := by decide +kernel
theorem d24_18 : decode method_4_code 18 = .ok (.iaload, 1) := by decide +kernel
theorem d24_19 : decode method_4_code 19 = .ok (.if_icmp .ne 7, 3) := by decide +kernel
theorem d24_26 : decode method_4_code 26 = .ok (.iconst 0, 1) := by decide +kernel
theorem ef_smI (m : MethodId) (x0 : Addr) (x1 : Addr) (x2 : Int32) (x3 : Int32) : entryFrame m #[(.ref x0), (.ref x1), (.int x2), (.int x3)] 4 = mkF m 0 #[.val (.ref x0), .val (.ref x1), .val (.int x2), .val (.int x3)] [] := by first | (simp [entryFrame, mkF, argsToLocals, Value.category]; done) | rfl
def Q_smI (Z : State) (dce cac : Addr) (ia : Nat → Addr) (a ed t : Addr) (ks es : List Nat) (I nn : Nat) (h0 : Heap) (n0 : Nat) (v : Option Value) (h : Heap) (L : List Loc) : Prop := v = some (.int (own_same ks es I)) ∧ Fr n0 L ∧ h = h0
set_option maxRecDepth 65536 in
set_option maxHeartbeats 40000000 in
theorem smI (l : Launch) (Z : State) (a0 : Array Value) (hw : ∀ d ∈ tables_1, d.before a0 Z = true) (dce cac : Addr) (ia : Nat → Addr) (a ed t : Addr) (ks es : List Nat) (I nn : Nat) (h0 : Heap) (n0 : Nat) (Z0 : n0 ≤ h0.size) (O0 : Old Z n0 h0) (S_d : Sta Z Z.heap "java/util/ArrayList" "DEFAULTCAPACITY_EMPTY_ELEMENTDATA" "[Ljava/lang/Object;" (.ref dce)) (V_d : OAr Z Z.heap dce (.object "java/lang/Object") []) (S_h : Sta Z Z.heap "java/lang/Integer$IntegerCache" "high" "I" (.int (127 : Int32))) (S_c : Sta Z Z.heap "java/lang/Integer$IntegerCache" "cache" "[Ljava/lang/Integer;" (.ref cac)) (hL : ∀ k < 4, OEl Z Z.heap cac (.object "java/lang/Integer") (128 + k) (.ref (ia k))) (hE : ∀ k < 4, Exa Z Z.heap (ia k) "java/lang/Integer") (hV : ∀ k < 4, Fld Z Z.heap (ia k) "java/lang/Integer" "value" "I" (.int (Int32.ofNat k))) (E_a : Exa Z h0 a "java/util/ArrayList") (F_s : Fld Z h0 a "java/util/ArrayList" "size" "I" (.int (Int32.ofNat nn))) (F_e : Fld Z h0 a "java/util/ArrayList" "elementData" "[Ljava/lang/Object;" (.ref ed)) (V_e : OAr Z h0 ed (.object "java/lang/Object") (own_rv (ks.map ia))) (V_t : OAr Z h0 t .int (own_iv es)) (hI : I < nn) (hxl : ks.length = nn) (hn : nn ≤ 4) (hk4 : ∀ k ∈ ks, k < 4) (hlen : es.length = 4) :
    OwnMet l (⟨"com/example/spikeline/spikeline/core/SeededRandomShufflePinLaw", "same", "(Ljava/util/ArrayList;[III)Z"⟩ : MethodName) method_4_code 4 (some .boolean) [] ({ frames := 3, cells := 0, slots := 0, locals := 40 } : Room) Z #[(.ref a), (.ref t), (.int (Int32.ofNat I)), (.int (Int32.ofNat nn))] h0 (Q_smI Z dce cac ia a ed t ks es I nn h0 n0) := by
  refine own_met pn_24 (fun p e s m below meth c s₁ hx hby hml hown hnm hret hlk hZ X0 e0 => ?_)
  have hown : s.vm.findClass "com/example/spikeline/spikeline/core/SeededRandomShufflePinLaw" = some m.cls := hown
  have N0 := Fr.nil n0
  rw [ef_smI]
  show OwnWk _ _ _ _ (s₁.setTop (mkF m 0 #[.val (.ref a), .val (.ref t), .val (.int (Int32.ofNat I)), .val (.int (Int32.ofNat nn))] []))
  refine own_go (fun tgt kst => XS.iloadN X0.here hx rfl (hb hby d24_0) rfl  kst) ?_
  show OwnWk _ _ _ _ (s₁.setTop (mkF m 1 #[.val (.ref a), .val (.ref t), .val (.int (Int32.ofNat I)), .val (.int (Int32.ofNat nn))] [(.int (Int32.ofNat I))]))
  refine own_go (fun tgt kst => XS.iloadN X0.here hx rfl (hb hby d24_1) rfl  kst) ?_
  show OwnWk _ _ _ _ (s₁.setTop (mkF m 2 #[.val (.ref a), .val (.ref t), .val (.int (Int32.ofNat I)), .val (.int (Int32.ofNat nn))] [(.int (Int32.ofNat nn)), (.int (Int32.ofNat I))]))
  refine own_go (fun tgt kst => XS.icmpNo X0.here hx rfl (hb hby d24_2) rfl (tlt ((own_n_lt (by omega) (by omega)).mpr hI)).2.1 kst) ?_
  show OwnWk _ _ _ _ (s₁.setTop (mkF m 5 #[.val (.ref a), .val (.ref t), .val (.int (Int32.ofNat I)), .val (.int (Int32.ofNat nn))] []))
  refine own_go (fun tgt kst => XS.aloadN X0.here hx rfl (hb hby d24_5) rfl rfl  kst) ?_
  show OwnWk _ _ _ _ (s₁.setTop (mkF m 6 #[.val (.ref a), .val (.ref t), .val (.int (Int32.ofNat I)), .val (.int (Int32.ofNat nn))] [(.ref a)]))
  refine own_go (fun tgt kst => XS.iloadN X0.here hx rfl (hb hby d24_6) rfl  kst) ?_
  show OwnWk _ _ _ _ (s₁.setTop (mkF m 7 #[.val (.ref a), .val (.ref t), .val (.int (Int32.ofNat I)), .val (.int (Int32.ofNat nn))] [(.int (Int32.ofNat I)), (.ref a)]))
  refine own_callV X0 hx hZ (y := (⟨"java/util/ArrayList", "get", "(I)Ljava/lang/Object;"⟩ : MethodName)) (z := (⟨"java/util/ArrayList", "get", "(I)Ljava/lang/Object;"⟩ : MethodName)) hown (hw _ (List.mem_of_getElem? (i := 152) rfl)) (hw _ (List.mem_of_getElem? (i := 153) rfl)) (notFace_of_selects (args := #[]) (mvT hZ (hw _ (List.mem_of_getElem? (i := 154) rfl)))) (hw _ (List.mem_of_getElem? (i := 154) rfl)) (hw _ (List.mem_of_getElem? (i := 111) rfl)) (hw _ (List.mem_of_getElem? (i := 4) rfl)) (hw _ (List.mem_of_getElem? (i := 114) rfl)) (by decide) (a := a) E_a (argsL := [(.int (Int32.ofNat I))]) (rest := []) (rm := ({ frames := 2, cells := 0, slots := 0, locals := 27 } : Room)) (h := h0) (rm17 l Z a0 hw a ed (ks.map ia) I nn h0 n0 Z0 E_a F_s F_e V_e hI (by simp [hxl]) hn) e0 (W := 0) (by decide) (by decide) (by decide) (by decide) (g := (mkF m 7 #[.val (.ref a), .val (.ref t), .val (.int (Int32.ofNat I)), .val (.int (Int32.ofNat nn))] [(.int (Int32.ofNat I)), (.ref a)])) rfl (by rw [hml]; rfl) (lenOf pd_6 rfl) rfl (by show 2 * 0 + _ ≤ _; exact Nat.le_of_eq rfl) (hb hby d24_7) (fun v1 T1 h1 L1 X1 e1 hQ1 => ?_)
  obtain ⟨rfl, Nq1, q1⟩ := hQ1
  have N1 := Fr.app N0 Nq1
  rw [q1] at e1
  show OwnWk _ _ _ _ (T1.setTop (mkF m 10 #[.val (.ref a), .val (.ref t), .val (.int (Int32.ofNat I)), .val (.int (Int32.ofNat nn))] [(.ref ((ks.map ia).getD I 0))]))
  rw [own_map_getD (by omega : I < ks.length)]
  show OwnWk _ _ _ _ (T1.setTop (mkF m 10 #[.val (.ref a), .val (.ref t), .val (.int (Int32.ofNat I)), .val (.int (Int32.ofNat nn))] [(.ref (ia (ks.getD I 0)))]))
  have E_i := Exa.ext O0.2 (own_ia_E hE hk4 (by omega : I < ks.length))
  obtain ⟨T2, X2, e2, st2⟩ := castY X1 hx hZ hown (hw _ (List.mem_of_getElem? (i := 155) rfl)) e1 (Ins.self E_i) (g := (mkF m 10 #[.val (.ref a), .val (.ref t), .val (.int (Int32.ofNat I)), .val (.int (Int32.ofNat nn))] [(.ref (ia (ks.getD I 0)))])) rfl rfl (hb hby d24_10)
  refine own_go st2 ?_
  show OwnWk _ _ _ _ (T2.setTop (mkF m 13 #[.val (.ref a), .val (.ref t), .val (.int (Int32.ofNat I)), .val (.int (Int32.ofNat nn))] [(.ref (ia (ks.getD I 0)))]))
  refine own_callV X2 hx hZ (y := (⟨"java/lang/Integer", "intValue", "()I"⟩ : MethodName)) (z := (⟨"java/lang/Integer", "intValue", "()I"⟩ : MethodName)) hown (hw _ (List.mem_of_getElem? (i := 157) rfl)) (hw _ (List.mem_of_getElem? (i := 158) rfl)) (notFace_of_selects (args := #[]) (mvT hZ (hw _ (List.mem_of_getElem? (i := 160) rfl)))) (hw _ (List.mem_of_getElem? (i := 160) rfl)) (hw _ (List.mem_of_getElem? (i := 159) rfl)) (hw _ (List.mem_of_getElem? (i := 30) rfl)) (hw _ (List.mem_of_getElem? (i := 161) rfl)) (by decide) (a := (ia (ks.getD I 0))) E_i (argsL := []) (rest := []) (rm := ({ frames := 0, cells := 0, slots := 0, locals := 0 } : Room)) (h := h0) (rm25 l Z a0 hw (ia (ks.getD I 0)) (Int32.ofNat (ks.getD I 0)) h0 n0 Z0 (Fld.ext O0.2 (hV _ (own_getD4 hk4 I)))) e2 (W := 0) (by decide) (by decide) (by decide) (by decide) (g := (mkF m 13 #[.val (.ref a), .val (.ref t), .val (.int (Int32.ofNat I)), .val (.int (Int32.ofNat nn))] [(.ref (ia (ks.getD I 0)))])) rfl (by rw [hml]; rfl) (lenOf pd_9 rfl) rfl (by show 2 * 0 + _ ≤ _; exact Nat.le_of_eq rfl) (hb hby d24_13) (fun v3 T3 h3 L3 X3 e3 hQ3 => ?_)
  obtain ⟨rfl, Nq3, q3⟩ := hQ3
  have N3 := Fr.app N1 Nq3
  rw [q3] at e3
  show OwnWk _ _ _ _ (T3.setTop (mkF m 16 #[.val (.ref a), .val (.ref t), .val (.int (Int32.ofNat I)), .val (.int (Int32.ofNat nn))] [(.int (Int32.ofNat (ks.getD I 0)))]))
  refine own_go (fun tgt kst => XS.aloadN X3.here hx rfl (hb hby d24_16) rfl rfl  kst) ?_
  show OwnWk _ _ _ _ (T3.setTop (mkF m 17 #[.val (.ref a), .val (.ref t), .val (.int (Int32.ofNat I)), .val (.int (Int32.ofNat nn))] [(.ref t), (.int (Int32.ofNat (ks.getD I 0)))]))
  refine own_go (fun tgt kst => XS.iloadN X3.here hx rfl (hb hby d24_17) rfl  kst) ?_
  show OwnWk _ _ _ _ (T3.setTop (mkF m 18 #[.val (.ref a), .val (.ref t), .val (.int (Int32.ofNat I)), .val (.int (Int32.ofNat nn))] [(.int (Int32.ofNat I)), (.ref t), (.int (Int32.ofNat (ks.getD I 0)))]))
  refine own_ldI X3 hx hZ e3 V_t (g := (mkF m 18 #[.val (.ref a), .val (.ref t), .val (.int (Int32.ofNat I)), .val (.int (Int32.ofNat nn))] [(.int (Int32.ofNat I)), (.ref t), (.int (Int32.ofNat (ks.getD I 0)))])) rfl rfl (hb hby d24_18) (v := (.int (Int32.ofNat (es.getD I 0)))) (own_n_nn (by have := (by omega); omega)) (own_iv4_at (NS := es) (J := I) (by simp [own_slen, hlen]) (by omega)) ?_
  show OwnWk _ _ _ _ (T3.setTop (mkF m 19 #[.val (.ref a), .val (.ref t), .val (.int (Int32.ofNat I)), .val (.int (Int32.ofNat nn))] [(.int (Int32.ofNat (es.getD I 0))), (.int (Int32.ofNat (ks.getD I 0)))]))
  by_cases hc4 : (Int32.ofNat (ks.getD I 0)) = (Int32.ofNat (es.getD I 0))
  ·
    refine own_go (fun tgt kst => XS.icmpNo X3.here hx rfl (hb hby d24_19) rfl (teq hc4).2 kst) ?_
    show OwnWk _ _ _ _ (T3.setTop (mkF m 22 #[.val (.ref a), .val (.ref t), .val (.int (Int32.ofNat I)), .val (.int (Int32.ofNat nn))] []))
    refine own_go (fun tgt kst => XS.iconst X3.here hx rfl (hb hby d24_22) kst) ?_
    show OwnWk _ _ _ _ (T3.setTop (mkF m 23 #[.val (.ref a), .val (.ref t), .val (.int (Int32.ofNat I)), .val (.int (Int32.ofNat nn))] [(.int (1 : Int32))]))
    refine own_go (fun tgt kst => XS.goto X3.here hx rfl (pc0 := 23) (pc' := 27) rfl (hb hby d24_23) (by decide) (by decide) kst) ?_
    show OwnWk _ _ _ _ (T3.setTop (mkF m 27 #[.val (.ref a), .val (.ref t), .val (.int (Int32.ofNat I)), .val (.int (Int32.ofNat nn))] [(.int (1 : Int32))]))
    exact own_retZ X3 hx hlk hret (by simp) (z' := (1 : Int32)) rfl (hb hby d24_27) (by decide) (by decide) (by rw [e3]; exact ⟨congrArg (fun z => some (Value.int z)) (if_pos hc4).symm, N3, rfl⟩)
  ·
    refine own_go (fun tgt kst => XS.icmpYes X3.here hx rfl (pc0 := 19) (pc' := 26) rfl (hb hby d24_19) rfl (feq hc4).2 (by decide) (by decide) kst) ?_
    show OwnWk _ _ _ _ (T3.setTop (mkF m 26 #[.val (.ref a), .val (.ref t), .val (.int (Int32.ofNat I)), .val (.int (Int32.ofNat nn))] []))
    refine own_go (fun tgt kst => XS.iconst X3.here hx rfl (hb hby d24_26) kst) ?_
    show OwnWk _ _ _ _ (T3.setTop (mkF m 27 #[.val (.ref a), .val (.ref t), .val (.int (Int32.ofNat I)), .val (.int (Int32.ofNat nn))] [(.int (0 : Int32))]))
    exact own_retZ X3 hx hlk hret (by simp) (z' := (0 : Int32)) rfl (hb hby d24_27) (by decide) (by decide) (by rw [e3]; exact ⟨congrArg (fun z => some (Value.int z)) (if_neg hc4).symm, N3, rfl⟩)
theorem pn_pn_0 : plainName "com/example/spikeline/spikeline/core/SeededRandomShufflePinLaw" = true := by first | (simp [plainName, overriddenIn]; done) | decide +kernel
theorem pn_0 : plainFor x = true := plainFor_of_name pn_pn_0
theorem pd_12 : parseMethodDescriptor "(J)V" = some ⟨[.long], none⟩ := by decide +kernel
theorem pd_13 : parseMethodDescriptor "(Ljava/util/List;)V" = some ⟨[(.object "java/util/List")], none⟩ := by decide +kernel
theorem pd_14 : parseMethodDescriptor "(Ljava/util/ArrayList;[III)Z" = some ⟨[(.object "java/util/ArrayList"), (.array .int), .int, .int], some .boolean⟩ := by decide +kernel
theorem pd_15 : parseMethodDescriptor "(I)Ljava/lang/Integer;" = some ⟨[.int], some (.object "java/lang/Integer")⟩ := by decide +kernel
theorem pd_16 : parseMethodDescriptor "(Ljava/lang/Object;)Z" = some ⟨[(.object "java/lang/Object")], some .boolean⟩ := by decide +kernel
theorem pd_17 : parseMethodDescriptor "([III)V" = some ⟨[(.array .int), .int, .int], none⟩ := by decide +kernel
theorem ef_rm0 (m : MethodId) (x0 : Int64) (x1 : Int32) : entryFrame m #[(.long x0), (.int x1)] maxLocals = mkF m 0 #[.val (.long x0), .second, .val (.int x1), .unset, .unset, .unset, .unset, .unset] [] := by first | (simp [entryFrame, mkF, argsToLocals, Value.category, maxLocals]; done) | rfl
def Q_rm0 (Z : State) (u : Int64) (sz : Int32) (dce cac : Addr) (ia : Nat → Addr) (h0 : Heap) (n0 : Nat) (v : Option Value) (h : Heap) (L : List Loc) : Prop := v = some (.int 1) ∧ Fr n0 L
set_option maxRecDepth 65536 in
set_option maxHeartbeats 40000000 in
theorem rm0 (l : Launch) (Z : State) (a0 : Array Value) (hw : ∀ d ∈ tables_1, d.before a0 Z = true) (u : Int64) (sz : Int32) (dce cac : Addr) (ia : Nat → Addr) (h0 : Heap) (n0 : Nat) (Z0 : n0 ≤ h0.size) (O0 : Old Z n0 h0) (S_d : Sta Z Z.heap "java/util/ArrayList" "DEFAULTCAPACITY_EMPTY_ELEMENTDATA" "[Ljava/lang/Object;" (.ref dce)) (V_d : OAr Z Z.heap dce (.object "java/lang/Object") []) (S_h : Sta Z Z.heap "java/lang/Integer$IntegerCache" "high" "I" (.int (127 : Int32))) (S_c : Sta Z Z.heap "java/lang/Integer$IntegerCache" "cache" "[Ljava/lang/Integer;" (.ref cac)) (hL : ∀ k < 4, OEl Z Z.heap cac (.object "java/lang/Integer") (128 + k) (.ref (ia k))) (hE : ∀ k < 4, Exa Z Z.heap (ia k) "java/lang/Integer") (hV : ∀ k < 4, Fld Z Z.heap (ia k) "java/lang/Integer" "value" "I" (.int (Int32.ofNat k)))  :
    OwnMet l x code maxLocals ret tables_1 room_1 Z #[(.long u), (.int sz)] h0 (Q_rm0 Z u sz dce cac ia h0 n0) := by
  refine own_met pn_0 (fun p e s m below meth c s₁ hx hby hml hown hnm hret hlk hZ X0 e0 => ?_)
  have hml : c.maxLocals = 8 := hml
  have hret : meth.sig.returnType = some .boolean := hret
  have hown : s.vm.findClass "com/example/spikeline/spikeline/core/SeededRandomShufflePinLaw" = some m.cls := hown
  have N0 := Fr.nil n0
  rw [ef_rm0]
  obtain ⟨N1, hN1, eN1⟩ := own_draw sz 2147483647 5 (by decide) (by decide) (by decide)
  show OwnWk _ _ _ _ (s₁.setTop (mkF m 0 #[.val (.long u), .second, .val (.int sz), .unset, .unset, .unset, .unset, .unset] []))
  refine own_go (fun tgt kst => XS.iloadN X0.here hx rfl (hb hby at_0) rfl  kst) ?_
  show OwnWk _ _ _ _ (s₁.setTop (mkF m 1 #[.val (.long u), .second, .val (.int sz), .unset, .unset, .unset, .unset, .unset] [(.int sz)]))
  refine own_go (X0.ldcInt hx hown (mvT hZ (hw _ (List.mem_of_getElem? (i := 0) rfl))) (g := (mkF m 1 #[.val (.long u), .second, .val (.int sz), .unset, .unset, .unset, .unset, .unset] [(.int sz)])) rfl (hb hby at_1)) ?_
  show OwnWk _ _ _ _ (s₁.setTop (mkF m 3 #[.val (.long u), .second, .val (.int sz), .unset, .unset, .unset, .unset, .unset] [(.int (2147483647 : Int32)), (.int sz)]))
  refine own_go (fun tgt kst => XS.iand X0.here hx rfl (hb hby at_3) rfl kst) ?_
  show OwnWk _ _ _ _ (s₁.setTop (mkF m 4 #[.val (.long u), .second, .val (.int sz), .unset, .unset, .unset, .unset, .unset] [(.int (sz &&& (2147483647 : Int32)))]))
  refine own_go (fun tgt kst => XS.iconst X0.here hx rfl (hb hby at_4) kst) ?_
  show OwnWk _ _ _ _ (s₁.setTop (mkF m 5 #[.val (.long u), .second, .val (.int sz), .unset, .unset, .unset, .unset, .unset] [(.int (5 : Int32)), (.int (sz &&& (2147483647 : Int32)))]))
  refine own_go (fun tgt kst => Jvm.RoadKit.iremM X0 hx rfl (hb hby at_5) rfl (by decide) kst) ?_
  show OwnWk _ _ _ _ (s₁.setTop (mkF m 6 #[.val (.long u), .second, .val (.int sz), .unset, .unset, .unset, .unset, .unset] [(.int ((sz &&& (2147483647 : Int32)) % (5 : Int32)))]))
  rw [show ((sz &&& (2147483647 : Int32)) % (5 : Int32)) = Int32.ofNat N1 from eN1]
  show OwnWk _ _ _ _ (s₁.setTop (mkF m 6 #[.val (.long u), .second, .val (.int sz), .unset, .unset, .unset, .unset, .unset] [(.int (Int32.ofNat N1))]))
  rcases (by omega : N1 = 0 ∨ N1 = 1 ∨ N1 = 2 ∨ N1 = 3 ∨ N1 = 4) with rfl | rfl | rfl | rfl | rfl
  ·
    show OwnWk _ _ _ _ (s₁.setTop (mkF m 6 #[.val (.long u), .second, .val (.int sz), .unset, .unset, .unset, .unset, .unset] [(.int (0 : Int32))]))
    refine own_go (fun tgt kst => XS.istoreN X0.here hx rfl (hb hby at_6) rfl (l' := #[.val (.long u), .second, .val (.int sz), .val (.int (0 : Int32)), .unset, .unset, .unset, .unset]) rfl kst) ?_
    show OwnWk _ _ _ _ (s₁.setTop (mkF m 7 #[.val (.long u), .second, .val (.int sz), .val (.int (0 : Int32)), .unset, .unset, .unset, .unset] []))
    refine own_go (fun tgt kst => XS.iconst X0.here hx rfl (hb hby at_7) kst) ?_
    show OwnWk _ _ _ _ (s₁.setTop (mkF m 8 #[.val (.long u), .second, .val (.int sz), .val (.int (0 : Int32)), .unset, .unset, .unset, .unset] [(.int (4 : Int32))]))
    refine own_newP X0 hx hZ (aty := .int) (hw _ (List.mem_of_getElem? (i := 1) rfl)) e0 (g := (mkF m 8 #[.val (.long u), .second, .val (.int sz), .val (.int (0 : Int32)), .unset, .unset, .unset, .unset] [(.int (4 : Int32))])) rfl (hb hby at_8) rfl (by decide) (cap := 4) (by decide) (by decide) (by decide) (by decide) (fun T1 h1 b1 X1 e1 g1 E1 V1 => ?_)
    have ge2 : n0 ≤ b1 := Nat.le_trans Z0 (Nat.le_of_eq g1.symm)
    have F3 := Old.ext O0 E1
    have Z4 := Nat.le_trans Z0 E1.1
    have V1b : OAr Z h1 b1 .int [(.int (0 : Int32)), (.int (0 : Int32)), (.int (0 : Int32)), (.int (0 : Int32))] := V1
    show OwnWk _ _ _ _ (T1.setTop (mkF m 10 #[.val (.long u), .second, .val (.int sz), .val (.int (0 : Int32)), .unset, .unset, .unset, .unset] [(.ref b1)]))
    refine own_go (fun tgt kst => XS.dup X1.here hx rfl (hb hby at_10) rfl rfl kst) ?_
    show OwnWk _ _ _ _ (T1.setTop (mkF m 11 #[.val (.long u), .second, .val (.int sz), .val (.int (0 : Int32)), .unset, .unset, .unset, .unset] [(.ref b1), (.ref b1)]))
    refine own_go (fun tgt kst => XS.iconst X1.here hx rfl (hb hby at_11) kst) ?_
    show OwnWk _ _ _ _ (T1.setTop (mkF m 12 #[.val (.long u), .second, .val (.int sz), .val (.int (0 : Int32)), .unset, .unset, .unset, .unset] [(.int (0 : Int32)), (.ref b1), (.ref b1)]))
    refine own_go (fun tgt kst => XS.iconst X1.here hx rfl (hb hby at_12) kst) ?_
    show OwnWk _ _ _ _ (T1.setTop (mkF m 13 #[.val (.long u), .second, .val (.int sz), .val (.int (0 : Int32)), .unset, .unset, .unset, .unset] [(.int (0 : Int32)), (.int (0 : Int32)), (.ref b1), (.ref b1)]))
    refine own_stI X1 hx hZ e1 V1b (g := (mkF m 13 #[.val (.long u), .second, .val (.int sz), .val (.int (0 : Int32)), .unset, .unset, .unset, .unset] [(.int (0 : Int32)), (.int (0 : Int32)), (.ref b1), (.ref b1)])) rfl rfl (hb hby at_13) (by decide) (Nat.le_of_ble_eq_true rfl) (fun T5 h5 X5 e5 W5 V5 => ?_)
    have N5 := Fr.snoc X5 N0 ge2
    have F6 := Old.wr F3 W5 ge2
    have Z7 := Nat.le_trans Z4 (Keep.of_wr W5).1
    show OwnWk _ _ _ _ (T5.setTop (mkF m 14 #[.val (.long u), .second, .val (.int sz), .val (.int (0 : Int32)), .unset, .unset, .unset, .unset] [(.ref b1)]))
    refine own_go (fun tgt kst => XS.dup X5.here hx rfl (hb hby at_14) rfl rfl kst) ?_
    show OwnWk _ _ _ _ (T5.setTop (mkF m 15 #[.val (.long u), .second, .val (.int sz), .val (.int (0 : Int32)), .unset, .unset, .unset, .unset] [(.ref b1), (.ref b1)]))
    refine own_go (fun tgt kst => XS.iconst X5.here hx rfl (hb hby at_15) kst) ?_
    show OwnWk _ _ _ _ (T5.setTop (mkF m 16 #[.val (.long u), .second, .val (.int sz), .val (.int (0 : Int32)), .unset, .unset, .unset, .unset] [(.int (1 : Int32)), (.ref b1), (.ref b1)]))
    refine own_go (fun tgt kst => XS.iconst X5.here hx rfl (hb hby at_16) kst) ?_
    show OwnWk _ _ _ _ (T5.setTop (mkF m 17 #[.val (.long u), .second, .val (.int sz), .val (.int (0 : Int32)), .unset, .unset, .unset, .unset] [(.int (1 : Int32)), (.int (1 : Int32)), (.ref b1), (.ref b1)]))
    refine own_stI X5 hx hZ e5 V5 (g := (mkF m 17 #[.val (.long u), .second, .val (.int sz), .val (.int (0 : Int32)), .unset, .unset, .unset, .unset] [(.int (1 : Int32)), (.int (1 : Int32)), (.ref b1), (.ref b1)])) rfl rfl (hb hby at_17) (by decide) (Nat.le_of_ble_eq_true rfl) (fun T8 h8 X8 e8 W8 V8 => ?_)
    have N8 := Fr.snoc X8 N5 ge2
    have F9 := Old.wr F6 W8 ge2
    have Z10 := Nat.le_trans Z7 (Keep.of_wr W8).1
    show OwnWk _ _ _ _ (T8.setTop (mkF m 18 #[.val (.long u), .second, .val (.int sz), .val (.int (0 : Int32)), .unset, .unset, .unset, .unset] [(.ref b1)]))
    refine own_go (fun tgt kst => XS.dup X8.here hx rfl (hb hby at_18) rfl rfl kst) ?_
    show OwnWk _ _ _ _ (T8.setTop (mkF m 19 #[.val (.long u), .second, .val (.int sz), .val (.int (0 : Int32)), .unset, .unset, .unset, .unset] [(.ref b1), (.ref b1)]))
    refine own_go (fun tgt kst => XS.iconst X8.here hx rfl (hb hby at_19) kst) ?_
    show OwnWk _ _ _ _ (T8.setTop (mkF m 20 #[.val (.long u), .second, .val (.int sz), .val (.int (0 : Int32)), .unset, .unset, .unset, .unset] [(.int (2 : Int32)), (.ref b1), (.ref b1)]))
    refine own_go (fun tgt kst => XS.iconst X8.here hx rfl (hb hby at_20) kst) ?_
    show OwnWk _ _ _ _ (T8.setTop (mkF m 21 #[.val (.long u), .second, .val (.int sz), .val (.int (0 : Int32)), .unset, .unset, .unset, .unset] [(.int (2 : Int32)), (.int (2 : Int32)), (.ref b1), (.ref b1)]))
    refine own_stI X8 hx hZ e8 V8 (g := (mkF m 21 #[.val (.long u), .second, .val (.int sz), .val (.int (0 : Int32)), .unset, .unset, .unset, .unset] [(.int (2 : Int32)), (.int (2 : Int32)), (.ref b1), (.ref b1)])) rfl rfl (hb hby at_21) (by decide) (Nat.le_of_ble_eq_true rfl) (fun T11 h11 X11 e11 W11 V11 => ?_)
    have N11 := Fr.snoc X11 N8 ge2
    have F12 := Old.wr F9 W11 ge2
    have Z13 := Nat.le_trans Z10 (Keep.of_wr W11).1
    show OwnWk _ _ _ _ (T11.setTop (mkF m 22 #[.val (.long u), .second, .val (.int sz), .val (.int (0 : Int32)), .unset, .unset, .unset, .unset] [(.ref b1)]))
    refine own_go (fun tgt kst => XS.dup X11.here hx rfl (hb hby at_22) rfl rfl kst) ?_
    show OwnWk _ _ _ _ (T11.setTop (mkF m 23 #[.val (.long u), .second, .val (.int sz), .val (.int (0 : Int32)), .unset, .unset, .unset, .unset] [(.ref b1), (.ref b1)]))
    refine own_go (fun tgt kst => XS.iconst X11.here hx rfl (hb hby at_23) kst) ?_
    show OwnWk _ _ _ _ (T11.setTop (mkF m 24 #[.val (.long u), .second, .val (.int sz), .val (.int (0 : Int32)), .unset, .unset, .unset, .unset] [(.int (3 : Int32)), (.ref b1), (.ref b1)]))
    refine own_go (fun tgt kst => XS.iconst X11.here hx rfl (hb hby at_24) kst) ?_
    show OwnWk _ _ _ _ (T11.setTop (mkF m 25 #[.val (.long u), .second, .val (.int sz), .val (.int (0 : Int32)), .unset, .unset, .unset, .unset] [(.int (3 : Int32)), (.int (3 : Int32)), (.ref b1), (.ref b1)]))
    refine own_stI X11 hx hZ e11 V11 (g := (mkF m 25 #[.val (.long u), .second, .val (.int sz), .val (.int (0 : Int32)), .unset, .unset, .unset, .unset] [(.int (3 : Int32)), (.int (3 : Int32)), (.ref b1), (.ref b1)])) rfl rfl (hb hby at_25) (by decide) (Nat.le_of_ble_eq_true rfl) (fun T14 h14 X14 e14 W14 V14 => ?_)
    have N14 := Fr.snoc X14 N11 ge2
    have F15 := Old.wr F12 W14 ge2
    have Z16 := Nat.le_trans Z13 (Keep.of_wr W14).1
    show OwnWk _ _ _ _ (T14.setTop (mkF m 26 #[.val (.long u), .second, .val (.int sz), .val (.int (0 : Int32)), .unset, .unset, .unset, .unset] [(.ref b1)]))
    have Vst : OAr Z h14 b1 .int (own_iv [0, 1, 2, 3]) := V14
    refine own_go (fun tgt kst => XS.astore X14.here hx rfl (hb hby at_26) rfl rfl (l' := #[.val (.long u), .second, .val (.int sz), .val (.int (0 : Int32)), .val (.ref b1), .unset, .unset, .unset]) rfl kst) ?_
    show OwnWk _ _ _ _ (T14.setTop (mkF m 28 #[.val (.long u), .second, .val (.int sz), .val (.int (0 : Int32)), .val (.ref b1), .unset, .unset, .unset] []))
    obtain ⟨T17, h17, X17, e17, E17, A17, D17, -, st17⟩ := newO X14 hx hZ hown (hw _ (List.mem_of_getElem? (i := 2) rfl)) (hw _ (List.mem_of_getElem? (i := 3) rfl)) (hw _ (List.mem_of_getElem? (i := 4) rfl)) e14 (g := (mkF m 28 #[.val (.long u), .second, .val (.int sz), .val (.int (0 : Int32)), .val (.ref b1), .unset, .unset, .unset] [])) rfl (hb hby at_28) (by decide) (by decide)
    obtain ⟨b17, g17⟩ : ∃ z, z = h14.size := ⟨_, rfl⟩
    rw [← g17] at A17 D17 st17
    refine own_go st17 ?_
    have ne18 : b1 ≠ b17 := Nat.ne_of_lt (Nat.lt_of_lt_of_le Vst.lt (Nat.le_of_eq g17.symm))
    have ge19 : n0 ≤ b17 := Nat.le_trans Z16 (Nat.le_of_eq g17.symm)
    have F20 := Old.ext F15 E17
    have F21 := OAr.ext Vst E17
    have Z22 := Nat.le_trans Z16 E17.1
    have F23 : Fld Z h17 b17 "java/util/AbstractList" "modCount" "I" (.int (0 : Int32)) := D17 (Or.inl (hw _ (List.mem_of_getElem? (i := 24) rfl))) (ty := .int) (by decide)
    have F24 : Fld Z h17 b17 "java/util/ArrayList" "elementData" "[Ljava/lang/Object;" .null := D17 (Or.inl (hw _ (List.mem_of_getElem? (i := 27) rfl))) (ty := (.array (.object "java/lang/Object"))) (by decide)
    have F25 : Fld Z h17 b17 "java/util/ArrayList" "size" "I" (.int (0 : Int32)) := D17 (Or.inl (hw _ (List.mem_of_getElem? (i := 43) rfl))) (ty := .int) (by decide)
    show OwnWk _ _ _ _ (T17.setTop (mkF m 31 #[.val (.long u), .second, .val (.int sz), .val (.int (0 : Int32)), .val (.ref b1), .unset, .unset, .unset] [(.ref b17)]))
    refine own_go (fun tgt kst => XS.dup X17.here hx rfl (hb hby at_31) rfl rfl kst) ?_
    show OwnWk _ _ _ _ (T17.setTop (mkF m 32 #[.val (.long u), .second, .val (.int sz), .val (.int (0 : Int32)), .val (.ref b1), .unset, .unset, .unset] [(.ref b17), (.ref b17)]))
    refine own_callC X17 hx hZ (y := (⟨"java/util/ArrayList", "<init>", "()V"⟩ : MethodName)) hown rfl (hw _ (List.mem_of_getElem? (i := 5) rfl)) (hw _ (List.mem_of_getElem? (i := 6) rfl)) (hw _ (List.mem_of_getElem? (i := 4) rfl)) (hw _ (List.mem_of_getElem? (i := 7) rfl)) (by decide) (a := b17) (argsL := []) (rest := [(.ref b17)]) (rm := ({ frames := 3, cells := 0, slots := 0, locals := 36 } : Room)) (h := h17) (rm1 l Z a0 hw dce cac ia b17 h17 n0 Z22 F20 S_d V_d S_h S_c hL hE hV A17 ge19 F23 F24 F25) e17 (W := 1) (by decide) (by decide) (by decide) (by decide) (g := (mkF m 32 #[.val (.long u), .second, .val (.int sz), .val (.int (0 : Int32)), .val (.ref b1), .unset, .unset, .unset] [(.ref b17), (.ref b17)])) rfl (by rw [hml]; rfl) (lenOf pd_0 rfl) rfl (by show 2 * 0 + _ ≤ _; exact Nat.le_of_eq rfl) (hb hby at_32) (fun v26 T26 h26 L26 X26 e26 hQ26 => ?_)
    obtain ⟨rfl, Nq26, Kq26, Fm26, Fe26, Fs26⟩ := hQ26
    have N26 := Fr.app N14 Nq26
    have F27 := Old.keep F20 Kq26 (allS ge19 all0)
    have F28 := OAr.keep F21 Kq26 (ninS ne18 nin0)
    have F29 := Exa.keep A17 Kq26
    have Z30 := Nat.le_trans Z22 Kq26.1
    show OwnWk _ _ _ _ (T26.setTop (mkF m 35 #[.val (.long u), .second, .val (.int sz), .val (.int (0 : Int32)), .val (.ref b1), .unset, .unset, .unset] [(.ref b17)]))
    refine own_go (fun tgt kst => XS.astore X26.here hx rfl (hb hby at_35) rfl rfl (l' := #[.val (.long u), .second, .val (.int sz), .val (.int (0 : Int32)), .val (.ref b1), .val (.ref b17), .unset, .unset]) rfl kst) ?_
    show OwnWk _ _ _ _ (T26.setTop (mkF m 37 #[.val (.long u), .second, .val (.int sz), .val (.int (0 : Int32)), .val (.ref b1), .val (.ref b17), .unset, .unset] []))
    refine own_go (fun tgt kst => XS.iloadN X26.here hx rfl (hb hby at_37) rfl  kst) ?_
    show OwnWk _ _ _ _ (T26.setTop (mkF m 38 #[.val (.long u), .second, .val (.int sz), .val (.int (0 : Int32)), .val (.ref b1), .val (.ref b17), .unset, .unset] [(.int (0 : Int32))]))
    refine own_go (fun tgt kst => XS.ifYes X26.here hx rfl (pc0 := 38) (pc' := 51) rfl (hb hby at_38) rfl ((if0 _ _).trans (flt (by decide : ¬ ((0 : Int32) < (0 : Int32)))).2.2.2) (by decide) (by decide) kst) ?_
    show OwnWk _ _ _ _ (T26.setTop (mkF m 51 #[.val (.long u), .second, .val (.int sz), .val (.int (0 : Int32)), .val (.ref b1), .val (.ref b17), .unset, .unset] []))
    refine own_go (fun tgt kst => XS.iloadN X26.here hx rfl (hb hby at_51) rfl  kst) ?_
    show OwnWk _ _ _ _ (T26.setTop (mkF m 52 #[.val (.long u), .second, .val (.int sz), .val (.int (0 : Int32)), .val (.ref b1), .val (.ref b17), .unset, .unset] [(.int (0 : Int32))]))
    refine own_go (fun tgt kst => XS.iconst X26.here hx rfl (hb hby at_52) kst) ?_
    show OwnWk _ _ _ _ (T26.setTop (mkF m 53 #[.val (.long u), .second, .val (.int sz), .val (.int (0 : Int32)), .val (.ref b1), .val (.ref b17), .unset, .unset] [(.int (1 : Int32)), (.int (0 : Int32))]))
    refine own_go (fun tgt kst => XS.icmpYes X26.here hx rfl (pc0 := 53) (pc' := 66) rfl (hb hby at_53) rfl (flt (by decide : ¬ ((1 : Int32) < (0 : Int32)))).2.2.2 (by decide) (by decide) kst) ?_
    show OwnWk _ _ _ _ (T26.setTop (mkF m 66 #[.val (.long u), .second, .val (.int sz), .val (.int (0 : Int32)), .val (.ref b1), .val (.ref b17), .unset, .unset] []))
    refine own_go (fun tgt kst => XS.iloadN X26.here hx rfl (hb hby at_66) rfl  kst) ?_
    show OwnWk _ _ _ _ (T26.setTop (mkF m 67 #[.val (.long u), .second, .val (.int sz), .val (.int (0 : Int32)), .val (.ref b1), .val (.ref b17), .unset, .unset] [(.int (0 : Int32))]))
    refine own_go (fun tgt kst => XS.iconst X26.here hx rfl (hb hby at_67) kst) ?_
    show OwnWk _ _ _ _ (T26.setTop (mkF m 68 #[.val (.long u), .second, .val (.int sz), .val (.int (0 : Int32)), .val (.ref b1), .val (.ref b17), .unset, .unset] [(.int (2 : Int32)), (.int (0 : Int32))]))
    refine own_go (fun tgt kst => XS.icmpYes X26.here hx rfl (pc0 := 68) (pc' := 81) rfl (hb hby at_68) rfl (flt (by decide : ¬ ((2 : Int32) < (0 : Int32)))).2.2.2 (by decide) (by decide) kst) ?_
    show OwnWk _ _ _ _ (T26.setTop (mkF m 81 #[.val (.long u), .second, .val (.int sz), .val (.int (0 : Int32)), .val (.ref b1), .val (.ref b17), .unset, .unset] []))
    refine own_go (fun tgt kst => XS.iloadN X26.here hx rfl (hb hby at_81) rfl  kst) ?_
    show OwnWk _ _ _ _ (T26.setTop (mkF m 82 #[.val (.long u), .second, .val (.int sz), .val (.int (0 : Int32)), .val (.ref b1), .val (.ref b17), .unset, .unset] [(.int (0 : Int32))]))
    refine own_go (fun tgt kst => XS.iconst X26.here hx rfl (hb hby at_82) kst) ?_
    show OwnWk _ _ _ _ (T26.setTop (mkF m 83 #[.val (.long u), .second, .val (.int sz), .val (.int (0 : Int32)), .val (.ref b1), .val (.ref b17), .unset, .unset] [(.int (3 : Int32)), (.int (0 : Int32))]))
    refine own_go (fun tgt kst => XS.icmpYes X26.here hx rfl (pc0 := 83) (pc' := 96) rfl (hb hby at_83) rfl (flt (by decide : ¬ ((3 : Int32) < (0 : Int32)))).2.2.2 (by decide) (by decide) kst) ?_
    show OwnWk _ _ _ _ (T26.setTop (mkF m 96 #[.val (.long u), .second, .val (.int sz), .val (.int (0 : Int32)), .val (.ref b1), .val (.ref b17), .unset, .unset] []))
    obtain ⟨T31, h31, X31, e31, E31, A31, D31, -, st31⟩ := newO X26 hx hZ hown (hw _ (List.mem_of_getElem? (i := 66) rfl)) (hw _ (List.mem_of_getElem? (i := 67) rfl)) (hw _ (List.mem_of_getElem? (i := 68) rfl)) e26 (g := (mkF m 96 #[.val (.long u), .second, .val (.int sz), .val (.int (0 : Int32)), .val (.ref b1), .val (.ref b17), .unset, .unset] [])) rfl (hb hby at_96) (by decide) (by decide)
    obtain ⟨b31, g31⟩ : ∃ z, z = h26.size := ⟨_, rfl⟩
    rw [← g31] at A31 D31 st31
    refine own_go st31 ?_
    have ne32 : b1 ≠ b31 := Nat.ne_of_lt (Nat.lt_of_lt_of_le F28.lt (Nat.le_of_eq g31.symm))
    have ne33 : b17 ≠ b31 := Nat.ne_of_lt (Nat.lt_of_lt_of_le F29.lt (Nat.le_of_eq g31.symm))
    have ge34 : n0 ≤ b31 := Nat.le_trans Z30 (Nat.le_of_eq g31.symm)
    have F35 := Old.ext F27 E31
    have F36 := OAr.ext F28 E31
    have F37 := Exa.ext E31 F29
    have F38 := Fld.ext E31 Fm26
    have F39 := Fld.ext E31 Fe26
    have F40 := Fld.ext E31 Fs26
    have Z41 := Nat.le_trans Z30 E31.1
    have F42 : Fld Z h31 b31 "com/example/spikeline/spikeline/core/SeededRandom" "state" "J" (.long (0 : Int64)) := D31 (Or.inl (hw _ (List.mem_of_getElem? (i := 74) rfl))) (ty := .long) (by decide)
    show OwnWk _ _ _ _ (T31.setTop (mkF m 99 #[.val (.long u), .second, .val (.int sz), .val (.int (0 : Int32)), .val (.ref b1), .val (.ref b17), .unset, .unset] [(.ref b31)]))
    refine own_go (fun tgt kst => XS.dup X31.here hx rfl (hb hby at_99) rfl rfl kst) ?_
    show OwnWk _ _ _ _ (T31.setTop (mkF m 100 #[.val (.long u), .second, .val (.int sz), .val (.int (0 : Int32)), .val (.ref b1), .val (.ref b17), .unset, .unset] [(.ref b31), (.ref b31)]))
    refine own_go (fun tgt kst => XS.lloadN X31.here hx rfl (hb hby at_100) rfl  kst) ?_
    show OwnWk _ _ _ _ (T31.setTop (mkF m 101 #[.val (.long u), .second, .val (.int sz), .val (.int (0 : Int32)), .val (.ref b1), .val (.ref b17), .unset, .unset] [(.long u), (.ref b31), (.ref b31)]))
    refine own_callC X31 hx hZ (y := (⟨"com/example/spikeline/spikeline/core/SeededRandom", "<init>", "(J)V"⟩ : MethodName)) hown rfl (hw _ (List.mem_of_getElem? (i := 69) rfl)) (hw _ (List.mem_of_getElem? (i := 70) rfl)) (hw _ (List.mem_of_getElem? (i := 68) rfl)) (hw _ (List.mem_of_getElem? (i := 71) rfl)) (by decide) (a := b31) (argsL := [(.long u)]) (rest := [(.ref b31)]) (rm := ({ frames := 1, cells := 0, slots := 0, locals := 12 } : Room)) (h := h31) (rm11 l Z a0 hw b31 u h31 n0 Z41 F42 A31 ge34) e31 (W := 1) (by decide) (by decide) (by decide) (by decide) (g := (mkF m 101 #[.val (.long u), .second, .val (.int sz), .val (.int (0 : Int32)), .val (.ref b1), .val (.ref b17), .unset, .unset] [(.long u), (.ref b31), (.ref b31)])) rfl (by rw [hml]; rfl) (lenOf pd_12 rfl) rfl (by show 2 * 0 + _ ≤ _; exact Nat.le_of_eq rfl) (hb hby at_101) (fun v43 T43 h43 L43 X43 e43 hQ43 => ?_)
    obtain ⟨rfl, Nq43, Kq43, Fq43⟩ := hQ43
    have N43 := Fr.app N26 Nq43
    have F44 := Old.keep F35 Kq43 (allS ge34 all0)
    have F45 := OAr.keep F36 Kq43 (ninS ne32 nin0)
    have F46 := Exa.keep F37 Kq43
    have F47 := Fld.keep F38 Kq43 (ninS ne33 nin0)
    have F48 := Fld.keep F39 Kq43 (ninS ne33 nin0)
    have F49 := Fld.keep F40 Kq43 (ninS ne33 nin0)
    have F50 := Exa.keep A31 Kq43
    have Z51 := Nat.le_trans Z41 Kq43.1
    show OwnWk _ _ _ _ (T43.setTop (mkF m 104 #[.val (.long u), .second, .val (.int sz), .val (.int (0 : Int32)), .val (.ref b1), .val (.ref b17), .unset, .unset] [(.ref b31)]))
    refine own_go (fun tgt kst => XS.astore X43.here hx rfl (hb hby at_104) rfl rfl (l' := #[.val (.long u), .second, .val (.int sz), .val (.int (0 : Int32)), .val (.ref b1), .val (.ref b17), .val (.ref b31), .unset]) rfl kst) ?_
    show OwnWk _ _ _ _ (T43.setTop (mkF m 106 #[.val (.long u), .second, .val (.int sz), .val (.int (0 : Int32)), .val (.ref b1), .val (.ref b17), .val (.ref b31), .unset] []))
    refine own_go (fun tgt kst => XS.aload X43.here hx rfl (hb hby at_106) rfl rfl  kst) ?_
    show OwnWk _ _ _ _ (T43.setTop (mkF m 108 #[.val (.long u), .second, .val (.int sz), .val (.int (0 : Int32)), .val (.ref b1), .val (.ref b17), .val (.ref b31), .unset] [(.ref b31)]))
    refine own_go (fun tgt kst => XS.aload X43.here hx rfl (hb hby at_108) rfl rfl  kst) ?_
    show OwnWk _ _ _ _ (T43.setTop (mkF m 110 #[.val (.long u), .second, .val (.int sz), .val (.int (0 : Int32)), .val (.ref b1), .val (.ref b17), .val (.ref b31), .unset] [(.ref b17), (.ref b31)]))
    refine own_callV X43 hx hZ (y := (⟨"com/example/spikeline/spikeline/core/SeededRandom", "shuffle", "(Ljava/util/List;)V"⟩ : MethodName)) (z := (⟨"com/example/spikeline/spikeline/core/SeededRandom", "shuffle", "(Ljava/util/List;)V"⟩ : MethodName)) hown (hw _ (List.mem_of_getElem? (i := 75) rfl)) (hw _ (List.mem_of_getElem? (i := 76) rfl)) (notFace_of_selects (args := #[]) (mvT hZ (hw _ (List.mem_of_getElem? (i := 78) rfl)))) (hw _ (List.mem_of_getElem? (i := 78) rfl)) (hw _ (List.mem_of_getElem? (i := 77) rfl)) (hw _ (List.mem_of_getElem? (i := 68) rfl)) (hw _ (List.mem_of_getElem? (i := 79) rfl)) (by decide) (a := b31) F50 (argsL := [(.ref b17)]) (rest := []) (rm := ({ frames := 1, cells := 0, slots := 0, locals := 12 } : Room)) (h := h43) (shf0 l Z a0 hw dce cac ia b31 b17 dce u [] h43 n0 Z51 F44 S_d V_d S_h S_c hL hE hV Fq43 F50 ge34 F46 F49) e43 (W := 0) (by decide) (by decide) (by decide) (by decide) (g := (mkF m 110 #[.val (.long u), .second, .val (.int sz), .val (.int (0 : Int32)), .val (.ref b1), .val (.ref b17), .val (.ref b31), .unset] [(.ref b17), (.ref b31)])) rfl (by rw [hml]; rfl) (lenOf pd_13 rfl) rfl (by show 2 * 0 + _ ≤ _; exact Nat.le_of_eq rfl) (hb hby at_110) (fun v52 T52 h52 L52 X52 e52 hQ52 => ?_)
    obtain ⟨rfl, Nq52, q52⟩ := hQ52
    have N52 := Fr.app N43 Nq52
    rw [q52] at e52
    show OwnWk _ _ _ _ (T52.setTop (mkF m 113 #[.val (.long u), .second, .val (.int sz), .val (.int (0 : Int32)), .val (.ref b1), .val (.ref b17), .val (.ref b31), .unset] []))
    obtain ⟨T53, h53, X53, e53, E53, A53, D53, -, st53⟩ := newO X52 hx hZ hown (hw _ (List.mem_of_getElem? (i := 66) rfl)) (hw _ (List.mem_of_getElem? (i := 67) rfl)) (hw _ (List.mem_of_getElem? (i := 68) rfl)) e52 (g := (mkF m 113 #[.val (.long u), .second, .val (.int sz), .val (.int (0 : Int32)), .val (.ref b1), .val (.ref b17), .val (.ref b31), .unset] [])) rfl (hb hby at_113) (by decide) (by decide)
    obtain ⟨b53, g53⟩ : ∃ z, z = h43.size := ⟨_, rfl⟩
    rw [← g53] at A53 D53 st53
    refine own_go st53 ?_
    have ne54 : b1 ≠ b53 := Nat.ne_of_lt (Nat.lt_of_lt_of_le F45.lt (Nat.le_of_eq g53.symm))
    have ne55 : b17 ≠ b53 := Nat.ne_of_lt (Nat.lt_of_lt_of_le F46.lt (Nat.le_of_eq g53.symm))
    have ne56 : b31 ≠ b53 := Nat.ne_of_lt (Nat.lt_of_lt_of_le F50.lt (Nat.le_of_eq g53.symm))
    have ge57 : n0 ≤ b53 := Nat.le_trans Z51 (Nat.le_of_eq g53.symm)
    have F58 := Old.ext F44 E53
    have F59 := OAr.ext F45 E53
    have F60 := Exa.ext E53 F46
    have F61 := Fld.ext E53 F47
    have F62 := Fld.ext E53 F48
    have F63 := Fld.ext E53 F49
    have F64 := Exa.ext E53 F50
    have F65 := Fld.ext E53 Fq43
    have Z66 := Nat.le_trans Z51 E53.1
    have F67 : Fld Z h53 b53 "com/example/spikeline/spikeline/core/SeededRandom" "state" "J" (.long (0 : Int64)) := D53 (Or.inl (hw _ (List.mem_of_getElem? (i := 74) rfl))) (ty := .long) (by decide)
    show OwnWk _ _ _ _ (T53.setTop (mkF m 116 #[.val (.long u), .second, .val (.int sz), .val (.int (0 : Int32)), .val (.ref b1), .val (.ref b17), .val (.ref b31), .unset] [(.ref b53)]))
    refine own_go (fun tgt kst => XS.dup X53.here hx rfl (hb hby at_116) rfl rfl kst) ?_
    show OwnWk _ _ _ _ (T53.setTop (mkF m 117 #[.val (.long u), .second, .val (.int sz), .val (.int (0 : Int32)), .val (.ref b1), .val (.ref b17), .val (.ref b31), .unset] [(.ref b53), (.ref b53)]))
    refine own_go (fun tgt kst => XS.lloadN X53.here hx rfl (hb hby at_117) rfl  kst) ?_
    show OwnWk _ _ _ _ (T53.setTop (mkF m 118 #[.val (.long u), .second, .val (.int sz), .val (.int (0 : Int32)), .val (.ref b1), .val (.ref b17), .val (.ref b31), .unset] [(.long u), (.ref b53), (.ref b53)]))
    refine own_callC X53 hx hZ (y := (⟨"com/example/spikeline/spikeline/core/SeededRandom", "<init>", "(J)V"⟩ : MethodName)) hown rfl (hw _ (List.mem_of_getElem? (i := 69) rfl)) (hw _ (List.mem_of_getElem? (i := 70) rfl)) (hw _ (List.mem_of_getElem? (i := 68) rfl)) (hw _ (List.mem_of_getElem? (i := 71) rfl)) (by decide) (a := b53) (argsL := [(.long u)]) (rest := [(.ref b53)]) (rm := ({ frames := 1, cells := 0, slots := 0, locals := 12 } : Room)) (h := h53) (rm11 l Z a0 hw b53 u h53 n0 Z66 F67 A53 ge57) e53 (W := 1) (by decide) (by decide) (by decide) (by decide) (g := (mkF m 118 #[.val (.long u), .second, .val (.int sz), .val (.int (0 : Int32)), .val (.ref b1), .val (.ref b17), .val (.ref b31), .unset] [(.long u), (.ref b53), (.ref b53)])) rfl (by rw [hml]; rfl) (lenOf pd_12 rfl) rfl (by show 2 * 0 + _ ≤ _; exact Nat.le_of_eq rfl) (hb hby at_118) (fun v68 T68 h68 L68 X68 e68 hQ68 => ?_)
    obtain ⟨rfl, Nq68, Kq68, Fq68⟩ := hQ68
    have N68 := Fr.app N52 Nq68
    have F69 := Old.keep F58 Kq68 (allS ge57 all0)
    have F70 := OAr.keep F59 Kq68 (ninS ne54 nin0)
    have F71 := Exa.keep F60 Kq68
    have F72 := Fld.keep F61 Kq68 (ninS ne55 nin0)
    have F73 := Fld.keep F62 Kq68 (ninS ne55 nin0)
    have F74 := Fld.keep F63 Kq68 (ninS ne55 nin0)
    have F75 := Exa.keep F64 Kq68
    have F76 := Fld.keep F65 Kq68 (ninS ne56 nin0)
    have F77 := Exa.keep A53 Kq68
    have Z78 := Nat.le_trans Z66 Kq68.1
    show OwnWk _ _ _ _ (T68.setTop (mkF m 121 #[.val (.long u), .second, .val (.int sz), .val (.int (0 : Int32)), .val (.ref b1), .val (.ref b17), .val (.ref b31), .unset] [(.ref b53)]))
    refine own_go (fun tgt kst => XS.astore X68.here hx rfl (hb hby at_121) rfl rfl (l' := #[.val (.long u), .second, .val (.int sz), .val (.int (0 : Int32)), .val (.ref b1), .val (.ref b17), .val (.ref b31), .val (.ref b53)]) rfl kst) ?_
    show OwnWk _ _ _ _ (T68.setTop (mkF m 123 #[.val (.long u), .second, .val (.int sz), .val (.int (0 : Int32)), .val (.ref b1), .val (.ref b17), .val (.ref b31), .val (.ref b53)] []))
    refine own_go (fun tgt kst => XS.iloadN X68.here hx rfl (hb hby at_123) rfl  kst) ?_
    show OwnWk _ _ _ _ (T68.setTop (mkF m 124 #[.val (.long u), .second, .val (.int sz), .val (.int (0 : Int32)), .val (.ref b1), .val (.ref b17), .val (.ref b31), .val (.ref b53)] [(.int (0 : Int32))]))
    refine own_go (fun tgt kst => XS.iconst X68.here hx rfl (hb hby at_124) kst) ?_
    show OwnWk _ _ _ _ (T68.setTop (mkF m 125 #[.val (.long u), .second, .val (.int sz), .val (.int (0 : Int32)), .val (.ref b1), .val (.ref b17), .val (.ref b31), .val (.ref b53)] [(.int (4 : Int32)), (.int (0 : Int32))]))
    refine own_go (fun tgt kst => XS.icmpYes X68.here hx rfl (pc0 := 125) (pc' := 140) rfl (hb hby at_125) rfl (tlt (by decide : (0 : Int32) < (4 : Int32))).1 (by decide) (by decide) kst) ?_
    show OwnWk _ _ _ _ (T68.setTop (mkF m 140 #[.val (.long u), .second, .val (.int sz), .val (.int (0 : Int32)), .val (.ref b1), .val (.ref b17), .val (.ref b31), .val (.ref b53)] []))
    refine own_go (fun tgt kst => XS.iloadN X68.here hx rfl (hb hby at_140) rfl  kst) ?_
    show OwnWk _ _ _ _ (T68.setTop (mkF m 141 #[.val (.long u), .second, .val (.int sz), .val (.int (0 : Int32)), .val (.ref b1), .val (.ref b17), .val (.ref b31), .val (.ref b53)] [(.int (0 : Int32))]))
    refine own_go (fun tgt kst => XS.iconst X68.here hx rfl (hb hby at_141) kst) ?_
    show OwnWk _ _ _ _ (T68.setTop (mkF m 142 #[.val (.long u), .second, .val (.int sz), .val (.int (0 : Int32)), .val (.ref b1), .val (.ref b17), .val (.ref b31), .val (.ref b53)] [(.int (3 : Int32)), (.int (0 : Int32))]))
    refine own_go (fun tgt kst => XS.icmpYes X68.here hx rfl (pc0 := 142) (pc' := 157) rfl (hb hby at_142) rfl (tlt (by decide : (0 : Int32) < (3 : Int32))).1 (by decide) (by decide) kst) ?_
    show OwnWk _ _ _ _ (T68.setTop (mkF m 157 #[.val (.long u), .second, .val (.int sz), .val (.int (0 : Int32)), .val (.ref b1), .val (.ref b17), .val (.ref b31), .val (.ref b53)] []))
    refine own_go (fun tgt kst => XS.iloadN X68.here hx rfl (hb hby at_157) rfl  kst) ?_
    show OwnWk _ _ _ _ (T68.setTop (mkF m 158 #[.val (.long u), .second, .val (.int sz), .val (.int (0 : Int32)), .val (.ref b1), .val (.ref b17), .val (.ref b31), .val (.ref b53)] [(.int (0 : Int32))]))
    refine own_go (fun tgt kst => XS.iconst X68.here hx rfl (hb hby at_158) kst) ?_
    show OwnWk _ _ _ _ (T68.setTop (mkF m 159 #[.val (.long u), .second, .val (.int sz), .val (.int (0 : Int32)), .val (.ref b1), .val (.ref b17), .val (.ref b31), .val (.ref b53)] [(.int (2 : Int32)), (.int (0 : Int32))]))
    refine own_go (fun tgt kst => XS.icmpYes X68.here hx rfl (pc0 := 159) (pc' := 174) rfl (hb hby at_159) rfl (tlt (by decide : (0 : Int32) < (2 : Int32))).1 (by decide) (by decide) kst) ?_
    show OwnWk _ _ _ _ (T68.setTop (mkF m 174 #[.val (.long u), .second, .val (.int sz), .val (.int (0 : Int32)), .val (.ref b1), .val (.ref b17), .val (.ref b31), .val (.ref b53)] []))
    refine own_go (fun tgt kst => XS.aload X68.here hx rfl (hb hby at_174) rfl rfl  kst) ?_
    show OwnWk _ _ _ _ (T68.setTop (mkF m 176 #[.val (.long u), .second, .val (.int sz), .val (.int (0 : Int32)), .val (.ref b1), .val (.ref b17), .val (.ref b31), .val (.ref b53)] [(.ref b17)]))
    refine own_callV X68 hx hZ (y := (⟨"java/util/ArrayList", "size", "()I"⟩ : MethodName)) (z := (⟨"java/util/ArrayList", "size", "()I"⟩ : MethodName)) hown (hw _ (List.mem_of_getElem? (i := 141) rfl)) (hw _ (List.mem_of_getElem? (i := 142) rfl)) (notFace_of_selects (args := #[]) (mvT hZ (hw _ (List.mem_of_getElem? (i := 143) rfl)))) (hw _ (List.mem_of_getElem? (i := 143) rfl)) (hw _ (List.mem_of_getElem? (i := 84) rfl)) (hw _ (List.mem_of_getElem? (i := 4) rfl)) (hw _ (List.mem_of_getElem? (i := 88) rfl)) (by decide) (a := b17) F71 (argsL := []) (rest := []) (rm := ({ frames := 0, cells := 0, slots := 0, locals := 0 } : Room)) (h := h68) (rm13 l Z a0 hw b17 (0 : Int32) h68 n0 Z78 F74) e68 (W := 0) (by decide) (by decide) (by decide) (by decide) (g := (mkF m 176 #[.val (.long u), .second, .val (.int sz), .val (.int (0 : Int32)), .val (.ref b1), .val (.ref b17), .val (.ref b31), .val (.ref b53)] [(.ref b17)])) rfl (by rw [hml]; rfl) (lenOf pd_9 rfl) rfl (by show 2 * 0 + _ ≤ _; exact Nat.le_of_eq rfl) (hb hby at_176) (fun v79 T79 h79 L79 X79 e79 hQ79 => ?_)
    obtain ⟨rfl, Nq79, q79⟩ := hQ79
    have N79 := Fr.app N68 Nq79
    rw [q79] at e79
    show OwnWk _ _ _ _ (T79.setTop (mkF m 179 #[.val (.long u), .second, .val (.int sz), .val (.int (0 : Int32)), .val (.ref b1), .val (.ref b17), .val (.ref b31), .val (.ref b53)] [(.int (0 : Int32))]))
    refine own_go (fun tgt kst => XS.iloadN X79.here hx rfl (hb hby at_179) rfl  kst) ?_
    show OwnWk _ _ _ _ (T79.setTop (mkF m 180 #[.val (.long u), .second, .val (.int sz), .val (.int (0 : Int32)), .val (.ref b1), .val (.ref b17), .val (.ref b31), .val (.ref b53)] [(.int (0 : Int32)), (.int (0 : Int32))]))
    refine own_go (fun tgt kst => XS.icmpYes X79.here hx rfl (pc0 := 180) (pc' := 185) rfl (hb hby at_180) rfl (teq (by decide : (0 : Int32) = (0 : Int32))).1 (by decide) (by decide) kst) ?_
    show OwnWk _ _ _ _ (T79.setTop (mkF m 185 #[.val (.long u), .second, .val (.int sz), .val (.int (0 : Int32)), .val (.ref b1), .val (.ref b17), .val (.ref b31), .val (.ref b53)] []))
    refine own_go (fun tgt kst => XS.aload X79.here hx rfl (hb hby at_185) rfl rfl  kst) ?_
    show OwnWk _ _ _ _ (T79.setTop (mkF m 187 #[.val (.long u), .second, .val (.int sz), .val (.int (0 : Int32)), .val (.ref b1), .val (.ref b17), .val (.ref b31), .val (.ref b53)] [(.ref b31)]))
    refine own_callV X79 hx hZ (y := (⟨"com/example/spikeline/spikeline/core/SeededRandom", "state", "()J"⟩ : MethodName)) (z := (⟨"com/example/spikeline/spikeline/core/SeededRandom", "state", "()J"⟩ : MethodName)) hown (hw _ (List.mem_of_getElem? (i := 144) rfl)) (hw _ (List.mem_of_getElem? (i := 145) rfl)) (notFace_of_selects (args := #[]) (mvT hZ (hw _ (List.mem_of_getElem? (i := 147) rfl)))) (hw _ (List.mem_of_getElem? (i := 147) rfl)) (hw _ (List.mem_of_getElem? (i := 146) rfl)) (hw _ (List.mem_of_getElem? (i := 68) rfl)) (hw _ (List.mem_of_getElem? (i := 148) rfl)) (by decide) (a := b31) F75 (argsL := []) (rest := []) (rm := ({ frames := 0, cells := 0, slots := 0, locals := 0 } : Room)) (h := h68) (rm23 l Z a0 hw b31 u h68 n0 Z78 F76) e79 (W := 0) (by decide) (by decide) (by decide) (by decide) (g := (mkF m 187 #[.val (.long u), .second, .val (.int sz), .val (.int (0 : Int32)), .val (.ref b1), .val (.ref b17), .val (.ref b31), .val (.ref b53)] [(.ref b31)])) rfl (by rw [hml]; rfl) (lenOf pd_8 rfl) rfl (by show 2 * 0 + _ ≤ _; exact Nat.le_of_eq rfl) (hb hby at_187) (fun v80 T80 h80 L80 X80 e80 hQ80 => ?_)
    obtain ⟨rfl, Nq80, q80⟩ := hQ80
    have N80 := Fr.app N79 Nq80
    rw [q80] at e80
    show OwnWk _ _ _ _ (T80.setTop (mkF m 190 #[.val (.long u), .second, .val (.int sz), .val (.int (0 : Int32)), .val (.ref b1), .val (.ref b17), .val (.ref b31), .val (.ref b53)] [(.long u)]))
    refine own_go (fun tgt kst => XS.aload X80.here hx rfl (hb hby at_190) rfl rfl  kst) ?_
    show OwnWk _ _ _ _ (T80.setTop (mkF m 192 #[.val (.long u), .second, .val (.int sz), .val (.int (0 : Int32)), .val (.ref b1), .val (.ref b17), .val (.ref b31), .val (.ref b53)] [(.ref b53), (.long u)]))
    refine own_callV X80 hx hZ (y := (⟨"com/example/spikeline/spikeline/core/SeededRandom", "state", "()J"⟩ : MethodName)) (z := (⟨"com/example/spikeline/spikeline/core/SeededRandom", "state", "()J"⟩ : MethodName)) hown (hw _ (List.mem_of_getElem? (i := 144) rfl)) (hw _ (List.mem_of_getElem? (i := 145) rfl)) (notFace_of_selects (args := #[]) (mvT hZ (hw _ (List.mem_of_getElem? (i := 147) rfl)))) (hw _ (List.mem_of_getElem? (i := 147) rfl)) (hw _ (List.mem_of_getElem? (i := 146) rfl)) (hw _ (List.mem_of_getElem? (i := 68) rfl)) (hw _ (List.mem_of_getElem? (i := 148) rfl)) (by decide) (a := b53) F77 (argsL := []) (rest := [(.long u)]) (rm := ({ frames := 0, cells := 0, slots := 0, locals := 0 } : Room)) (h := h68) (rm23 l Z a0 hw b53 u h68 n0 Z78 Fq68) e80 (W := 2) (by decide) (by decide) (by decide) (by decide) (g := (mkF m 192 #[.val (.long u), .second, .val (.int sz), .val (.int (0 : Int32)), .val (.ref b1), .val (.ref b17), .val (.ref b31), .val (.ref b53)] [(.ref b53), (.long u)])) rfl (by rw [hml]; rfl) (lenOf pd_8 rfl) rfl (by show 2 * 0 + _ ≤ _; exact Nat.le_of_eq rfl) (hb hby at_192) (fun v81 T81 h81 L81 X81 e81 hQ81 => ?_)
    obtain ⟨rfl, Nq81, q81⟩ := hQ81
    have N81 := Fr.app N80 Nq81
    rw [q81] at e81
    show OwnWk _ _ _ _ (T81.setTop (mkF m 195 #[.val (.long u), .second, .val (.int sz), .val (.int (0 : Int32)), .val (.ref b1), .val (.ref b17), .val (.ref b31), .val (.ref b53)] [(.long u), (.long u)]))
    refine own_go (fun tgt kst => XS.lcmp X81.here hx rfl (hb hby at_195) rfl kst) ?_
    show OwnWk _ _ _ _ (T81.setTop (mkF m 196 #[.val (.long u), .second, .val (.int sz), .val (.int (0 : Int32)), .val (.ref b1), .val (.ref b17), .val (.ref b31), .val (.ref b53)] [(.int (lcmpW u u))]))
    refine own_go (fun tgt kst => XS.ifYes X81.here hx rfl (pc0 := 196) (pc' := 201) rfl (hb hby at_196) rfl ((if0 _ _).trans (teq (own_lc_eq.mpr rfl)).1) (by decide) (by decide) kst) ?_
    show OwnWk _ _ _ _ (T81.setTop (mkF m 201 #[.val (.long u), .second, .val (.int sz), .val (.int (0 : Int32)), .val (.ref b1), .val (.ref b17), .val (.ref b31), .val (.ref b53)] []))
    refine own_go (fun tgt kst => XS.aload X81.here hx rfl (hb hby at_201) rfl rfl  kst) ?_
    show OwnWk _ _ _ _ (T81.setTop (mkF m 203 #[.val (.long u), .second, .val (.int sz), .val (.int (0 : Int32)), .val (.ref b1), .val (.ref b17), .val (.ref b31), .val (.ref b53)] [(.ref b17)]))
    refine own_go (fun tgt kst => XS.aload X81.here hx rfl (hb hby at_203) rfl rfl  kst) ?_
    show OwnWk _ _ _ _ (T81.setTop (mkF m 205 #[.val (.long u), .second, .val (.int sz), .val (.int (0 : Int32)), .val (.ref b1), .val (.ref b17), .val (.ref b31), .val (.ref b53)] [(.ref b1), (.ref b17)]))
    refine own_go (fun tgt kst => XS.iconst X81.here hx rfl (hb hby at_205) kst) ?_
    show OwnWk _ _ _ _ (T81.setTop (mkF m 206 #[.val (.long u), .second, .val (.int sz), .val (.int (0 : Int32)), .val (.ref b1), .val (.ref b17), .val (.ref b31), .val (.ref b53)] [(.int (0 : Int32)), (.ref b1), (.ref b17)]))
    refine own_go (fun tgt kst => XS.iloadN X81.here hx rfl (hb hby at_206) rfl  kst) ?_
    show OwnWk _ _ _ _ (T81.setTop (mkF m 207 #[.val (.long u), .second, .val (.int sz), .val (.int (0 : Int32)), .val (.ref b1), .val (.ref b17), .val (.ref b31), .val (.ref b53)] [(.int (0 : Int32)), (.int (0 : Int32)), (.ref b1), (.ref b17)]))
    refine own_callS X81 hx hZ (y := (⟨"com/example/spikeline/spikeline/core/SeededRandomShufflePinLaw", "same", "(Ljava/util/ArrayList;[III)Z"⟩ : MethodName)) hown (hw _ (List.mem_of_getElem? (i := 149) rfl)) (hw _ (List.mem_of_getElem? (i := 150) rfl)) (hw _ (List.mem_of_getElem? (i := 139) rfl)) (hw _ (List.mem_of_getElem? (i := 151) rfl)) (by decide) (argsL := [(.ref b17), (.ref b1), (.int (0 : Int32)), (.int (0 : Int32))]) (rest := []) (rm := ({ frames := 0, cells := 0, slots := 0, locals := 0 } : Room)) (h := h68) (smO l Z a0 hw b17 b1 (0 : Int32) (0 : Int32) h68 n0 Z78 (by decide)) e81 (W := 0) (by decide) (by decide) (by decide) (by decide) (g := (mkF m 207 #[.val (.long u), .second, .val (.int sz), .val (.int (0 : Int32)), .val (.ref b1), .val (.ref b17), .val (.ref b31), .val (.ref b53)] [(.int (0 : Int32)), (.int (0 : Int32)), (.ref b1), (.ref b17)])) rfl (by rw [hml]; rfl) (lenOf pd_14 rfl) rfl (by show 2 * 0 + _ ≤ _; exact Nat.le_of_eq rfl) (hb hby at_207) (fun v82 T82 h82 L82 X82 e82 hQ82 => ?_)
    obtain ⟨rfl, Nq82, q82⟩ := hQ82
    have N82 := Fr.app N81 Nq82
    rw [q82] at e82
    show OwnWk _ _ _ _ (T82.setTop (mkF m 210 #[.val (.long u), .second, .val (.int sz), .val (.int (0 : Int32)), .val (.ref b1), .val (.ref b17), .val (.ref b31), .val (.ref b53)] [(.int (1 : Int32))]))
    refine own_go (fun tgt kst => XS.ifNo X82.here hx rfl (hb hby at_210) rfl ((if0 _ _).trans (feq (by decide : ¬ ((1 : Int32) = (0 : Int32)))).1) kst) ?_
    show OwnWk _ _ _ _ (T82.setTop (mkF m 213 #[.val (.long u), .second, .val (.int sz), .val (.int (0 : Int32)), .val (.ref b1), .val (.ref b17), .val (.ref b31), .val (.ref b53)] []))
    refine own_go (fun tgt kst => XS.aload X82.here hx rfl (hb hby at_213) rfl rfl  kst) ?_
    show OwnWk _ _ _ _ (T82.setTop (mkF m 215 #[.val (.long u), .second, .val (.int sz), .val (.int (0 : Int32)), .val (.ref b1), .val (.ref b17), .val (.ref b31), .val (.ref b53)] [(.ref b17)]))
    refine own_go (fun tgt kst => XS.aload X82.here hx rfl (hb hby at_215) rfl rfl  kst) ?_
    show OwnWk _ _ _ _ (T82.setTop (mkF m 217 #[.val (.long u), .second, .val (.int sz), .val (.int (0 : Int32)), .val (.ref b1), .val (.ref b17), .val (.ref b31), .val (.ref b53)] [(.ref b1), (.ref b17)]))
    refine own_go (fun tgt kst => XS.iconst X82.here hx rfl (hb hby at_217) kst) ?_
    show OwnWk _ _ _ _ (T82.setTop (mkF m 218 #[.val (.long u), .second, .val (.int sz), .val (.int (0 : Int32)), .val (.ref b1), .val (.ref b17), .val (.ref b31), .val (.ref b53)] [(.int (1 : Int32)), (.ref b1), (.ref b17)]))
    refine own_go (fun tgt kst => XS.iloadN X82.here hx rfl (hb hby at_218) rfl  kst) ?_
    show OwnWk _ _ _ _ (T82.setTop (mkF m 219 #[.val (.long u), .second, .val (.int sz), .val (.int (0 : Int32)), .val (.ref b1), .val (.ref b17), .val (.ref b31), .val (.ref b53)] [(.int (0 : Int32)), (.int (1 : Int32)), (.ref b1), (.ref b17)]))
    refine own_callS X82 hx hZ (y := (⟨"com/example/spikeline/spikeline/core/SeededRandomShufflePinLaw", "same", "(Ljava/util/ArrayList;[III)Z"⟩ : MethodName)) hown (hw _ (List.mem_of_getElem? (i := 149) rfl)) (hw _ (List.mem_of_getElem? (i := 150) rfl)) (hw _ (List.mem_of_getElem? (i := 139) rfl)) (hw _ (List.mem_of_getElem? (i := 151) rfl)) (by decide) (argsL := [(.ref b17), (.ref b1), (.int (1 : Int32)), (.int (0 : Int32))]) (rest := []) (rm := ({ frames := 0, cells := 0, slots := 0, locals := 0 } : Room)) (h := h68) (smO l Z a0 hw b17 b1 (1 : Int32) (0 : Int32) h68 n0 Z78 (by decide)) e82 (W := 0) (by decide) (by decide) (by decide) (by decide) (g := (mkF m 219 #[.val (.long u), .second, .val (.int sz), .val (.int (0 : Int32)), .val (.ref b1), .val (.ref b17), .val (.ref b31), .val (.ref b53)] [(.int (0 : Int32)), (.int (1 : Int32)), (.ref b1), (.ref b17)])) rfl (by rw [hml]; rfl) (lenOf pd_14 rfl) rfl (by show 2 * 0 + _ ≤ _; exact Nat.le_of_eq rfl) (hb hby at_219) (fun v83 T83 h83 L83 X83 e83 hQ83 => ?_)
    obtain ⟨rfl, Nq83, q83⟩ := hQ83
    have N83 := Fr.app N82 Nq83
    rw [q83] at e83
    show OwnWk _ _ _ _ (T83.setTop (mkF m 222 #[.val (.long u), .second, .val (.int sz), .val (.int (0 : Int32)), .val (.ref b1), .val (.ref b17), .val (.ref b31), .val (.ref b53)] [(.int (1 : Int32))]))
    refine own_go (fun tgt kst => XS.ifNo X83.here hx rfl (hb hby at_222) rfl ((if0 _ _).trans (feq (by decide : ¬ ((1 : Int32) = (0 : Int32)))).1) kst) ?_
    show OwnWk _ _ _ _ (T83.setTop (mkF m 225 #[.val (.long u), .second, .val (.int sz), .val (.int (0 : Int32)), .val (.ref b1), .val (.ref b17), .val (.ref b31), .val (.ref b53)] []))
    refine own_go (fun tgt kst => XS.aload X83.here hx rfl (hb hby at_225) rfl rfl  kst) ?_
    show OwnWk _ _ _ _ (T83.setTop (mkF m 227 #[.val (.long u), .second, .val (.int sz), .val (.int (0 : Int32)), .val (.ref b1), .val (.ref b17), .val (.ref b31), .val (.ref b53)] [(.ref b17)]))
    refine own_go (fun tgt kst => XS.aload X83.here hx rfl (hb hby at_227) rfl rfl  kst) ?_
    show OwnWk _ _ _ _ (T83.setTop (mkF m 229 #[.val (.long u), .second, .val (.int sz), .val (.int (0 : Int32)), .val (.ref b1), .val (.ref b17), .val (.ref b31), .val (.ref b53)] [(.ref b1), (.ref b17)]))
    refine own_go (fun tgt kst => XS.iconst X83.here hx rfl (hb hby at_229) kst) ?_
    show OwnWk _ _ _ _ (T83.setTop (mkF m 230 #[.val (.long u), .second, .val (.int sz), .val (.int (0 : Int32)), .val (.ref b1), .val (.ref b17), .val (.ref b31), .val (.ref b53)] [(.int (2 : Int32)), (.ref b1), (.ref b17)]))
    refine own_go (fun tgt kst => XS.iloadN X83.here hx rfl (hb hby at_230) rfl  kst) ?_
    show OwnWk _ _ _ _ (T83.setTop (mkF m 231 #[.val (.long u), .second, .val (.int sz), .val (.int (0 : Int32)), .val (.ref b1), .val (.ref b17), .val (.ref b31), .val (.ref b53)] [(.int (0 : Int32)), (.int (2 : Int32)), (.ref b1), (.ref b17)]))
    refine own_callS X83 hx hZ (y := (⟨"com/example/spikeline/spikeline/core/SeededRandomShufflePinLaw", "same", "(Ljava/util/ArrayList;[III)Z"⟩ : MethodName)) hown (hw _ (List.mem_of_getElem? (i := 149) rfl)) (hw _ (List.mem_of_getElem? (i := 150) rfl)) (hw _ (List.mem_of_getElem? (i := 139) rfl)) (hw _ (List.mem_of_getElem? (i := 151) rfl)) (by decide) (argsL := [(.ref b17), (.ref b1), (.int (2 : Int32)), (.int (0 : Int32))]) (rest := []) (rm := ({ frames := 0, cells := 0, slots := 0, locals := 0 } : Room)) (h := h68) (smO l Z a0 hw b17 b1 (2 : Int32) (0 : Int32) h68 n0 Z78 (by decide)) e83 (W := 0) (by decide) (by decide) (by decide) (by decide) (g := (mkF m 231 #[.val (.long u), .second, .val (.int sz), .val (.int (0 : Int32)), .val (.ref b1), .val (.ref b17), .val (.ref b31), .val (.ref b53)] [(.int (0 : Int32)), (.int (2 : Int32)), (.ref b1), (.ref b17)])) rfl (by rw [hml]; rfl) (lenOf pd_14 rfl) rfl (by show 2 * 0 + _ ≤ _; exact Nat.le_of_eq rfl) (hb hby at_231) (fun v84 T84 h84 L84 X84 e84 hQ84 => ?_)
    obtain ⟨rfl, Nq84, q84⟩ := hQ84
    have N84 := Fr.app N83 Nq84
    rw [q84] at e84
    show OwnWk _ _ _ _ (T84.setTop (mkF m 234 #[.val (.long u), .second, .val (.int sz), .val (.int (0 : Int32)), .val (.ref b1), .val (.ref b17), .val (.ref b31), .val (.ref b53)] [(.int (1 : Int32))]))
    refine own_go (fun tgt kst => XS.ifNo X84.here hx rfl (hb hby at_234) rfl ((if0 _ _).trans (feq (by decide : ¬ ((1 : Int32) = (0 : Int32)))).1) kst) ?_
    show OwnWk _ _ _ _ (T84.setTop (mkF m 237 #[.val (.long u), .second, .val (.int sz), .val (.int (0 : Int32)), .val (.ref b1), .val (.ref b17), .val (.ref b31), .val (.ref b53)] []))
    refine own_go (fun tgt kst => XS.aload X84.here hx rfl (hb hby at_237) rfl rfl  kst) ?_
    show OwnWk _ _ _ _ (T84.setTop (mkF m 239 #[.val (.long u), .second, .val (.int sz), .val (.int (0 : Int32)), .val (.ref b1), .val (.ref b17), .val (.ref b31), .val (.ref b53)] [(.ref b17)]))
    refine own_go (fun tgt kst => XS.aload X84.here hx rfl (hb hby at_239) rfl rfl  kst) ?_
    show OwnWk _ _ _ _ (T84.setTop (mkF m 241 #[.val (.long u), .second, .val (.int sz), .val (.int (0 : Int32)), .val (.ref b1), .val (.ref b17), .val (.ref b31), .val (.ref b53)] [(.ref b1), (.ref b17)]))
    refine own_go (fun tgt kst => XS.iconst X84.here hx rfl (hb hby at_241) kst) ?_
    show OwnWk _ _ _ _ (T84.setTop (mkF m 242 #[.val (.long u), .second, .val (.int sz), .val (.int (0 : Int32)), .val (.ref b1), .val (.ref b17), .val (.ref b31), .val (.ref b53)] [(.int (3 : Int32)), (.ref b1), (.ref b17)]))
    refine own_go (fun tgt kst => XS.iloadN X84.here hx rfl (hb hby at_242) rfl  kst) ?_
    show OwnWk _ _ _ _ (T84.setTop (mkF m 243 #[.val (.long u), .second, .val (.int sz), .val (.int (0 : Int32)), .val (.ref b1), .val (.ref b17), .val (.ref b31), .val (.ref b53)] [(.int (0 : Int32)), (.int (3 : Int32)), (.ref b1), (.ref b17)]))
    refine own_callS X84 hx hZ (y := (⟨"com/example/spikeline/spikeline/core/SeededRandomShufflePinLaw", "same", "(Ljava/util/ArrayList;[III)Z"⟩ : MethodName)) hown (hw _ (List.mem_of_getElem? (i := 149) rfl)) (hw _ (List.mem_of_getElem? (i := 150) rfl)) (hw _ (List.mem_of_getElem? (i := 139) rfl)) (hw _ (List.mem_of_getElem? (i := 151) rfl)) (by decide) (argsL := [(.ref b17), (.ref b1), (.int (3 : Int32)), (.int (0 : Int32))]) (rest := []) (rm := ({ frames := 0, cells := 0, slots := 0, locals := 0 } : Room)) (h := h68) (smO l Z a0 hw b17 b1 (3 : Int32) (0 : Int32) h68 n0 Z78 (by decide)) e84 (W := 0) (by decide) (by decide) (by decide) (by decide) (g := (mkF m 243 #[.val (.long u), .second, .val (.int sz), .val (.int (0 : Int32)), .val (.ref b1), .val (.ref b17), .val (.ref b31), .val (.ref b53)] [(.int (0 : Int32)), (.int (3 : Int32)), (.ref b1), (.ref b17)])) rfl (by rw [hml]; rfl) (lenOf pd_14 rfl) rfl (by show 2 * 0 + _ ≤ _; exact Nat.le_of_eq rfl) (hb hby at_243) (fun v85 T85 h85 L85 X85 e85 hQ85 => ?_)
    obtain ⟨rfl, Nq85, q85⟩ := hQ85
    have N85 := Fr.app N84 Nq85
    rw [q85] at e85
    show OwnWk _ _ _ _ (T85.setTop (mkF m 246 #[.val (.long u), .second, .val (.int sz), .val (.int (0 : Int32)), .val (.ref b1), .val (.ref b17), .val (.ref b31), .val (.ref b53)] [(.int (1 : Int32))]))
    refine own_go (fun tgt kst => XS.ifNo X85.here hx rfl (hb hby at_246) rfl ((if0 _ _).trans (feq (by decide : ¬ ((1 : Int32) = (0 : Int32)))).1) kst) ?_
    show OwnWk _ _ _ _ (T85.setTop (mkF m 249 #[.val (.long u), .second, .val (.int sz), .val (.int (0 : Int32)), .val (.ref b1), .val (.ref b17), .val (.ref b31), .val (.ref b53)] []))
    refine own_go (fun tgt kst => XS.iconst X85.here hx rfl (hb hby at_249) kst) ?_
    show OwnWk _ _ _ _ (T85.setTop (mkF m 250 #[.val (.long u), .second, .val (.int sz), .val (.int (0 : Int32)), .val (.ref b1), .val (.ref b17), .val (.ref b31), .val (.ref b53)] [(.int (1 : Int32))]))
    refine own_go (fun tgt kst => XS.goto X85.here hx rfl (pc0 := 250) (pc' := 254) rfl (hb hby at_250) (by decide) (by decide) kst) ?_
    show OwnWk _ _ _ _ (T85.setTop (mkF m 254 #[.val (.long u), .second, .val (.int sz), .val (.int (0 : Int32)), .val (.ref b1), .val (.ref b17), .val (.ref b31), .val (.ref b53)] [(.int (1 : Int32))]))
    exact own_retZ X85 hx hlk hret (by simp) (z' := (1 : Int32)) rfl (hb hby at_254) (by decide) (by decide) (by rw [e85]; exact ⟨rfl, N85⟩)
  ·
    show OwnWk _ _ _ _ (s₁.setTop (mkF m 6 #[.val (.long u), .second, .val (.int sz), .unset, .unset, .unset, .unset, .unset] [(.int (1 : Int32))]))
    refine own_go (fun tgt kst => XS.istoreN X0.here hx rfl (hb hby at_6) rfl (l' := #[.val (.long u), .second, .val (.int sz), .val (.int (1 : Int32)), .unset, .unset, .unset, .unset]) rfl kst) ?_
    show OwnWk _ _ _ _ (s₁.setTop (mkF m 7 #[.val (.long u), .second, .val (.int sz), .val (.int (1 : Int32)), .unset, .unset, .unset, .unset] []))
    refine own_go (fun tgt kst => XS.iconst X0.here hx rfl (hb hby at_7) kst) ?_
    show OwnWk _ _ _ _ (s₁.setTop (mkF m 8 #[.val (.long u), .second, .val (.int sz), .val (.int (1 : Int32)), .unset, .unset, .unset, .unset] [(.int (4 : Int32))]))
    refine own_newP X0 hx hZ (aty := .int) (hw _ (List.mem_of_getElem? (i := 1) rfl)) e0 (g := (mkF m 8 #[.val (.long u), .second, .val (.int sz), .val (.int (1 : Int32)), .unset, .unset, .unset, .unset] [(.int (4 : Int32))])) rfl (hb hby at_8) rfl (by decide) (cap := 4) (by decide) (by decide) (by decide) (by decide) (fun T86 h86 b86 X86 e86 g86 E86 V86 => ?_)
    have ge87 : n0 ≤ b86 := Nat.le_trans Z0 (Nat.le_of_eq g86.symm)
    have F88 := Old.ext O0 E86
    have Z89 := Nat.le_trans Z0 E86.1
    have V86b : OAr Z h86 b86 .int [(.int (0 : Int32)), (.int (0 : Int32)), (.int (0 : Int32)), (.int (0 : Int32))] := V86
    show OwnWk _ _ _ _ (T86.setTop (mkF m 10 #[.val (.long u), .second, .val (.int sz), .val (.int (1 : Int32)), .unset, .unset, .unset, .unset] [(.ref b86)]))
    refine own_go (fun tgt kst => XS.dup X86.here hx rfl (hb hby at_10) rfl rfl kst) ?_
    show OwnWk _ _ _ _ (T86.setTop (mkF m 11 #[.val (.long u), .second, .val (.int sz), .val (.int (1 : Int32)), .unset, .unset, .unset, .unset] [(.ref b86), (.ref b86)]))
    refine own_go (fun tgt kst => XS.iconst X86.here hx rfl (hb hby at_11) kst) ?_
    show OwnWk _ _ _ _ (T86.setTop (mkF m 12 #[.val (.long u), .second, .val (.int sz), .val (.int (1 : Int32)), .unset, .unset, .unset, .unset] [(.int (0 : Int32)), (.ref b86), (.ref b86)]))
    refine own_go (fun tgt kst => XS.iconst X86.here hx rfl (hb hby at_12) kst) ?_
    show OwnWk _ _ _ _ (T86.setTop (mkF m 13 #[.val (.long u), .second, .val (.int sz), .val (.int (1 : Int32)), .unset, .unset, .unset, .unset] [(.int (0 : Int32)), (.int (0 : Int32)), (.ref b86), (.ref b86)]))
    refine own_stI X86 hx hZ e86 V86b (g := (mkF m 13 #[.val (.long u), .second, .val (.int sz), .val (.int (1 : Int32)), .unset, .unset, .unset, .unset] [(.int (0 : Int32)), (.int (0 : Int32)), (.ref b86), (.ref b86)])) rfl rfl (hb hby at_13) (by decide) (Nat.le_of_ble_eq_true rfl) (fun T90 h90 X90 e90 W90 V90 => ?_)
    have N90 := Fr.snoc X90 N0 ge87
    have F91 := Old.wr F88 W90 ge87
    have Z92 := Nat.le_trans Z89 (Keep.of_wr W90).1
    show OwnWk _ _ _ _ (T90.setTop (mkF m 14 #[.val (.long u), .second, .val (.int sz), .val (.int (1 : Int32)), .unset, .unset, .unset, .unset] [(.ref b86)]))
    refine own_go (fun tgt kst => XS.dup X90.here hx rfl (hb hby at_14) rfl rfl kst) ?_
    show OwnWk _ _ _ _ (T90.setTop (mkF m 15 #[.val (.long u), .second, .val (.int sz), .val (.int (1 : Int32)), .unset, .unset, .unset, .unset] [(.ref b86), (.ref b86)]))
    refine own_go (fun tgt kst => XS.iconst X90.here hx rfl (hb hby at_15) kst) ?_
    show OwnWk _ _ _ _ (T90.setTop (mkF m 16 #[.val (.long u), .second, .val (.int sz), .val (.int (1 : Int32)), .unset, .unset, .unset, .unset] [(.int (1 : Int32)), (.ref b86), (.ref b86)]))
    refine own_go (fun tgt kst => XS.iconst X90.here hx rfl (hb hby at_16) kst) ?_
    show OwnWk _ _ _ _ (T90.setTop (mkF m 17 #[.val (.long u), .second, .val (.int sz), .val (.int (1 : Int32)), .unset, .unset, .unset, .unset] [(.int (1 : Int32)), (.int (1 : Int32)), (.ref b86), (.ref b86)]))
    refine own_stI X90 hx hZ e90 V90 (g := (mkF m 17 #[.val (.long u), .second, .val (.int sz), .val (.int (1 : Int32)), .unset, .unset, .unset, .unset] [(.int (1 : Int32)), (.int (1 : Int32)), (.ref b86), (.ref b86)])) rfl rfl (hb hby at_17) (by decide) (Nat.le_of_ble_eq_true rfl) (fun T93 h93 X93 e93 W93 V93 => ?_)
    have N93 := Fr.snoc X93 N90 ge87
    have F94 := Old.wr F91 W93 ge87
    have Z95 := Nat.le_trans Z92 (Keep.of_wr W93).1
    show OwnWk _ _ _ _ (T93.setTop (mkF m 18 #[.val (.long u), .second, .val (.int sz), .val (.int (1 : Int32)), .unset, .unset, .unset, .unset] [(.ref b86)]))
    refine own_go (fun tgt kst => XS.dup X93.here hx rfl (hb hby at_18) rfl rfl kst) ?_
    show OwnWk _ _ _ _ (T93.setTop (mkF m 19 #[.val (.long u), .second, .val (.int sz), .val (.int (1 : Int32)), .unset, .unset, .unset, .unset] [(.ref b86), (.ref b86)]))
    refine own_go (fun tgt kst => XS.iconst X93.here hx rfl (hb hby at_19) kst) ?_
    show OwnWk _ _ _ _ (T93.setTop (mkF m 20 #[.val (.long u), .second, .val (.int sz), .val (.int (1 : Int32)), .unset, .unset, .unset, .unset] [(.int (2 : Int32)), (.ref b86), (.ref b86)]))
    refine own_go (fun tgt kst => XS.iconst X93.here hx rfl (hb hby at_20) kst) ?_
    show OwnWk _ _ _ _ (T93.setTop (mkF m 21 #[.val (.long u), .second, .val (.int sz), .val (.int (1 : Int32)), .unset, .unset, .unset, .unset] [(.int (2 : Int32)), (.int (2 : Int32)), (.ref b86), (.ref b86)]))
    refine own_stI X93 hx hZ e93 V93 (g := (mkF m 21 #[.val (.long u), .second, .val (.int sz), .val (.int (1 : Int32)), .unset, .unset, .unset, .unset] [(.int (2 : Int32)), (.int (2 : Int32)), (.ref b86), (.ref b86)])) rfl rfl (hb hby at_21) (by decide) (Nat.le_of_ble_eq_true rfl) (fun T96 h96 X96 e96 W96 V96 => ?_)
    have N96 := Fr.snoc X96 N93 ge87
    have F97 := Old.wr F94 W96 ge87
    have Z98 := Nat.le_trans Z95 (Keep.of_wr W96).1
    show OwnWk _ _ _ _ (T96.setTop (mkF m 22 #[.val (.long u), .second, .val (.int sz), .val (.int (1 : Int32)), .unset, .unset, .unset, .unset] [(.ref b86)]))
    refine own_go (fun tgt kst => XS.dup X96.here hx rfl (hb hby at_22) rfl rfl kst) ?_
    show OwnWk _ _ _ _ (T96.setTop (mkF m 23 #[.val (.long u), .second, .val (.int sz), .val (.int (1 : Int32)), .unset, .unset, .unset, .unset] [(.ref b86), (.ref b86)]))
    refine own_go (fun tgt kst => XS.iconst X96.here hx rfl (hb hby at_23) kst) ?_
    show OwnWk _ _ _ _ (T96.setTop (mkF m 24 #[.val (.long u), .second, .val (.int sz), .val (.int (1 : Int32)), .unset, .unset, .unset, .unset] [(.int (3 : Int32)), (.ref b86), (.ref b86)]))
    refine own_go (fun tgt kst => XS.iconst X96.here hx rfl (hb hby at_24) kst) ?_
    show OwnWk _ _ _ _ (T96.setTop (mkF m 25 #[.val (.long u), .second, .val (.int sz), .val (.int (1 : Int32)), .unset, .unset, .unset, .unset] [(.int (3 : Int32)), (.int (3 : Int32)), (.ref b86), (.ref b86)]))
    refine own_stI X96 hx hZ e96 V96 (g := (mkF m 25 #[.val (.long u), .second, .val (.int sz), .val (.int (1 : Int32)), .unset, .unset, .unset, .unset] [(.int (3 : Int32)), (.int (3 : Int32)), (.ref b86), (.ref b86)])) rfl rfl (hb hby at_25) (by decide) (Nat.le_of_ble_eq_true rfl) (fun T99 h99 X99 e99 W99 V99 => ?_)
    have N99 := Fr.snoc X99 N96 ge87
    have F100 := Old.wr F97 W99 ge87
    have Z101 := Nat.le_trans Z98 (Keep.of_wr W99).1
    show OwnWk _ _ _ _ (T99.setTop (mkF m 26 #[.val (.long u), .second, .val (.int sz), .val (.int (1 : Int32)), .unset, .unset, .unset, .unset] [(.ref b86)]))
    have Vst : OAr Z h99 b86 .int (own_iv [0, 1, 2, 3]) := V99
    refine own_go (fun tgt kst => XS.astore X99.here hx rfl (hb hby at_26) rfl rfl (l' := #[.val (.long u), .second, .val (.int sz), .val (.int (1 : Int32)), .val (.ref b86), .unset, .unset, .unset]) rfl kst) ?_
    show OwnWk _ _ _ _ (T99.setTop (mkF m 28 #[.val (.long u), .second, .val (.int sz), .val (.int (1 : Int32)), .val (.ref b86), .unset, .unset, .unset] []))
    obtain ⟨T102, h102, X102, e102, E102, A102, D102, -, st102⟩ := newO X99 hx hZ hown (hw _ (List.mem_of_getElem? (i := 2) rfl)) (hw _ (List.mem_of_getElem? (i := 3) rfl)) (hw _ (List.mem_of_getElem? (i := 4) rfl)) e99 (g := (mkF m 28 #[.val (.long u), .second, .val (.int sz), .val (.int (1 : Int32)), .val (.ref b86), .unset, .unset, .unset] [])) rfl (hb hby at_28) (by decide) (by decide)
    obtain ⟨b102, g102⟩ : ∃ z, z = h99.size := ⟨_, rfl⟩
    rw [← g102] at A102 D102 st102
    refine own_go st102 ?_
    have ne103 : b86 ≠ b102 := Nat.ne_of_lt (Nat.lt_of_lt_of_le Vst.lt (Nat.le_of_eq g102.symm))
    have ge104 : n0 ≤ b102 := Nat.le_trans Z101 (Nat.le_of_eq g102.symm)
    have F105 := Old.ext F100 E102
    have F106 := OAr.ext Vst E102
    have Z107 := Nat.le_trans Z101 E102.1
    have F108 : Fld Z h102 b102 "java/util/AbstractList" "modCount" "I" (.int (0 : Int32)) := D102 (Or.inl (hw _ (List.mem_of_getElem? (i := 24) rfl))) (ty := .int) (by decide)
    have F109 : Fld Z h102 b102 "java/util/ArrayList" "elementData" "[Ljava/lang/Object;" .null := D102 (Or.inl (hw _ (List.mem_of_getElem? (i := 27) rfl))) (ty := (.array (.object "java/lang/Object"))) (by decide)
    have F110 : Fld Z h102 b102 "java/util/ArrayList" "size" "I" (.int (0 : Int32)) := D102 (Or.inl (hw _ (List.mem_of_getElem? (i := 43) rfl))) (ty := .int) (by decide)
    show OwnWk _ _ _ _ (T102.setTop (mkF m 31 #[.val (.long u), .second, .val (.int sz), .val (.int (1 : Int32)), .val (.ref b86), .unset, .unset, .unset] [(.ref b102)]))
    refine own_go (fun tgt kst => XS.dup X102.here hx rfl (hb hby at_31) rfl rfl kst) ?_
    show OwnWk _ _ _ _ (T102.setTop (mkF m 32 #[.val (.long u), .second, .val (.int sz), .val (.int (1 : Int32)), .val (.ref b86), .unset, .unset, .unset] [(.ref b102), (.ref b102)]))
    refine own_callC X102 hx hZ (y := (⟨"java/util/ArrayList", "<init>", "()V"⟩ : MethodName)) hown rfl (hw _ (List.mem_of_getElem? (i := 5) rfl)) (hw _ (List.mem_of_getElem? (i := 6) rfl)) (hw _ (List.mem_of_getElem? (i := 4) rfl)) (hw _ (List.mem_of_getElem? (i := 7) rfl)) (by decide) (a := b102) (argsL := []) (rest := [(.ref b102)]) (rm := ({ frames := 3, cells := 0, slots := 0, locals := 36 } : Room)) (h := h102) (rm1 l Z a0 hw dce cac ia b102 h102 n0 Z107 F105 S_d V_d S_h S_c hL hE hV A102 ge104 F108 F109 F110) e102 (W := 1) (by decide) (by decide) (by decide) (by decide) (g := (mkF m 32 #[.val (.long u), .second, .val (.int sz), .val (.int (1 : Int32)), .val (.ref b86), .unset, .unset, .unset] [(.ref b102), (.ref b102)])) rfl (by rw [hml]; rfl) (lenOf pd_0 rfl) rfl (by show 2 * 0 + _ ≤ _; exact Nat.le_of_eq rfl) (hb hby at_32) (fun v111 T111 h111 L111 X111 e111 hQ111 => ?_)
    obtain ⟨rfl, Nq111, Kq111, Fm111, Fe111, Fs111⟩ := hQ111
    have N111 := Fr.app N99 Nq111
    have F112 := Old.keep F105 Kq111 (allS ge104 all0)
    have F113 := OAr.keep F106 Kq111 (ninS ne103 nin0)
    have F114 := Exa.keep A102 Kq111
    have Z115 := Nat.le_trans Z107 Kq111.1
    show OwnWk _ _ _ _ (T111.setTop (mkF m 35 #[.val (.long u), .second, .val (.int sz), .val (.int (1 : Int32)), .val (.ref b86), .unset, .unset, .unset] [(.ref b102)]))
    refine own_go (fun tgt kst => XS.astore X111.here hx rfl (hb hby at_35) rfl rfl (l' := #[.val (.long u), .second, .val (.int sz), .val (.int (1 : Int32)), .val (.ref b86), .val (.ref b102), .unset, .unset]) rfl kst) ?_
    show OwnWk _ _ _ _ (T111.setTop (mkF m 37 #[.val (.long u), .second, .val (.int sz), .val (.int (1 : Int32)), .val (.ref b86), .val (.ref b102), .unset, .unset] []))
    refine own_go (fun tgt kst => XS.iloadN X111.here hx rfl (hb hby at_37) rfl  kst) ?_
    show OwnWk _ _ _ _ (T111.setTop (mkF m 38 #[.val (.long u), .second, .val (.int sz), .val (.int (1 : Int32)), .val (.ref b86), .val (.ref b102), .unset, .unset] [(.int (1 : Int32))]))
    refine own_go (fun tgt kst => XS.ifNo X111.here hx rfl (hb hby at_38) rfl ((if0 _ _).trans (tlt (by decide : (0 : Int32) < (1 : Int32))).2.2.2) kst) ?_
    show OwnWk _ _ _ _ (T111.setTop (mkF m 41 #[.val (.long u), .second, .val (.int sz), .val (.int (1 : Int32)), .val (.ref b86), .val (.ref b102), .unset, .unset] []))
    refine own_go (fun tgt kst => XS.aload X111.here hx rfl (hb hby at_41) rfl rfl  kst) ?_
    show OwnWk _ _ _ _ (T111.setTop (mkF m 43 #[.val (.long u), .second, .val (.int sz), .val (.int (1 : Int32)), .val (.ref b86), .val (.ref b102), .unset, .unset] [(.ref b102)]))
    refine own_go (fun tgt kst => XS.iconst X111.here hx rfl (hb hby at_43) kst) ?_
    show OwnWk _ _ _ _ (T111.setTop (mkF m 44 #[.val (.long u), .second, .val (.int sz), .val (.int (1 : Int32)), .val (.ref b86), .val (.ref b102), .unset, .unset] [(.int (0 : Int32)), (.ref b102)]))
    refine own_callS X111 hx hZ (y := (⟨"java/lang/Integer", "valueOf", "(I)Ljava/lang/Integer;"⟩ : MethodName)) hown (hw _ (List.mem_of_getElem? (i := 28) rfl)) (hw _ (List.mem_of_getElem? (i := 29) rfl)) (hw _ (List.mem_of_getElem? (i := 30) rfl)) (hw _ (List.mem_of_getElem? (i := 31) rfl)) (by decide) (argsL := [(.int (0 : Int32))]) (rest := [(.ref b102)]) (rm := ({ frames := 0, cells := 0, slots := 0, locals := 0 } : Room)) (h := h111) (vo0 l Z a0 hw dce cac ia h111 n0 Z115 F112 S_d V_d S_h S_c hL hE hV) e111 (W := 1) (by decide) (by decide) (by decide) (by decide) (g := (mkF m 44 #[.val (.long u), .second, .val (.int sz), .val (.int (1 : Int32)), .val (.ref b86), .val (.ref b102), .unset, .unset] [(.int (0 : Int32)), (.ref b102)])) rfl (by rw [hml]; rfl) (lenOf pd_15 rfl) rfl (by show 2 * 0 + _ ≤ _; exact Nat.le_of_eq rfl) (hb hby at_44) (fun v116 T116 h116 L116 X116 e116 hQ116 => ?_)
    obtain ⟨rfl, Nq116, q116⟩ := hQ116
    have N116 := Fr.app N111 Nq116
    rw [q116] at e116
    show OwnWk _ _ _ _ (T116.setTop (mkF m 47 #[.val (.long u), .second, .val (.int sz), .val (.int (1 : Int32)), .val (.ref b86), .val (.ref b102), .unset, .unset] [(.ref (ia 0)), (.ref b102)]))
    have lt117 : b86 < h111.size := F113.lt
    have lt118 : b102 < h111.size := F114.lt
    refine own_callV X116 hx hZ (y := (⟨"java/util/ArrayList", "add", "(Ljava/lang/Object;)Z"⟩ : MethodName)) (z := (⟨"java/util/ArrayList", "add", "(Ljava/lang/Object;)Z"⟩ : MethodName)) hown (hw _ (List.mem_of_getElem? (i := 35) rfl)) (hw _ (List.mem_of_getElem? (i := 36) rfl)) (notFace_of_selects (args := #[]) (mvT hZ (hw _ (List.mem_of_getElem? (i := 38) rfl)))) (hw _ (List.mem_of_getElem? (i := 38) rfl)) (hw _ (List.mem_of_getElem? (i := 37) rfl)) (hw _ (List.mem_of_getElem? (i := 4) rfl)) (hw _ (List.mem_of_getElem? (i := 39) rfl)) (by decide) (a := b102) F114 (argsL := [(.ref (ia 0))]) (rest := []) (rm := ({ frames := 4, cells := 1, slots := 10, locals := 56 } : Room)) (h := h111) (adB0 l Z a0 hw dce cac ia b102 (ia 0) h111 n0 Z115 F112 S_d V_d S_h S_c hL hE hV (Ins.of_exa (Exa.ext F112.2 (hE 0 (by decide))) (hw _ (List.mem_of_getElem? (i := 65) rfl))) F114 ge104 Fm111 Fe111 Fs111) e116 (W := 0) (by decide) (by decide) (by decide) (by decide) (g := (mkF m 47 #[.val (.long u), .second, .val (.int sz), .val (.int (1 : Int32)), .val (.ref b86), .val (.ref b102), .unset, .unset] [(.ref (ia 0)), (.ref b102)])) rfl (by rw [hml]; rfl) (lenOf pd_16 rfl) rfl (by show 2 * 0 + _ ≤ _; exact Nat.le_of_eq rfl) (hb hby at_47) (fun v119 T119 h119 L119 X119 e119 hQ119 => ?_)
    obtain ⟨ed, rfl, Nq119, Kq119, szed, ged, Fm119, Fe119, Fs119, Vq119, Oq119⟩ := hQ119
    have N119 := Fr.app N116 Nq119
    have F120 := Old.keep F112 Kq119 (allS ge104 all0)
    have F121 := OAr.keep F113 Kq119 (ninS ne103 nin0)
    have F122 := Exa.keep F114 Kq119
    have Z123 := Nat.le_trans Z115 Kq119.1
    have ne124 : b86 ≠ ed := Nat.ne_of_lt (Nat.lt_of_lt_of_le lt117 szed)
    have ne125 : b102 ≠ ed := Nat.ne_of_lt (Nat.lt_of_lt_of_le lt118 szed)
    show OwnWk _ _ _ _ (T119.setTop (mkF m 50 #[.val (.long u), .second, .val (.int sz), .val (.int (1 : Int32)), .val (.ref b86), .val (.ref b102), .unset, .unset] [(.int (1 : Int32))]))
    refine own_go (fun tgt kst => XS.pop X119.here hx rfl (hb hby at_50) rfl rfl kst) ?_
    show OwnWk _ _ _ _ (T119.setTop (mkF m 51 #[.val (.long u), .second, .val (.int sz), .val (.int (1 : Int32)), .val (.ref b86), .val (.ref b102), .unset, .unset] []))
    refine own_go (fun tgt kst => XS.iloadN X119.here hx rfl (hb hby at_51) rfl  kst) ?_
    show OwnWk _ _ _ _ (T119.setTop (mkF m 52 #[.val (.long u), .second, .val (.int sz), .val (.int (1 : Int32)), .val (.ref b86), .val (.ref b102), .unset, .unset] [(.int (1 : Int32))]))
    refine own_go (fun tgt kst => XS.iconst X119.here hx rfl (hb hby at_52) kst) ?_
    show OwnWk _ _ _ _ (T119.setTop (mkF m 53 #[.val (.long u), .second, .val (.int sz), .val (.int (1 : Int32)), .val (.ref b86), .val (.ref b102), .unset, .unset] [(.int (1 : Int32)), (.int (1 : Int32))]))
    refine own_go (fun tgt kst => XS.icmpYes X119.here hx rfl (pc0 := 53) (pc' := 66) rfl (hb hby at_53) rfl (flt (by decide : ¬ ((1 : Int32) < (1 : Int32)))).2.2.2 (by decide) (by decide) kst) ?_
    show OwnWk _ _ _ _ (T119.setTop (mkF m 66 #[.val (.long u), .second, .val (.int sz), .val (.int (1 : Int32)), .val (.ref b86), .val (.ref b102), .unset, .unset] []))
    refine own_go (fun tgt kst => XS.iloadN X119.here hx rfl (hb hby at_66) rfl  kst) ?_
    show OwnWk _ _ _ _ (T119.setTop (mkF m 67 #[.val (.long u), .second, .val (.int sz), .val (.int (1 : Int32)), .val (.ref b86), .val (.ref b102), .unset, .unset] [(.int (1 : Int32))]))
    refine own_go (fun tgt kst => XS.iconst X119.here hx rfl (hb hby at_67) kst) ?_
    show OwnWk _ _ _ _ (T119.setTop (mkF m 68 #[.val (.long u), .second, .val (.int sz), .val (.int (1 : Int32)), .val (.ref b86), .val (.ref b102), .unset, .unset] [(.int (2 : Int32)), (.int (1 : Int32))]))
    refine own_go (fun tgt kst => XS.icmpYes X119.here hx rfl (pc0 := 68) (pc' := 81) rfl (hb hby at_68) rfl (flt (by decide : ¬ ((2 : Int32) < (1 : Int32)))).2.2.2 (by decide) (by decide) kst) ?_
    show OwnWk _ _ _ _ (T119.setTop (mkF m 81 #[.val (.long u), .second, .val (.int sz), .val (.int (1 : Int32)), .val (.ref b86), .val (.ref b102), .unset, .unset] []))
    refine own_go (fun tgt kst => XS.iloadN X119.here hx rfl (hb hby at_81) rfl  kst) ?_
    show OwnWk _ _ _ _ (T119.setTop (mkF m 82 #[.val (.long u), .second, .val (.int sz), .val (.int (1 : Int32)), .val (.ref b86), .val (.ref b102), .unset, .unset] [(.int (1 : Int32))]))
    refine own_go (fun tgt kst => XS.iconst X119.here hx rfl (hb hby at_82) kst) ?_
    show OwnWk _ _ _ _ (T119.setTop (mkF m 83 #[.val (.long u), .second, .val (.int sz), .val (.int (1 : Int32)), .val (.ref b86), .val (.ref b102), .unset, .unset] [(.int (3 : Int32)), (.int (1 : Int32))]))
    refine own_go (fun tgt kst => XS.icmpYes X119.here hx rfl (pc0 := 83) (pc' := 96) rfl (hb hby at_83) rfl (flt (by decide : ¬ ((3 : Int32) < (1 : Int32)))).2.2.2 (by decide) (by decide) kst) ?_
    show OwnWk _ _ _ _ (T119.setTop (mkF m 96 #[.val (.long u), .second, .val (.int sz), .val (.int (1 : Int32)), .val (.ref b86), .val (.ref b102), .unset, .unset] []))
    obtain ⟨T126, h126, X126, e126, E126, A126, D126, -, st126⟩ := newO X119 hx hZ hown (hw _ (List.mem_of_getElem? (i := 66) rfl)) (hw _ (List.mem_of_getElem? (i := 67) rfl)) (hw _ (List.mem_of_getElem? (i := 68) rfl)) e119 (g := (mkF m 96 #[.val (.long u), .second, .val (.int sz), .val (.int (1 : Int32)), .val (.ref b86), .val (.ref b102), .unset, .unset] [])) rfl (hb hby at_96) (by decide) (by decide)
    obtain ⟨b126, g126⟩ : ∃ z, z = h119.size := ⟨_, rfl⟩
    rw [← g126] at A126 D126 st126
    refine own_go st126 ?_
    have ne127 : b86 ≠ b126 := Nat.ne_of_lt (Nat.lt_of_lt_of_le F121.lt (Nat.le_of_eq g126.symm))
    have ne128 : b102 ≠ b126 := Nat.ne_of_lt (Nat.lt_of_lt_of_le F122.lt (Nat.le_of_eq g126.symm))
    have ne129 : ed ≠ b126 := Nat.ne_of_lt (Nat.lt_of_lt_of_le Vq119.lt (Nat.le_of_eq g126.symm))
    have ge130 : n0 ≤ b126 := Nat.le_trans Z123 (Nat.le_of_eq g126.symm)
    have F131 := Old.ext F120 E126
    have F132 := OAr.ext F121 E126
    have F133 := Exa.ext E126 F122
    have F134 := Fld.ext E126 Fm119
    have F135 := Fld.ext E126 Fe119
    have F136 := Fld.ext E126 Fs119
    have F137 := OAr.ext Vq119 E126
    have F138 := OOv.ext E126 Oq119
    have Z139 := Nat.le_trans Z123 E126.1
    have F140 : Fld Z h126 b126 "com/example/spikeline/spikeline/core/SeededRandom" "state" "J" (.long (0 : Int64)) := D126 (Or.inl (hw _ (List.mem_of_getElem? (i := 74) rfl))) (ty := .long) (by decide)
    show OwnWk _ _ _ _ (T126.setTop (mkF m 99 #[.val (.long u), .second, .val (.int sz), .val (.int (1 : Int32)), .val (.ref b86), .val (.ref b102), .unset, .unset] [(.ref b126)]))
    refine own_go (fun tgt kst => XS.dup X126.here hx rfl (hb hby at_99) rfl rfl kst) ?_
    show OwnWk _ _ _ _ (T126.setTop (mkF m 100 #[.val (.long u), .second, .val (.int sz), .val (.int (1 : Int32)), .val (.ref b86), .val (.ref b102), .unset, .unset] [(.ref b126), (.ref b126)]))
    refine own_go (fun tgt kst => XS.lloadN X126.here hx rfl (hb hby at_100) rfl  kst) ?_
    show OwnWk _ _ _ _ (T126.setTop (mkF m 101 #[.val (.long u), .second, .val (.int sz), .val (.int (1 : Int32)), .val (.ref b86), .val (.ref b102), .unset, .unset] [(.long u), (.ref b126), (.ref b126)]))
    refine own_callC X126 hx hZ (y := (⟨"com/example/spikeline/spikeline/core/SeededRandom", "<init>", "(J)V"⟩ : MethodName)) hown rfl (hw _ (List.mem_of_getElem? (i := 69) rfl)) (hw _ (List.mem_of_getElem? (i := 70) rfl)) (hw _ (List.mem_of_getElem? (i := 68) rfl)) (hw _ (List.mem_of_getElem? (i := 71) rfl)) (by decide) (a := b126) (argsL := [(.long u)]) (rest := [(.ref b126)]) (rm := ({ frames := 1, cells := 0, slots := 0, locals := 12 } : Room)) (h := h126) (rm11 l Z a0 hw b126 u h126 n0 Z139 F140 A126 ge130) e126 (W := 1) (by decide) (by decide) (by decide) (by decide) (g := (mkF m 101 #[.val (.long u), .second, .val (.int sz), .val (.int (1 : Int32)), .val (.ref b86), .val (.ref b102), .unset, .unset] [(.long u), (.ref b126), (.ref b126)])) rfl (by rw [hml]; rfl) (lenOf pd_12 rfl) rfl (by show 2 * 0 + _ ≤ _; exact Nat.le_of_eq rfl) (hb hby at_101) (fun v141 T141 h141 L141 X141 e141 hQ141 => ?_)
    obtain ⟨rfl, Nq141, Kq141, Fq141⟩ := hQ141
    have N141 := Fr.app N119 Nq141
    have F142 := Old.keep F131 Kq141 (allS ge130 all0)
    have F143 := OAr.keep F132 Kq141 (ninS ne127 nin0)
    have F144 := Exa.keep F133 Kq141
    have F145 := Fld.keep F134 Kq141 (ninS ne128 nin0)
    have F146 := Fld.keep F135 Kq141 (ninS ne128 nin0)
    have F147 := Fld.keep F136 Kq141 (ninS ne128 nin0)
    have F148 := OAr.keep F137 Kq141 (ninS ne129 nin0)
    have F149 := OOv.keep F138 Kq141
    have F150 := Exa.keep A126 Kq141
    have Z151 := Nat.le_trans Z139 Kq141.1
    show OwnWk _ _ _ _ (T141.setTop (mkF m 104 #[.val (.long u), .second, .val (.int sz), .val (.int (1 : Int32)), .val (.ref b86), .val (.ref b102), .unset, .unset] [(.ref b126)]))
    refine own_go (fun tgt kst => XS.astore X141.here hx rfl (hb hby at_104) rfl rfl (l' := #[.val (.long u), .second, .val (.int sz), .val (.int (1 : Int32)), .val (.ref b86), .val (.ref b102), .val (.ref b126), .unset]) rfl kst) ?_
    show OwnWk _ _ _ _ (T141.setTop (mkF m 106 #[.val (.long u), .second, .val (.int sz), .val (.int (1 : Int32)), .val (.ref b86), .val (.ref b102), .val (.ref b126), .unset] []))
    refine own_go (fun tgt kst => XS.aload X141.here hx rfl (hb hby at_106) rfl rfl  kst) ?_
    show OwnWk _ _ _ _ (T141.setTop (mkF m 108 #[.val (.long u), .second, .val (.int sz), .val (.int (1 : Int32)), .val (.ref b86), .val (.ref b102), .val (.ref b126), .unset] [(.ref b126)]))
    refine own_go (fun tgt kst => XS.aload X141.here hx rfl (hb hby at_108) rfl rfl  kst) ?_
    show OwnWk _ _ _ _ (T141.setTop (mkF m 110 #[.val (.long u), .second, .val (.int sz), .val (.int (1 : Int32)), .val (.ref b86), .val (.ref b102), .val (.ref b126), .unset] [(.ref b102), (.ref b126)]))
    refine own_callV X141 hx hZ (y := (⟨"com/example/spikeline/spikeline/core/SeededRandom", "shuffle", "(Ljava/util/List;)V"⟩ : MethodName)) (z := (⟨"com/example/spikeline/spikeline/core/SeededRandom", "shuffle", "(Ljava/util/List;)V"⟩ : MethodName)) hown (hw _ (List.mem_of_getElem? (i := 75) rfl)) (hw _ (List.mem_of_getElem? (i := 76) rfl)) (notFace_of_selects (args := #[]) (mvT hZ (hw _ (List.mem_of_getElem? (i := 78) rfl)))) (hw _ (List.mem_of_getElem? (i := 78) rfl)) (hw _ (List.mem_of_getElem? (i := 77) rfl)) (hw _ (List.mem_of_getElem? (i := 68) rfl)) (hw _ (List.mem_of_getElem? (i := 79) rfl)) (by decide) (a := b126) F150 (argsL := [(.ref b102)]) (rest := []) (rm := ({ frames := 1, cells := 0, slots := 0, locals := 12 } : Room)) (h := h141) (shf1 l Z a0 hw dce cac ia b126 b102 ed u [0] h141 n0 Z151 F142 S_d V_d S_h S_c hL hE hV Fq141 F150 ge130 F144 F147) e141 (W := 0) (by decide) (by decide) (by decide) (by decide) (g := (mkF m 110 #[.val (.long u), .second, .val (.int sz), .val (.int (1 : Int32)), .val (.ref b86), .val (.ref b102), .val (.ref b126), .unset] [(.ref b102), (.ref b126)])) rfl (by rw [hml]; rfl) (lenOf pd_13 rfl) rfl (by show 2 * 0 + _ ≤ _; exact Nat.le_of_eq rfl) (hb hby at_110) (fun v152 T152 h152 L152 X152 e152 hQ152 => ?_)
    obtain ⟨rfl, Nq152, q152⟩ := hQ152
    have N152 := Fr.app N141 Nq152
    rw [q152] at e152
    show OwnWk _ _ _ _ (T152.setTop (mkF m 113 #[.val (.long u), .second, .val (.int sz), .val (.int (1 : Int32)), .val (.ref b86), .val (.ref b102), .val (.ref b126), .unset] []))
    obtain ⟨T153, h153, X153, e153, E153, A153, D153, -, st153⟩ := newO X152 hx hZ hown (hw _ (List.mem_of_getElem? (i := 66) rfl)) (hw _ (List.mem_of_getElem? (i := 67) rfl)) (hw _ (List.mem_of_getElem? (i := 68) rfl)) e152 (g := (mkF m 113 #[.val (.long u), .second, .val (.int sz), .val (.int (1 : Int32)), .val (.ref b86), .val (.ref b102), .val (.ref b126), .unset] [])) rfl (hb hby at_113) (by decide) (by decide)
    obtain ⟨b153, g153⟩ : ∃ z, z = h141.size := ⟨_, rfl⟩
    rw [← g153] at A153 D153 st153
    refine own_go st153 ?_
    have ne154 : b86 ≠ b153 := Nat.ne_of_lt (Nat.lt_of_lt_of_le F143.lt (Nat.le_of_eq g153.symm))
    have ne155 : b102 ≠ b153 := Nat.ne_of_lt (Nat.lt_of_lt_of_le F144.lt (Nat.le_of_eq g153.symm))
    have ne156 : ed ≠ b153 := Nat.ne_of_lt (Nat.lt_of_lt_of_le F148.lt (Nat.le_of_eq g153.symm))
    have ne157 : b126 ≠ b153 := Nat.ne_of_lt (Nat.lt_of_lt_of_le F150.lt (Nat.le_of_eq g153.symm))
    have ge158 : n0 ≤ b153 := Nat.le_trans Z151 (Nat.le_of_eq g153.symm)
    have F159 := Old.ext F142 E153
    have F160 := OAr.ext F143 E153
    have F161 := Exa.ext E153 F144
    have F162 := Fld.ext E153 F145
    have F163 := Fld.ext E153 F146
    have F164 := Fld.ext E153 F147
    have F165 := OAr.ext F148 E153
    have F166 := OOv.ext E153 F149
    have F167 := Exa.ext E153 F150
    have F168 := Fld.ext E153 Fq141
    have Z169 := Nat.le_trans Z151 E153.1
    have F170 : Fld Z h153 b153 "com/example/spikeline/spikeline/core/SeededRandom" "state" "J" (.long (0 : Int64)) := D153 (Or.inl (hw _ (List.mem_of_getElem? (i := 74) rfl))) (ty := .long) (by decide)
    show OwnWk _ _ _ _ (T153.setTop (mkF m 116 #[.val (.long u), .second, .val (.int sz), .val (.int (1 : Int32)), .val (.ref b86), .val (.ref b102), .val (.ref b126), .unset] [(.ref b153)]))
    refine own_go (fun tgt kst => XS.dup X153.here hx rfl (hb hby at_116) rfl rfl kst) ?_
    show OwnWk _ _ _ _ (T153.setTop (mkF m 117 #[.val (.long u), .second, .val (.int sz), .val (.int (1 : Int32)), .val (.ref b86), .val (.ref b102), .val (.ref b126), .unset] [(.ref b153), (.ref b153)]))
    refine own_go (fun tgt kst => XS.lloadN X153.here hx rfl (hb hby at_117) rfl  kst) ?_
    show OwnWk _ _ _ _ (T153.setTop (mkF m 118 #[.val (.long u), .second, .val (.int sz), .val (.int (1 : Int32)), .val (.ref b86), .val (.ref b102), .val (.ref b126), .unset] [(.long u), (.ref b153), (.ref b153)]))
    refine own_callC X153 hx hZ (y := (⟨"com/example/spikeline/spikeline/core/SeededRandom", "<init>", "(J)V"⟩ : MethodName)) hown rfl (hw _ (List.mem_of_getElem? (i := 69) rfl)) (hw _ (List.mem_of_getElem? (i := 70) rfl)) (hw _ (List.mem_of_getElem? (i := 68) rfl)) (hw _ (List.mem_of_getElem? (i := 71) rfl)) (by decide) (a := b153) (argsL := [(.long u)]) (rest := [(.ref b153)]) (rm := ({ frames := 1, cells := 0, slots := 0, locals := 12 } : Room)) (h := h153) (rm11 l Z a0 hw b153 u h153 n0 Z169 F170 A153 ge158) e153 (W := 1) (by decide) (by decide) (by decide) (by decide) (g := (mkF m 118 #[.val (.long u), .second, .val (.int sz), .val (.int (1 : Int32)), .val (.ref b86), .val (.ref b102), .val (.ref b126), .unset] [(.long u), (.ref b153), (.ref b153)])) rfl (by rw [hml]; rfl) (lenOf pd_12 rfl) rfl (by show 2 * 0 + _ ≤ _; exact Nat.le_of_eq rfl) (hb hby at_118) (fun v171 T171 h171 L171 X171 e171 hQ171 => ?_)
    obtain ⟨rfl, Nq171, Kq171, Fq171⟩ := hQ171
    have N171 := Fr.app N152 Nq171
    have F172 := Old.keep F159 Kq171 (allS ge158 all0)
    have F173 := OAr.keep F160 Kq171 (ninS ne154 nin0)
    have F174 := Exa.keep F161 Kq171
    have F175 := Fld.keep F162 Kq171 (ninS ne155 nin0)
    have F176 := Fld.keep F163 Kq171 (ninS ne155 nin0)
    have F177 := Fld.keep F164 Kq171 (ninS ne155 nin0)
    have F178 := OAr.keep F165 Kq171 (ninS ne156 nin0)
    have F179 := OOv.keep F166 Kq171
    have F180 := Exa.keep F167 Kq171
    have F181 := Fld.keep F168 Kq171 (ninS ne157 nin0)
    have F182 := Exa.keep A153 Kq171
    have Z183 := Nat.le_trans Z169 Kq171.1
    show OwnWk _ _ _ _ (T171.setTop (mkF m 121 #[.val (.long u), .second, .val (.int sz), .val (.int (1 : Int32)), .val (.ref b86), .val (.ref b102), .val (.ref b126), .unset] [(.ref b153)]))
    refine own_go (fun tgt kst => XS.astore X171.here hx rfl (hb hby at_121) rfl rfl (l' := #[.val (.long u), .second, .val (.int sz), .val (.int (1 : Int32)), .val (.ref b86), .val (.ref b102), .val (.ref b126), .val (.ref b153)]) rfl kst) ?_
    show OwnWk _ _ _ _ (T171.setTop (mkF m 123 #[.val (.long u), .second, .val (.int sz), .val (.int (1 : Int32)), .val (.ref b86), .val (.ref b102), .val (.ref b126), .val (.ref b153)] []))
    refine own_go (fun tgt kst => XS.iloadN X171.here hx rfl (hb hby at_123) rfl  kst) ?_
    show OwnWk _ _ _ _ (T171.setTop (mkF m 124 #[.val (.long u), .second, .val (.int sz), .val (.int (1 : Int32)), .val (.ref b86), .val (.ref b102), .val (.ref b126), .val (.ref b153)] [(.int (1 : Int32))]))
    refine own_go (fun tgt kst => XS.iconst X171.here hx rfl (hb hby at_124) kst) ?_
    show OwnWk _ _ _ _ (T171.setTop (mkF m 125 #[.val (.long u), .second, .val (.int sz), .val (.int (1 : Int32)), .val (.ref b86), .val (.ref b102), .val (.ref b126), .val (.ref b153)] [(.int (4 : Int32)), (.int (1 : Int32))]))
    refine own_go (fun tgt kst => XS.icmpYes X171.here hx rfl (pc0 := 125) (pc' := 140) rfl (hb hby at_125) rfl (tlt (by decide : (1 : Int32) < (4 : Int32))).1 (by decide) (by decide) kst) ?_
    show OwnWk _ _ _ _ (T171.setTop (mkF m 140 #[.val (.long u), .second, .val (.int sz), .val (.int (1 : Int32)), .val (.ref b86), .val (.ref b102), .val (.ref b126), .val (.ref b153)] []))
    refine own_go (fun tgt kst => XS.iloadN X171.here hx rfl (hb hby at_140) rfl  kst) ?_
    show OwnWk _ _ _ _ (T171.setTop (mkF m 141 #[.val (.long u), .second, .val (.int sz), .val (.int (1 : Int32)), .val (.ref b86), .val (.ref b102), .val (.ref b126), .val (.ref b153)] [(.int (1 : Int32))]))
    refine own_go (fun tgt kst => XS.iconst X171.here hx rfl (hb hby at_141) kst) ?_
    show OwnWk _ _ _ _ (T171.setTop (mkF m 142 #[.val (.long u), .second, .val (.int sz), .val (.int (1 : Int32)), .val (.ref b86), .val (.ref b102), .val (.ref b126), .val (.ref b153)] [(.int (3 : Int32)), (.int (1 : Int32))]))
    refine own_go (fun tgt kst => XS.icmpYes X171.here hx rfl (pc0 := 142) (pc' := 157) rfl (hb hby at_142) rfl (tlt (by decide : (1 : Int32) < (3 : Int32))).1 (by decide) (by decide) kst) ?_
    show OwnWk _ _ _ _ (T171.setTop (mkF m 157 #[.val (.long u), .second, .val (.int sz), .val (.int (1 : Int32)), .val (.ref b86), .val (.ref b102), .val (.ref b126), .val (.ref b153)] []))
    refine own_go (fun tgt kst => XS.iloadN X171.here hx rfl (hb hby at_157) rfl  kst) ?_
    show OwnWk _ _ _ _ (T171.setTop (mkF m 158 #[.val (.long u), .second, .val (.int sz), .val (.int (1 : Int32)), .val (.ref b86), .val (.ref b102), .val (.ref b126), .val (.ref b153)] [(.int (1 : Int32))]))
    refine own_go (fun tgt kst => XS.iconst X171.here hx rfl (hb hby at_158) kst) ?_
    show OwnWk _ _ _ _ (T171.setTop (mkF m 159 #[.val (.long u), .second, .val (.int sz), .val (.int (1 : Int32)), .val (.ref b86), .val (.ref b102), .val (.ref b126), .val (.ref b153)] [(.int (2 : Int32)), (.int (1 : Int32))]))
    refine own_go (fun tgt kst => XS.icmpYes X171.here hx rfl (pc0 := 159) (pc' := 174) rfl (hb hby at_159) rfl (tlt (by decide : (1 : Int32) < (2 : Int32))).1 (by decide) (by decide) kst) ?_
    show OwnWk _ _ _ _ (T171.setTop (mkF m 174 #[.val (.long u), .second, .val (.int sz), .val (.int (1 : Int32)), .val (.ref b86), .val (.ref b102), .val (.ref b126), .val (.ref b153)] []))
    refine own_go (fun tgt kst => XS.aload X171.here hx rfl (hb hby at_174) rfl rfl  kst) ?_
    show OwnWk _ _ _ _ (T171.setTop (mkF m 176 #[.val (.long u), .second, .val (.int sz), .val (.int (1 : Int32)), .val (.ref b86), .val (.ref b102), .val (.ref b126), .val (.ref b153)] [(.ref b102)]))
    refine own_callV X171 hx hZ (y := (⟨"java/util/ArrayList", "size", "()I"⟩ : MethodName)) (z := (⟨"java/util/ArrayList", "size", "()I"⟩ : MethodName)) hown (hw _ (List.mem_of_getElem? (i := 141) rfl)) (hw _ (List.mem_of_getElem? (i := 142) rfl)) (notFace_of_selects (args := #[]) (mvT hZ (hw _ (List.mem_of_getElem? (i := 143) rfl)))) (hw _ (List.mem_of_getElem? (i := 143) rfl)) (hw _ (List.mem_of_getElem? (i := 84) rfl)) (hw _ (List.mem_of_getElem? (i := 4) rfl)) (hw _ (List.mem_of_getElem? (i := 88) rfl)) (by decide) (a := b102) F174 (argsL := []) (rest := []) (rm := ({ frames := 0, cells := 0, slots := 0, locals := 0 } : Room)) (h := h171) (rm13 l Z a0 hw b102 (1 : Int32) h171 n0 Z183 F177) e171 (W := 0) (by decide) (by decide) (by decide) (by decide) (g := (mkF m 176 #[.val (.long u), .second, .val (.int sz), .val (.int (1 : Int32)), .val (.ref b86), .val (.ref b102), .val (.ref b126), .val (.ref b153)] [(.ref b102)])) rfl (by rw [hml]; rfl) (lenOf pd_9 rfl) rfl (by show 2 * 0 + _ ≤ _; exact Nat.le_of_eq rfl) (hb hby at_176) (fun v184 T184 h184 L184 X184 e184 hQ184 => ?_)
    obtain ⟨rfl, Nq184, q184⟩ := hQ184
    have N184 := Fr.app N171 Nq184
    rw [q184] at e184
    show OwnWk _ _ _ _ (T184.setTop (mkF m 179 #[.val (.long u), .second, .val (.int sz), .val (.int (1 : Int32)), .val (.ref b86), .val (.ref b102), .val (.ref b126), .val (.ref b153)] [(.int (1 : Int32))]))
    refine own_go (fun tgt kst => XS.iloadN X184.here hx rfl (hb hby at_179) rfl  kst) ?_
    show OwnWk _ _ _ _ (T184.setTop (mkF m 180 #[.val (.long u), .second, .val (.int sz), .val (.int (1 : Int32)), .val (.ref b86), .val (.ref b102), .val (.ref b126), .val (.ref b153)] [(.int (1 : Int32)), (.int (1 : Int32))]))
    refine own_go (fun tgt kst => XS.icmpYes X184.here hx rfl (pc0 := 180) (pc' := 185) rfl (hb hby at_180) rfl (teq (by decide : (1 : Int32) = (1 : Int32))).1 (by decide) (by decide) kst) ?_
    show OwnWk _ _ _ _ (T184.setTop (mkF m 185 #[.val (.long u), .second, .val (.int sz), .val (.int (1 : Int32)), .val (.ref b86), .val (.ref b102), .val (.ref b126), .val (.ref b153)] []))
    refine own_go (fun tgt kst => XS.aload X184.here hx rfl (hb hby at_185) rfl rfl  kst) ?_
    show OwnWk _ _ _ _ (T184.setTop (mkF m 187 #[.val (.long u), .second, .val (.int sz), .val (.int (1 : Int32)), .val (.ref b86), .val (.ref b102), .val (.ref b126), .val (.ref b153)] [(.ref b126)]))
    refine own_callV X184 hx hZ (y := (⟨"com/example/spikeline/spikeline/core/SeededRandom", "state", "()J"⟩ : MethodName)) (z := (⟨"com/example/spikeline/spikeline/core/SeededRandom", "state", "()J"⟩ : MethodName)) hown (hw _ (List.mem_of_getElem? (i := 144) rfl)) (hw _ (List.mem_of_getElem? (i := 145) rfl)) (notFace_of_selects (args := #[]) (mvT hZ (hw _ (List.mem_of_getElem? (i := 147) rfl)))) (hw _ (List.mem_of_getElem? (i := 147) rfl)) (hw _ (List.mem_of_getElem? (i := 146) rfl)) (hw _ (List.mem_of_getElem? (i := 68) rfl)) (hw _ (List.mem_of_getElem? (i := 148) rfl)) (by decide) (a := b126) F180 (argsL := []) (rest := []) (rm := ({ frames := 0, cells := 0, slots := 0, locals := 0 } : Room)) (h := h171) (rm23 l Z a0 hw b126 u h171 n0 Z183 F181) e184 (W := 0) (by decide) (by decide) (by decide) (by decide) (g := (mkF m 187 #[.val (.long u), .second, .val (.int sz), .val (.int (1 : Int32)), .val (.ref b86), .val (.ref b102), .val (.ref b126), .val (.ref b153)] [(.ref b126)])) rfl (by rw [hml]; rfl) (lenOf pd_8 rfl) rfl (by show 2 * 0 + _ ≤ _; exact Nat.le_of_eq rfl) (hb hby at_187) (fun v185 T185 h185 L185 X185 e185 hQ185 => ?_)
    obtain ⟨rfl, Nq185, q185⟩ := hQ185
    have N185 := Fr.app N184 Nq185
    rw [q185] at e185
    show OwnWk _ _ _ _ (T185.setTop (mkF m 190 #[.val (.long u), .second, .val (.int sz), .val (.int (1 : Int32)), .val (.ref b86), .val (.ref b102), .val (.ref b126), .val (.ref b153)] [(.long u)]))
    refine own_go (fun tgt kst => XS.aload X185.here hx rfl (hb hby at_190) rfl rfl  kst) ?_
    show OwnWk _ _ _ _ (T185.setTop (mkF m 192 #[.val (.long u), .second, .val (.int sz), .val (.int (1 : Int32)), .val (.ref b86), .val (.ref b102), .val (.ref b126), .val (.ref b153)] [(.ref b153), (.long u)]))
    refine own_callV X185 hx hZ (y := (⟨"com/example/spikeline/spikeline/core/SeededRandom", "state", "()J"⟩ : MethodName)) (z := (⟨"com/example/spikeline/spikeline/core/SeededRandom", "state", "()J"⟩ : MethodName)) hown (hw _ (List.mem_of_getElem? (i := 144) rfl)) (hw _ (List.mem_of_getElem? (i := 145) rfl)) (notFace_of_selects (args := #[]) (mvT hZ (hw _ (List.mem_of_getElem? (i := 147) rfl)))) (hw _ (List.mem_of_getElem? (i := 147) rfl)) (hw _ (List.mem_of_getElem? (i := 146) rfl)) (hw _ (List.mem_of_getElem? (i := 68) rfl)) (hw _ (List.mem_of_getElem? (i := 148) rfl)) (by decide) (a := b153) F182 (argsL := []) (rest := [(.long u)]) (rm := ({ frames := 0, cells := 0, slots := 0, locals := 0 } : Room)) (h := h171) (rm23 l Z a0 hw b153 u h171 n0 Z183 Fq171) e185 (W := 2) (by decide) (by decide) (by decide) (by decide) (g := (mkF m 192 #[.val (.long u), .second, .val (.int sz), .val (.int (1 : Int32)), .val (.ref b86), .val (.ref b102), .val (.ref b126), .val (.ref b153)] [(.ref b153), (.long u)])) rfl (by rw [hml]; rfl) (lenOf pd_8 rfl) rfl (by show 2 * 0 + _ ≤ _; exact Nat.le_of_eq rfl) (hb hby at_192) (fun v186 T186 h186 L186 X186 e186 hQ186 => ?_)
    obtain ⟨rfl, Nq186, q186⟩ := hQ186
    have N186 := Fr.app N185 Nq186
    rw [q186] at e186
    show OwnWk _ _ _ _ (T186.setTop (mkF m 195 #[.val (.long u), .second, .val (.int sz), .val (.int (1 : Int32)), .val (.ref b86), .val (.ref b102), .val (.ref b126), .val (.ref b153)] [(.long u), (.long u)]))
    refine own_go (fun tgt kst => XS.lcmp X186.here hx rfl (hb hby at_195) rfl kst) ?_
    show OwnWk _ _ _ _ (T186.setTop (mkF m 196 #[.val (.long u), .second, .val (.int sz), .val (.int (1 : Int32)), .val (.ref b86), .val (.ref b102), .val (.ref b126), .val (.ref b153)] [(.int (lcmpW u u))]))
    refine own_go (fun tgt kst => XS.ifYes X186.here hx rfl (pc0 := 196) (pc' := 201) rfl (hb hby at_196) rfl ((if0 _ _).trans (teq (own_lc_eq.mpr rfl)).1) (by decide) (by decide) kst) ?_
    show OwnWk _ _ _ _ (T186.setTop (mkF m 201 #[.val (.long u), .second, .val (.int sz), .val (.int (1 : Int32)), .val (.ref b86), .val (.ref b102), .val (.ref b126), .val (.ref b153)] []))
    refine own_go (fun tgt kst => XS.aload X186.here hx rfl (hb hby at_201) rfl rfl  kst) ?_
    show OwnWk _ _ _ _ (T186.setTop (mkF m 203 #[.val (.long u), .second, .val (.int sz), .val (.int (1 : Int32)), .val (.ref b86), .val (.ref b102), .val (.ref b126), .val (.ref b153)] [(.ref b102)]))
    refine own_go (fun tgt kst => XS.aload X186.here hx rfl (hb hby at_203) rfl rfl  kst) ?_
    show OwnWk _ _ _ _ (T186.setTop (mkF m 205 #[.val (.long u), .second, .val (.int sz), .val (.int (1 : Int32)), .val (.ref b86), .val (.ref b102), .val (.ref b126), .val (.ref b153)] [(.ref b86), (.ref b102)]))
    refine own_go (fun tgt kst => XS.iconst X186.here hx rfl (hb hby at_205) kst) ?_
    show OwnWk _ _ _ _ (T186.setTop (mkF m 206 #[.val (.long u), .second, .val (.int sz), .val (.int (1 : Int32)), .val (.ref b86), .val (.ref b102), .val (.ref b126), .val (.ref b153)] [(.int (0 : Int32)), (.ref b86), (.ref b102)]))
    refine own_go (fun tgt kst => XS.iloadN X186.here hx rfl (hb hby at_206) rfl  kst) ?_
    show OwnWk _ _ _ _ (T186.setTop (mkF m 207 #[.val (.long u), .second, .val (.int sz), .val (.int (1 : Int32)), .val (.ref b86), .val (.ref b102), .val (.ref b126), .val (.ref b153)] [(.int (1 : Int32)), (.int (0 : Int32)), (.ref b86), (.ref b102)]))
    refine own_callS X186 hx hZ (y := (⟨"com/example/spikeline/spikeline/core/SeededRandomShufflePinLaw", "same", "(Ljava/util/ArrayList;[III)Z"⟩ : MethodName)) hown (hw _ (List.mem_of_getElem? (i := 149) rfl)) (hw _ (List.mem_of_getElem? (i := 150) rfl)) (hw _ (List.mem_of_getElem? (i := 139) rfl)) (hw _ (List.mem_of_getElem? (i := 151) rfl)) (by decide) (argsL := [(.ref b102), (.ref b86), (.int (0 : Int32)), (.int (1 : Int32))]) (rest := []) (rm := ({ frames := 3, cells := 0, slots := 0, locals := 40 } : Room)) (h := h171) (smI l Z a0 hw dce cac ia b102 ed b86 [0] [0, 1, 2, 3] 0 1 h171 n0 Z183 F172 S_d V_d S_h S_c hL hE hV F174 F177 F176 F178 F173 (by decide) rfl (by decide) (by decide) rfl) e186 (W := 0) (by decide) (by decide) (by decide) (by decide) (g := (mkF m 207 #[.val (.long u), .second, .val (.int sz), .val (.int (1 : Int32)), .val (.ref b86), .val (.ref b102), .val (.ref b126), .val (.ref b153)] [(.int (1 : Int32)), (.int (0 : Int32)), (.ref b86), (.ref b102)])) rfl (by rw [hml]; rfl) (lenOf pd_14 rfl) rfl (by show 2 * 0 + _ ≤ _; exact Nat.le_of_eq rfl) (hb hby at_207) (fun v187 T187 h187 L187 X187 e187 hQ187 => ?_)
    obtain ⟨rfl, Nq187, q187⟩ := hQ187
    have N187 := Fr.app N186 Nq187
    rw [q187] at e187
    show OwnWk _ _ _ _ (T187.setTop (mkF m 210 #[.val (.long u), .second, .val (.int sz), .val (.int (1 : Int32)), .val (.ref b86), .val (.ref b102), .val (.ref b126), .val (.ref b153)] [(.int (own_same [0] [0, 1, 2, 3] 0))]))
    refine own_go (fun tgt kst => XS.ifNo X187.here hx rfl (hb hby at_210) rfl ((if0 _ _).trans (feq (by rw [own_fin1  0 (by decide)]; decide)).1) kst) ?_
    show OwnWk _ _ _ _ (T187.setTop (mkF m 213 #[.val (.long u), .second, .val (.int sz), .val (.int (1 : Int32)), .val (.ref b86), .val (.ref b102), .val (.ref b126), .val (.ref b153)] []))
    refine own_go (fun tgt kst => XS.aload X187.here hx rfl (hb hby at_213) rfl rfl  kst) ?_
    show OwnWk _ _ _ _ (T187.setTop (mkF m 215 #[.val (.long u), .second, .val (.int sz), .val (.int (1 : Int32)), .val (.ref b86), .val (.ref b102), .val (.ref b126), .val (.ref b153)] [(.ref b102)]))
    refine own_go (fun tgt kst => XS.aload X187.here hx rfl (hb hby at_215) rfl rfl  kst) ?_
    show OwnWk _ _ _ _ (T187.setTop (mkF m 217 #[.val (.long u), .second, .val (.int sz), .val (.int (1 : Int32)), .val (.ref b86), .val (.ref b102), .val (.ref b126), .val (.ref b153)] [(.ref b86), (.ref b102)]))
    refine own_go (fun tgt kst => XS.iconst X187.here hx rfl (hb hby at_217) kst) ?_
    show OwnWk _ _ _ _ (T187.setTop (mkF m 218 #[.val (.long u), .second, .val (.int sz), .val (.int (1 : Int32)), .val (.ref b86), .val (.ref b102), .val (.ref b126), .val (.ref b153)] [(.int (1 : Int32)), (.ref b86), (.ref b102)]))
    refine own_go (fun tgt kst => XS.iloadN X187.here hx rfl (hb hby at_218) rfl  kst) ?_
    show OwnWk _ _ _ _ (T187.setTop (mkF m 219 #[.val (.long u), .second, .val (.int sz), .val (.int (1 : Int32)), .val (.ref b86), .val (.ref b102), .val (.ref b126), .val (.ref b153)] [(.int (1 : Int32)), (.int (1 : Int32)), (.ref b86), (.ref b102)]))
    refine own_callS X187 hx hZ (y := (⟨"com/example/spikeline/spikeline/core/SeededRandomShufflePinLaw", "same", "(Ljava/util/ArrayList;[III)Z"⟩ : MethodName)) hown (hw _ (List.mem_of_getElem? (i := 149) rfl)) (hw _ (List.mem_of_getElem? (i := 150) rfl)) (hw _ (List.mem_of_getElem? (i := 139) rfl)) (hw _ (List.mem_of_getElem? (i := 151) rfl)) (by decide) (argsL := [(.ref b102), (.ref b86), (.int (1 : Int32)), (.int (1 : Int32))]) (rest := []) (rm := ({ frames := 0, cells := 0, slots := 0, locals := 0 } : Room)) (h := h171) (smO l Z a0 hw b102 b86 (1 : Int32) (1 : Int32) h171 n0 Z183 (by decide)) e187 (W := 0) (by decide) (by decide) (by decide) (by decide) (g := (mkF m 219 #[.val (.long u), .second, .val (.int sz), .val (.int (1 : Int32)), .val (.ref b86), .val (.ref b102), .val (.ref b126), .val (.ref b153)] [(.int (1 : Int32)), (.int (1 : Int32)), (.ref b86), (.ref b102)])) rfl (by rw [hml]; rfl) (lenOf pd_14 rfl) rfl (by show 2 * 0 + _ ≤ _; exact Nat.le_of_eq rfl) (hb hby at_219) (fun v188 T188 h188 L188 X188 e188 hQ188 => ?_)
    obtain ⟨rfl, Nq188, q188⟩ := hQ188
    have N188 := Fr.app N187 Nq188
    rw [q188] at e188
    show OwnWk _ _ _ _ (T188.setTop (mkF m 222 #[.val (.long u), .second, .val (.int sz), .val (.int (1 : Int32)), .val (.ref b86), .val (.ref b102), .val (.ref b126), .val (.ref b153)] [(.int (1 : Int32))]))
    refine own_go (fun tgt kst => XS.ifNo X188.here hx rfl (hb hby at_222) rfl ((if0 _ _).trans (feq (by decide : ¬ ((1 : Int32) = (0 : Int32)))).1) kst) ?_
    show OwnWk _ _ _ _ (T188.setTop (mkF m 225 #[.val (.long u), .second, .val (.int sz), .val (.int (1 : Int32)), .val (.ref b86), .val (.ref b102), .val (.ref b126), .val (.ref b153)] []))
    refine own_go (fun tgt kst => XS.aload X188.here hx rfl (hb hby at_225) rfl rfl  kst) ?_
    show OwnWk _ _ _ _ (T188.setTop (mkF m 227 #[.val (.long u), .second, .val (.int sz), .val (.int (1 : Int32)), .val (.ref b86), .val (.ref b102), .val (.ref b126), .val (.ref b153)] [(.ref b102)]))
    refine own_go (fun tgt kst => XS.aload X188.here hx rfl (hb hby at_227) rfl rfl  kst) ?_
    show OwnWk _ _ _ _ (T188.setTop (mkF m 229 #[.val (.long u), .second, .val (.int sz), .val (.int (1 : Int32)), .val (.ref b86), .val (.ref b102), .val (.ref b126), .val (.ref b153)] [(.ref b86), (.ref b102)]))
    refine own_go (fun tgt kst => XS.iconst X188.here hx rfl (hb hby at_229) kst) ?_
    show OwnWk _ _ _ _ (T188.setTop (mkF m 230 #[.val (.long u), .second, .val (.int sz), .val (.int (1 : Int32)), .val (.ref b86), .val (.ref b102), .val (.ref b126), .val (.ref b153)] [(.int (2 : Int32)), (.ref b86), (.ref b102)]))
    refine own_go (fun tgt kst => XS.iloadN X188.here hx rfl (hb hby at_230) rfl  kst) ?_
    show OwnWk _ _ _ _ (T188.setTop (mkF m 231 #[.val (.long u), .second, .val (.int sz), .val (.int (1 : Int32)), .val (.ref b86), .val (.ref b102), .val (.ref b126), .val (.ref b153)] [(.int (1 : Int32)), (.int (2 : Int32)), (.ref b86), (.ref b102)]))
    refine own_callS X188 hx hZ (y := (⟨"com/example/spikeline/spikeline/core/SeededRandomShufflePinLaw", "same", "(Ljava/util/ArrayList;[III)Z"⟩ : MethodName)) hown (hw _ (List.mem_of_getElem? (i := 149) rfl)) (hw _ (List.mem_of_getElem? (i := 150) rfl)) (hw _ (List.mem_of_getElem? (i := 139) rfl)) (hw _ (List.mem_of_getElem? (i := 151) rfl)) (by decide) (argsL := [(.ref b102), (.ref b86), (.int (2 : Int32)), (.int (1 : Int32))]) (rest := []) (rm := ({ frames := 0, cells := 0, slots := 0, locals := 0 } : Room)) (h := h171) (smO l Z a0 hw b102 b86 (2 : Int32) (1 : Int32) h171 n0 Z183 (by decide)) e188 (W := 0) (by decide) (by decide) (by decide) (by decide) (g := (mkF m 231 #[.val (.long u), .second, .val (.int sz), .val (.int (1 : Int32)), .val (.ref b86), .val (.ref b102), .val (.ref b126), .val (.ref b153)] [(.int (1 : Int32)), (.int (2 : Int32)), (.ref b86), (.ref b102)])) rfl (by rw [hml]; rfl) (lenOf pd_14 rfl) rfl (by show 2 * 0 + _ ≤ _; exact Nat.le_of_eq rfl) (hb hby at_231) (fun v189 T189 h189 L189 X189 e189 hQ189 => ?_)
    obtain ⟨rfl, Nq189, q189⟩ := hQ189
    have N189 := Fr.app N188 Nq189
    rw [q189] at e189
    show OwnWk _ _ _ _ (T189.setTop (mkF m 234 #[.val (.long u), .second, .val (.int sz), .val (.int (1 : Int32)), .val (.ref b86), .val (.ref b102), .val (.ref b126), .val (.ref b153)] [(.int (1 : Int32))]))
    refine own_go (fun tgt kst => XS.ifNo X189.here hx rfl (hb hby at_234) rfl ((if0 _ _).trans (feq (by decide : ¬ ((1 : Int32) = (0 : Int32)))).1) kst) ?_
    show OwnWk _ _ _ _ (T189.setTop (mkF m 237 #[.val (.long u), .second, .val (.int sz), .val (.int (1 : Int32)), .val (.ref b86), .val (.ref b102), .val (.ref b126), .val (.ref b153)] []))
    refine own_go (fun tgt kst => XS.aload X189.here hx rfl (hb hby at_237) rfl rfl  kst) ?_
    show OwnWk _ _ _ _ (T189.setTop (mkF m 239 #[.val (.long u), .second, .val (.int sz), .val (.int (1 : Int32)), .val (.ref b86), .val (.ref b102), .val (.ref b126), .val (.ref b153)] [(.ref b102)]))
    refine own_go (fun tgt kst => XS.aload X189.here hx rfl (hb hby at_239) rfl rfl  kst) ?_
    show OwnWk _ _ _ _ (T189.setTop (mkF m 241 #[.val (.long u), .second, .val (.int sz), .val (.int (1 : Int32)), .val (.ref b86), .val (.ref b102), .val (.ref b126), .val (.ref b153)] [(.ref b86), (.ref b102)]))
    refine own_go (fun tgt kst => XS.iconst X189.here hx rfl (hb hby at_241) kst) ?_
    show OwnWk _ _ _ _ (T189.setTop (mkF m 242 #[.val (.long u), .second, .val (.int sz), .val (.int (1 : Int32)), .val (.ref b86), .val (.ref b102), .val (.ref b126), .val (.ref b153)] [(.int (3 : Int32)), (.ref b86), (.ref b102)]))
    refine own_go (fun tgt kst => XS.iloadN X189.here hx rfl (hb hby at_242) rfl  kst) ?_
    show OwnWk _ _ _ _ (T189.setTop (mkF m 243 #[.val (.long u), .second, .val (.int sz), .val (.int (1 : Int32)), .val (.ref b86), .val (.ref b102), .val (.ref b126), .val (.ref b153)] [(.int (1 : Int32)), (.int (3 : Int32)), (.ref b86), (.ref b102)]))
    refine own_callS X189 hx hZ (y := (⟨"com/example/spikeline/spikeline/core/SeededRandomShufflePinLaw", "same", "(Ljava/util/ArrayList;[III)Z"⟩ : MethodName)) hown (hw _ (List.mem_of_getElem? (i := 149) rfl)) (hw _ (List.mem_of_getElem? (i := 150) rfl)) (hw _ (List.mem_of_getElem? (i := 139) rfl)) (hw _ (List.mem_of_getElem? (i := 151) rfl)) (by decide) (argsL := [(.ref b102), (.ref b86), (.int (3 : Int32)), (.int (1 : Int32))]) (rest := []) (rm := ({ frames := 0, cells := 0, slots := 0, locals := 0 } : Room)) (h := h171) (smO l Z a0 hw b102 b86 (3 : Int32) (1 : Int32) h171 n0 Z183 (by decide)) e189 (W := 0) (by decide) (by decide) (by decide) (by decide) (g := (mkF m 243 #[.val (.long u), .second, .val (.int sz), .val (.int (1 : Int32)), .val (.ref b86), .val (.ref b102), .val (.ref b126), .val (.ref b153)] [(.int (1 : Int32)), (.int (3 : Int32)), (.ref b86), (.ref b102)])) rfl (by rw [hml]; rfl) (lenOf pd_14 rfl) rfl (by show 2 * 0 + _ ≤ _; exact Nat.le_of_eq rfl) (hb hby at_243) (fun v190 T190 h190 L190 X190 e190 hQ190 => ?_)
    obtain ⟨rfl, Nq190, q190⟩ := hQ190
    have N190 := Fr.app N189 Nq190
    rw [q190] at e190
    show OwnWk _ _ _ _ (T190.setTop (mkF m 246 #[.val (.long u), .second, .val (.int sz), .val (.int (1 : Int32)), .val (.ref b86), .val (.ref b102), .val (.ref b126), .val (.ref b153)] [(.int (1 : Int32))]))
    refine own_go (fun tgt kst => XS.ifNo X190.here hx rfl (hb hby at_246) rfl ((if0 _ _).trans (feq (by decide : ¬ ((1 : Int32) = (0 : Int32)))).1) kst) ?_
    show OwnWk _ _ _ _ (T190.setTop (mkF m 249 #[.val (.long u), .second, .val (.int sz), .val (.int (1 : Int32)), .val (.ref b86), .val (.ref b102), .val (.ref b126), .val (.ref b153)] []))
    refine own_go (fun tgt kst => XS.iconst X190.here hx rfl (hb hby at_249) kst) ?_
    show OwnWk _ _ _ _ (T190.setTop (mkF m 250 #[.val (.long u), .second, .val (.int sz), .val (.int (1 : Int32)), .val (.ref b86), .val (.ref b102), .val (.ref b126), .val (.ref b153)] [(.int (1 : Int32))]))
    refine own_go (fun tgt kst => XS.goto X190.here hx rfl (pc0 := 250) (pc' := 254) rfl (hb hby at_250) (by decide) (by decide) kst) ?_
    show OwnWk _ _ _ _ (T190.setTop (mkF m 254 #[.val (.long u), .second, .val (.int sz), .val (.int (1 : Int32)), .val (.ref b86), .val (.ref b102), .val (.ref b126), .val (.ref b153)] [(.int (1 : Int32))]))
    exact own_retZ X190 hx hlk hret (by simp) (z' := (1 : Int32)) rfl (hb hby at_254) (by decide) (by decide) (by rw [e190]; exact ⟨rfl, N190⟩)
  ·
    show OwnWk _ _ _ _ (s₁.setTop (mkF m 6 #[.val (.long u), .second, .val (.int sz), .unset, .unset, .unset, .unset, .unset] [(.int (2 : Int32))]))
    refine own_go (fun tgt kst => XS.istoreN X0.here hx rfl (hb hby at_6) rfl (l' := #[.val (.long u), .second, .val (.int sz), .val (.int (2 : Int32)), .unset, .unset, .unset, .unset]) rfl kst) ?_
    show OwnWk _ _ _ _ (s₁.setTop (mkF m 7 #[.val (.long u), .second, .val (.int sz), .val (.int (2 : Int32)), .unset, .unset, .unset, .unset] []))
    refine own_go (fun tgt kst => XS.iconst X0.here hx rfl (hb hby at_7) kst) ?_
    show OwnWk _ _ _ _ (s₁.setTop (mkF m 8 #[.val (.long u), .second, .val (.int sz), .val (.int (2 : Int32)), .unset, .unset, .unset, .unset] [(.int (4 : Int32))]))
    refine own_newP X0 hx hZ (aty := .int) (hw _ (List.mem_of_getElem? (i := 1) rfl)) e0 (g := (mkF m 8 #[.val (.long u), .second, .val (.int sz), .val (.int (2 : Int32)), .unset, .unset, .unset, .unset] [(.int (4 : Int32))])) rfl (hb hby at_8) rfl (by decide) (cap := 4) (by decide) (by decide) (by decide) (by decide) (fun T191 h191 b191 X191 e191 g191 E191 V191 => ?_)
    have ge192 : n0 ≤ b191 := Nat.le_trans Z0 (Nat.le_of_eq g191.symm)
    have F193 := Old.ext O0 E191
    have Z194 := Nat.le_trans Z0 E191.1
    have V191b : OAr Z h191 b191 .int [(.int (0 : Int32)), (.int (0 : Int32)), (.int (0 : Int32)), (.int (0 : Int32))] := V191
    show OwnWk _ _ _ _ (T191.setTop (mkF m 10 #[.val (.long u), .second, .val (.int sz), .val (.int (2 : Int32)), .unset, .unset, .unset, .unset] [(.ref b191)]))
    refine own_go (fun tgt kst => XS.dup X191.here hx rfl (hb hby at_10) rfl rfl kst) ?_
    show OwnWk _ _ _ _ (T191.setTop (mkF m 11 #[.val (.long u), .second, .val (.int sz), .val (.int (2 : Int32)), .unset, .unset, .unset, .unset] [(.ref b191), (.ref b191)]))
    refine own_go (fun tgt kst => XS.iconst X191.here hx rfl (hb hby at_11) kst) ?_
    show OwnWk _ _ _ _ (T191.setTop (mkF m 12 #[.val (.long u), .second, .val (.int sz), .val (.int (2 : Int32)), .unset, .unset, .unset, .unset] [(.int (0 : Int32)), (.ref b191), (.ref b191)]))
    refine own_go (fun tgt kst => XS.iconst X191.here hx rfl (hb hby at_12) kst) ?_
    show OwnWk _ _ _ _ (T191.setTop (mkF m 13 #[.val (.long u), .second, .val (.int sz), .val (.int (2 : Int32)), .unset, .unset, .unset, .unset] [(.int (0 : Int32)), (.int (0 : Int32)), (.ref b191), (.ref b191)]))
    refine own_stI X191 hx hZ e191 V191b (g := (mkF m 13 #[.val (.long u), .second, .val (.int sz), .val (.int (2 : Int32)), .unset, .unset, .unset, .unset] [(.int (0 : Int32)), (.int (0 : Int32)), (.ref b191), (.ref b191)])) rfl rfl (hb hby at_13) (by decide) (Nat.le_of_ble_eq_true rfl) (fun T195 h195 X195 e195 W195 V195 => ?_)
    have N195 := Fr.snoc X195 N0 ge192
    have F196 := Old.wr F193 W195 ge192
    have Z197 := Nat.le_trans Z194 (Keep.of_wr W195).1
    show OwnWk _ _ _ _ (T195.setTop (mkF m 14 #[.val (.long u), .second, .val (.int sz), .val (.int (2 : Int32)), .unset, .unset, .unset, .unset] [(.ref b191)]))
    refine own_go (fun tgt kst => XS.dup X195.here hx rfl (hb hby at_14) rfl rfl kst) ?_
    show OwnWk _ _ _ _ (T195.setTop (mkF m 15 #[.val (.long u), .second, .val (.int sz), .val (.int (2 : Int32)), .unset, .unset, .unset, .unset] [(.ref b191), (.ref b191)]))
    refine own_go (fun tgt kst => XS.iconst X195.here hx rfl (hb hby at_15) kst) ?_
    show OwnWk _ _ _ _ (T195.setTop (mkF m 16 #[.val (.long u), .second, .val (.int sz), .val (.int (2 : Int32)), .unset, .unset, .unset, .unset] [(.int (1 : Int32)), (.ref b191), (.ref b191)]))
    refine own_go (fun tgt kst => XS.iconst X195.here hx rfl (hb hby at_16) kst) ?_
    show OwnWk _ _ _ _ (T195.setTop (mkF m 17 #[.val (.long u), .second, .val (.int sz), .val (.int (2 : Int32)), .unset, .unset, .unset, .unset] [(.int (1 : Int32)), (.int (1 : Int32)), (.ref b191), (.ref b191)]))
    refine own_stI X195 hx hZ e195 V195 (g := (mkF m 17 #[.val (.long u), .second, .val (.int sz), .val (.int (2 : Int32)), .unset, .unset, .unset, .unset] [(.int (1 : Int32)), (.int (1 : Int32)), (.ref b191), (.ref b191)])) rfl rfl (hb hby at_17) (by decide) (Nat.le_of_ble_eq_true rfl) (fun T198 h198 X198 e198 W198 V198 => ?_)
    have N198 := Fr.snoc X198 N195 ge192
    have F199 := Old.wr F196 W198 ge192
    have Z200 := Nat.le_trans Z197 (Keep.of_wr W198).1
    show OwnWk _ _ _ _ (T198.setTop (mkF m 18 #[.val (.long u), .second, .val (.int sz), .val (.int (2 : Int32)), .unset, .unset, .unset, .unset] [(.ref b191)]))
    refine own_go (fun tgt kst => XS.dup X198.here hx rfl (hb hby at_18) rfl rfl kst) ?_
    show OwnWk _ _ _ _ (T198.setTop (mkF m 19 #[.val (.long u), .second, .val (.int sz), .val (.int (2 : Int32)), .unset, .unset, .unset, .unset] [(.ref b191), (.ref b191)]))
    refine own_go (fun tgt kst => XS.iconst X198.here hx rfl (hb hby at_19) kst) ?_
    show OwnWk _ _ _ _ (T198.setTop (mkF m 20 #[.val (.long u), .second, .val (.int sz), .val (.int (2 : Int32)), .unset, .unset, .unset, .unset] [(.int (2 : Int32)), (.ref b191), (.ref b191)]))
    refine own_go (fun tgt kst => XS.iconst X198.here hx rfl (hb hby at_20) kst) ?_
    show OwnWk _ _ _ _ (T198.setTop (mkF m 21 #[.val (.long u), .second, .val (.int sz), .val (.int (2 : Int32)), .unset, .unset, .unset, .unset] [(.int (2 : Int32)), (.int (2 : Int32)), (.ref b191), (.ref b191)]))
    refine own_stI X198 hx hZ e198 V198 (g := (mkF m 21 #[.val (.long u), .second, .val (.int sz), .val (.int (2 : Int32)), .unset, .unset, .unset, .unset] [(.int (2 : Int32)), (.int (2 : Int32)), (.ref b191), (.ref b191)])) rfl rfl (hb hby at_21) (by decide) (Nat.le_of_ble_eq_true rfl) (fun T201 h201 X201 e201 W201 V201 => ?_)
    have N201 := Fr.snoc X201 N198 ge192
    have F202 := Old.wr F199 W201 ge192
    have Z203 := Nat.le_trans Z200 (Keep.of_wr W201).1
    show OwnWk _ _ _ _ (T201.setTop (mkF m 22 #[.val (.long u), .second, .val (.int sz), .val (.int (2 : Int32)), .unset, .unset, .unset, .unset] [(.ref b191)]))
    refine own_go (fun tgt kst => XS.dup X201.here hx rfl (hb hby at_22) rfl rfl kst) ?_
    show OwnWk _ _ _ _ (T201.setTop (mkF m 23 #[.val (.long u), .second, .val (.int sz), .val (.int (2 : Int32)), .unset, .unset, .unset, .unset] [(.ref b191), (.ref b191)]))
    refine own_go (fun tgt kst => XS.iconst X201.here hx rfl (hb hby at_23) kst) ?_
    show OwnWk _ _ _ _ (T201.setTop (mkF m 24 #[.val (.long u), .second, .val (.int sz), .val (.int (2 : Int32)), .unset, .unset, .unset, .unset] [(.int (3 : Int32)), (.ref b191), (.ref b191)]))
    refine own_go (fun tgt kst => XS.iconst X201.here hx rfl (hb hby at_24) kst) ?_
    show OwnWk _ _ _ _ (T201.setTop (mkF m 25 #[.val (.long u), .second, .val (.int sz), .val (.int (2 : Int32)), .unset, .unset, .unset, .unset] [(.int (3 : Int32)), (.int (3 : Int32)), (.ref b191), (.ref b191)]))
    refine own_stI X201 hx hZ e201 V201 (g := (mkF m 25 #[.val (.long u), .second, .val (.int sz), .val (.int (2 : Int32)), .unset, .unset, .unset, .unset] [(.int (3 : Int32)), (.int (3 : Int32)), (.ref b191), (.ref b191)])) rfl rfl (hb hby at_25) (by decide) (Nat.le_of_ble_eq_true rfl) (fun T204 h204 X204 e204 W204 V204 => ?_)
    have N204 := Fr.snoc X204 N201 ge192
    have F205 := Old.wr F202 W204 ge192
    have Z206 := Nat.le_trans Z203 (Keep.of_wr W204).1
    show OwnWk _ _ _ _ (T204.setTop (mkF m 26 #[.val (.long u), .second, .val (.int sz), .val (.int (2 : Int32)), .unset, .unset, .unset, .unset] [(.ref b191)]))
    have Vst : OAr Z h204 b191 .int (own_iv [0, 1, 2, 3]) := V204
    refine own_go (fun tgt kst => XS.astore X204.here hx rfl (hb hby at_26) rfl rfl (l' := #[.val (.long u), .second, .val (.int sz), .val (.int (2 : Int32)), .val (.ref b191), .unset, .unset, .unset]) rfl kst) ?_
    show OwnWk _ _ _ _ (T204.setTop (mkF m 28 #[.val (.long u), .second, .val (.int sz), .val (.int (2 : Int32)), .val (.ref b191), .unset, .unset, .unset] []))
    obtain ⟨T207, h207, X207, e207, E207, A207, D207, -, st207⟩ := newO X204 hx hZ hown (hw _ (List.mem_of_getElem? (i := 2) rfl)) (hw _ (List.mem_of_getElem? (i := 3) rfl)) (hw _ (List.mem_of_getElem? (i := 4) rfl)) e204 (g := (mkF m 28 #[.val (.long u), .second, .val (.int sz), .val (.int (2 : Int32)), .val (.ref b191), .unset, .unset, .unset] [])) rfl (hb hby at_28) (by decide) (by decide)
    obtain ⟨b207, g207⟩ : ∃ z, z = h204.size := ⟨_, rfl⟩
    rw [← g207] at A207 D207 st207
    refine own_go st207 ?_
    have ne208 : b191 ≠ b207 := Nat.ne_of_lt (Nat.lt_of_lt_of_le Vst.lt (Nat.le_of_eq g207.symm))
    have ge209 : n0 ≤ b207 := Nat.le_trans Z206 (Nat.le_of_eq g207.symm)
    have F210 := Old.ext F205 E207
    have F211 := OAr.ext Vst E207
    have Z212 := Nat.le_trans Z206 E207.1
    have F213 : Fld Z h207 b207 "java/util/AbstractList" "modCount" "I" (.int (0 : Int32)) := D207 (Or.inl (hw _ (List.mem_of_getElem? (i := 24) rfl))) (ty := .int) (by decide)
    have F214 : Fld Z h207 b207 "java/util/ArrayList" "elementData" "[Ljava/lang/Object;" .null := D207 (Or.inl (hw _ (List.mem_of_getElem? (i := 27) rfl))) (ty := (.array (.object "java/lang/Object"))) (by decide)
    have F215 : Fld Z h207 b207 "java/util/ArrayList" "size" "I" (.int (0 : Int32)) := D207 (Or.inl (hw _ (List.mem_of_getElem? (i := 43) rfl))) (ty := .int) (by decide)
    show OwnWk _ _ _ _ (T207.setTop (mkF m 31 #[.val (.long u), .second, .val (.int sz), .val (.int (2 : Int32)), .val (.ref b191), .unset, .unset, .unset] [(.ref b207)]))
    refine own_go (fun tgt kst => XS.dup X207.here hx rfl (hb hby at_31) rfl rfl kst) ?_
    show OwnWk _ _ _ _ (T207.setTop (mkF m 32 #[.val (.long u), .second, .val (.int sz), .val (.int (2 : Int32)), .val (.ref b191), .unset, .unset, .unset] [(.ref b207), (.ref b207)]))
    refine own_callC X207 hx hZ (y := (⟨"java/util/ArrayList", "<init>", "()V"⟩ : MethodName)) hown rfl (hw _ (List.mem_of_getElem? (i := 5) rfl)) (hw _ (List.mem_of_getElem? (i := 6) rfl)) (hw _ (List.mem_of_getElem? (i := 4) rfl)) (hw _ (List.mem_of_getElem? (i := 7) rfl)) (by decide) (a := b207) (argsL := []) (rest := [(.ref b207)]) (rm := ({ frames := 3, cells := 0, slots := 0, locals := 36 } : Room)) (h := h207) (rm1 l Z a0 hw dce cac ia b207 h207 n0 Z212 F210 S_d V_d S_h S_c hL hE hV A207 ge209 F213 F214 F215) e207 (W := 1) (by decide) (by decide) (by decide) (by decide) (g := (mkF m 32 #[.val (.long u), .second, .val (.int sz), .val (.int (2 : Int32)), .val (.ref b191), .unset, .unset, .unset] [(.ref b207), (.ref b207)])) rfl (by rw [hml]; rfl) (lenOf pd_0 rfl) rfl (by show 2 * 0 + _ ≤ _; exact Nat.le_of_eq rfl) (hb hby at_32) (fun v216 T216 h216 L216 X216 e216 hQ216 => ?_)
    obtain ⟨rfl, Nq216, Kq216, Fm216, Fe216, Fs216⟩ := hQ216
    have N216 := Fr.app N204 Nq216
    have F217 := Old.keep F210 Kq216 (allS ge209 all0)
    have F218 := OAr.keep F211 Kq216 (ninS ne208 nin0)
    have F219 := Exa.keep A207 Kq216
    have Z220 := Nat.le_trans Z212 Kq216.1
    show OwnWk _ _ _ _ (T216.setTop (mkF m 35 #[.val (.long u), .second, .val (.int sz), .val (.int (2 : Int32)), .val (.ref b191), .unset, .unset, .unset] [(.ref b207)]))
    refine own_go (fun tgt kst => XS.astore X216.here hx rfl (hb hby at_35) rfl rfl (l' := #[.val (.long u), .second, .val (.int sz), .val (.int (2 : Int32)), .val (.ref b191), .val (.ref b207), .unset, .unset]) rfl kst) ?_
    show OwnWk _ _ _ _ (T216.setTop (mkF m 37 #[.val (.long u), .second, .val (.int sz), .val (.int (2 : Int32)), .val (.ref b191), .val (.ref b207), .unset, .unset] []))
    refine own_go (fun tgt kst => XS.iloadN X216.here hx rfl (hb hby at_37) rfl  kst) ?_
    show OwnWk _ _ _ _ (T216.setTop (mkF m 38 #[.val (.long u), .second, .val (.int sz), .val (.int (2 : Int32)), .val (.ref b191), .val (.ref b207), .unset, .unset] [(.int (2 : Int32))]))
    refine own_go (fun tgt kst => XS.ifNo X216.here hx rfl (hb hby at_38) rfl ((if0 _ _).trans (tlt (by decide : (0 : Int32) < (2 : Int32))).2.2.2) kst) ?_
    show OwnWk _ _ _ _ (T216.setTop (mkF m 41 #[.val (.long u), .second, .val (.int sz), .val (.int (2 : Int32)), .val (.ref b191), .val (.ref b207), .unset, .unset] []))
    refine own_go (fun tgt kst => XS.aload X216.here hx rfl (hb hby at_41) rfl rfl  kst) ?_
    show OwnWk _ _ _ _ (T216.setTop (mkF m 43 #[.val (.long u), .second, .val (.int sz), .val (.int (2 : Int32)), .val (.ref b191), .val (.ref b207), .unset, .unset] [(.ref b207)]))
    refine own_go (fun tgt kst => XS.iconst X216.here hx rfl (hb hby at_43) kst) ?_
    show OwnWk _ _ _ _ (T216.setTop (mkF m 44 #[.val (.long u), .second, .val (.int sz), .val (.int (2 : Int32)), .val (.ref b191), .val (.ref b207), .unset, .unset] [(.int (0 : Int32)), (.ref b207)]))
    refine own_callS X216 hx hZ (y := (⟨"java/lang/Integer", "valueOf", "(I)Ljava/lang/Integer;"⟩ : MethodName)) hown (hw _ (List.mem_of_getElem? (i := 28) rfl)) (hw _ (List.mem_of_getElem? (i := 29) rfl)) (hw _ (List.mem_of_getElem? (i := 30) rfl)) (hw _ (List.mem_of_getElem? (i := 31) rfl)) (by decide) (argsL := [(.int (0 : Int32))]) (rest := [(.ref b207)]) (rm := ({ frames := 0, cells := 0, slots := 0, locals := 0 } : Room)) (h := h216) (vo0 l Z a0 hw dce cac ia h216 n0 Z220 F217 S_d V_d S_h S_c hL hE hV) e216 (W := 1) (by decide) (by decide) (by decide) (by decide) (g := (mkF m 44 #[.val (.long u), .second, .val (.int sz), .val (.int (2 : Int32)), .val (.ref b191), .val (.ref b207), .unset, .unset] [(.int (0 : Int32)), (.ref b207)])) rfl (by rw [hml]; rfl) (lenOf pd_15 rfl) rfl (by show 2 * 0 + _ ≤ _; exact Nat.le_of_eq rfl) (hb hby at_44) (fun v221 T221 h221 L221 X221 e221 hQ221 => ?_)
    obtain ⟨rfl, Nq221, q221⟩ := hQ221
    have N221 := Fr.app N216 Nq221
    rw [q221] at e221
    show OwnWk _ _ _ _ (T221.setTop (mkF m 47 #[.val (.long u), .second, .val (.int sz), .val (.int (2 : Int32)), .val (.ref b191), .val (.ref b207), .unset, .unset] [(.ref (ia 0)), (.ref b207)]))
    have lt222 : b191 < h216.size := F218.lt
    have lt223 : b207 < h216.size := F219.lt
    refine own_callV X221 hx hZ (y := (⟨"java/util/ArrayList", "add", "(Ljava/lang/Object;)Z"⟩ : MethodName)) (z := (⟨"java/util/ArrayList", "add", "(Ljava/lang/Object;)Z"⟩ : MethodName)) hown (hw _ (List.mem_of_getElem? (i := 35) rfl)) (hw _ (List.mem_of_getElem? (i := 36) rfl)) (notFace_of_selects (args := #[]) (mvT hZ (hw _ (List.mem_of_getElem? (i := 38) rfl)))) (hw _ (List.mem_of_getElem? (i := 38) rfl)) (hw _ (List.mem_of_getElem? (i := 37) rfl)) (hw _ (List.mem_of_getElem? (i := 4) rfl)) (hw _ (List.mem_of_getElem? (i := 39) rfl)) (by decide) (a := b207) F219 (argsL := [(.ref (ia 0))]) (rest := []) (rm := ({ frames := 4, cells := 1, slots := 10, locals := 56 } : Room)) (h := h216) (adB0 l Z a0 hw dce cac ia b207 (ia 0) h216 n0 Z220 F217 S_d V_d S_h S_c hL hE hV (Ins.of_exa (Exa.ext F217.2 (hE 0 (by decide))) (hw _ (List.mem_of_getElem? (i := 65) rfl))) F219 ge209 Fm216 Fe216 Fs216) e221 (W := 0) (by decide) (by decide) (by decide) (by decide) (g := (mkF m 47 #[.val (.long u), .second, .val (.int sz), .val (.int (2 : Int32)), .val (.ref b191), .val (.ref b207), .unset, .unset] [(.ref (ia 0)), (.ref b207)])) rfl (by rw [hml]; rfl) (lenOf pd_16 rfl) rfl (by show 2 * 0 + _ ≤ _; exact Nat.le_of_eq rfl) (hb hby at_47) (fun v224 T224 h224 L224 X224 e224 hQ224 => ?_)
    obtain ⟨ed, rfl, Nq224, Kq224, szed, ged, Fm224, Fe224, Fs224, Vq224, Oq224⟩ := hQ224
    have N224 := Fr.app N221 Nq224
    have F225 := Old.keep F217 Kq224 (allS ge209 all0)
    have F226 := OAr.keep F218 Kq224 (ninS ne208 nin0)
    have F227 := Exa.keep F219 Kq224
    have Z228 := Nat.le_trans Z220 Kq224.1
    have ne229 : b191 ≠ ed := Nat.ne_of_lt (Nat.lt_of_lt_of_le lt222 szed)
    have ne230 : b207 ≠ ed := Nat.ne_of_lt (Nat.lt_of_lt_of_le lt223 szed)
    show OwnWk _ _ _ _ (T224.setTop (mkF m 50 #[.val (.long u), .second, .val (.int sz), .val (.int (2 : Int32)), .val (.ref b191), .val (.ref b207), .unset, .unset] [(.int (1 : Int32))]))
    refine own_go (fun tgt kst => XS.pop X224.here hx rfl (hb hby at_50) rfl rfl kst) ?_
    show OwnWk _ _ _ _ (T224.setTop (mkF m 51 #[.val (.long u), .second, .val (.int sz), .val (.int (2 : Int32)), .val (.ref b191), .val (.ref b207), .unset, .unset] []))
    refine own_go (fun tgt kst => XS.iloadN X224.here hx rfl (hb hby at_51) rfl  kst) ?_
    show OwnWk _ _ _ _ (T224.setTop (mkF m 52 #[.val (.long u), .second, .val (.int sz), .val (.int (2 : Int32)), .val (.ref b191), .val (.ref b207), .unset, .unset] [(.int (2 : Int32))]))
    refine own_go (fun tgt kst => XS.iconst X224.here hx rfl (hb hby at_52) kst) ?_
    show OwnWk _ _ _ _ (T224.setTop (mkF m 53 #[.val (.long u), .second, .val (.int sz), .val (.int (2 : Int32)), .val (.ref b191), .val (.ref b207), .unset, .unset] [(.int (1 : Int32)), (.int (2 : Int32))]))
    refine own_go (fun tgt kst => XS.icmpNo X224.here hx rfl (hb hby at_53) rfl (tlt (by decide : (1 : Int32) < (2 : Int32))).2.2.2 kst) ?_
    show OwnWk _ _ _ _ (T224.setTop (mkF m 56 #[.val (.long u), .second, .val (.int sz), .val (.int (2 : Int32)), .val (.ref b191), .val (.ref b207), .unset, .unset] []))
    refine own_go (fun tgt kst => XS.aload X224.here hx rfl (hb hby at_56) rfl rfl  kst) ?_
    show OwnWk _ _ _ _ (T224.setTop (mkF m 58 #[.val (.long u), .second, .val (.int sz), .val (.int (2 : Int32)), .val (.ref b191), .val (.ref b207), .unset, .unset] [(.ref b207)]))
    refine own_go (fun tgt kst => XS.iconst X224.here hx rfl (hb hby at_58) kst) ?_
    show OwnWk _ _ _ _ (T224.setTop (mkF m 59 #[.val (.long u), .second, .val (.int sz), .val (.int (2 : Int32)), .val (.ref b191), .val (.ref b207), .unset, .unset] [(.int (1 : Int32)), (.ref b207)]))
    refine own_callS X224 hx hZ (y := (⟨"java/lang/Integer", "valueOf", "(I)Ljava/lang/Integer;"⟩ : MethodName)) hown (hw _ (List.mem_of_getElem? (i := 28) rfl)) (hw _ (List.mem_of_getElem? (i := 29) rfl)) (hw _ (List.mem_of_getElem? (i := 30) rfl)) (hw _ (List.mem_of_getElem? (i := 31) rfl)) (by decide) (argsL := [(.int (1 : Int32))]) (rest := [(.ref b207)]) (rm := ({ frames := 0, cells := 0, slots := 0, locals := 0 } : Room)) (h := h224) (vo1 l Z a0 hw dce cac ia h224 n0 Z228 F225 S_d V_d S_h S_c hL hE hV) e224 (W := 1) (by decide) (by decide) (by decide) (by decide) (g := (mkF m 59 #[.val (.long u), .second, .val (.int sz), .val (.int (2 : Int32)), .val (.ref b191), .val (.ref b207), .unset, .unset] [(.int (1 : Int32)), (.ref b207)])) rfl (by rw [hml]; rfl) (lenOf pd_15 rfl) rfl (by show 2 * 0 + _ ≤ _; exact Nat.le_of_eq rfl) (hb hby at_59) (fun v231 T231 h231 L231 X231 e231 hQ231 => ?_)
    obtain ⟨rfl, Nq231, q231⟩ := hQ231
    have N231 := Fr.app N224 Nq231
    rw [q231] at e231
    show OwnWk _ _ _ _ (T231.setTop (mkF m 62 #[.val (.long u), .second, .val (.int sz), .val (.int (2 : Int32)), .val (.ref b191), .val (.ref b207), .unset, .unset] [(.ref (ia 1)), (.ref b207)]))
    have lt232 : b191 < h224.size := F226.lt
    have lt233 : b207 < h224.size := F227.lt
    have lt234 : ed < h224.size := Vq224.lt
    refine own_callV X231 hx hZ (y := (⟨"java/util/ArrayList", "add", "(Ljava/lang/Object;)Z"⟩ : MethodName)) (z := (⟨"java/util/ArrayList", "add", "(Ljava/lang/Object;)Z"⟩ : MethodName)) hown (hw _ (List.mem_of_getElem? (i := 35) rfl)) (hw _ (List.mem_of_getElem? (i := 36) rfl)) (notFace_of_selects (args := #[]) (mvT hZ (hw _ (List.mem_of_getElem? (i := 38) rfl)))) (hw _ (List.mem_of_getElem? (i := 38) rfl)) (hw _ (List.mem_of_getElem? (i := 37) rfl)) (hw _ (List.mem_of_getElem? (i := 4) rfl)) (hw _ (List.mem_of_getElem? (i := 39) rfl)) (by decide) (a := b207) F227 (argsL := [(.ref (ia 1))]) (rest := []) (rm := ({ frames := 1, cells := 0, slots := 0, locals := 15 } : Room)) (h := h224) (adB1 l Z a0 hw dce cac ia b207 (ia 1) ed (ia 0) h224 n0 Z228 F225 S_d V_d S_h S_c hL hE hV (Ins.of_exa (Exa.ext F225.2 (hE 1 (by decide))) (hw _ (List.mem_of_getElem? (i := 65) rfl))) F227 ge209 Fm224 Fe224 Fs224 ged ne230 Vq224 Oq224) e231 (W := 0) (by decide) (by decide) (by decide) (by decide) (g := (mkF m 62 #[.val (.long u), .second, .val (.int sz), .val (.int (2 : Int32)), .val (.ref b191), .val (.ref b207), .unset, .unset] [(.ref (ia 1)), (.ref b207)])) rfl (by rw [hml]; rfl) (lenOf pd_16 rfl) rfl (by show 2 * 0 + _ ≤ _; exact Nat.le_of_eq rfl) (hb hby at_62) (fun v235 T235 h235 L235 X235 e235 hQ235 => ?_)
    obtain ⟨rfl, Nq235, Kq235, Fm235, Fe235, Fs235, Vq235, Oq235⟩ := hQ235
    have N235 := Fr.app N231 Nq235
    have F236 := Old.keep F225 Kq235 (allS ge209 (allS ged all0))
    have F237 := OAr.keep F226 Kq235 (ninS ne208 (ninS ne229 nin0))
    have F238 := Exa.keep F227 Kq235
    have F239 := OOv.keep Oq224 Kq235
    have Z240 := Nat.le_trans Z228 Kq235.1
    show OwnWk _ _ _ _ (T235.setTop (mkF m 65 #[.val (.long u), .second, .val (.int sz), .val (.int (2 : Int32)), .val (.ref b191), .val (.ref b207), .unset, .unset] [(.int (1 : Int32))]))
    refine own_go (fun tgt kst => XS.pop X235.here hx rfl (hb hby at_65) rfl rfl kst) ?_
    show OwnWk _ _ _ _ (T235.setTop (mkF m 66 #[.val (.long u), .second, .val (.int sz), .val (.int (2 : Int32)), .val (.ref b191), .val (.ref b207), .unset, .unset] []))
    refine own_go (fun tgt kst => XS.iloadN X235.here hx rfl (hb hby at_66) rfl  kst) ?_
    show OwnWk _ _ _ _ (T235.setTop (mkF m 67 #[.val (.long u), .second, .val (.int sz), .val (.int (2 : Int32)), .val (.ref b191), .val (.ref b207), .unset, .unset] [(.int (2 : Int32))]))
    refine own_go (fun tgt kst => XS.iconst X235.here hx rfl (hb hby at_67) kst) ?_
    show OwnWk _ _ _ _ (T235.setTop (mkF m 68 #[.val (.long u), .second, .val (.int sz), .val (.int (2 : Int32)), .val (.ref b191), .val (.ref b207), .unset, .unset] [(.int (2 : Int32)), (.int (2 : Int32))]))
    refine own_go (fun tgt kst => XS.icmpYes X235.here hx rfl (pc0 := 68) (pc' := 81) rfl (hb hby at_68) rfl (flt (by decide : ¬ ((2 : Int32) < (2 : Int32)))).2.2.2 (by decide) (by decide) kst) ?_
    show OwnWk _ _ _ _ (T235.setTop (mkF m 81 #[.val (.long u), .second, .val (.int sz), .val (.int (2 : Int32)), .val (.ref b191), .val (.ref b207), .unset, .unset] []))
    refine own_go (fun tgt kst => XS.iloadN X235.here hx rfl (hb hby at_81) rfl  kst) ?_
    show OwnWk _ _ _ _ (T235.setTop (mkF m 82 #[.val (.long u), .second, .val (.int sz), .val (.int (2 : Int32)), .val (.ref b191), .val (.ref b207), .unset, .unset] [(.int (2 : Int32))]))
    refine own_go (fun tgt kst => XS.iconst X235.here hx rfl (hb hby at_82) kst) ?_
    show OwnWk _ _ _ _ (T235.setTop (mkF m 83 #[.val (.long u), .second, .val (.int sz), .val (.int (2 : Int32)), .val (.ref b191), .val (.ref b207), .unset, .unset] [(.int (3 : Int32)), (.int (2 : Int32))]))
    refine own_go (fun tgt kst => XS.icmpYes X235.here hx rfl (pc0 := 83) (pc' := 96) rfl (hb hby at_83) rfl (flt (by decide : ¬ ((3 : Int32) < (2 : Int32)))).2.2.2 (by decide) (by decide) kst) ?_
    show OwnWk _ _ _ _ (T235.setTop (mkF m 96 #[.val (.long u), .second, .val (.int sz), .val (.int (2 : Int32)), .val (.ref b191), .val (.ref b207), .unset, .unset] []))
    obtain ⟨T241, h241, X241, e241, E241, A241, D241, -, st241⟩ := newO X235 hx hZ hown (hw _ (List.mem_of_getElem? (i := 66) rfl)) (hw _ (List.mem_of_getElem? (i := 67) rfl)) (hw _ (List.mem_of_getElem? (i := 68) rfl)) e235 (g := (mkF m 96 #[.val (.long u), .second, .val (.int sz), .val (.int (2 : Int32)), .val (.ref b191), .val (.ref b207), .unset, .unset] [])) rfl (hb hby at_96) (by decide) (by decide)
    obtain ⟨b241, g241⟩ : ∃ z, z = h235.size := ⟨_, rfl⟩
    rw [← g241] at A241 D241 st241
    refine own_go st241 ?_
    have ne242 : b191 ≠ b241 := Nat.ne_of_lt (Nat.lt_of_lt_of_le F237.lt (Nat.le_of_eq g241.symm))
    have ne243 : b207 ≠ b241 := Nat.ne_of_lt (Nat.lt_of_lt_of_le F238.lt (Nat.le_of_eq g241.symm))
    have ne244 : ed ≠ b241 := Nat.ne_of_lt (Nat.lt_of_lt_of_le Vq235.lt (Nat.le_of_eq g241.symm))
    have ge245 : n0 ≤ b241 := Nat.le_trans Z240 (Nat.le_of_eq g241.symm)
    have F246 := Old.ext F236 E241
    have F247 := OAr.ext F237 E241
    have F248 := Exa.ext E241 F238
    have F249 := OOv.ext E241 Oq235
    have F250 := Fld.ext E241 Fm235
    have F251 := Fld.ext E241 Fe235
    have F252 := Fld.ext E241 Fs235
    have F253 := OAr.ext Vq235 E241
    have Z254 := Nat.le_trans Z240 E241.1
    have F255 : Fld Z h241 b241 "com/example/spikeline/spikeline/core/SeededRandom" "state" "J" (.long (0 : Int64)) := D241 (Or.inl (hw _ (List.mem_of_getElem? (i := 74) rfl))) (ty := .long) (by decide)
    show OwnWk _ _ _ _ (T241.setTop (mkF m 99 #[.val (.long u), .second, .val (.int sz), .val (.int (2 : Int32)), .val (.ref b191), .val (.ref b207), .unset, .unset] [(.ref b241)]))
    refine own_go (fun tgt kst => XS.dup X241.here hx rfl (hb hby at_99) rfl rfl kst) ?_
    show OwnWk _ _ _ _ (T241.setTop (mkF m 100 #[.val (.long u), .second, .val (.int sz), .val (.int (2 : Int32)), .val (.ref b191), .val (.ref b207), .unset, .unset] [(.ref b241), (.ref b241)]))
    refine own_go (fun tgt kst => XS.lloadN X241.here hx rfl (hb hby at_100) rfl  kst) ?_
    show OwnWk _ _ _ _ (T241.setTop (mkF m 101 #[.val (.long u), .second, .val (.int sz), .val (.int (2 : Int32)), .val (.ref b191), .val (.ref b207), .unset, .unset] [(.long u), (.ref b241), (.ref b241)]))
    refine own_callC X241 hx hZ (y := (⟨"com/example/spikeline/spikeline/core/SeededRandom", "<init>", "(J)V"⟩ : MethodName)) hown rfl (hw _ (List.mem_of_getElem? (i := 69) rfl)) (hw _ (List.mem_of_getElem? (i := 70) rfl)) (hw _ (List.mem_of_getElem? (i := 68) rfl)) (hw _ (List.mem_of_getElem? (i := 71) rfl)) (by decide) (a := b241) (argsL := [(.long u)]) (rest := [(.ref b241)]) (rm := ({ frames := 1, cells := 0, slots := 0, locals := 12 } : Room)) (h := h241) (rm11 l Z a0 hw b241 u h241 n0 Z254 F255 A241 ge245) e241 (W := 1) (by decide) (by decide) (by decide) (by decide) (g := (mkF m 101 #[.val (.long u), .second, .val (.int sz), .val (.int (2 : Int32)), .val (.ref b191), .val (.ref b207), .unset, .unset] [(.long u), (.ref b241), (.ref b241)])) rfl (by rw [hml]; rfl) (lenOf pd_12 rfl) rfl (by show 2 * 0 + _ ≤ _; exact Nat.le_of_eq rfl) (hb hby at_101) (fun v256 T256 h256 L256 X256 e256 hQ256 => ?_)
    obtain ⟨rfl, Nq256, Kq256, Fq256⟩ := hQ256
    have N256 := Fr.app N235 Nq256
    have F257 := Old.keep F246 Kq256 (allS ge245 all0)
    have F258 := OAr.keep F247 Kq256 (ninS ne242 nin0)
    have F259 := Exa.keep F248 Kq256
    have F260 := OOv.keep F249 Kq256
    have F261 := Fld.keep F250 Kq256 (ninS ne243 nin0)
    have F262 := Fld.keep F251 Kq256 (ninS ne243 nin0)
    have F263 := Fld.keep F252 Kq256 (ninS ne243 nin0)
    have F264 := OAr.keep F253 Kq256 (ninS ne244 nin0)
    have F265 := Exa.keep A241 Kq256
    have Z266 := Nat.le_trans Z254 Kq256.1
    show OwnWk _ _ _ _ (T256.setTop (mkF m 104 #[.val (.long u), .second, .val (.int sz), .val (.int (2 : Int32)), .val (.ref b191), .val (.ref b207), .unset, .unset] [(.ref b241)]))
    refine own_go (fun tgt kst => XS.astore X256.here hx rfl (hb hby at_104) rfl rfl (l' := #[.val (.long u), .second, .val (.int sz), .val (.int (2 : Int32)), .val (.ref b191), .val (.ref b207), .val (.ref b241), .unset]) rfl kst) ?_
    show OwnWk _ _ _ _ (T256.setTop (mkF m 106 #[.val (.long u), .second, .val (.int sz), .val (.int (2 : Int32)), .val (.ref b191), .val (.ref b207), .val (.ref b241), .unset] []))
    refine own_go (fun tgt kst => XS.aload X256.here hx rfl (hb hby at_106) rfl rfl  kst) ?_
    show OwnWk _ _ _ _ (T256.setTop (mkF m 108 #[.val (.long u), .second, .val (.int sz), .val (.int (2 : Int32)), .val (.ref b191), .val (.ref b207), .val (.ref b241), .unset] [(.ref b241)]))
    refine own_go (fun tgt kst => XS.aload X256.here hx rfl (hb hby at_108) rfl rfl  kst) ?_
    show OwnWk _ _ _ _ (T256.setTop (mkF m 110 #[.val (.long u), .second, .val (.int sz), .val (.int (2 : Int32)), .val (.ref b191), .val (.ref b207), .val (.ref b241), .unset] [(.ref b207), (.ref b241)]))
    refine own_callV X256 hx hZ (y := (⟨"com/example/spikeline/spikeline/core/SeededRandom", "shuffle", "(Ljava/util/List;)V"⟩ : MethodName)) (z := (⟨"com/example/spikeline/spikeline/core/SeededRandom", "shuffle", "(Ljava/util/List;)V"⟩ : MethodName)) hown (hw _ (List.mem_of_getElem? (i := 75) rfl)) (hw _ (List.mem_of_getElem? (i := 76) rfl)) (notFace_of_selects (args := #[]) (mvT hZ (hw _ (List.mem_of_getElem? (i := 78) rfl)))) (hw _ (List.mem_of_getElem? (i := 78) rfl)) (hw _ (List.mem_of_getElem? (i := 77) rfl)) (hw _ (List.mem_of_getElem? (i := 68) rfl)) (hw _ (List.mem_of_getElem? (i := 79) rfl)) (by decide) (a := b241) F265 (argsL := [(.ref b207)]) (rest := []) (rm := ({ frames := 4, cells := 0, slots := 0, locals := 59 } : Room)) (h := h256) (shf2 l Z a0 hw dce cac ia b241 b207 ed u [0, 1] h256 n0 Z266 F257 S_d V_d S_h S_c hL hE hV Fq256 F265 ge245 F259 F263 F262 F264 rfl (by decide) F260 ged ne230 (Ne.symm ne244) (Ne.symm ne243)) e256 (W := 0) (by decide) (by decide) (by decide) (by decide) (g := (mkF m 110 #[.val (.long u), .second, .val (.int sz), .val (.int (2 : Int32)), .val (.ref b191), .val (.ref b207), .val (.ref b241), .unset] [(.ref b207), (.ref b241)])) rfl (by rw [hml]; rfl) (lenOf pd_13 rfl) rfl (by show 2 * 0 + _ ≤ _; exact Nat.le_of_eq rfl) (hb hby at_110) (fun v267 T267 h267 L267 X267 e267 hQ267 => ?_)
    obtain ⟨rfl, Nq267, Kq267, Fq267, Vq267⟩ := hQ267
    have N267 := Fr.app N256 Nq267
    have F268 := Old.keep F257 Kq267 (allS ge245 (allS ged all0))
    have F269 := OAr.keep F258 Kq267 (ninS ne242 (ninS ne229 nin0))
    have F270 := Exa.keep F259 Kq267
    have F271 := OOv.keep F260 Kq267
    have F272 := Fld.keep F261 Kq267 (ninS ne243 (ninS ne230 nin0))
    have F273 := Fld.keep F262 Kq267 (ninS ne243 (ninS ne230 nin0))
    have F274 := Fld.keep F263 Kq267 (ninS ne243 (ninS ne230 nin0))
    have F275 := Exa.keep F265 Kq267
    have Z276 := Nat.le_trans Z266 Kq267.1
    show OwnWk _ _ _ _ (T267.setTop (mkF m 113 #[.val (.long u), .second, .val (.int sz), .val (.int (2 : Int32)), .val (.ref b191), .val (.ref b207), .val (.ref b241), .unset] []))
    obtain ⟨T277, h277, X277, e277, E277, A277, D277, -, st277⟩ := newO X267 hx hZ hown (hw _ (List.mem_of_getElem? (i := 66) rfl)) (hw _ (List.mem_of_getElem? (i := 67) rfl)) (hw _ (List.mem_of_getElem? (i := 68) rfl)) e267 (g := (mkF m 113 #[.val (.long u), .second, .val (.int sz), .val (.int (2 : Int32)), .val (.ref b191), .val (.ref b207), .val (.ref b241), .unset] [])) rfl (hb hby at_113) (by decide) (by decide)
    obtain ⟨b277, g277⟩ : ∃ z, z = h267.size := ⟨_, rfl⟩
    rw [← g277] at A277 D277 st277
    refine own_go st277 ?_
    have ne278 : b191 ≠ b277 := Nat.ne_of_lt (Nat.lt_of_lt_of_le F269.lt (Nat.le_of_eq g277.symm))
    have ne279 : b207 ≠ b277 := Nat.ne_of_lt (Nat.lt_of_lt_of_le F270.lt (Nat.le_of_eq g277.symm))
    have ne280 : b241 ≠ b277 := Nat.ne_of_lt (Nat.lt_of_lt_of_le F275.lt (Nat.le_of_eq g277.symm))
    have ne281 : ed ≠ b277 := Nat.ne_of_lt (Nat.lt_of_lt_of_le Vq267.lt (Nat.le_of_eq g277.symm))
    have ge282 : n0 ≤ b277 := Nat.le_trans Z276 (Nat.le_of_eq g277.symm)
    have F283 := Old.ext F268 E277
    have F284 := OAr.ext F269 E277
    have F285 := Exa.ext E277 F270
    have F286 := OOv.ext E277 F271
    have F287 := Fld.ext E277 F272
    have F288 := Fld.ext E277 F273
    have F289 := Fld.ext E277 F274
    have F290 := Exa.ext E277 F275
    have F291 := Fld.ext E277 Fq267
    have F292 := OAr.ext Vq267 E277
    have Z293 := Nat.le_trans Z276 E277.1
    have F294 : Fld Z h277 b277 "com/example/spikeline/spikeline/core/SeededRandom" "state" "J" (.long (0 : Int64)) := D277 (Or.inl (hw _ (List.mem_of_getElem? (i := 74) rfl))) (ty := .long) (by decide)
    show OwnWk _ _ _ _ (T277.setTop (mkF m 116 #[.val (.long u), .second, .val (.int sz), .val (.int (2 : Int32)), .val (.ref b191), .val (.ref b207), .val (.ref b241), .unset] [(.ref b277)]))
    refine own_go (fun tgt kst => XS.dup X277.here hx rfl (hb hby at_116) rfl rfl kst) ?_
    show OwnWk _ _ _ _ (T277.setTop (mkF m 117 #[.val (.long u), .second, .val (.int sz), .val (.int (2 : Int32)), .val (.ref b191), .val (.ref b207), .val (.ref b241), .unset] [(.ref b277), (.ref b277)]))
    refine own_go (fun tgt kst => XS.lloadN X277.here hx rfl (hb hby at_117) rfl  kst) ?_
    show OwnWk _ _ _ _ (T277.setTop (mkF m 118 #[.val (.long u), .second, .val (.int sz), .val (.int (2 : Int32)), .val (.ref b191), .val (.ref b207), .val (.ref b241), .unset] [(.long u), (.ref b277), (.ref b277)]))
    refine own_callC X277 hx hZ (y := (⟨"com/example/spikeline/spikeline/core/SeededRandom", "<init>", "(J)V"⟩ : MethodName)) hown rfl (hw _ (List.mem_of_getElem? (i := 69) rfl)) (hw _ (List.mem_of_getElem? (i := 70) rfl)) (hw _ (List.mem_of_getElem? (i := 68) rfl)) (hw _ (List.mem_of_getElem? (i := 71) rfl)) (by decide) (a := b277) (argsL := [(.long u)]) (rest := [(.ref b277)]) (rm := ({ frames := 1, cells := 0, slots := 0, locals := 12 } : Room)) (h := h277) (rm11 l Z a0 hw b277 u h277 n0 Z293 F294 A277 ge282) e277 (W := 1) (by decide) (by decide) (by decide) (by decide) (g := (mkF m 118 #[.val (.long u), .second, .val (.int sz), .val (.int (2 : Int32)), .val (.ref b191), .val (.ref b207), .val (.ref b241), .unset] [(.long u), (.ref b277), (.ref b277)])) rfl (by rw [hml]; rfl) (lenOf pd_12 rfl) rfl (by show 2 * 0 + _ ≤ _; exact Nat.le_of_eq rfl) (hb hby at_118) (fun v295 T295 h295 L295 X295 e295 hQ295 => ?_)
    obtain ⟨rfl, Nq295, Kq295, Fq295⟩ := hQ295
    have N295 := Fr.app N267 Nq295
    have F296 := Old.keep F283 Kq295 (allS ge282 all0)
    have F297 := OAr.keep F284 Kq295 (ninS ne278 nin0)
    have F298 := Exa.keep F285 Kq295
    have F299 := OOv.keep F286 Kq295
    have F300 := Fld.keep F287 Kq295 (ninS ne279 nin0)
    have F301 := Fld.keep F288 Kq295 (ninS ne279 nin0)
    have F302 := Fld.keep F289 Kq295 (ninS ne279 nin0)
    have F303 := Exa.keep F290 Kq295
    have F304 := Fld.keep F291 Kq295 (ninS ne280 nin0)
    have F305 := OAr.keep F292 Kq295 (ninS ne281 nin0)
    have F306 := Exa.keep A277 Kq295
    have Z307 := Nat.le_trans Z293 Kq295.1
    show OwnWk _ _ _ _ (T295.setTop (mkF m 121 #[.val (.long u), .second, .val (.int sz), .val (.int (2 : Int32)), .val (.ref b191), .val (.ref b207), .val (.ref b241), .unset] [(.ref b277)]))
    refine own_go (fun tgt kst => XS.astore X295.here hx rfl (hb hby at_121) rfl rfl (l' := #[.val (.long u), .second, .val (.int sz), .val (.int (2 : Int32)), .val (.ref b191), .val (.ref b207), .val (.ref b241), .val (.ref b277)]) rfl kst) ?_
    show OwnWk _ _ _ _ (T295.setTop (mkF m 123 #[.val (.long u), .second, .val (.int sz), .val (.int (2 : Int32)), .val (.ref b191), .val (.ref b207), .val (.ref b241), .val (.ref b277)] []))
    refine own_go (fun tgt kst => XS.iloadN X295.here hx rfl (hb hby at_123) rfl  kst) ?_
    show OwnWk _ _ _ _ (T295.setTop (mkF m 124 #[.val (.long u), .second, .val (.int sz), .val (.int (2 : Int32)), .val (.ref b191), .val (.ref b207), .val (.ref b241), .val (.ref b277)] [(.int (2 : Int32))]))
    refine own_go (fun tgt kst => XS.iconst X295.here hx rfl (hb hby at_124) kst) ?_
    show OwnWk _ _ _ _ (T295.setTop (mkF m 125 #[.val (.long u), .second, .val (.int sz), .val (.int (2 : Int32)), .val (.ref b191), .val (.ref b207), .val (.ref b241), .val (.ref b277)] [(.int (4 : Int32)), (.int (2 : Int32))]))
    refine own_go (fun tgt kst => XS.icmpYes X295.here hx rfl (pc0 := 125) (pc' := 140) rfl (hb hby at_125) rfl (tlt (by decide : (2 : Int32) < (4 : Int32))).1 (by decide) (by decide) kst) ?_
    show OwnWk _ _ _ _ (T295.setTop (mkF m 140 #[.val (.long u), .second, .val (.int sz), .val (.int (2 : Int32)), .val (.ref b191), .val (.ref b207), .val (.ref b241), .val (.ref b277)] []))
    refine own_go (fun tgt kst => XS.iloadN X295.here hx rfl (hb hby at_140) rfl  kst) ?_
    show OwnWk _ _ _ _ (T295.setTop (mkF m 141 #[.val (.long u), .second, .val (.int sz), .val (.int (2 : Int32)), .val (.ref b191), .val (.ref b207), .val (.ref b241), .val (.ref b277)] [(.int (2 : Int32))]))
    refine own_go (fun tgt kst => XS.iconst X295.here hx rfl (hb hby at_141) kst) ?_
    show OwnWk _ _ _ _ (T295.setTop (mkF m 142 #[.val (.long u), .second, .val (.int sz), .val (.int (2 : Int32)), .val (.ref b191), .val (.ref b207), .val (.ref b241), .val (.ref b277)] [(.int (3 : Int32)), (.int (2 : Int32))]))
    refine own_go (fun tgt kst => XS.icmpYes X295.here hx rfl (pc0 := 142) (pc' := 157) rfl (hb hby at_142) rfl (tlt (by decide : (2 : Int32) < (3 : Int32))).1 (by decide) (by decide) kst) ?_
    show OwnWk _ _ _ _ (T295.setTop (mkF m 157 #[.val (.long u), .second, .val (.int sz), .val (.int (2 : Int32)), .val (.ref b191), .val (.ref b207), .val (.ref b241), .val (.ref b277)] []))
    refine own_go (fun tgt kst => XS.iloadN X295.here hx rfl (hb hby at_157) rfl  kst) ?_
    show OwnWk _ _ _ _ (T295.setTop (mkF m 158 #[.val (.long u), .second, .val (.int sz), .val (.int (2 : Int32)), .val (.ref b191), .val (.ref b207), .val (.ref b241), .val (.ref b277)] [(.int (2 : Int32))]))
    refine own_go (fun tgt kst => XS.iconst X295.here hx rfl (hb hby at_158) kst) ?_
    show OwnWk _ _ _ _ (T295.setTop (mkF m 159 #[.val (.long u), .second, .val (.int sz), .val (.int (2 : Int32)), .val (.ref b191), .val (.ref b207), .val (.ref b241), .val (.ref b277)] [(.int (2 : Int32)), (.int (2 : Int32))]))
    refine own_go (fun tgt kst => XS.icmpNo X295.here hx rfl (hb hby at_159) rfl (flt (by decide : ¬ ((2 : Int32) < (2 : Int32)))).1 kst) ?_
    show OwnWk _ _ _ _ (T295.setTop (mkF m 162 #[.val (.long u), .second, .val (.int sz), .val (.int (2 : Int32)), .val (.ref b191), .val (.ref b207), .val (.ref b241), .val (.ref b277)] []))
    refine own_go (fun tgt kst => XS.aload X295.here hx rfl (hb hby at_162) rfl rfl  kst) ?_
    show OwnWk _ _ _ _ (T295.setTop (mkF m 164 #[.val (.long u), .second, .val (.int sz), .val (.int (2 : Int32)), .val (.ref b191), .val (.ref b207), .val (.ref b241), .val (.ref b277)] [(.ref b191)]))
    refine own_go (fun tgt kst => XS.iconst X295.here hx rfl (hb hby at_164) kst) ?_
    show OwnWk _ _ _ _ (T295.setTop (mkF m 165 #[.val (.long u), .second, .val (.int sz), .val (.int (2 : Int32)), .val (.ref b191), .val (.ref b207), .val (.ref b241), .val (.ref b277)] [(.int (1 : Int32)), (.ref b191)]))
    refine own_go (fun tgt kst => XS.aload X295.here hx rfl (hb hby at_165) rfl rfl  kst) ?_
    show OwnWk _ _ _ _ (T295.setTop (mkF m 167 #[.val (.long u), .second, .val (.int sz), .val (.int (2 : Int32)), .val (.ref b191), .val (.ref b207), .val (.ref b241), .val (.ref b277)] [(.ref b277), (.int (1 : Int32)), (.ref b191)]))
    refine own_go (fun tgt kst => XS.iconst X295.here hx rfl (hb hby at_167) kst) ?_
    show OwnWk _ _ _ _ (T295.setTop (mkF m 168 #[.val (.long u), .second, .val (.int sz), .val (.int (2 : Int32)), .val (.ref b191), .val (.ref b207), .val (.ref b241), .val (.ref b277)] [(.int (2 : Int32)), (.ref b277), (.int (1 : Int32)), (.ref b191)]))
    refine own_callV X295 hx hZ (y := (⟨"com/example/spikeline/spikeline/core/SeededRandom", "nextInt", "(I)I"⟩ : MethodName)) (z := (⟨"com/example/spikeline/spikeline/core/SeededRandom", "nextInt", "(I)I"⟩ : MethodName)) hown (hw _ (List.mem_of_getElem? (i := 136) rfl)) (hw _ (List.mem_of_getElem? (i := 90) rfl)) (notFace_of_selects (args := #[]) (mvT hZ (hw _ (List.mem_of_getElem? (i := 92) rfl)))) (hw _ (List.mem_of_getElem? (i := 92) rfl)) (hw _ (List.mem_of_getElem? (i := 91) rfl)) (hw _ (List.mem_of_getElem? (i := 68) rfl)) (hw _ (List.mem_of_getElem? (i := 93) rfl)) (by decide) (a := b277) F306 (argsL := [(.int (2 : Int32))]) (rest := [(.int (1 : Int32)), (.ref b191)]) (rm := ({ frames := 1, cells := 0, slots := 0, locals := 14 } : Room)) (h := h295) (rm14 l Z a0 hw b277 (2 : Int32) u h295 n0 Z307 Fq295 F306 ge282 (by decide)) e295 (W := 2) (by decide) (by decide) (by decide) (by decide) (g := (mkF m 168 #[.val (.long u), .second, .val (.int sz), .val (.int (2 : Int32)), .val (.ref b191), .val (.ref b207), .val (.ref b241), .val (.ref b277)] [(.int (2 : Int32)), (.ref b277), (.int (1 : Int32)), (.ref b191)])) rfl (by rw [hml]; rfl) (lenOf pd_10 rfl) rfl (by show 2 * 0 + _ ≤ _; exact Nat.le_of_eq rfl) (hb hby at_168) (fun v308 T308 h308 L308 X308 e308 hQ308 => ?_)
    obtain ⟨rfl, Nq308, Kq308, Fq308⟩ := hQ308
    have N308 := Fr.app N295 Nq308
    have F309 := Old.keep F296 Kq308 (allS ge282 all0)
    have F310 := OAr.keep F297 Kq308 (ninS ne278 nin0)
    have F311 := Exa.keep F298 Kq308
    have F312 := OOv.keep F299 Kq308
    have F313 := Fld.keep F300 Kq308 (ninS ne279 nin0)
    have F314 := Fld.keep F301 Kq308 (ninS ne279 nin0)
    have F315 := Fld.keep F302 Kq308 (ninS ne279 nin0)
    have F316 := Exa.keep F303 Kq308
    have F317 := Fld.keep F304 Kq308 (ninS ne280 nin0)
    have F318 := OAr.keep F305 Kq308 (ninS ne281 nin0)
    have F319 := Exa.keep F306 Kq308
    have Z320 := Nat.le_trans Z307 Kq308.1
    show OwnWk _ _ _ _ (T308.setTop (mkF m 171 #[.val (.long u), .second, .val (.int sz), .val (.int (2 : Int32)), .val (.ref b191), .val (.ref b207), .val (.ref b241), .val (.ref b277)] [(.int (own_r (own_land u (2 : Int32)) (2 : Int32))), (.int (1 : Int32)), (.ref b191)]))
    rw [own_j_eq (q := u) (b := (2 : Int32)) (by decide)]
    show OwnWk _ _ _ _ (T308.setTop (mkF m 171 #[.val (.long u), .second, .val (.int sz), .val (.int (2 : Int32)), .val (.ref b191), .val (.ref b207), .val (.ref b241), .val (.ref b277)] [(.int (Int32.ofNat (own_j u (2 : Int32)))), (.int (1 : Int32)), (.ref b191)]))
    refine own_callS X308 hx hZ (y := (⟨"com/example/spikeline/spikeline/core/SeededRandomShufflePinLaw", "swap", "([III)V"⟩ : MethodName)) hown (hw _ (List.mem_of_getElem? (i := 137) rfl)) (hw _ (List.mem_of_getElem? (i := 138) rfl)) (hw _ (List.mem_of_getElem? (i := 139) rfl)) (hw _ (List.mem_of_getElem? (i := 140) rfl)) (by decide) (argsL := [(.ref b191), (.int (1 : Int32)), (.int (Int32.ofNat (own_j u (2 : Int32))))]) (rest := []) (rm := ({ frames := 0, cells := 0, slots := 0, locals := 0 } : Room)) (h := h308) (lsw l Z a0 hw b191 [0, 1, 2, 3] 1 (own_j u (2 : Int32)) h308 n0 Z320 F310 ge192 (by simp [own_slen]) (by decide) (own_j_lt (by decide) (n := 4) rfl (by decide))) e308 (W := 0) (by decide) (by decide) (by decide) (by decide) (g := (mkF m 171 #[.val (.long u), .second, .val (.int sz), .val (.int (2 : Int32)), .val (.ref b191), .val (.ref b207), .val (.ref b241), .val (.ref b277)] [(.int (Int32.ofNat (own_j u (2 : Int32)))), (.int (1 : Int32)), (.ref b191)])) rfl (by rw [hml]; rfl) (lenOf pd_17 rfl) rfl (by show 2 * 0 + _ ≤ _; exact Nat.le_of_eq rfl) (hb hby at_171) (fun v321 T321 h321 L321 X321 e321 hQ321 => ?_)
    obtain ⟨rfl, Nq321, Kq321, Vq321⟩ := hQ321
    have N321 := Fr.app N308 Nq321
    have F322 := Old.keep F309 Kq321 (allS ge192 all0)
    have F323 := Exa.keep F311 Kq321
    have F324 := OOv.keep F312 Kq321
    have F325 := Fld.keep F313 Kq321 (ninS (Ne.symm ne208) nin0)
    have F326 := Fld.keep F314 Kq321 (ninS (Ne.symm ne208) nin0)
    have F327 := Fld.keep F315 Kq321 (ninS (Ne.symm ne208) nin0)
    have F328 := Exa.keep F316 Kq321
    have F329 := Fld.keep F317 Kq321 (ninS (Ne.symm ne242) nin0)
    have F330 := OAr.keep F318 Kq321 (ninS (Ne.symm ne229) nin0)
    have F331 := Exa.keep F319 Kq321
    have F332 := Fld.keep Fq308 Kq321 (ninS (Ne.symm ne278) nin0)
    have Z333 := Nat.le_trans Z320 Kq321.1
    show OwnWk _ _ _ _ (T321.setTop (mkF m 174 #[.val (.long u), .second, .val (.int sz), .val (.int (2 : Int32)), .val (.ref b191), .val (.ref b207), .val (.ref b241), .val (.ref b277)] []))
    refine own_go (fun tgt kst => XS.aload X321.here hx rfl (hb hby at_174) rfl rfl  kst) ?_
    show OwnWk _ _ _ _ (T321.setTop (mkF m 176 #[.val (.long u), .second, .val (.int sz), .val (.int (2 : Int32)), .val (.ref b191), .val (.ref b207), .val (.ref b241), .val (.ref b277)] [(.ref b207)]))
    refine own_callV X321 hx hZ (y := (⟨"java/util/ArrayList", "size", "()I"⟩ : MethodName)) (z := (⟨"java/util/ArrayList", "size", "()I"⟩ : MethodName)) hown (hw _ (List.mem_of_getElem? (i := 141) rfl)) (hw _ (List.mem_of_getElem? (i := 142) rfl)) (notFace_of_selects (args := #[]) (mvT hZ (hw _ (List.mem_of_getElem? (i := 143) rfl)))) (hw _ (List.mem_of_getElem? (i := 143) rfl)) (hw _ (List.mem_of_getElem? (i := 84) rfl)) (hw _ (List.mem_of_getElem? (i := 4) rfl)) (hw _ (List.mem_of_getElem? (i := 88) rfl)) (by decide) (a := b207) F323 (argsL := []) (rest := []) (rm := ({ frames := 0, cells := 0, slots := 0, locals := 0 } : Room)) (h := h321) (rm13 l Z a0 hw b207 (2 : Int32) h321 n0 Z333 F327) e321 (W := 0) (by decide) (by decide) (by decide) (by decide) (g := (mkF m 176 #[.val (.long u), .second, .val (.int sz), .val (.int (2 : Int32)), .val (.ref b191), .val (.ref b207), .val (.ref b241), .val (.ref b277)] [(.ref b207)])) rfl (by rw [hml]; rfl) (lenOf pd_9 rfl) rfl (by show 2 * 0 + _ ≤ _; exact Nat.le_of_eq rfl) (hb hby at_176) (fun v334 T334 h334 L334 X334 e334 hQ334 => ?_)
    obtain ⟨rfl, Nq334, q334⟩ := hQ334
    have N334 := Fr.app N321 Nq334
    rw [q334] at e334
    show OwnWk _ _ _ _ (T334.setTop (mkF m 179 #[.val (.long u), .second, .val (.int sz), .val (.int (2 : Int32)), .val (.ref b191), .val (.ref b207), .val (.ref b241), .val (.ref b277)] [(.int (2 : Int32))]))
    refine own_go (fun tgt kst => XS.iloadN X334.here hx rfl (hb hby at_179) rfl  kst) ?_
    show OwnWk _ _ _ _ (T334.setTop (mkF m 180 #[.val (.long u), .second, .val (.int sz), .val (.int (2 : Int32)), .val (.ref b191), .val (.ref b207), .val (.ref b241), .val (.ref b277)] [(.int (2 : Int32)), (.int (2 : Int32))]))
    refine own_go (fun tgt kst => XS.icmpYes X334.here hx rfl (pc0 := 180) (pc' := 185) rfl (hb hby at_180) rfl (teq (by decide : (2 : Int32) = (2 : Int32))).1 (by decide) (by decide) kst) ?_
    show OwnWk _ _ _ _ (T334.setTop (mkF m 185 #[.val (.long u), .second, .val (.int sz), .val (.int (2 : Int32)), .val (.ref b191), .val (.ref b207), .val (.ref b241), .val (.ref b277)] []))
    refine own_go (fun tgt kst => XS.aload X334.here hx rfl (hb hby at_185) rfl rfl  kst) ?_
    show OwnWk _ _ _ _ (T334.setTop (mkF m 187 #[.val (.long u), .second, .val (.int sz), .val (.int (2 : Int32)), .val (.ref b191), .val (.ref b207), .val (.ref b241), .val (.ref b277)] [(.ref b241)]))
    refine own_callV X334 hx hZ (y := (⟨"com/example/spikeline/spikeline/core/SeededRandom", "state", "()J"⟩ : MethodName)) (z := (⟨"com/example/spikeline/spikeline/core/SeededRandom", "state", "()J"⟩ : MethodName)) hown (hw _ (List.mem_of_getElem? (i := 144) rfl)) (hw _ (List.mem_of_getElem? (i := 145) rfl)) (notFace_of_selects (args := #[]) (mvT hZ (hw _ (List.mem_of_getElem? (i := 147) rfl)))) (hw _ (List.mem_of_getElem? (i := 147) rfl)) (hw _ (List.mem_of_getElem? (i := 146) rfl)) (hw _ (List.mem_of_getElem? (i := 68) rfl)) (hw _ (List.mem_of_getElem? (i := 148) rfl)) (by decide) (a := b241) F328 (argsL := []) (rest := []) (rm := ({ frames := 0, cells := 0, slots := 0, locals := 0 } : Room)) (h := h321) (rm23 l Z a0 hw b241 (own_land u (2 : Int32)) h321 n0 Z333 F329) e334 (W := 0) (by decide) (by decide) (by decide) (by decide) (g := (mkF m 187 #[.val (.long u), .second, .val (.int sz), .val (.int (2 : Int32)), .val (.ref b191), .val (.ref b207), .val (.ref b241), .val (.ref b277)] [(.ref b241)])) rfl (by rw [hml]; rfl) (lenOf pd_8 rfl) rfl (by show 2 * 0 + _ ≤ _; exact Nat.le_of_eq rfl) (hb hby at_187) (fun v335 T335 h335 L335 X335 e335 hQ335 => ?_)
    obtain ⟨rfl, Nq335, q335⟩ := hQ335
    have N335 := Fr.app N334 Nq335
    rw [q335] at e335
    show OwnWk _ _ _ _ (T335.setTop (mkF m 190 #[.val (.long u), .second, .val (.int sz), .val (.int (2 : Int32)), .val (.ref b191), .val (.ref b207), .val (.ref b241), .val (.ref b277)] [(.long (own_land u (2 : Int32)))]))
    refine own_go (fun tgt kst => XS.aload X335.here hx rfl (hb hby at_190) rfl rfl  kst) ?_
    show OwnWk _ _ _ _ (T335.setTop (mkF m 192 #[.val (.long u), .second, .val (.int sz), .val (.int (2 : Int32)), .val (.ref b191), .val (.ref b207), .val (.ref b241), .val (.ref b277)] [(.ref b277), (.long (own_land u (2 : Int32)))]))
    refine own_callV X335 hx hZ (y := (⟨"com/example/spikeline/spikeline/core/SeededRandom", "state", "()J"⟩ : MethodName)) (z := (⟨"com/example/spikeline/spikeline/core/SeededRandom", "state", "()J"⟩ : MethodName)) hown (hw _ (List.mem_of_getElem? (i := 144) rfl)) (hw _ (List.mem_of_getElem? (i := 145) rfl)) (notFace_of_selects (args := #[]) (mvT hZ (hw _ (List.mem_of_getElem? (i := 147) rfl)))) (hw _ (List.mem_of_getElem? (i := 147) rfl)) (hw _ (List.mem_of_getElem? (i := 146) rfl)) (hw _ (List.mem_of_getElem? (i := 68) rfl)) (hw _ (List.mem_of_getElem? (i := 148) rfl)) (by decide) (a := b277) F331 (argsL := []) (rest := [(.long (own_land u (2 : Int32)))]) (rm := ({ frames := 0, cells := 0, slots := 0, locals := 0 } : Room)) (h := h321) (rm23 l Z a0 hw b277 (own_land u (2 : Int32)) h321 n0 Z333 F332) e335 (W := 2) (by decide) (by decide) (by decide) (by decide) (g := (mkF m 192 #[.val (.long u), .second, .val (.int sz), .val (.int (2 : Int32)), .val (.ref b191), .val (.ref b207), .val (.ref b241), .val (.ref b277)] [(.ref b277), (.long (own_land u (2 : Int32)))])) rfl (by rw [hml]; rfl) (lenOf pd_8 rfl) rfl (by show 2 * 0 + _ ≤ _; exact Nat.le_of_eq rfl) (hb hby at_192) (fun v336 T336 h336 L336 X336 e336 hQ336 => ?_)
    obtain ⟨rfl, Nq336, q336⟩ := hQ336
    have N336 := Fr.app N335 Nq336
    rw [q336] at e336
    show OwnWk _ _ _ _ (T336.setTop (mkF m 195 #[.val (.long u), .second, .val (.int sz), .val (.int (2 : Int32)), .val (.ref b191), .val (.ref b207), .val (.ref b241), .val (.ref b277)] [(.long (own_land u (2 : Int32))), (.long (own_land u (2 : Int32)))]))
    refine own_go (fun tgt kst => XS.lcmp X336.here hx rfl (hb hby at_195) rfl kst) ?_
    show OwnWk _ _ _ _ (T336.setTop (mkF m 196 #[.val (.long u), .second, .val (.int sz), .val (.int (2 : Int32)), .val (.ref b191), .val (.ref b207), .val (.ref b241), .val (.ref b277)] [(.int (lcmpW (own_land u (2 : Int32)) (own_land u (2 : Int32))))]))
    refine own_go (fun tgt kst => XS.ifYes X336.here hx rfl (pc0 := 196) (pc' := 201) rfl (hb hby at_196) rfl ((if0 _ _).trans (teq (own_lc_eq.mpr rfl)).1) (by decide) (by decide) kst) ?_
    show OwnWk _ _ _ _ (T336.setTop (mkF m 201 #[.val (.long u), .second, .val (.int sz), .val (.int (2 : Int32)), .val (.ref b191), .val (.ref b207), .val (.ref b241), .val (.ref b277)] []))
    refine own_go (fun tgt kst => XS.aload X336.here hx rfl (hb hby at_201) rfl rfl  kst) ?_
    show OwnWk _ _ _ _ (T336.setTop (mkF m 203 #[.val (.long u), .second, .val (.int sz), .val (.int (2 : Int32)), .val (.ref b191), .val (.ref b207), .val (.ref b241), .val (.ref b277)] [(.ref b207)]))
    refine own_go (fun tgt kst => XS.aload X336.here hx rfl (hb hby at_203) rfl rfl  kst) ?_
    show OwnWk _ _ _ _ (T336.setTop (mkF m 205 #[.val (.long u), .second, .val (.int sz), .val (.int (2 : Int32)), .val (.ref b191), .val (.ref b207), .val (.ref b241), .val (.ref b277)] [(.ref b191), (.ref b207)]))
    refine own_go (fun tgt kst => XS.iconst X336.here hx rfl (hb hby at_205) kst) ?_
    show OwnWk _ _ _ _ (T336.setTop (mkF m 206 #[.val (.long u), .second, .val (.int sz), .val (.int (2 : Int32)), .val (.ref b191), .val (.ref b207), .val (.ref b241), .val (.ref b277)] [(.int (0 : Int32)), (.ref b191), (.ref b207)]))
    refine own_go (fun tgt kst => XS.iloadN X336.here hx rfl (hb hby at_206) rfl  kst) ?_
    show OwnWk _ _ _ _ (T336.setTop (mkF m 207 #[.val (.long u), .second, .val (.int sz), .val (.int (2 : Int32)), .val (.ref b191), .val (.ref b207), .val (.ref b241), .val (.ref b277)] [(.int (2 : Int32)), (.int (0 : Int32)), (.ref b191), (.ref b207)]))
    refine own_callS X336 hx hZ (y := (⟨"com/example/spikeline/spikeline/core/SeededRandomShufflePinLaw", "same", "(Ljava/util/ArrayList;[III)Z"⟩ : MethodName)) hown (hw _ (List.mem_of_getElem? (i := 149) rfl)) (hw _ (List.mem_of_getElem? (i := 150) rfl)) (hw _ (List.mem_of_getElem? (i := 139) rfl)) (hw _ (List.mem_of_getElem? (i := 151) rfl)) (by decide) (argsL := [(.ref b207), (.ref b191), (.int (0 : Int32)), (.int (2 : Int32))]) (rest := []) (rm := ({ frames := 3, cells := 0, slots := 0, locals := 40 } : Room)) (h := h321) (smI l Z a0 hw dce cac ia b207 ed b191 (own_exch [0, 1] 1 (own_j u (2 : Int32))) (own_swp [0, 1, 2, 3] 1 (own_j u (2 : Int32))) 0 2 h321 n0 Z333 F322 S_d V_d S_h S_c hL hE hV F323 F327 F326 F330 Vq321 (by decide) (by simp [own_elen]) (by decide) (own_k4 (by decide : ∀ k ∈ [0, 1], k < 4)) (by simp [own_slen])) e336 (W := 0) (by decide) (by decide) (by decide) (by decide) (g := (mkF m 207 #[.val (.long u), .second, .val (.int sz), .val (.int (2 : Int32)), .val (.ref b191), .val (.ref b207), .val (.ref b241), .val (.ref b277)] [(.int (2 : Int32)), (.int (0 : Int32)), (.ref b191), (.ref b207)])) rfl (by rw [hml]; rfl) (lenOf pd_14 rfl) rfl (by show 2 * 0 + _ ≤ _; exact Nat.le_of_eq rfl) (hb hby at_207) (fun v337 T337 h337 L337 X337 e337 hQ337 => ?_)
    obtain ⟨rfl, Nq337, q337⟩ := hQ337
    have N337 := Fr.app N336 Nq337
    rw [q337] at e337
    show OwnWk _ _ _ _ (T337.setTop (mkF m 210 #[.val (.long u), .second, .val (.int sz), .val (.int (2 : Int32)), .val (.ref b191), .val (.ref b207), .val (.ref b241), .val (.ref b277)] [(.int (own_same (own_exch [0, 1] 1 (own_j u (2 : Int32))) (own_swp [0, 1, 2, 3] 1 (own_j u (2 : Int32))) 0))]))
    refine own_go (fun tgt kst => XS.ifNo X337.here hx rfl (hb hby at_210) rfl ((if0 _ _).trans (feq (by rw [own_fin2 (own_j u (2 : Int32)) (own_j_lt (by decide) rfl (by decide)) 0 (by decide)]; decide)).1) kst) ?_
    show OwnWk _ _ _ _ (T337.setTop (mkF m 213 #[.val (.long u), .second, .val (.int sz), .val (.int (2 : Int32)), .val (.ref b191), .val (.ref b207), .val (.ref b241), .val (.ref b277)] []))
    refine own_go (fun tgt kst => XS.aload X337.here hx rfl (hb hby at_213) rfl rfl  kst) ?_
    show OwnWk _ _ _ _ (T337.setTop (mkF m 215 #[.val (.long u), .second, .val (.int sz), .val (.int (2 : Int32)), .val (.ref b191), .val (.ref b207), .val (.ref b241), .val (.ref b277)] [(.ref b207)]))
    refine own_go (fun tgt kst => XS.aload X337.here hx rfl (hb hby at_215) rfl rfl  kst) ?_
    show OwnWk _ _ _ _ (T337.setTop (mkF m 217 #[.val (.long u), .second, .val (.int sz), .val (.int (2 : Int32)), .val (.ref b191), .val (.ref b207), .val (.ref b241), .val (.ref b277)] [(.ref b191), (.ref b207)]))
    refine own_go (fun tgt kst => XS.iconst X337.here hx rfl (hb hby at_217) kst) ?_
    show OwnWk _ _ _ _ (T337.setTop (mkF m 218 #[.val (.long u), .second, .val (.int sz), .val (.int (2 : Int32)), .val (.ref b191), .val (.ref b207), .val (.ref b241), .val (.ref b277)] [(.int (1 : Int32)), (.ref b191), (.ref b207)]))
    refine own_go (fun tgt kst => XS.iloadN X337.here hx rfl (hb hby at_218) rfl  kst) ?_
    show OwnWk _ _ _ _ (T337.setTop (mkF m 219 #[.val (.long u), .second, .val (.int sz), .val (.int (2 : Int32)), .val (.ref b191), .val (.ref b207), .val (.ref b241), .val (.ref b277)] [(.int (2 : Int32)), (.int (1 : Int32)), (.ref b191), (.ref b207)]))
    refine own_callS X337 hx hZ (y := (⟨"com/example/spikeline/spikeline/core/SeededRandomShufflePinLaw", "same", "(Ljava/util/ArrayList;[III)Z"⟩ : MethodName)) hown (hw _ (List.mem_of_getElem? (i := 149) rfl)) (hw _ (List.mem_of_getElem? (i := 150) rfl)) (hw _ (List.mem_of_getElem? (i := 139) rfl)) (hw _ (List.mem_of_getElem? (i := 151) rfl)) (by decide) (argsL := [(.ref b207), (.ref b191), (.int (1 : Int32)), (.int (2 : Int32))]) (rest := []) (rm := ({ frames := 3, cells := 0, slots := 0, locals := 40 } : Room)) (h := h321) (smI l Z a0 hw dce cac ia b207 ed b191 (own_exch [0, 1] 1 (own_j u (2 : Int32))) (own_swp [0, 1, 2, 3] 1 (own_j u (2 : Int32))) 1 2 h321 n0 Z333 F322 S_d V_d S_h S_c hL hE hV F323 F327 F326 F330 Vq321 (by decide) (by simp [own_elen]) (by decide) (own_k4 (by decide : ∀ k ∈ [0, 1], k < 4)) (by simp [own_slen])) e337 (W := 0) (by decide) (by decide) (by decide) (by decide) (g := (mkF m 219 #[.val (.long u), .second, .val (.int sz), .val (.int (2 : Int32)), .val (.ref b191), .val (.ref b207), .val (.ref b241), .val (.ref b277)] [(.int (2 : Int32)), (.int (1 : Int32)), (.ref b191), (.ref b207)])) rfl (by rw [hml]; rfl) (lenOf pd_14 rfl) rfl (by show 2 * 0 + _ ≤ _; exact Nat.le_of_eq rfl) (hb hby at_219) (fun v338 T338 h338 L338 X338 e338 hQ338 => ?_)
    obtain ⟨rfl, Nq338, q338⟩ := hQ338
    have N338 := Fr.app N337 Nq338
    rw [q338] at e338
    show OwnWk _ _ _ _ (T338.setTop (mkF m 222 #[.val (.long u), .second, .val (.int sz), .val (.int (2 : Int32)), .val (.ref b191), .val (.ref b207), .val (.ref b241), .val (.ref b277)] [(.int (own_same (own_exch [0, 1] 1 (own_j u (2 : Int32))) (own_swp [0, 1, 2, 3] 1 (own_j u (2 : Int32))) 1))]))
    refine own_go (fun tgt kst => XS.ifNo X338.here hx rfl (hb hby at_222) rfl ((if0 _ _).trans (feq (by rw [own_fin2 (own_j u (2 : Int32)) (own_j_lt (by decide) rfl (by decide)) 1 (by decide)]; decide)).1) kst) ?_
    show OwnWk _ _ _ _ (T338.setTop (mkF m 225 #[.val (.long u), .second, .val (.int sz), .val (.int (2 : Int32)), .val (.ref b191), .val (.ref b207), .val (.ref b241), .val (.ref b277)] []))
    refine own_go (fun tgt kst => XS.aload X338.here hx rfl (hb hby at_225) rfl rfl  kst) ?_
    show OwnWk _ _ _ _ (T338.setTop (mkF m 227 #[.val (.long u), .second, .val (.int sz), .val (.int (2 : Int32)), .val (.ref b191), .val (.ref b207), .val (.ref b241), .val (.ref b277)] [(.ref b207)]))
    refine own_go (fun tgt kst => XS.aload X338.here hx rfl (hb hby at_227) rfl rfl  kst) ?_
    show OwnWk _ _ _ _ (T338.setTop (mkF m 229 #[.val (.long u), .second, .val (.int sz), .val (.int (2 : Int32)), .val (.ref b191), .val (.ref b207), .val (.ref b241), .val (.ref b277)] [(.ref b191), (.ref b207)]))
    refine own_go (fun tgt kst => XS.iconst X338.here hx rfl (hb hby at_229) kst) ?_
    show OwnWk _ _ _ _ (T338.setTop (mkF m 230 #[.val (.long u), .second, .val (.int sz), .val (.int (2 : Int32)), .val (.ref b191), .val (.ref b207), .val (.ref b241), .val (.ref b277)] [(.int (2 : Int32)), (.ref b191), (.ref b207)]))
    refine own_go (fun tgt kst => XS.iloadN X338.here hx rfl (hb hby at_230) rfl  kst) ?_
    show OwnWk _ _ _ _ (T338.setTop (mkF m 231 #[.val (.long u), .second, .val (.int sz), .val (.int (2 : Int32)), .val (.ref b191), .val (.ref b207), .val (.ref b241), .val (.ref b277)] [(.int (2 : Int32)), (.int (2 : Int32)), (.ref b191), (.ref b207)]))
    refine own_callS X338 hx hZ (y := (⟨"com/example/spikeline/spikeline/core/SeededRandomShufflePinLaw", "same", "(Ljava/util/ArrayList;[III)Z"⟩ : MethodName)) hown (hw _ (List.mem_of_getElem? (i := 149) rfl)) (hw _ (List.mem_of_getElem? (i := 150) rfl)) (hw _ (List.mem_of_getElem? (i := 139) rfl)) (hw _ (List.mem_of_getElem? (i := 151) rfl)) (by decide) (argsL := [(.ref b207), (.ref b191), (.int (2 : Int32)), (.int (2 : Int32))]) (rest := []) (rm := ({ frames := 0, cells := 0, slots := 0, locals := 0 } : Room)) (h := h321) (smO l Z a0 hw b207 b191 (2 : Int32) (2 : Int32) h321 n0 Z333 (by decide)) e338 (W := 0) (by decide) (by decide) (by decide) (by decide) (g := (mkF m 231 #[.val (.long u), .second, .val (.int sz), .val (.int (2 : Int32)), .val (.ref b191), .val (.ref b207), .val (.ref b241), .val (.ref b277)] [(.int (2 : Int32)), (.int (2 : Int32)), (.ref b191), (.ref b207)])) rfl (by rw [hml]; rfl) (lenOf pd_14 rfl) rfl (by show 2 * 0 + _ ≤ _; exact Nat.le_of_eq rfl) (hb hby at_231) (fun v339 T339 h339 L339 X339 e339 hQ339 => ?_)
    obtain ⟨rfl, Nq339, q339⟩ := hQ339
    have N339 := Fr.app N338 Nq339
    rw [q339] at e339
    show OwnWk _ _ _ _ (T339.setTop (mkF m 234 #[.val (.long u), .second, .val (.int sz), .val (.int (2 : Int32)), .val (.ref b191), .val (.ref b207), .val (.ref b241), .val (.ref b277)] [(.int (1 : Int32))]))
    refine own_go (fun tgt kst => XS.ifNo X339.here hx rfl (hb hby at_234) rfl ((if0 _ _).trans (feq (by decide : ¬ ((1 : Int32) = (0 : Int32)))).1) kst) ?_
    show OwnWk _ _ _ _ (T339.setTop (mkF m 237 #[.val (.long u), .second, .val (.int sz), .val (.int (2 : Int32)), .val (.ref b191), .val (.ref b207), .val (.ref b241), .val (.ref b277)] []))
    refine own_go (fun tgt kst => XS.aload X339.here hx rfl (hb hby at_237) rfl rfl  kst) ?_
    show OwnWk _ _ _ _ (T339.setTop (mkF m 239 #[.val (.long u), .second, .val (.int sz), .val (.int (2 : Int32)), .val (.ref b191), .val (.ref b207), .val (.ref b241), .val (.ref b277)] [(.ref b207)]))
    refine own_go (fun tgt kst => XS.aload X339.here hx rfl (hb hby at_239) rfl rfl  kst) ?_
    show OwnWk _ _ _ _ (T339.setTop (mkF m 241 #[.val (.long u), .second, .val (.int sz), .val (.int (2 : Int32)), .val (.ref b191), .val (.ref b207), .val (.ref b241), .val (.ref b277)] [(.ref b191), (.ref b207)]))
    refine own_go (fun tgt kst => XS.iconst X339.here hx rfl (hb hby at_241) kst) ?_
    show OwnWk _ _ _ _ (T339.setTop (mkF m 242 #[.val (.long u), .second, .val (.int sz), .val (.int (2 : Int32)), .val (.ref b191), .val (.ref b207), .val (.ref b241), .val (.ref b277)] [(.int (3 : Int32)), (.ref b191), (.ref b207)]))
    refine own_go (fun tgt kst => XS.iloadN X339.here hx rfl (hb hby at_242) rfl  kst) ?_
    show OwnWk _ _ _ _ (T339.setTop (mkF m 243 #[.val (.long u), .second, .val (.int sz), .val (.int (2 : Int32)), .val (.ref b191), .val (.ref b207), .val (.ref b241), .val (.ref b277)] [(.int (2 : Int32)), (.int (3 : Int32)), (.ref b191), (.ref b207)]))
    refine own_callS X339 hx hZ (y := (⟨"com/example/spikeline/spikeline/core/SeededRandomShufflePinLaw", "same", "(Ljava/util/ArrayList;[III)Z"⟩ : MethodName)) hown (hw _ (List.mem_of_getElem? (i := 149) rfl)) (hw _ (List.mem_of_getElem? (i := 150) rfl)) (hw _ (List.mem_of_getElem? (i := 139) rfl)) (hw _ (List.mem_of_getElem? (i := 151) rfl)) (by decide) (argsL := [(.ref b207), (.ref b191), (.int (3 : Int32)), (.int (2 : Int32))]) (rest := []) (rm := ({ frames := 0, cells := 0, slots := 0, locals := 0 } : Room)) (h := h321) (smO l Z a0 hw b207 b191 (3 : Int32) (2 : Int32) h321 n0 Z333 (by decide)) e339 (W := 0) (by decide) (by decide) (by decide) (by decide) (g := (mkF m 243 #[.val (.long u), .second, .val (.int sz), .val (.int (2 : Int32)), .val (.ref b191), .val (.ref b207), .val (.ref b241), .val (.ref b277)] [(.int (2 : Int32)), (.int (3 : Int32)), (.ref b191), (.ref b207)])) rfl (by rw [hml]; rfl) (lenOf pd_14 rfl) rfl (by show 2 * 0 + _ ≤ _; exact Nat.le_of_eq rfl) (hb hby at_243) (fun v340 T340 h340 L340 X340 e340 hQ340 => ?_)
    obtain ⟨rfl, Nq340, q340⟩ := hQ340
    have N340 := Fr.app N339 Nq340
    rw [q340] at e340
    show OwnWk _ _ _ _ (T340.setTop (mkF m 246 #[.val (.long u), .second, .val (.int sz), .val (.int (2 : Int32)), .val (.ref b191), .val (.ref b207), .val (.ref b241), .val (.ref b277)] [(.int (1 : Int32))]))
    refine own_go (fun tgt kst => XS.ifNo X340.here hx rfl (hb hby at_246) rfl ((if0 _ _).trans (feq (by decide : ¬ ((1 : Int32) = (0 : Int32)))).1) kst) ?_
    show OwnWk _ _ _ _ (T340.setTop (mkF m 249 #[.val (.long u), .second, .val (.int sz), .val (.int (2 : Int32)), .val (.ref b191), .val (.ref b207), .val (.ref b241), .val (.ref b277)] []))
    refine own_go (fun tgt kst => XS.iconst X340.here hx rfl (hb hby at_249) kst) ?_
    show OwnWk _ _ _ _ (T340.setTop (mkF m 250 #[.val (.long u), .second, .val (.int sz), .val (.int (2 : Int32)), .val (.ref b191), .val (.ref b207), .val (.ref b241), .val (.ref b277)] [(.int (1 : Int32))]))
    refine own_go (fun tgt kst => XS.goto X340.here hx rfl (pc0 := 250) (pc' := 254) rfl (hb hby at_250) (by decide) (by decide) kst) ?_
    show OwnWk _ _ _ _ (T340.setTop (mkF m 254 #[.val (.long u), .second, .val (.int sz), .val (.int (2 : Int32)), .val (.ref b191), .val (.ref b207), .val (.ref b241), .val (.ref b277)] [(.int (1 : Int32))]))
    exact own_retZ X340 hx hlk hret (by simp) (z' := (1 : Int32)) rfl (hb hby at_254) (by decide) (by decide) (by rw [e340]; exact ⟨rfl, N340⟩)
  ·
    show OwnWk _ _ _ _ (s₁.setTop (mkF m 6 #[.val (.long u), .second, .val (.int sz), .unset, .unset, .unset, .unset, .unset] [(.int (3 : Int32))]))
    refine own_go (fun tgt kst => XS.istoreN X0.here hx rfl (hb hby at_6) rfl (l' := #[.val (.long u), .second, .val (.int sz), .val (.int (3 : Int32)), .unset, .unset, .unset, .unset]) rfl kst) ?_
    show OwnWk _ _ _ _ (s₁.setTop (mkF m 7 #[.val (.long u), .second, .val (.int sz), .val (.int (3 : Int32)), .unset, .unset, .unset, .unset] []))
    refine own_go (fun tgt kst => XS.iconst X0.here hx rfl (hb hby at_7) kst) ?_
    show OwnWk _ _ _ _ (s₁.setTop (mkF m 8 #[.val (.long u), .second, .val (.int sz), .val (.int (3 : Int32)), .unset, .unset, .unset, .unset] [(.int (4 : Int32))]))
    refine own_newP X0 hx hZ (aty := .int) (hw _ (List.mem_of_getElem? (i := 1) rfl)) e0 (g := (mkF m 8 #[.val (.long u), .second, .val (.int sz), .val (.int (3 : Int32)), .unset, .unset, .unset, .unset] [(.int (4 : Int32))])) rfl (hb hby at_8) rfl (by decide) (cap := 4) (by decide) (by decide) (by decide) (by decide) (fun T341 h341 b341 X341 e341 g341 E341 V341 => ?_)
    have ge342 : n0 ≤ b341 := Nat.le_trans Z0 (Nat.le_of_eq g341.symm)
    have F343 := Old.ext O0 E341
    have Z344 := Nat.le_trans Z0 E341.1
    have V341b : OAr Z h341 b341 .int [(.int (0 : Int32)), (.int (0 : Int32)), (.int (0 : Int32)), (.int (0 : Int32))] := V341
    show OwnWk _ _ _ _ (T341.setTop (mkF m 10 #[.val (.long u), .second, .val (.int sz), .val (.int (3 : Int32)), .unset, .unset, .unset, .unset] [(.ref b341)]))
    refine own_go (fun tgt kst => XS.dup X341.here hx rfl (hb hby at_10) rfl rfl kst) ?_
    show OwnWk _ _ _ _ (T341.setTop (mkF m 11 #[.val (.long u), .second, .val (.int sz), .val (.int (3 : Int32)), .unset, .unset, .unset, .unset] [(.ref b341), (.ref b341)]))
    refine own_go (fun tgt kst => XS.iconst X341.here hx rfl (hb hby at_11) kst) ?_
    show OwnWk _ _ _ _ (T341.setTop (mkF m 12 #[.val (.long u), .second, .val (.int sz), .val (.int (3 : Int32)), .unset, .unset, .unset, .unset] [(.int (0 : Int32)), (.ref b341), (.ref b341)]))
    refine own_go (fun tgt kst => XS.iconst X341.here hx rfl (hb hby at_12) kst) ?_
    show OwnWk _ _ _ _ (T341.setTop (mkF m 13 #[.val (.long u), .second, .val (.int sz), .val (.int (3 : Int32)), .unset, .unset, .unset, .unset] [(.int (0 : Int32)), (.int (0 : Int32)), (.ref b341), (.ref b341)]))
    refine own_stI X341 hx hZ e341 V341b (g := (mkF m 13 #[.val (.long u), .second, .val (.int sz), .val (.int (3 : Int32)), .unset, .unset, .unset, .unset] [(.int (0 : Int32)), (.int (0 : Int32)), (.ref b341), (.ref b341)])) rfl rfl (hb hby at_13) (by decide) (Nat.le_of_ble_eq_true rfl) (fun T345 h345 X345 e345 W345 V345 => ?_)
    have N345 := Fr.snoc X345 N0 ge342
    have F346 := Old.wr F343 W345 ge342
    have Z347 := Nat.le_trans Z344 (Keep.of_wr W345).1
    show OwnWk _ _ _ _ (T345.setTop (mkF m 14 #[.val (.long u), .second, .val (.int sz), .val (.int (3 : Int32)), .unset, .unset, .unset, .unset] [(.ref b341)]))
    refine own_go (fun tgt kst => XS.dup X345.here hx rfl (hb hby at_14) rfl rfl kst) ?_
    show OwnWk _ _ _ _ (T345.setTop (mkF m 15 #[.val (.long u), .second, .val (.int sz), .val (.int (3 : Int32)), .unset, .unset, .unset, .unset] [(.ref b341), (.ref b341)]))
    refine own_go (fun tgt kst => XS.iconst X345.here hx rfl (hb hby at_15) kst) ?_
    show OwnWk _ _ _ _ (T345.setTop (mkF m 16 #[.val (.long u), .second, .val (.int sz), .val (.int (3 : Int32)), .unset, .unset, .unset, .unset] [(.int (1 : Int32)), (.ref b341), (.ref b341)]))
    refine own_go (fun tgt kst => XS.iconst X345.here hx rfl (hb hby at_16) kst) ?_
    show OwnWk _ _ _ _ (T345.setTop (mkF m 17 #[.val (.long u), .second, .val (.int sz), .val (.int (3 : Int32)), .unset, .unset, .unset, .unset] [(.int (1 : Int32)), (.int (1 : Int32)), (.ref b341), (.ref b341)]))
    refine own_stI X345 hx hZ e345 V345 (g := (mkF m 17 #[.val (.long u), .second, .val (.int sz), .val (.int (3 : Int32)), .unset, .unset, .unset, .unset] [(.int (1 : Int32)), (.int (1 : Int32)), (.ref b341), (.ref b341)])) rfl rfl (hb hby at_17) (by decide) (Nat.le_of_ble_eq_true rfl) (fun T348 h348 X348 e348 W348 V348 => ?_)
    have N348 := Fr.snoc X348 N345 ge342
    have F349 := Old.wr F346 W348 ge342
    have Z350 := Nat.le_trans Z347 (Keep.of_wr W348).1
    show OwnWk _ _ _ _ (T348.setTop (mkF m 18 #[.val (.long u), .second, .val (.int sz), .val (.int (3 : Int32)), .unset, .unset, .unset, .unset] [(.ref b341)]))
    refine own_go (fun tgt kst => XS.dup X348.here hx rfl (hb hby at_18) rfl rfl kst) ?_
    show OwnWk _ _ _ _ (T348.setTop (mkF m 19 #[.val (.long u), .second, .val (.int sz), .val (.int (3 : Int32)), .unset, .unset, .unset, .unset] [(.ref b341), (.ref b341)]))
    refine own_go (fun tgt kst => XS.iconst X348.here hx rfl (hb hby at_19) kst) ?_
    show OwnWk _ _ _ _ (T348.setTop (mkF m 20 #[.val (.long u), .second, .val (.int sz), .val (.int (3 : Int32)), .unset, .unset, .unset, .unset] [(.int (2 : Int32)), (.ref b341), (.ref b341)]))
    refine own_go (fun tgt kst => XS.iconst X348.here hx rfl (hb hby at_20) kst) ?_
    show OwnWk _ _ _ _ (T348.setTop (mkF m 21 #[.val (.long u), .second, .val (.int sz), .val (.int (3 : Int32)), .unset, .unset, .unset, .unset] [(.int (2 : Int32)), (.int (2 : Int32)), (.ref b341), (.ref b341)]))
    refine own_stI X348 hx hZ e348 V348 (g := (mkF m 21 #[.val (.long u), .second, .val (.int sz), .val (.int (3 : Int32)), .unset, .unset, .unset, .unset] [(.int (2 : Int32)), (.int (2 : Int32)), (.ref b341), (.ref b341)])) rfl rfl (hb hby at_21) (by decide) (Nat.le_of_ble_eq_true rfl) (fun T351 h351 X351 e351 W351 V351 => ?_)
    have N351 := Fr.snoc X351 N348 ge342
    have F352 := Old.wr F349 W351 ge342
    have Z353 := Nat.le_trans Z350 (Keep.of_wr W351).1
    show OwnWk _ _ _ _ (T351.setTop (mkF m 22 #[.val (.long u), .second, .val (.int sz), .val (.int (3 : Int32)), .unset, .unset, .unset, .unset] [(.ref b341)]))
    refine own_go (fun tgt kst => XS.dup X351.here hx rfl (hb hby at_22) rfl rfl kst) ?_
    show OwnWk _ _ _ _ (T351.setTop (mkF m 23 #[.val (.long u), .second, .val (.int sz), .val (.int (3 : Int32)), .unset, .unset, .unset, .unset] [(.ref b341), (.ref b341)]))
    refine own_go (fun tgt kst => XS.iconst X351.here hx rfl (hb hby at_23) kst) ?_
    show OwnWk _ _ _ _ (T351.setTop (mkF m 24 #[.val (.long u), .second, .val (.int sz), .val (.int (3 : Int32)), .unset, .unset, .unset, .unset] [(.int (3 : Int32)), (.ref b341), (.ref b341)]))
    refine own_go (fun tgt kst => XS.iconst X351.here hx rfl (hb hby at_24) kst) ?_
    show OwnWk _ _ _ _ (T351.setTop (mkF m 25 #[.val (.long u), .second, .val (.int sz), .val (.int (3 : Int32)), .unset, .unset, .unset, .unset] [(.int (3 : Int32)), (.int (3 : Int32)), (.ref b341), (.ref b341)]))
    refine own_stI X351 hx hZ e351 V351 (g := (mkF m 25 #[.val (.long u), .second, .val (.int sz), .val (.int (3 : Int32)), .unset, .unset, .unset, .unset] [(.int (3 : Int32)), (.int (3 : Int32)), (.ref b341), (.ref b341)])) rfl rfl (hb hby at_25) (by decide) (Nat.le_of_ble_eq_true rfl) (fun T354 h354 X354 e354 W354 V354 => ?_)
    have N354 := Fr.snoc X354 N351 ge342
    have F355 := Old.wr F352 W354 ge342
    have Z356 := Nat.le_trans Z353 (Keep.of_wr W354).1
    show OwnWk _ _ _ _ (T354.setTop (mkF m 26 #[.val (.long u), .second, .val (.int sz), .val (.int (3 : Int32)), .unset, .unset, .unset, .unset] [(.ref b341)]))
    have Vst : OAr Z h354 b341 .int (own_iv [0, 1, 2, 3]) := V354
    refine own_go (fun tgt kst => XS.astore X354.here hx rfl (hb hby at_26) rfl rfl (l' := #[.val (.long u), .second, .val (.int sz), .val (.int (3 : Int32)), .val (.ref b341), .unset, .unset, .unset]) rfl kst) ?_
    show OwnWk _ _ _ _ (T354.setTop (mkF m 28 #[.val (.long u), .second, .val (.int sz), .val (.int (3 : Int32)), .val (.ref b341), .unset, .unset, .unset] []))
    obtain ⟨T357, h357, X357, e357, E357, A357, D357, -, st357⟩ := newO X354 hx hZ hown (hw _ (List.mem_of_getElem? (i := 2) rfl)) (hw _ (List.mem_of_getElem? (i := 3) rfl)) (hw _ (List.mem_of_getElem? (i := 4) rfl)) e354 (g := (mkF m 28 #[.val (.long u), .second, .val (.int sz), .val (.int (3 : Int32)), .val (.ref b341), .unset, .unset, .unset] [])) rfl (hb hby at_28) (by decide) (by decide)
    obtain ⟨b357, g357⟩ : ∃ z, z = h354.size := ⟨_, rfl⟩
    rw [← g357] at A357 D357 st357
    refine own_go st357 ?_
    have ne358 : b341 ≠ b357 := Nat.ne_of_lt (Nat.lt_of_lt_of_le Vst.lt (Nat.le_of_eq g357.symm))
    have ge359 : n0 ≤ b357 := Nat.le_trans Z356 (Nat.le_of_eq g357.symm)
    have F360 := Old.ext F355 E357
    have F361 := OAr.ext Vst E357
    have Z362 := Nat.le_trans Z356 E357.1
    have F363 : Fld Z h357 b357 "java/util/AbstractList" "modCount" "I" (.int (0 : Int32)) := D357 (Or.inl (hw _ (List.mem_of_getElem? (i := 24) rfl))) (ty := .int) (by decide)
    have F364 : Fld Z h357 b357 "java/util/ArrayList" "elementData" "[Ljava/lang/Object;" .null := D357 (Or.inl (hw _ (List.mem_of_getElem? (i := 27) rfl))) (ty := (.array (.object "java/lang/Object"))) (by decide)
    have F365 : Fld Z h357 b357 "java/util/ArrayList" "size" "I" (.int (0 : Int32)) := D357 (Or.inl (hw _ (List.mem_of_getElem? (i := 43) rfl))) (ty := .int) (by decide)
    show OwnWk _ _ _ _ (T357.setTop (mkF m 31 #[.val (.long u), .second, .val (.int sz), .val (.int (3 : Int32)), .val (.ref b341), .unset, .unset, .unset] [(.ref b357)]))
    refine own_go (fun tgt kst => XS.dup X357.here hx rfl (hb hby at_31) rfl rfl kst) ?_
    show OwnWk _ _ _ _ (T357.setTop (mkF m 32 #[.val (.long u), .second, .val (.int sz), .val (.int (3 : Int32)), .val (.ref b341), .unset, .unset, .unset] [(.ref b357), (.ref b357)]))
    refine own_callC X357 hx hZ (y := (⟨"java/util/ArrayList", "<init>", "()V"⟩ : MethodName)) hown rfl (hw _ (List.mem_of_getElem? (i := 5) rfl)) (hw _ (List.mem_of_getElem? (i := 6) rfl)) (hw _ (List.mem_of_getElem? (i := 4) rfl)) (hw _ (List.mem_of_getElem? (i := 7) rfl)) (by decide) (a := b357) (argsL := []) (rest := [(.ref b357)]) (rm := ({ frames := 3, cells := 0, slots := 0, locals := 36 } : Room)) (h := h357) (rm1 l Z a0 hw dce cac ia b357 h357 n0 Z362 F360 S_d V_d S_h S_c hL hE hV A357 ge359 F363 F364 F365) e357 (W := 1) (by decide) (by decide) (by decide) (by decide) (g := (mkF m 32 #[.val (.long u), .second, .val (.int sz), .val (.int (3 : Int32)), .val (.ref b341), .unset, .unset, .unset] [(.ref b357), (.ref b357)])) rfl (by rw [hml]; rfl) (lenOf pd_0 rfl) rfl (by show 2 * 0 + _ ≤ _; exact Nat.le_of_eq rfl) (hb hby at_32) (fun v366 T366 h366 L366 X366 e366 hQ366 => ?_)
    obtain ⟨rfl, Nq366, Kq366, Fm366, Fe366, Fs366⟩ := hQ366
    have N366 := Fr.app N354 Nq366
    have F367 := Old.keep F360 Kq366 (allS ge359 all0)
    have F368 := OAr.keep F361 Kq366 (ninS ne358 nin0)
    have F369 := Exa.keep A357 Kq366
    have Z370 := Nat.le_trans Z362 Kq366.1
    show OwnWk _ _ _ _ (T366.setTop (mkF m 35 #[.val (.long u), .second, .val (.int sz), .val (.int (3 : Int32)), .val (.ref b341), .unset, .unset, .unset] [(.ref b357)]))
    refine own_go (fun tgt kst => XS.astore X366.here hx rfl (hb hby at_35) rfl rfl (l' := #[.val (.long u), .second, .val (.int sz), .val (.int (3 : Int32)), .val (.ref b341), .val (.ref b357), .unset, .unset]) rfl kst) ?_
    show OwnWk _ _ _ _ (T366.setTop (mkF m 37 #[.val (.long u), .second, .val (.int sz), .val (.int (3 : Int32)), .val (.ref b341), .val (.ref b357), .unset, .unset] []))
    refine own_go (fun tgt kst => XS.iloadN X366.here hx rfl (hb hby at_37) rfl  kst) ?_
    show OwnWk _ _ _ _ (T366.setTop (mkF m 38 #[.val (.long u), .second, .val (.int sz), .val (.int (3 : Int32)), .val (.ref b341), .val (.ref b357), .unset, .unset] [(.int (3 : Int32))]))
    refine own_go (fun tgt kst => XS.ifNo X366.here hx rfl (hb hby at_38) rfl ((if0 _ _).trans (tlt (by decide : (0 : Int32) < (3 : Int32))).2.2.2) kst) ?_
    show OwnWk _ _ _ _ (T366.setTop (mkF m 41 #[.val (.long u), .second, .val (.int sz), .val (.int (3 : Int32)), .val (.ref b341), .val (.ref b357), .unset, .unset] []))
    refine own_go (fun tgt kst => XS.aload X366.here hx rfl (hb hby at_41) rfl rfl  kst) ?_
    show OwnWk _ _ _ _ (T366.setTop (mkF m 43 #[.val (.long u), .second, .val (.int sz), .val (.int (3 : Int32)), .val (.ref b341), .val (.ref b357), .unset, .unset] [(.ref b357)]))
    refine own_go (fun tgt kst => XS.iconst X366.here hx rfl (hb hby at_43) kst) ?_
    show OwnWk _ _ _ _ (T366.setTop (mkF m 44 #[.val (.long u), .second, .val (.int sz), .val (.int (3 : Int32)), .val (.ref b341), .val (.ref b357), .unset, .unset] [(.int (0 : Int32)), (.ref b357)]))
    refine own_callS X366 hx hZ (y := (⟨"java/lang/Integer", "valueOf", "(I)Ljava/lang/Integer;"⟩ : MethodName)) hown (hw _ (List.mem_of_getElem? (i := 28) rfl)) (hw _ (List.mem_of_getElem? (i := 29) rfl)) (hw _ (List.mem_of_getElem? (i := 30) rfl)) (hw _ (List.mem_of_getElem? (i := 31) rfl)) (by decide) (argsL := [(.int (0 : Int32))]) (rest := [(.ref b357)]) (rm := ({ frames := 0, cells := 0, slots := 0, locals := 0 } : Room)) (h := h366) (vo0 l Z a0 hw dce cac ia h366 n0 Z370 F367 S_d V_d S_h S_c hL hE hV) e366 (W := 1) (by decide) (by decide) (by decide) (by decide) (g := (mkF m 44 #[.val (.long u), .second, .val (.int sz), .val (.int (3 : Int32)), .val (.ref b341), .val (.ref b357), .unset, .unset] [(.int (0 : Int32)), (.ref b357)])) rfl (by rw [hml]; rfl) (lenOf pd_15 rfl) rfl (by show 2 * 0 + _ ≤ _; exact Nat.le_of_eq rfl) (hb hby at_44) (fun v371 T371 h371 L371 X371 e371 hQ371 => ?_)
    obtain ⟨rfl, Nq371, q371⟩ := hQ371
    have N371 := Fr.app N366 Nq371
    rw [q371] at e371
    show OwnWk _ _ _ _ (T371.setTop (mkF m 47 #[.val (.long u), .second, .val (.int sz), .val (.int (3 : Int32)), .val (.ref b341), .val (.ref b357), .unset, .unset] [(.ref (ia 0)), (.ref b357)]))
    have lt372 : b341 < h366.size := F368.lt
    have lt373 : b357 < h366.size := F369.lt
    refine own_callV X371 hx hZ (y := (⟨"java/util/ArrayList", "add", "(Ljava/lang/Object;)Z"⟩ : MethodName)) (z := (⟨"java/util/ArrayList", "add", "(Ljava/lang/Object;)Z"⟩ : MethodName)) hown (hw _ (List.mem_of_getElem? (i := 35) rfl)) (hw _ (List.mem_of_getElem? (i := 36) rfl)) (notFace_of_selects (args := #[]) (mvT hZ (hw _ (List.mem_of_getElem? (i := 38) rfl)))) (hw _ (List.mem_of_getElem? (i := 38) rfl)) (hw _ (List.mem_of_getElem? (i := 37) rfl)) (hw _ (List.mem_of_getElem? (i := 4) rfl)) (hw _ (List.mem_of_getElem? (i := 39) rfl)) (by decide) (a := b357) F369 (argsL := [(.ref (ia 0))]) (rest := []) (rm := ({ frames := 4, cells := 1, slots := 10, locals := 56 } : Room)) (h := h366) (adB0 l Z a0 hw dce cac ia b357 (ia 0) h366 n0 Z370 F367 S_d V_d S_h S_c hL hE hV (Ins.of_exa (Exa.ext F367.2 (hE 0 (by decide))) (hw _ (List.mem_of_getElem? (i := 65) rfl))) F369 ge359 Fm366 Fe366 Fs366) e371 (W := 0) (by decide) (by decide) (by decide) (by decide) (g := (mkF m 47 #[.val (.long u), .second, .val (.int sz), .val (.int (3 : Int32)), .val (.ref b341), .val (.ref b357), .unset, .unset] [(.ref (ia 0)), (.ref b357)])) rfl (by rw [hml]; rfl) (lenOf pd_16 rfl) rfl (by show 2 * 0 + _ ≤ _; exact Nat.le_of_eq rfl) (hb hby at_47) (fun v374 T374 h374 L374 X374 e374 hQ374 => ?_)
    obtain ⟨ed, rfl, Nq374, Kq374, szed, ged, Fm374, Fe374, Fs374, Vq374, Oq374⟩ := hQ374
    have N374 := Fr.app N371 Nq374
    have F375 := Old.keep F367 Kq374 (allS ge359 all0)
    have F376 := OAr.keep F368 Kq374 (ninS ne358 nin0)
    have F377 := Exa.keep F369 Kq374
    have Z378 := Nat.le_trans Z370 Kq374.1
    have ne379 : b341 ≠ ed := Nat.ne_of_lt (Nat.lt_of_lt_of_le lt372 szed)
    have ne380 : b357 ≠ ed := Nat.ne_of_lt (Nat.lt_of_lt_of_le lt373 szed)
    show OwnWk _ _ _ _ (T374.setTop (mkF m 50 #[.val (.long u), .second, .val (.int sz), .val (.int (3 : Int32)), .val (.ref b341), .val (.ref b357), .unset, .unset] [(.int (1 : Int32))]))
    refine own_go (fun tgt kst => XS.pop X374.here hx rfl (hb hby at_50) rfl rfl kst) ?_
    show OwnWk _ _ _ _ (T374.setTop (mkF m 51 #[.val (.long u), .second, .val (.int sz), .val (.int (3 : Int32)), .val (.ref b341), .val (.ref b357), .unset, .unset] []))
    refine own_go (fun tgt kst => XS.iloadN X374.here hx rfl (hb hby at_51) rfl  kst) ?_
    show OwnWk _ _ _ _ (T374.setTop (mkF m 52 #[.val (.long u), .second, .val (.int sz), .val (.int (3 : Int32)), .val (.ref b341), .val (.ref b357), .unset, .unset] [(.int (3 : Int32))]))
    refine own_go (fun tgt kst => XS.iconst X374.here hx rfl (hb hby at_52) kst) ?_
    show OwnWk _ _ _ _ (T374.setTop (mkF m 53 #[.val (.long u), .second, .val (.int sz), .val (.int (3 : Int32)), .val (.ref b341), .val (.ref b357), .unset, .unset] [(.int (1 : Int32)), (.int (3 : Int32))]))
    refine own_go (fun tgt kst => XS.icmpNo X374.here hx rfl (hb hby at_53) rfl (tlt (by decide : (1 : Int32) < (3 : Int32))).2.2.2 kst) ?_
    show OwnWk _ _ _ _ (T374.setTop (mkF m 56 #[.val (.long u), .second, .val (.int sz), .val (.int (3 : Int32)), .val (.ref b341), .val (.ref b357), .unset, .unset] []))
    refine own_go (fun tgt kst => XS.aload X374.here hx rfl (hb hby at_56) rfl rfl  kst) ?_
    show OwnWk _ _ _ _ (T374.setTop (mkF m 58 #[.val (.long u), .second, .val (.int sz), .val (.int (3 : Int32)), .val (.ref b341), .val (.ref b357), .unset, .unset] [(.ref b357)]))
    refine own_go (fun tgt kst => XS.iconst X374.here hx rfl (hb hby at_58) kst) ?_
    show OwnWk _ _ _ _ (T374.setTop (mkF m 59 #[.val (.long u), .second, .val (.int sz), .val (.int (3 : Int32)), .val (.ref b341), .val (.ref b357), .unset, .unset] [(.int (1 : Int32)), (.ref b357)]))
    refine own_callS X374 hx hZ (y := (⟨"java/lang/Integer", "valueOf", "(I)Ljava/lang/Integer;"⟩ : MethodName)) hown (hw _ (List.mem_of_getElem? (i := 28) rfl)) (hw _ (List.mem_of_getElem? (i := 29) rfl)) (hw _ (List.mem_of_getElem? (i := 30) rfl)) (hw _ (List.mem_of_getElem? (i := 31) rfl)) (by decide) (argsL := [(.int (1 : Int32))]) (rest := [(.ref b357)]) (rm := ({ frames := 0, cells := 0, slots := 0, locals := 0 } : Room)) (h := h374) (vo1 l Z a0 hw dce cac ia h374 n0 Z378 F375 S_d V_d S_h S_c hL hE hV) e374 (W := 1) (by decide) (by decide) (by decide) (by decide) (g := (mkF m 59 #[.val (.long u), .second, .val (.int sz), .val (.int (3 : Int32)), .val (.ref b341), .val (.ref b357), .unset, .unset] [(.int (1 : Int32)), (.ref b357)])) rfl (by rw [hml]; rfl) (lenOf pd_15 rfl) rfl (by show 2 * 0 + _ ≤ _; exact Nat.le_of_eq rfl) (hb hby at_59) (fun v381 T381 h381 L381 X381 e381 hQ381 => ?_)
    obtain ⟨rfl, Nq381, q381⟩ := hQ381
    have N381 := Fr.app N374 Nq381
    rw [q381] at e381
    show OwnWk _ _ _ _ (T381.setTop (mkF m 62 #[.val (.long u), .second, .val (.int sz), .val (.int (3 : Int32)), .val (.ref b341), .val (.ref b357), .unset, .unset] [(.ref (ia 1)), (.ref b357)]))
    have lt382 : b341 < h374.size := F376.lt
    have lt383 : b357 < h374.size := F377.lt
    have lt384 : ed < h374.size := Vq374.lt
    refine own_callV X381 hx hZ (y := (⟨"java/util/ArrayList", "add", "(Ljava/lang/Object;)Z"⟩ : MethodName)) (z := (⟨"java/util/ArrayList", "add", "(Ljava/lang/Object;)Z"⟩ : MethodName)) hown (hw _ (List.mem_of_getElem? (i := 35) rfl)) (hw _ (List.mem_of_getElem? (i := 36) rfl)) (notFace_of_selects (args := #[]) (mvT hZ (hw _ (List.mem_of_getElem? (i := 38) rfl)))) (hw _ (List.mem_of_getElem? (i := 38) rfl)) (hw _ (List.mem_of_getElem? (i := 37) rfl)) (hw _ (List.mem_of_getElem? (i := 4) rfl)) (hw _ (List.mem_of_getElem? (i := 39) rfl)) (by decide) (a := b357) F377 (argsL := [(.ref (ia 1))]) (rest := []) (rm := ({ frames := 1, cells := 0, slots := 0, locals := 15 } : Room)) (h := h374) (adB1 l Z a0 hw dce cac ia b357 (ia 1) ed (ia 0) h374 n0 Z378 F375 S_d V_d S_h S_c hL hE hV (Ins.of_exa (Exa.ext F375.2 (hE 1 (by decide))) (hw _ (List.mem_of_getElem? (i := 65) rfl))) F377 ge359 Fm374 Fe374 Fs374 ged ne380 Vq374 Oq374) e381 (W := 0) (by decide) (by decide) (by decide) (by decide) (g := (mkF m 62 #[.val (.long u), .second, .val (.int sz), .val (.int (3 : Int32)), .val (.ref b341), .val (.ref b357), .unset, .unset] [(.ref (ia 1)), (.ref b357)])) rfl (by rw [hml]; rfl) (lenOf pd_16 rfl) rfl (by show 2 * 0 + _ ≤ _; exact Nat.le_of_eq rfl) (hb hby at_62) (fun v385 T385 h385 L385 X385 e385 hQ385 => ?_)
    obtain ⟨rfl, Nq385, Kq385, Fm385, Fe385, Fs385, Vq385, Oq385⟩ := hQ385
    have N385 := Fr.app N381 Nq385
    have F386 := Old.keep F375 Kq385 (allS ge359 (allS ged all0))
    have F387 := OAr.keep F376 Kq385 (ninS ne358 (ninS ne379 nin0))
    have F388 := Exa.keep F377 Kq385
    have F389 := OOv.keep Oq374 Kq385
    have Z390 := Nat.le_trans Z378 Kq385.1
    show OwnWk _ _ _ _ (T385.setTop (mkF m 65 #[.val (.long u), .second, .val (.int sz), .val (.int (3 : Int32)), .val (.ref b341), .val (.ref b357), .unset, .unset] [(.int (1 : Int32))]))
    refine own_go (fun tgt kst => XS.pop X385.here hx rfl (hb hby at_65) rfl rfl kst) ?_
    show OwnWk _ _ _ _ (T385.setTop (mkF m 66 #[.val (.long u), .second, .val (.int sz), .val (.int (3 : Int32)), .val (.ref b341), .val (.ref b357), .unset, .unset] []))
    refine own_go (fun tgt kst => XS.iloadN X385.here hx rfl (hb hby at_66) rfl  kst) ?_
    show OwnWk _ _ _ _ (T385.setTop (mkF m 67 #[.val (.long u), .second, .val (.int sz), .val (.int (3 : Int32)), .val (.ref b341), .val (.ref b357), .unset, .unset] [(.int (3 : Int32))]))
    refine own_go (fun tgt kst => XS.iconst X385.here hx rfl (hb hby at_67) kst) ?_
    show OwnWk _ _ _ _ (T385.setTop (mkF m 68 #[.val (.long u), .second, .val (.int sz), .val (.int (3 : Int32)), .val (.ref b341), .val (.ref b357), .unset, .unset] [(.int (2 : Int32)), (.int (3 : Int32))]))
    refine own_go (fun tgt kst => XS.icmpNo X385.here hx rfl (hb hby at_68) rfl (tlt (by decide : (2 : Int32) < (3 : Int32))).2.2.2 kst) ?_
    show OwnWk _ _ _ _ (T385.setTop (mkF m 71 #[.val (.long u), .second, .val (.int sz), .val (.int (3 : Int32)), .val (.ref b341), .val (.ref b357), .unset, .unset] []))
    refine own_go (fun tgt kst => XS.aload X385.here hx rfl (hb hby at_71) rfl rfl  kst) ?_
    show OwnWk _ _ _ _ (T385.setTop (mkF m 73 #[.val (.long u), .second, .val (.int sz), .val (.int (3 : Int32)), .val (.ref b341), .val (.ref b357), .unset, .unset] [(.ref b357)]))
    refine own_go (fun tgt kst => XS.iconst X385.here hx rfl (hb hby at_73) kst) ?_
    show OwnWk _ _ _ _ (T385.setTop (mkF m 74 #[.val (.long u), .second, .val (.int sz), .val (.int (3 : Int32)), .val (.ref b341), .val (.ref b357), .unset, .unset] [(.int (2 : Int32)), (.ref b357)]))
    refine own_callS X385 hx hZ (y := (⟨"java/lang/Integer", "valueOf", "(I)Ljava/lang/Integer;"⟩ : MethodName)) hown (hw _ (List.mem_of_getElem? (i := 28) rfl)) (hw _ (List.mem_of_getElem? (i := 29) rfl)) (hw _ (List.mem_of_getElem? (i := 30) rfl)) (hw _ (List.mem_of_getElem? (i := 31) rfl)) (by decide) (argsL := [(.int (2 : Int32))]) (rest := [(.ref b357)]) (rm := ({ frames := 0, cells := 0, slots := 0, locals := 0 } : Room)) (h := h385) (vo2 l Z a0 hw dce cac ia h385 n0 Z390 F386 S_d V_d S_h S_c hL hE hV) e385 (W := 1) (by decide) (by decide) (by decide) (by decide) (g := (mkF m 74 #[.val (.long u), .second, .val (.int sz), .val (.int (3 : Int32)), .val (.ref b341), .val (.ref b357), .unset, .unset] [(.int (2 : Int32)), (.ref b357)])) rfl (by rw [hml]; rfl) (lenOf pd_15 rfl) rfl (by show 2 * 0 + _ ≤ _; exact Nat.le_of_eq rfl) (hb hby at_74) (fun v391 T391 h391 L391 X391 e391 hQ391 => ?_)
    obtain ⟨rfl, Nq391, q391⟩ := hQ391
    have N391 := Fr.app N385 Nq391
    rw [q391] at e391
    show OwnWk _ _ _ _ (T391.setTop (mkF m 77 #[.val (.long u), .second, .val (.int sz), .val (.int (3 : Int32)), .val (.ref b341), .val (.ref b357), .unset, .unset] [(.ref (ia 2)), (.ref b357)]))
    have lt392 : b341 < h385.size := F387.lt
    have lt393 : b357 < h385.size := F388.lt
    have lt394 : ed < h385.size := Vq385.lt
    refine own_callV X391 hx hZ (y := (⟨"java/util/ArrayList", "add", "(Ljava/lang/Object;)Z"⟩ : MethodName)) (z := (⟨"java/util/ArrayList", "add", "(Ljava/lang/Object;)Z"⟩ : MethodName)) hown (hw _ (List.mem_of_getElem? (i := 35) rfl)) (hw _ (List.mem_of_getElem? (i := 36) rfl)) (notFace_of_selects (args := #[]) (mvT hZ (hw _ (List.mem_of_getElem? (i := 38) rfl)))) (hw _ (List.mem_of_getElem? (i := 38) rfl)) (hw _ (List.mem_of_getElem? (i := 37) rfl)) (hw _ (List.mem_of_getElem? (i := 4) rfl)) (hw _ (List.mem_of_getElem? (i := 39) rfl)) (by decide) (a := b357) F388 (argsL := [(.ref (ia 2))]) (rest := []) (rm := ({ frames := 1, cells := 0, slots := 0, locals := 15 } : Room)) (h := h385) (adB2 l Z a0 hw dce cac ia b357 (ia 2) ed (ia 0) (ia 1) h385 n0 Z390 F386 S_d V_d S_h S_c hL hE hV (Ins.of_exa (Exa.ext F386.2 (hE 2 (by decide))) (hw _ (List.mem_of_getElem? (i := 65) rfl))) F388 ge359 Fm385 Fe385 Fs385 ged ne380 Vq385 Oq385) e391 (W := 0) (by decide) (by decide) (by decide) (by decide) (g := (mkF m 77 #[.val (.long u), .second, .val (.int sz), .val (.int (3 : Int32)), .val (.ref b341), .val (.ref b357), .unset, .unset] [(.ref (ia 2)), (.ref b357)])) rfl (by rw [hml]; rfl) (lenOf pd_16 rfl) rfl (by show 2 * 0 + _ ≤ _; exact Nat.le_of_eq rfl) (hb hby at_77) (fun v395 T395 h395 L395 X395 e395 hQ395 => ?_)
    obtain ⟨rfl, Nq395, Kq395, Fm395, Fe395, Fs395, Vq395, Oq395⟩ := hQ395
    have N395 := Fr.app N391 Nq395
    have F396 := Old.keep F386 Kq395 (allS ge359 (allS ged all0))
    have F397 := OAr.keep F387 Kq395 (ninS ne358 (ninS ne379 nin0))
    have F398 := Exa.keep F388 Kq395
    have F399 := OOv.keep Oq385 Kq395
    have Z400 := Nat.le_trans Z390 Kq395.1
    show OwnWk _ _ _ _ (T395.setTop (mkF m 80 #[.val (.long u), .second, .val (.int sz), .val (.int (3 : Int32)), .val (.ref b341), .val (.ref b357), .unset, .unset] [(.int (1 : Int32))]))
    refine own_go (fun tgt kst => XS.pop X395.here hx rfl (hb hby at_80) rfl rfl kst) ?_
    show OwnWk _ _ _ _ (T395.setTop (mkF m 81 #[.val (.long u), .second, .val (.int sz), .val (.int (3 : Int32)), .val (.ref b341), .val (.ref b357), .unset, .unset] []))
    refine own_go (fun tgt kst => XS.iloadN X395.here hx rfl (hb hby at_81) rfl  kst) ?_
    show OwnWk _ _ _ _ (T395.setTop (mkF m 82 #[.val (.long u), .second, .val (.int sz), .val (.int (3 : Int32)), .val (.ref b341), .val (.ref b357), .unset, .unset] [(.int (3 : Int32))]))
    refine own_go (fun tgt kst => XS.iconst X395.here hx rfl (hb hby at_82) kst) ?_
    show OwnWk _ _ _ _ (T395.setTop (mkF m 83 #[.val (.long u), .second, .val (.int sz), .val (.int (3 : Int32)), .val (.ref b341), .val (.ref b357), .unset, .unset] [(.int (3 : Int32)), (.int (3 : Int32))]))
    refine own_go (fun tgt kst => XS.icmpYes X395.here hx rfl (pc0 := 83) (pc' := 96) rfl (hb hby at_83) rfl (flt (by decide : ¬ ((3 : Int32) < (3 : Int32)))).2.2.2 (by decide) (by decide) kst) ?_
    show OwnWk _ _ _ _ (T395.setTop (mkF m 96 #[.val (.long u), .second, .val (.int sz), .val (.int (3 : Int32)), .val (.ref b341), .val (.ref b357), .unset, .unset] []))
    obtain ⟨T401, h401, X401, e401, E401, A401, D401, -, st401⟩ := newO X395 hx hZ hown (hw _ (List.mem_of_getElem? (i := 66) rfl)) (hw _ (List.mem_of_getElem? (i := 67) rfl)) (hw _ (List.mem_of_getElem? (i := 68) rfl)) e395 (g := (mkF m 96 #[.val (.long u), .second, .val (.int sz), .val (.int (3 : Int32)), .val (.ref b341), .val (.ref b357), .unset, .unset] [])) rfl (hb hby at_96) (by decide) (by decide)
    obtain ⟨b401, g401⟩ : ∃ z, z = h395.size := ⟨_, rfl⟩
    rw [← g401] at A401 D401 st401
    refine own_go st401 ?_
    have ne402 : b341 ≠ b401 := Nat.ne_of_lt (Nat.lt_of_lt_of_le F397.lt (Nat.le_of_eq g401.symm))
    have ne403 : b357 ≠ b401 := Nat.ne_of_lt (Nat.lt_of_lt_of_le F398.lt (Nat.le_of_eq g401.symm))
    have ne404 : ed ≠ b401 := Nat.ne_of_lt (Nat.lt_of_lt_of_le Vq395.lt (Nat.le_of_eq g401.symm))
    have ge405 : n0 ≤ b401 := Nat.le_trans Z400 (Nat.le_of_eq g401.symm)
    have F406 := Old.ext F396 E401
    have F407 := OAr.ext F397 E401
    have F408 := Exa.ext E401 F398
    have F409 := OOv.ext E401 Oq395
    have F410 := Fld.ext E401 Fm395
    have F411 := Fld.ext E401 Fe395
    have F412 := Fld.ext E401 Fs395
    have F413 := OAr.ext Vq395 E401
    have Z414 := Nat.le_trans Z400 E401.1
    have F415 : Fld Z h401 b401 "com/example/spikeline/spikeline/core/SeededRandom" "state" "J" (.long (0 : Int64)) := D401 (Or.inl (hw _ (List.mem_of_getElem? (i := 74) rfl))) (ty := .long) (by decide)
    show OwnWk _ _ _ _ (T401.setTop (mkF m 99 #[.val (.long u), .second, .val (.int sz), .val (.int (3 : Int32)), .val (.ref b341), .val (.ref b357), .unset, .unset] [(.ref b401)]))
    refine own_go (fun tgt kst => XS.dup X401.here hx rfl (hb hby at_99) rfl rfl kst) ?_
    show OwnWk _ _ _ _ (T401.setTop (mkF m 100 #[.val (.long u), .second, .val (.int sz), .val (.int (3 : Int32)), .val (.ref b341), .val (.ref b357), .unset, .unset] [(.ref b401), (.ref b401)]))
    refine own_go (fun tgt kst => XS.lloadN X401.here hx rfl (hb hby at_100) rfl  kst) ?_
    show OwnWk _ _ _ _ (T401.setTop (mkF m 101 #[.val (.long u), .second, .val (.int sz), .val (.int (3 : Int32)), .val (.ref b341), .val (.ref b357), .unset, .unset] [(.long u), (.ref b401), (.ref b401)]))
    refine own_callC X401 hx hZ (y := (⟨"com/example/spikeline/spikeline/core/SeededRandom", "<init>", "(J)V"⟩ : MethodName)) hown rfl (hw _ (List.mem_of_getElem? (i := 69) rfl)) (hw _ (List.mem_of_getElem? (i := 70) rfl)) (hw _ (List.mem_of_getElem? (i := 68) rfl)) (hw _ (List.mem_of_getElem? (i := 71) rfl)) (by decide) (a := b401) (argsL := [(.long u)]) (rest := [(.ref b401)]) (rm := ({ frames := 1, cells := 0, slots := 0, locals := 12 } : Room)) (h := h401) (rm11 l Z a0 hw b401 u h401 n0 Z414 F415 A401 ge405) e401 (W := 1) (by decide) (by decide) (by decide) (by decide) (g := (mkF m 101 #[.val (.long u), .second, .val (.int sz), .val (.int (3 : Int32)), .val (.ref b341), .val (.ref b357), .unset, .unset] [(.long u), (.ref b401), (.ref b401)])) rfl (by rw [hml]; rfl) (lenOf pd_12 rfl) rfl (by show 2 * 0 + _ ≤ _; exact Nat.le_of_eq rfl) (hb hby at_101) (fun v416 T416 h416 L416 X416 e416 hQ416 => ?_)
    obtain ⟨rfl, Nq416, Kq416, Fq416⟩ := hQ416
    have N416 := Fr.app N395 Nq416
    have F417 := Old.keep F406 Kq416 (allS ge405 all0)
    have F418 := OAr.keep F407 Kq416 (ninS ne402 nin0)
    have F419 := Exa.keep F408 Kq416
    have F420 := OOv.keep F409 Kq416
    have F421 := Fld.keep F410 Kq416 (ninS ne403 nin0)
    have F422 := Fld.keep F411 Kq416 (ninS ne403 nin0)
    have F423 := Fld.keep F412 Kq416 (ninS ne403 nin0)
    have F424 := OAr.keep F413 Kq416 (ninS ne404 nin0)
    have F425 := Exa.keep A401 Kq416
    have Z426 := Nat.le_trans Z414 Kq416.1
    show OwnWk _ _ _ _ (T416.setTop (mkF m 104 #[.val (.long u), .second, .val (.int sz), .val (.int (3 : Int32)), .val (.ref b341), .val (.ref b357), .unset, .unset] [(.ref b401)]))
    refine own_go (fun tgt kst => XS.astore X416.here hx rfl (hb hby at_104) rfl rfl (l' := #[.val (.long u), .second, .val (.int sz), .val (.int (3 : Int32)), .val (.ref b341), .val (.ref b357), .val (.ref b401), .unset]) rfl kst) ?_
    show OwnWk _ _ _ _ (T416.setTop (mkF m 106 #[.val (.long u), .second, .val (.int sz), .val (.int (3 : Int32)), .val (.ref b341), .val (.ref b357), .val (.ref b401), .unset] []))
    refine own_go (fun tgt kst => XS.aload X416.here hx rfl (hb hby at_106) rfl rfl  kst) ?_
    show OwnWk _ _ _ _ (T416.setTop (mkF m 108 #[.val (.long u), .second, .val (.int sz), .val (.int (3 : Int32)), .val (.ref b341), .val (.ref b357), .val (.ref b401), .unset] [(.ref b401)]))
    refine own_go (fun tgt kst => XS.aload X416.here hx rfl (hb hby at_108) rfl rfl  kst) ?_
    show OwnWk _ _ _ _ (T416.setTop (mkF m 110 #[.val (.long u), .second, .val (.int sz), .val (.int (3 : Int32)), .val (.ref b341), .val (.ref b357), .val (.ref b401), .unset] [(.ref b357), (.ref b401)]))
    refine own_callV X416 hx hZ (y := (⟨"com/example/spikeline/spikeline/core/SeededRandom", "shuffle", "(Ljava/util/List;)V"⟩ : MethodName)) (z := (⟨"com/example/spikeline/spikeline/core/SeededRandom", "shuffle", "(Ljava/util/List;)V"⟩ : MethodName)) hown (hw _ (List.mem_of_getElem? (i := 75) rfl)) (hw _ (List.mem_of_getElem? (i := 76) rfl)) (notFace_of_selects (args := #[]) (mvT hZ (hw _ (List.mem_of_getElem? (i := 78) rfl)))) (hw _ (List.mem_of_getElem? (i := 78) rfl)) (hw _ (List.mem_of_getElem? (i := 77) rfl)) (hw _ (List.mem_of_getElem? (i := 68) rfl)) (hw _ (List.mem_of_getElem? (i := 79) rfl)) (by decide) (a := b401) F425 (argsL := [(.ref b357)]) (rest := []) (rm := ({ frames := 4, cells := 0, slots := 0, locals := 59 } : Room)) (h := h416) (shf3 l Z a0 hw dce cac ia b401 b357 ed u [0, 1, 2] h416 n0 Z426 F417 S_d V_d S_h S_c hL hE hV Fq416 F425 ge405 F419 F423 F422 F424 rfl (by decide) F420 ged ne380 (Ne.symm ne404) (Ne.symm ne403)) e416 (W := 0) (by decide) (by decide) (by decide) (by decide) (g := (mkF m 110 #[.val (.long u), .second, .val (.int sz), .val (.int (3 : Int32)), .val (.ref b341), .val (.ref b357), .val (.ref b401), .unset] [(.ref b357), (.ref b401)])) rfl (by rw [hml]; rfl) (lenOf pd_13 rfl) rfl (by show 2 * 0 + _ ≤ _; exact Nat.le_of_eq rfl) (hb hby at_110) (fun v427 T427 h427 L427 X427 e427 hQ427 => ?_)
    obtain ⟨rfl, Nq427, Kq427, Fq427, Vq427⟩ := hQ427
    have N427 := Fr.app N416 Nq427
    have F428 := Old.keep F417 Kq427 (allS ge405 (allS ged all0))
    have F429 := OAr.keep F418 Kq427 (ninS ne402 (ninS ne379 nin0))
    have F430 := Exa.keep F419 Kq427
    have F431 := OOv.keep F420 Kq427
    have F432 := Fld.keep F421 Kq427 (ninS ne403 (ninS ne380 nin0))
    have F433 := Fld.keep F422 Kq427 (ninS ne403 (ninS ne380 nin0))
    have F434 := Fld.keep F423 Kq427 (ninS ne403 (ninS ne380 nin0))
    have F435 := Exa.keep F425 Kq427
    have Z436 := Nat.le_trans Z426 Kq427.1
    show OwnWk _ _ _ _ (T427.setTop (mkF m 113 #[.val (.long u), .second, .val (.int sz), .val (.int (3 : Int32)), .val (.ref b341), .val (.ref b357), .val (.ref b401), .unset] []))
    obtain ⟨T437, h437, X437, e437, E437, A437, D437, -, st437⟩ := newO X427 hx hZ hown (hw _ (List.mem_of_getElem? (i := 66) rfl)) (hw _ (List.mem_of_getElem? (i := 67) rfl)) (hw _ (List.mem_of_getElem? (i := 68) rfl)) e427 (g := (mkF m 113 #[.val (.long u), .second, .val (.int sz), .val (.int (3 : Int32)), .val (.ref b341), .val (.ref b357), .val (.ref b401), .unset] [])) rfl (hb hby at_113) (by decide) (by decide)
    obtain ⟨b437, g437⟩ : ∃ z, z = h427.size := ⟨_, rfl⟩
    rw [← g437] at A437 D437 st437
    refine own_go st437 ?_
    have ne438 : b341 ≠ b437 := Nat.ne_of_lt (Nat.lt_of_lt_of_le F429.lt (Nat.le_of_eq g437.symm))
    have ne439 : b357 ≠ b437 := Nat.ne_of_lt (Nat.lt_of_lt_of_le F430.lt (Nat.le_of_eq g437.symm))
    have ne440 : b401 ≠ b437 := Nat.ne_of_lt (Nat.lt_of_lt_of_le F435.lt (Nat.le_of_eq g437.symm))
    have ne441 : ed ≠ b437 := Nat.ne_of_lt (Nat.lt_of_lt_of_le Vq427.lt (Nat.le_of_eq g437.symm))
    have ge442 : n0 ≤ b437 := Nat.le_trans Z436 (Nat.le_of_eq g437.symm)
    have F443 := Old.ext F428 E437
    have F444 := OAr.ext F429 E437
    have F445 := Exa.ext E437 F430
    have F446 := OOv.ext E437 F431
    have F447 := Fld.ext E437 F432
    have F448 := Fld.ext E437 F433
    have F449 := Fld.ext E437 F434
    have F450 := Exa.ext E437 F435
    have F451 := Fld.ext E437 Fq427
    have F452 := OAr.ext Vq427 E437
    have Z453 := Nat.le_trans Z436 E437.1
    have F454 : Fld Z h437 b437 "com/example/spikeline/spikeline/core/SeededRandom" "state" "J" (.long (0 : Int64)) := D437 (Or.inl (hw _ (List.mem_of_getElem? (i := 74) rfl))) (ty := .long) (by decide)
    show OwnWk _ _ _ _ (T437.setTop (mkF m 116 #[.val (.long u), .second, .val (.int sz), .val (.int (3 : Int32)), .val (.ref b341), .val (.ref b357), .val (.ref b401), .unset] [(.ref b437)]))
    refine own_go (fun tgt kst => XS.dup X437.here hx rfl (hb hby at_116) rfl rfl kst) ?_
    show OwnWk _ _ _ _ (T437.setTop (mkF m 117 #[.val (.long u), .second, .val (.int sz), .val (.int (3 : Int32)), .val (.ref b341), .val (.ref b357), .val (.ref b401), .unset] [(.ref b437), (.ref b437)]))
    refine own_go (fun tgt kst => XS.lloadN X437.here hx rfl (hb hby at_117) rfl  kst) ?_
    show OwnWk _ _ _ _ (T437.setTop (mkF m 118 #[.val (.long u), .second, .val (.int sz), .val (.int (3 : Int32)), .val (.ref b341), .val (.ref b357), .val (.ref b401), .unset] [(.long u), (.ref b437), (.ref b437)]))
    refine own_callC X437 hx hZ (y := (⟨"com/example/spikeline/spikeline/core/SeededRandom", "<init>", "(J)V"⟩ : MethodName)) hown rfl (hw _ (List.mem_of_getElem? (i := 69) rfl)) (hw _ (List.mem_of_getElem? (i := 70) rfl)) (hw _ (List.mem_of_getElem? (i := 68) rfl)) (hw _ (List.mem_of_getElem? (i := 71) rfl)) (by decide) (a := b437) (argsL := [(.long u)]) (rest := [(.ref b437)]) (rm := ({ frames := 1, cells := 0, slots := 0, locals := 12 } : Room)) (h := h437) (rm11 l Z a0 hw b437 u h437 n0 Z453 F454 A437 ge442) e437 (W := 1) (by decide) (by decide) (by decide) (by decide) (g := (mkF m 118 #[.val (.long u), .second, .val (.int sz), .val (.int (3 : Int32)), .val (.ref b341), .val (.ref b357), .val (.ref b401), .unset] [(.long u), (.ref b437), (.ref b437)])) rfl (by rw [hml]; rfl) (lenOf pd_12 rfl) rfl (by show 2 * 0 + _ ≤ _; exact Nat.le_of_eq rfl) (hb hby at_118) (fun v455 T455 h455 L455 X455 e455 hQ455 => ?_)
    obtain ⟨rfl, Nq455, Kq455, Fq455⟩ := hQ455
    have N455 := Fr.app N427 Nq455
    have F456 := Old.keep F443 Kq455 (allS ge442 all0)
    have F457 := OAr.keep F444 Kq455 (ninS ne438 nin0)
    have F458 := Exa.keep F445 Kq455
    have F459 := OOv.keep F446 Kq455
    have F460 := Fld.keep F447 Kq455 (ninS ne439 nin0)
    have F461 := Fld.keep F448 Kq455 (ninS ne439 nin0)
    have F462 := Fld.keep F449 Kq455 (ninS ne439 nin0)
    have F463 := Exa.keep F450 Kq455
    have F464 := Fld.keep F451 Kq455 (ninS ne440 nin0)
    have F465 := OAr.keep F452 Kq455 (ninS ne441 nin0)
    have F466 := Exa.keep A437 Kq455
    have Z467 := Nat.le_trans Z453 Kq455.1
    show OwnWk _ _ _ _ (T455.setTop (mkF m 121 #[.val (.long u), .second, .val (.int sz), .val (.int (3 : Int32)), .val (.ref b341), .val (.ref b357), .val (.ref b401), .unset] [(.ref b437)]))
    refine own_go (fun tgt kst => XS.astore X455.here hx rfl (hb hby at_121) rfl rfl (l' := #[.val (.long u), .second, .val (.int sz), .val (.int (3 : Int32)), .val (.ref b341), .val (.ref b357), .val (.ref b401), .val (.ref b437)]) rfl kst) ?_
    show OwnWk _ _ _ _ (T455.setTop (mkF m 123 #[.val (.long u), .second, .val (.int sz), .val (.int (3 : Int32)), .val (.ref b341), .val (.ref b357), .val (.ref b401), .val (.ref b437)] []))
    refine own_go (fun tgt kst => XS.iloadN X455.here hx rfl (hb hby at_123) rfl  kst) ?_
    show OwnWk _ _ _ _ (T455.setTop (mkF m 124 #[.val (.long u), .second, .val (.int sz), .val (.int (3 : Int32)), .val (.ref b341), .val (.ref b357), .val (.ref b401), .val (.ref b437)] [(.int (3 : Int32))]))
    refine own_go (fun tgt kst => XS.iconst X455.here hx rfl (hb hby at_124) kst) ?_
    show OwnWk _ _ _ _ (T455.setTop (mkF m 125 #[.val (.long u), .second, .val (.int sz), .val (.int (3 : Int32)), .val (.ref b341), .val (.ref b357), .val (.ref b401), .val (.ref b437)] [(.int (4 : Int32)), (.int (3 : Int32))]))
    refine own_go (fun tgt kst => XS.icmpYes X455.here hx rfl (pc0 := 125) (pc' := 140) rfl (hb hby at_125) rfl (tlt (by decide : (3 : Int32) < (4 : Int32))).1 (by decide) (by decide) kst) ?_
    show OwnWk _ _ _ _ (T455.setTop (mkF m 140 #[.val (.long u), .second, .val (.int sz), .val (.int (3 : Int32)), .val (.ref b341), .val (.ref b357), .val (.ref b401), .val (.ref b437)] []))
    refine own_go (fun tgt kst => XS.iloadN X455.here hx rfl (hb hby at_140) rfl  kst) ?_
    show OwnWk _ _ _ _ (T455.setTop (mkF m 141 #[.val (.long u), .second, .val (.int sz), .val (.int (3 : Int32)), .val (.ref b341), .val (.ref b357), .val (.ref b401), .val (.ref b437)] [(.int (3 : Int32))]))
    refine own_go (fun tgt kst => XS.iconst X455.here hx rfl (hb hby at_141) kst) ?_
    show OwnWk _ _ _ _ (T455.setTop (mkF m 142 #[.val (.long u), .second, .val (.int sz), .val (.int (3 : Int32)), .val (.ref b341), .val (.ref b357), .val (.ref b401), .val (.ref b437)] [(.int (3 : Int32)), (.int (3 : Int32))]))
    refine own_go (fun tgt kst => XS.icmpNo X455.here hx rfl (hb hby at_142) rfl (flt (by decide : ¬ ((3 : Int32) < (3 : Int32)))).1 kst) ?_
    show OwnWk _ _ _ _ (T455.setTop (mkF m 145 #[.val (.long u), .second, .val (.int sz), .val (.int (3 : Int32)), .val (.ref b341), .val (.ref b357), .val (.ref b401), .val (.ref b437)] []))
    refine own_go (fun tgt kst => XS.aload X455.here hx rfl (hb hby at_145) rfl rfl  kst) ?_
    show OwnWk _ _ _ _ (T455.setTop (mkF m 147 #[.val (.long u), .second, .val (.int sz), .val (.int (3 : Int32)), .val (.ref b341), .val (.ref b357), .val (.ref b401), .val (.ref b437)] [(.ref b341)]))
    refine own_go (fun tgt kst => XS.iconst X455.here hx rfl (hb hby at_147) kst) ?_
    show OwnWk _ _ _ _ (T455.setTop (mkF m 148 #[.val (.long u), .second, .val (.int sz), .val (.int (3 : Int32)), .val (.ref b341), .val (.ref b357), .val (.ref b401), .val (.ref b437)] [(.int (2 : Int32)), (.ref b341)]))
    refine own_go (fun tgt kst => XS.aload X455.here hx rfl (hb hby at_148) rfl rfl  kst) ?_
    show OwnWk _ _ _ _ (T455.setTop (mkF m 150 #[.val (.long u), .second, .val (.int sz), .val (.int (3 : Int32)), .val (.ref b341), .val (.ref b357), .val (.ref b401), .val (.ref b437)] [(.ref b437), (.int (2 : Int32)), (.ref b341)]))
    refine own_go (fun tgt kst => XS.iconst X455.here hx rfl (hb hby at_150) kst) ?_
    show OwnWk _ _ _ _ (T455.setTop (mkF m 151 #[.val (.long u), .second, .val (.int sz), .val (.int (3 : Int32)), .val (.ref b341), .val (.ref b357), .val (.ref b401), .val (.ref b437)] [(.int (3 : Int32)), (.ref b437), (.int (2 : Int32)), (.ref b341)]))
    refine own_callV X455 hx hZ (y := (⟨"com/example/spikeline/spikeline/core/SeededRandom", "nextInt", "(I)I"⟩ : MethodName)) (z := (⟨"com/example/spikeline/spikeline/core/SeededRandom", "nextInt", "(I)I"⟩ : MethodName)) hown (hw _ (List.mem_of_getElem? (i := 136) rfl)) (hw _ (List.mem_of_getElem? (i := 90) rfl)) (notFace_of_selects (args := #[]) (mvT hZ (hw _ (List.mem_of_getElem? (i := 92) rfl)))) (hw _ (List.mem_of_getElem? (i := 92) rfl)) (hw _ (List.mem_of_getElem? (i := 91) rfl)) (hw _ (List.mem_of_getElem? (i := 68) rfl)) (hw _ (List.mem_of_getElem? (i := 93) rfl)) (by decide) (a := b437) F466 (argsL := [(.int (3 : Int32))]) (rest := [(.int (2 : Int32)), (.ref b341)]) (rm := ({ frames := 1, cells := 0, slots := 0, locals := 14 } : Room)) (h := h455) (rm14 l Z a0 hw b437 (3 : Int32) u h455 n0 Z467 Fq455 F466 ge442 (by decide)) e455 (W := 2) (by decide) (by decide) (by decide) (by decide) (g := (mkF m 151 #[.val (.long u), .second, .val (.int sz), .val (.int (3 : Int32)), .val (.ref b341), .val (.ref b357), .val (.ref b401), .val (.ref b437)] [(.int (3 : Int32)), (.ref b437), (.int (2 : Int32)), (.ref b341)])) rfl (by rw [hml]; rfl) (lenOf pd_10 rfl) rfl (by show 2 * 0 + _ ≤ _; exact Nat.le_of_eq rfl) (hb hby at_151) (fun v468 T468 h468 L468 X468 e468 hQ468 => ?_)
    obtain ⟨rfl, Nq468, Kq468, Fq468⟩ := hQ468
    have N468 := Fr.app N455 Nq468
    have F469 := Old.keep F456 Kq468 (allS ge442 all0)
    have F470 := OAr.keep F457 Kq468 (ninS ne438 nin0)
    have F471 := Exa.keep F458 Kq468
    have F472 := OOv.keep F459 Kq468
    have F473 := Fld.keep F460 Kq468 (ninS ne439 nin0)
    have F474 := Fld.keep F461 Kq468 (ninS ne439 nin0)
    have F475 := Fld.keep F462 Kq468 (ninS ne439 nin0)
    have F476 := Exa.keep F463 Kq468
    have F477 := Fld.keep F464 Kq468 (ninS ne440 nin0)
    have F478 := OAr.keep F465 Kq468 (ninS ne441 nin0)
    have F479 := Exa.keep F466 Kq468
    have Z480 := Nat.le_trans Z467 Kq468.1
    show OwnWk _ _ _ _ (T468.setTop (mkF m 154 #[.val (.long u), .second, .val (.int sz), .val (.int (3 : Int32)), .val (.ref b341), .val (.ref b357), .val (.ref b401), .val (.ref b437)] [(.int (own_r (own_land u (3 : Int32)) (3 : Int32))), (.int (2 : Int32)), (.ref b341)]))
    rw [own_j_eq (q := u) (b := (3 : Int32)) (by decide)]
    show OwnWk _ _ _ _ (T468.setTop (mkF m 154 #[.val (.long u), .second, .val (.int sz), .val (.int (3 : Int32)), .val (.ref b341), .val (.ref b357), .val (.ref b401), .val (.ref b437)] [(.int (Int32.ofNat (own_j u (3 : Int32)))), (.int (2 : Int32)), (.ref b341)]))
    refine own_callS X468 hx hZ (y := (⟨"com/example/spikeline/spikeline/core/SeededRandomShufflePinLaw", "swap", "([III)V"⟩ : MethodName)) hown (hw _ (List.mem_of_getElem? (i := 137) rfl)) (hw _ (List.mem_of_getElem? (i := 138) rfl)) (hw _ (List.mem_of_getElem? (i := 139) rfl)) (hw _ (List.mem_of_getElem? (i := 140) rfl)) (by decide) (argsL := [(.ref b341), (.int (2 : Int32)), (.int (Int32.ofNat (own_j u (3 : Int32))))]) (rest := []) (rm := ({ frames := 0, cells := 0, slots := 0, locals := 0 } : Room)) (h := h468) (lsw l Z a0 hw b341 [0, 1, 2, 3] 2 (own_j u (3 : Int32)) h468 n0 Z480 F470 ge342 (by simp [own_slen]) (by decide) (own_j_lt (by decide) (n := 4) rfl (by decide))) e468 (W := 0) (by decide) (by decide) (by decide) (by decide) (g := (mkF m 154 #[.val (.long u), .second, .val (.int sz), .val (.int (3 : Int32)), .val (.ref b341), .val (.ref b357), .val (.ref b401), .val (.ref b437)] [(.int (Int32.ofNat (own_j u (3 : Int32)))), (.int (2 : Int32)), (.ref b341)])) rfl (by rw [hml]; rfl) (lenOf pd_17 rfl) rfl (by show 2 * 0 + _ ≤ _; exact Nat.le_of_eq rfl) (hb hby at_154) (fun v481 T481 h481 L481 X481 e481 hQ481 => ?_)
    obtain ⟨rfl, Nq481, Kq481, Vq481⟩ := hQ481
    have N481 := Fr.app N468 Nq481
    have F482 := Old.keep F469 Kq481 (allS ge342 all0)
    have F483 := Exa.keep F471 Kq481
    have F484 := OOv.keep F472 Kq481
    have F485 := Fld.keep F473 Kq481 (ninS (Ne.symm ne358) nin0)
    have F486 := Fld.keep F474 Kq481 (ninS (Ne.symm ne358) nin0)
    have F487 := Fld.keep F475 Kq481 (ninS (Ne.symm ne358) nin0)
    have F488 := Exa.keep F476 Kq481
    have F489 := Fld.keep F477 Kq481 (ninS (Ne.symm ne402) nin0)
    have F490 := OAr.keep F478 Kq481 (ninS (Ne.symm ne379) nin0)
    have F491 := Exa.keep F479 Kq481
    have F492 := Fld.keep Fq468 Kq481 (ninS (Ne.symm ne438) nin0)
    have Z493 := Nat.le_trans Z480 Kq481.1
    show OwnWk _ _ _ _ (T481.setTop (mkF m 157 #[.val (.long u), .second, .val (.int sz), .val (.int (3 : Int32)), .val (.ref b341), .val (.ref b357), .val (.ref b401), .val (.ref b437)] []))
    refine own_go (fun tgt kst => XS.iloadN X481.here hx rfl (hb hby at_157) rfl  kst) ?_
    show OwnWk _ _ _ _ (T481.setTop (mkF m 158 #[.val (.long u), .second, .val (.int sz), .val (.int (3 : Int32)), .val (.ref b341), .val (.ref b357), .val (.ref b401), .val (.ref b437)] [(.int (3 : Int32))]))
    refine own_go (fun tgt kst => XS.iconst X481.here hx rfl (hb hby at_158) kst) ?_
    show OwnWk _ _ _ _ (T481.setTop (mkF m 159 #[.val (.long u), .second, .val (.int sz), .val (.int (3 : Int32)), .val (.ref b341), .val (.ref b357), .val (.ref b401), .val (.ref b437)] [(.int (2 : Int32)), (.int (3 : Int32))]))
    refine own_go (fun tgt kst => XS.icmpNo X481.here hx rfl (hb hby at_159) rfl (flt (by decide : ¬ ((3 : Int32) < (2 : Int32)))).1 kst) ?_
    show OwnWk _ _ _ _ (T481.setTop (mkF m 162 #[.val (.long u), .second, .val (.int sz), .val (.int (3 : Int32)), .val (.ref b341), .val (.ref b357), .val (.ref b401), .val (.ref b437)] []))
    refine own_go (fun tgt kst => XS.aload X481.here hx rfl (hb hby at_162) rfl rfl  kst) ?_
    show OwnWk _ _ _ _ (T481.setTop (mkF m 164 #[.val (.long u), .second, .val (.int sz), .val (.int (3 : Int32)), .val (.ref b341), .val (.ref b357), .val (.ref b401), .val (.ref b437)] [(.ref b341)]))
    refine own_go (fun tgt kst => XS.iconst X481.here hx rfl (hb hby at_164) kst) ?_
    show OwnWk _ _ _ _ (T481.setTop (mkF m 165 #[.val (.long u), .second, .val (.int sz), .val (.int (3 : Int32)), .val (.ref b341), .val (.ref b357), .val (.ref b401), .val (.ref b437)] [(.int (1 : Int32)), (.ref b341)]))
    refine own_go (fun tgt kst => XS.aload X481.here hx rfl (hb hby at_165) rfl rfl  kst) ?_
    show OwnWk _ _ _ _ (T481.setTop (mkF m 167 #[.val (.long u), .second, .val (.int sz), .val (.int (3 : Int32)), .val (.ref b341), .val (.ref b357), .val (.ref b401), .val (.ref b437)] [(.ref b437), (.int (1 : Int32)), (.ref b341)]))
    refine own_go (fun tgt kst => XS.iconst X481.here hx rfl (hb hby at_167) kst) ?_
    show OwnWk _ _ _ _ (T481.setTop (mkF m 168 #[.val (.long u), .second, .val (.int sz), .val (.int (3 : Int32)), .val (.ref b341), .val (.ref b357), .val (.ref b401), .val (.ref b437)] [(.int (2 : Int32)), (.ref b437), (.int (1 : Int32)), (.ref b341)]))
    refine own_callV X481 hx hZ (y := (⟨"com/example/spikeline/spikeline/core/SeededRandom", "nextInt", "(I)I"⟩ : MethodName)) (z := (⟨"com/example/spikeline/spikeline/core/SeededRandom", "nextInt", "(I)I"⟩ : MethodName)) hown (hw _ (List.mem_of_getElem? (i := 136) rfl)) (hw _ (List.mem_of_getElem? (i := 90) rfl)) (notFace_of_selects (args := #[]) (mvT hZ (hw _ (List.mem_of_getElem? (i := 92) rfl)))) (hw _ (List.mem_of_getElem? (i := 92) rfl)) (hw _ (List.mem_of_getElem? (i := 91) rfl)) (hw _ (List.mem_of_getElem? (i := 68) rfl)) (hw _ (List.mem_of_getElem? (i := 93) rfl)) (by decide) (a := b437) F491 (argsL := [(.int (2 : Int32))]) (rest := [(.int (1 : Int32)), (.ref b341)]) (rm := ({ frames := 1, cells := 0, slots := 0, locals := 14 } : Room)) (h := h481) (rm14 l Z a0 hw b437 (2 : Int32) (own_land u (3 : Int32)) h481 n0 Z493 F492 F491 ge442 (by decide)) e481 (W := 2) (by decide) (by decide) (by decide) (by decide) (g := (mkF m 168 #[.val (.long u), .second, .val (.int sz), .val (.int (3 : Int32)), .val (.ref b341), .val (.ref b357), .val (.ref b401), .val (.ref b437)] [(.int (2 : Int32)), (.ref b437), (.int (1 : Int32)), (.ref b341)])) rfl (by rw [hml]; rfl) (lenOf pd_10 rfl) rfl (by show 2 * 0 + _ ≤ _; exact Nat.le_of_eq rfl) (hb hby at_168) (fun v494 T494 h494 L494 X494 e494 hQ494 => ?_)
    obtain ⟨rfl, Nq494, Kq494, Fq494⟩ := hQ494
    have N494 := Fr.app N481 Nq494
    have F495 := Old.keep F482 Kq494 (allS ge442 all0)
    have F496 := Exa.keep F483 Kq494
    have F497 := OOv.keep F484 Kq494
    have F498 := Fld.keep F485 Kq494 (ninS ne439 nin0)
    have F499 := Fld.keep F486 Kq494 (ninS ne439 nin0)
    have F500 := Fld.keep F487 Kq494 (ninS ne439 nin0)
    have F501 := Exa.keep F488 Kq494
    have F502 := Fld.keep F489 Kq494 (ninS ne440 nin0)
    have F503 := OAr.keep F490 Kq494 (ninS ne441 nin0)
    have F504 := Exa.keep F491 Kq494
    have F505 := OAr.keep Vq481 Kq494 (ninS ne438 nin0)
    have Z506 := Nat.le_trans Z493 Kq494.1
    show OwnWk _ _ _ _ (T494.setTop (mkF m 171 #[.val (.long u), .second, .val (.int sz), .val (.int (3 : Int32)), .val (.ref b341), .val (.ref b357), .val (.ref b401), .val (.ref b437)] [(.int (own_r (own_land (own_land u (3 : Int32)) (2 : Int32)) (2 : Int32))), (.int (1 : Int32)), (.ref b341)]))
    rw [own_j_eq (q := (own_land u (3 : Int32))) (b := (2 : Int32)) (by decide)]
    show OwnWk _ _ _ _ (T494.setTop (mkF m 171 #[.val (.long u), .second, .val (.int sz), .val (.int (3 : Int32)), .val (.ref b341), .val (.ref b357), .val (.ref b401), .val (.ref b437)] [(.int (Int32.ofNat (own_j (own_land u (3 : Int32)) (2 : Int32)))), (.int (1 : Int32)), (.ref b341)]))
    refine own_callS X494 hx hZ (y := (⟨"com/example/spikeline/spikeline/core/SeededRandomShufflePinLaw", "swap", "([III)V"⟩ : MethodName)) hown (hw _ (List.mem_of_getElem? (i := 137) rfl)) (hw _ (List.mem_of_getElem? (i := 138) rfl)) (hw _ (List.mem_of_getElem? (i := 139) rfl)) (hw _ (List.mem_of_getElem? (i := 140) rfl)) (by decide) (argsL := [(.ref b341), (.int (1 : Int32)), (.int (Int32.ofNat (own_j (own_land u (3 : Int32)) (2 : Int32))))]) (rest := []) (rm := ({ frames := 0, cells := 0, slots := 0, locals := 0 } : Room)) (h := h494) (lsw l Z a0 hw b341 (own_swp [0, 1, 2, 3] 2 (own_j u (3 : Int32))) 1 (own_j (own_land u (3 : Int32)) (2 : Int32)) h494 n0 Z506 F505 ge342 (by simp [own_slen]) (by decide) (own_j_lt (by decide) (n := 4) rfl (by decide))) e494 (W := 0) (by decide) (by decide) (by decide) (by decide) (g := (mkF m 171 #[.val (.long u), .second, .val (.int sz), .val (.int (3 : Int32)), .val (.ref b341), .val (.ref b357), .val (.ref b401), .val (.ref b437)] [(.int (Int32.ofNat (own_j (own_land u (3 : Int32)) (2 : Int32)))), (.int (1 : Int32)), (.ref b341)])) rfl (by rw [hml]; rfl) (lenOf pd_17 rfl) rfl (by show 2 * 0 + _ ≤ _; exact Nat.le_of_eq rfl) (hb hby at_171) (fun v507 T507 h507 L507 X507 e507 hQ507 => ?_)
    obtain ⟨rfl, Nq507, Kq507, Vq507⟩ := hQ507
    have N507 := Fr.app N494 Nq507
    have F508 := Old.keep F495 Kq507 (allS ge342 all0)
    have F509 := Exa.keep F496 Kq507
    have F510 := OOv.keep F497 Kq507
    have F511 := Fld.keep F498 Kq507 (ninS (Ne.symm ne358) nin0)
    have F512 := Fld.keep F499 Kq507 (ninS (Ne.symm ne358) nin0)
    have F513 := Fld.keep F500 Kq507 (ninS (Ne.symm ne358) nin0)
    have F514 := Exa.keep F501 Kq507
    have F515 := Fld.keep F502 Kq507 (ninS (Ne.symm ne402) nin0)
    have F516 := OAr.keep F503 Kq507 (ninS (Ne.symm ne379) nin0)
    have F517 := Exa.keep F504 Kq507
    have F518 := Fld.keep Fq494 Kq507 (ninS (Ne.symm ne438) nin0)
    have Z519 := Nat.le_trans Z506 Kq507.1
    show OwnWk _ _ _ _ (T507.setTop (mkF m 174 #[.val (.long u), .second, .val (.int sz), .val (.int (3 : Int32)), .val (.ref b341), .val (.ref b357), .val (.ref b401), .val (.ref b437)] []))
    refine own_go (fun tgt kst => XS.aload X507.here hx rfl (hb hby at_174) rfl rfl  kst) ?_
    show OwnWk _ _ _ _ (T507.setTop (mkF m 176 #[.val (.long u), .second, .val (.int sz), .val (.int (3 : Int32)), .val (.ref b341), .val (.ref b357), .val (.ref b401), .val (.ref b437)] [(.ref b357)]))
    refine own_callV X507 hx hZ (y := (⟨"java/util/ArrayList", "size", "()I"⟩ : MethodName)) (z := (⟨"java/util/ArrayList", "size", "()I"⟩ : MethodName)) hown (hw _ (List.mem_of_getElem? (i := 141) rfl)) (hw _ (List.mem_of_getElem? (i := 142) rfl)) (notFace_of_selects (args := #[]) (mvT hZ (hw _ (List.mem_of_getElem? (i := 143) rfl)))) (hw _ (List.mem_of_getElem? (i := 143) rfl)) (hw _ (List.mem_of_getElem? (i := 84) rfl)) (hw _ (List.mem_of_getElem? (i := 4) rfl)) (hw _ (List.mem_of_getElem? (i := 88) rfl)) (by decide) (a := b357) F509 (argsL := []) (rest := []) (rm := ({ frames := 0, cells := 0, slots := 0, locals := 0 } : Room)) (h := h507) (rm13 l Z a0 hw b357 (3 : Int32) h507 n0 Z519 F513) e507 (W := 0) (by decide) (by decide) (by decide) (by decide) (g := (mkF m 176 #[.val (.long u), .second, .val (.int sz), .val (.int (3 : Int32)), .val (.ref b341), .val (.ref b357), .val (.ref b401), .val (.ref b437)] [(.ref b357)])) rfl (by rw [hml]; rfl) (lenOf pd_9 rfl) rfl (by show 2 * 0 + _ ≤ _; exact Nat.le_of_eq rfl) (hb hby at_176) (fun v520 T520 h520 L520 X520 e520 hQ520 => ?_)
    obtain ⟨rfl, Nq520, q520⟩ := hQ520
    have N520 := Fr.app N507 Nq520
    rw [q520] at e520
    show OwnWk _ _ _ _ (T520.setTop (mkF m 179 #[.val (.long u), .second, .val (.int sz), .val (.int (3 : Int32)), .val (.ref b341), .val (.ref b357), .val (.ref b401), .val (.ref b437)] [(.int (3 : Int32))]))
    refine own_go (fun tgt kst => XS.iloadN X520.here hx rfl (hb hby at_179) rfl  kst) ?_
    show OwnWk _ _ _ _ (T520.setTop (mkF m 180 #[.val (.long u), .second, .val (.int sz), .val (.int (3 : Int32)), .val (.ref b341), .val (.ref b357), .val (.ref b401), .val (.ref b437)] [(.int (3 : Int32)), (.int (3 : Int32))]))
    refine own_go (fun tgt kst => XS.icmpYes X520.here hx rfl (pc0 := 180) (pc' := 185) rfl (hb hby at_180) rfl (teq (by decide : (3 : Int32) = (3 : Int32))).1 (by decide) (by decide) kst) ?_
    show OwnWk _ _ _ _ (T520.setTop (mkF m 185 #[.val (.long u), .second, .val (.int sz), .val (.int (3 : Int32)), .val (.ref b341), .val (.ref b357), .val (.ref b401), .val (.ref b437)] []))
    refine own_go (fun tgt kst => XS.aload X520.here hx rfl (hb hby at_185) rfl rfl  kst) ?_
    show OwnWk _ _ _ _ (T520.setTop (mkF m 187 #[.val (.long u), .second, .val (.int sz), .val (.int (3 : Int32)), .val (.ref b341), .val (.ref b357), .val (.ref b401), .val (.ref b437)] [(.ref b401)]))
    refine own_callV X520 hx hZ (y := (⟨"com/example/spikeline/spikeline/core/SeededRandom", "state", "()J"⟩ : MethodName)) (z := (⟨"com/example/spikeline/spikeline/core/SeededRandom", "state", "()J"⟩ : MethodName)) hown (hw _ (List.mem_of_getElem? (i := 144) rfl)) (hw _ (List.mem_of_getElem? (i := 145) rfl)) (notFace_of_selects (args := #[]) (mvT hZ (hw _ (List.mem_of_getElem? (i := 147) rfl)))) (hw _ (List.mem_of_getElem? (i := 147) rfl)) (hw _ (List.mem_of_getElem? (i := 146) rfl)) (hw _ (List.mem_of_getElem? (i := 68) rfl)) (hw _ (List.mem_of_getElem? (i := 148) rfl)) (by decide) (a := b401) F514 (argsL := []) (rest := []) (rm := ({ frames := 0, cells := 0, slots := 0, locals := 0 } : Room)) (h := h507) (rm23 l Z a0 hw b401 (own_land (own_land u (3 : Int32)) (2 : Int32)) h507 n0 Z519 F515) e520 (W := 0) (by decide) (by decide) (by decide) (by decide) (g := (mkF m 187 #[.val (.long u), .second, .val (.int sz), .val (.int (3 : Int32)), .val (.ref b341), .val (.ref b357), .val (.ref b401), .val (.ref b437)] [(.ref b401)])) rfl (by rw [hml]; rfl) (lenOf pd_8 rfl) rfl (by show 2 * 0 + _ ≤ _; exact Nat.le_of_eq rfl) (hb hby at_187) (fun v521 T521 h521 L521 X521 e521 hQ521 => ?_)
    obtain ⟨rfl, Nq521, q521⟩ := hQ521
    have N521 := Fr.app N520 Nq521
    rw [q521] at e521
    show OwnWk _ _ _ _ (T521.setTop (mkF m 190 #[.val (.long u), .second, .val (.int sz), .val (.int (3 : Int32)), .val (.ref b341), .val (.ref b357), .val (.ref b401), .val (.ref b437)] [(.long (own_land (own_land u (3 : Int32)) (2 : Int32)))]))
    refine own_go (fun tgt kst => XS.aload X521.here hx rfl (hb hby at_190) rfl rfl  kst) ?_
    show OwnWk _ _ _ _ (T521.setTop (mkF m 192 #[.val (.long u), .second, .val (.int sz), .val (.int (3 : Int32)), .val (.ref b341), .val (.ref b357), .val (.ref b401), .val (.ref b437)] [(.ref b437), (.long (own_land (own_land u (3 : Int32)) (2 : Int32)))]))
    refine own_callV X521 hx hZ (y := (⟨"com/example/spikeline/spikeline/core/SeededRandom", "state", "()J"⟩ : MethodName)) (z := (⟨"com/example/spikeline/spikeline/core/SeededRandom", "state", "()J"⟩ : MethodName)) hown (hw _ (List.mem_of_getElem? (i := 144) rfl)) (hw _ (List.mem_of_getElem? (i := 145) rfl)) (notFace_of_selects (args := #[]) (mvT hZ (hw _ (List.mem_of_getElem? (i := 147) rfl)))) (hw _ (List.mem_of_getElem? (i := 147) rfl)) (hw _ (List.mem_of_getElem? (i := 146) rfl)) (hw _ (List.mem_of_getElem? (i := 68) rfl)) (hw _ (List.mem_of_getElem? (i := 148) rfl)) (by decide) (a := b437) F517 (argsL := []) (rest := [(.long (own_land (own_land u (3 : Int32)) (2 : Int32)))]) (rm := ({ frames := 0, cells := 0, slots := 0, locals := 0 } : Room)) (h := h507) (rm23 l Z a0 hw b437 (own_land (own_land u (3 : Int32)) (2 : Int32)) h507 n0 Z519 F518) e521 (W := 2) (by decide) (by decide) (by decide) (by decide) (g := (mkF m 192 #[.val (.long u), .second, .val (.int sz), .val (.int (3 : Int32)), .val (.ref b341), .val (.ref b357), .val (.ref b401), .val (.ref b437)] [(.ref b437), (.long (own_land (own_land u (3 : Int32)) (2 : Int32)))])) rfl (by rw [hml]; rfl) (lenOf pd_8 rfl) rfl (by show 2 * 0 + _ ≤ _; exact Nat.le_of_eq rfl) (hb hby at_192) (fun v522 T522 h522 L522 X522 e522 hQ522 => ?_)
    obtain ⟨rfl, Nq522, q522⟩ := hQ522
    have N522 := Fr.app N521 Nq522
    rw [q522] at e522
    show OwnWk _ _ _ _ (T522.setTop (mkF m 195 #[.val (.long u), .second, .val (.int sz), .val (.int (3 : Int32)), .val (.ref b341), .val (.ref b357), .val (.ref b401), .val (.ref b437)] [(.long (own_land (own_land u (3 : Int32)) (2 : Int32))), (.long (own_land (own_land u (3 : Int32)) (2 : Int32)))]))
    refine own_go (fun tgt kst => XS.lcmp X522.here hx rfl (hb hby at_195) rfl kst) ?_
    show OwnWk _ _ _ _ (T522.setTop (mkF m 196 #[.val (.long u), .second, .val (.int sz), .val (.int (3 : Int32)), .val (.ref b341), .val (.ref b357), .val (.ref b401), .val (.ref b437)] [(.int (lcmpW (own_land (own_land u (3 : Int32)) (2 : Int32)) (own_land (own_land u (3 : Int32)) (2 : Int32))))]))
    refine own_go (fun tgt kst => XS.ifYes X522.here hx rfl (pc0 := 196) (pc' := 201) rfl (hb hby at_196) rfl ((if0 _ _).trans (teq (own_lc_eq.mpr rfl)).1) (by decide) (by decide) kst) ?_
    show OwnWk _ _ _ _ (T522.setTop (mkF m 201 #[.val (.long u), .second, .val (.int sz), .val (.int (3 : Int32)), .val (.ref b341), .val (.ref b357), .val (.ref b401), .val (.ref b437)] []))
    refine own_go (fun tgt kst => XS.aload X522.here hx rfl (hb hby at_201) rfl rfl  kst) ?_
    show OwnWk _ _ _ _ (T522.setTop (mkF m 203 #[.val (.long u), .second, .val (.int sz), .val (.int (3 : Int32)), .val (.ref b341), .val (.ref b357), .val (.ref b401), .val (.ref b437)] [(.ref b357)]))
    refine own_go (fun tgt kst => XS.aload X522.here hx rfl (hb hby at_203) rfl rfl  kst) ?_
    show OwnWk _ _ _ _ (T522.setTop (mkF m 205 #[.val (.long u), .second, .val (.int sz), .val (.int (3 : Int32)), .val (.ref b341), .val (.ref b357), .val (.ref b401), .val (.ref b437)] [(.ref b341), (.ref b357)]))
    refine own_go (fun tgt kst => XS.iconst X522.here hx rfl (hb hby at_205) kst) ?_
    show OwnWk _ _ _ _ (T522.setTop (mkF m 206 #[.val (.long u), .second, .val (.int sz), .val (.int (3 : Int32)), .val (.ref b341), .val (.ref b357), .val (.ref b401), .val (.ref b437)] [(.int (0 : Int32)), (.ref b341), (.ref b357)]))
    refine own_go (fun tgt kst => XS.iloadN X522.here hx rfl (hb hby at_206) rfl  kst) ?_
    show OwnWk _ _ _ _ (T522.setTop (mkF m 207 #[.val (.long u), .second, .val (.int sz), .val (.int (3 : Int32)), .val (.ref b341), .val (.ref b357), .val (.ref b401), .val (.ref b437)] [(.int (3 : Int32)), (.int (0 : Int32)), (.ref b341), (.ref b357)]))
    refine own_callS X522 hx hZ (y := (⟨"com/example/spikeline/spikeline/core/SeededRandomShufflePinLaw", "same", "(Ljava/util/ArrayList;[III)Z"⟩ : MethodName)) hown (hw _ (List.mem_of_getElem? (i := 149) rfl)) (hw _ (List.mem_of_getElem? (i := 150) rfl)) (hw _ (List.mem_of_getElem? (i := 139) rfl)) (hw _ (List.mem_of_getElem? (i := 151) rfl)) (by decide) (argsL := [(.ref b357), (.ref b341), (.int (0 : Int32)), (.int (3 : Int32))]) (rest := []) (rm := ({ frames := 3, cells := 0, slots := 0, locals := 40 } : Room)) (h := h507) (smI l Z a0 hw dce cac ia b357 ed b341 (own_exch (own_exch [0, 1, 2] 2 (own_j u (3 : Int32))) 1 (own_j (own_land u (3 : Int32)) (2 : Int32))) (own_swp (own_swp [0, 1, 2, 3] 2 (own_j u (3 : Int32))) 1 (own_j (own_land u (3 : Int32)) (2 : Int32))) 0 3 h507 n0 Z519 F508 S_d V_d S_h S_c hL hE hV F509 F513 F512 F516 Vq507 (by decide) (by simp [own_elen]) (by decide) (own_k4 (own_k4 (by decide : ∀ k ∈ [0, 1, 2], k < 4))) (by simp [own_slen])) e522 (W := 0) (by decide) (by decide) (by decide) (by decide) (g := (mkF m 207 #[.val (.long u), .second, .val (.int sz), .val (.int (3 : Int32)), .val (.ref b341), .val (.ref b357), .val (.ref b401), .val (.ref b437)] [(.int (3 : Int32)), (.int (0 : Int32)), (.ref b341), (.ref b357)])) rfl (by rw [hml]; rfl) (lenOf pd_14 rfl) rfl (by show 2 * 0 + _ ≤ _; exact Nat.le_of_eq rfl) (hb hby at_207) (fun v523 T523 h523 L523 X523 e523 hQ523 => ?_)
    obtain ⟨rfl, Nq523, q523⟩ := hQ523
    have N523 := Fr.app N522 Nq523
    rw [q523] at e523
    show OwnWk _ _ _ _ (T523.setTop (mkF m 210 #[.val (.long u), .second, .val (.int sz), .val (.int (3 : Int32)), .val (.ref b341), .val (.ref b357), .val (.ref b401), .val (.ref b437)] [(.int (own_same (own_exch (own_exch [0, 1, 2] 2 (own_j u (3 : Int32))) 1 (own_j (own_land u (3 : Int32)) (2 : Int32))) (own_swp (own_swp [0, 1, 2, 3] 2 (own_j u (3 : Int32))) 1 (own_j (own_land u (3 : Int32)) (2 : Int32))) 0))]))
    refine own_go (fun tgt kst => XS.ifNo X523.here hx rfl (hb hby at_210) rfl ((if0 _ _).trans (feq (by rw [own_fin3 (own_j u (3 : Int32)) (own_j_lt (by decide) rfl (by decide)) (own_j (own_land u (3 : Int32)) (2 : Int32)) (own_j_lt (by decide) rfl (by decide)) 0 (by decide)]; decide)).1) kst) ?_
    show OwnWk _ _ _ _ (T523.setTop (mkF m 213 #[.val (.long u), .second, .val (.int sz), .val (.int (3 : Int32)), .val (.ref b341), .val (.ref b357), .val (.ref b401), .val (.ref b437)] []))
    refine own_go (fun tgt kst => XS.aload X523.here hx rfl (hb hby at_213) rfl rfl  kst) ?_
    show OwnWk _ _ _ _ (T523.setTop (mkF m 215 #[.val (.long u), .second, .val (.int sz), .val (.int (3 : Int32)), .val (.ref b341), .val (.ref b357), .val (.ref b401), .val (.ref b437)] [(.ref b357)]))
    refine own_go (fun tgt kst => XS.aload X523.here hx rfl (hb hby at_215) rfl rfl  kst) ?_
    show OwnWk _ _ _ _ (T523.setTop (mkF m 217 #[.val (.long u), .second, .val (.int sz), .val (.int (3 : Int32)), .val (.ref b341), .val (.ref b357), .val (.ref b401), .val (.ref b437)] [(.ref b341), (.ref b357)]))
    refine own_go (fun tgt kst => XS.iconst X523.here hx rfl (hb hby at_217) kst) ?_
    show OwnWk _ _ _ _ (T523.setTop (mkF m 218 #[.val (.long u), .second, .val (.int sz), .val (.int (3 : Int32)), .val (.ref b341), .val (.ref b357), .val (.ref b401), .val (.ref b437)] [(.int (1 : Int32)), (.ref b341), (.ref b357)]))
    refine own_go (fun tgt kst => XS.iloadN X523.here hx rfl (hb hby at_218) rfl  kst) ?_
    show OwnWk _ _ _ _ (T523.setTop (mkF m 219 #[.val (.long u), .second, .val (.int sz), .val (.int (3 : Int32)), .val (.ref b341), .val (.ref b357), .val (.ref b401), .val (.ref b437)] [(.int (3 : Int32)), (.int (1 : Int32)), (.ref b341), (.ref b357)]))
    refine own_callS X523 hx hZ (y := (⟨"com/example/spikeline/spikeline/core/SeededRandomShufflePinLaw", "same", "(Ljava/util/ArrayList;[III)Z"⟩ : MethodName)) hown (hw _ (List.mem_of_getElem? (i := 149) rfl)) (hw _ (List.mem_of_getElem? (i := 150) rfl)) (hw _ (List.mem_of_getElem? (i := 139) rfl)) (hw _ (List.mem_of_getElem? (i := 151) rfl)) (by decide) (argsL := [(.ref b357), (.ref b341), (.int (1 : Int32)), (.int (3 : Int32))]) (rest := []) (rm := ({ frames := 3, cells := 0, slots := 0, locals := 40 } : Room)) (h := h507) (smI l Z a0 hw dce cac ia b357 ed b341 (own_exch (own_exch [0, 1, 2] 2 (own_j u (3 : Int32))) 1 (own_j (own_land u (3 : Int32)) (2 : Int32))) (own_swp (own_swp [0, 1, 2, 3] 2 (own_j u (3 : Int32))) 1 (own_j (own_land u (3 : Int32)) (2 : Int32))) 1 3 h507 n0 Z519 F508 S_d V_d S_h S_c hL hE hV F509 F513 F512 F516 Vq507 (by decide) (by simp [own_elen]) (by decide) (own_k4 (own_k4 (by decide : ∀ k ∈ [0, 1, 2], k < 4))) (by simp [own_slen])) e523 (W := 0) (by decide) (by decide) (by decide) (by decide) (g := (mkF m 219 #[.val (.long u), .second, .val (.int sz), .val (.int (3 : Int32)), .val (.ref b341), .val (.ref b357), .val (.ref b401), .val (.ref b437)] [(.int (3 : Int32)), (.int (1 : Int32)), (.ref b341), (.ref b357)])) rfl (by rw [hml]; rfl) (lenOf pd_14 rfl) rfl (by show 2 * 0 + _ ≤ _; exact Nat.le_of_eq rfl) (hb hby at_219) (fun v524 T524 h524 L524 X524 e524 hQ524 => ?_)
    obtain ⟨rfl, Nq524, q524⟩ := hQ524
    have N524 := Fr.app N523 Nq524
    rw [q524] at e524
    show OwnWk _ _ _ _ (T524.setTop (mkF m 222 #[.val (.long u), .second, .val (.int sz), .val (.int (3 : Int32)), .val (.ref b341), .val (.ref b357), .val (.ref b401), .val (.ref b437)] [(.int (own_same (own_exch (own_exch [0, 1, 2] 2 (own_j u (3 : Int32))) 1 (own_j (own_land u (3 : Int32)) (2 : Int32))) (own_swp (own_swp [0, 1, 2, 3] 2 (own_j u (3 : Int32))) 1 (own_j (own_land u (3 : Int32)) (2 : Int32))) 1))]))
    refine own_go (fun tgt kst => XS.ifNo X524.here hx rfl (hb hby at_222) rfl ((if0 _ _).trans (feq (by rw [own_fin3 (own_j u (3 : Int32)) (own_j_lt (by decide) rfl (by decide)) (own_j (own_land u (3 : Int32)) (2 : Int32)) (own_j_lt (by decide) rfl (by decide)) 1 (by decide)]; decide)).1) kst) ?_
    show OwnWk _ _ _ _ (T524.setTop (mkF m 225 #[.val (.long u), .second, .val (.int sz), .val (.int (3 : Int32)), .val (.ref b341), .val (.ref b357), .val (.ref b401), .val (.ref b437)] []))
    refine own_go (fun tgt kst => XS.aload X524.here hx rfl (hb hby at_225) rfl rfl  kst) ?_
    show OwnWk _ _ _ _ (T524.setTop (mkF m 227 #[.val (.long u), .second, .val (.int sz), .val (.int (3 : Int32)), .val (.ref b341), .val (.ref b357), .val (.ref b401), .val (.ref b437)] [(.ref b357)]))
    refine own_go (fun tgt kst => XS.aload X524.here hx rfl (hb hby at_227) rfl rfl  kst) ?_
    show OwnWk _ _ _ _ (T524.setTop (mkF m 229 #[.val (.long u), .second, .val (.int sz), .val (.int (3 : Int32)), .val (.ref b341), .val (.ref b357), .val (.ref b401), .val (.ref b437)] [(.ref b341), (.ref b357)]))
    refine own_go (fun tgt kst => XS.iconst X524.here hx rfl (hb hby at_229) kst) ?_
    show OwnWk _ _ _ _ (T524.setTop (mkF m 230 #[.val (.long u), .second, .val (.int sz), .val (.int (3 : Int32)), .val (.ref b341), .val (.ref b357), .val (.ref b401), .val (.ref b437)] [(.int (2 : Int32)), (.ref b341), (.ref b357)]))
    refine own_go (fun tgt kst => XS.iloadN X524.here hx rfl (hb hby at_230) rfl  kst) ?_
    show OwnWk _ _ _ _ (T524.setTop (mkF m 231 #[.val (.long u), .second, .val (.int sz), .val (.int (3 : Int32)), .val (.ref b341), .val (.ref b357), .val (.ref b401), .val (.ref b437)] [(.int (3 : Int32)), (.int (2 : Int32)), (.ref b341), (.ref b357)]))
    refine own_callS X524 hx hZ (y := (⟨"com/example/spikeline/spikeline/core/SeededRandomShufflePinLaw", "same", "(Ljava/util/ArrayList;[III)Z"⟩ : MethodName)) hown (hw _ (List.mem_of_getElem? (i := 149) rfl)) (hw _ (List.mem_of_getElem? (i := 150) rfl)) (hw _ (List.mem_of_getElem? (i := 139) rfl)) (hw _ (List.mem_of_getElem? (i := 151) rfl)) (by decide) (argsL := [(.ref b357), (.ref b341), (.int (2 : Int32)), (.int (3 : Int32))]) (rest := []) (rm := ({ frames := 3, cells := 0, slots := 0, locals := 40 } : Room)) (h := h507) (smI l Z a0 hw dce cac ia b357 ed b341 (own_exch (own_exch [0, 1, 2] 2 (own_j u (3 : Int32))) 1 (own_j (own_land u (3 : Int32)) (2 : Int32))) (own_swp (own_swp [0, 1, 2, 3] 2 (own_j u (3 : Int32))) 1 (own_j (own_land u (3 : Int32)) (2 : Int32))) 2 3 h507 n0 Z519 F508 S_d V_d S_h S_c hL hE hV F509 F513 F512 F516 Vq507 (by decide) (by simp [own_elen]) (by decide) (own_k4 (own_k4 (by decide : ∀ k ∈ [0, 1, 2], k < 4))) (by simp [own_slen])) e524 (W := 0) (by decide) (by decide) (by decide) (by decide) (g := (mkF m 231 #[.val (.long u), .second, .val (.int sz), .val (.int (3 : Int32)), .val (.ref b341), .val (.ref b357), .val (.ref b401), .val (.ref b437)] [(.int (3 : Int32)), (.int (2 : Int32)), (.ref b341), (.ref b357)])) rfl (by rw [hml]; rfl) (lenOf pd_14 rfl) rfl (by show 2 * 0 + _ ≤ _; exact Nat.le_of_eq rfl) (hb hby at_231) (fun v525 T525 h525 L525 X525 e525 hQ525 => ?_)
    obtain ⟨rfl, Nq525, q525⟩ := hQ525
    have N525 := Fr.app N524 Nq525
    rw [q525] at e525
    show OwnWk _ _ _ _ (T525.setTop (mkF m 234 #[.val (.long u), .second, .val (.int sz), .val (.int (3 : Int32)), .val (.ref b341), .val (.ref b357), .val (.ref b401), .val (.ref b437)] [(.int (own_same (own_exch (own_exch [0, 1, 2] 2 (own_j u (3 : Int32))) 1 (own_j (own_land u (3 : Int32)) (2 : Int32))) (own_swp (own_swp [0, 1, 2, 3] 2 (own_j u (3 : Int32))) 1 (own_j (own_land u (3 : Int32)) (2 : Int32))) 2))]))
    refine own_go (fun tgt kst => XS.ifNo X525.here hx rfl (hb hby at_234) rfl ((if0 _ _).trans (feq (by rw [own_fin3 (own_j u (3 : Int32)) (own_j_lt (by decide) rfl (by decide)) (own_j (own_land u (3 : Int32)) (2 : Int32)) (own_j_lt (by decide) rfl (by decide)) 2 (by decide)]; decide)).1) kst) ?_
    show OwnWk _ _ _ _ (T525.setTop (mkF m 237 #[.val (.long u), .second, .val (.int sz), .val (.int (3 : Int32)), .val (.ref b341), .val (.ref b357), .val (.ref b401), .val (.ref b437)] []))
    refine own_go (fun tgt kst => XS.aload X525.here hx rfl (hb hby at_237) rfl rfl  kst) ?_
    show OwnWk _ _ _ _ (T525.setTop (mkF m 239 #[.val (.long u), .second, .val (.int sz), .val (.int (3 : Int32)), .val (.ref b341), .val (.ref b357), .val (.ref b401), .val (.ref b437)] [(.ref b357)]))
    refine own_go (fun tgt kst => XS.aload X525.here hx rfl (hb hby at_239) rfl rfl  kst) ?_
    show OwnWk _ _ _ _ (T525.setTop (mkF m 241 #[.val (.long u), .second, .val (.int sz), .val (.int (3 : Int32)), .val (.ref b341), .val (.ref b357), .val (.ref b401), .val (.ref b437)] [(.ref b341), (.ref b357)]))
    refine own_go (fun tgt kst => XS.iconst X525.here hx rfl (hb hby at_241) kst) ?_
    show OwnWk _ _ _ _ (T525.setTop (mkF m 242 #[.val (.long u), .second, .val (.int sz), .val (.int (3 : Int32)), .val (.ref b341), .val (.ref b357), .val (.ref b401), .val (.ref b437)] [(.int (3 : Int32)), (.ref b341), (.ref b357)]))
    refine own_go (fun tgt kst => XS.iloadN X525.here hx rfl (hb hby at_242) rfl  kst) ?_
    show OwnWk _ _ _ _ (T525.setTop (mkF m 243 #[.val (.long u), .second, .val (.int sz), .val (.int (3 : Int32)), .val (.ref b341), .val (.ref b357), .val (.ref b401), .val (.ref b437)] [(.int (3 : Int32)), (.int (3 : Int32)), (.ref b341), (.ref b357)]))
    refine own_callS X525 hx hZ (y := (⟨"com/example/spikeline/spikeline/core/SeededRandomShufflePinLaw", "same", "(Ljava/util/ArrayList;[III)Z"⟩ : MethodName)) hown (hw _ (List.mem_of_getElem? (i := 149) rfl)) (hw _ (List.mem_of_getElem? (i := 150) rfl)) (hw _ (List.mem_of_getElem? (i := 139) rfl)) (hw _ (List.mem_of_getElem? (i := 151) rfl)) (by decide) (argsL := [(.ref b357), (.ref b341), (.int (3 : Int32)), (.int (3 : Int32))]) (rest := []) (rm := ({ frames := 0, cells := 0, slots := 0, locals := 0 } : Room)) (h := h507) (smO l Z a0 hw b357 b341 (3 : Int32) (3 : Int32) h507 n0 Z519 (by decide)) e525 (W := 0) (by decide) (by decide) (by decide) (by decide) (g := (mkF m 243 #[.val (.long u), .second, .val (.int sz), .val (.int (3 : Int32)), .val (.ref b341), .val (.ref b357), .val (.ref b401), .val (.ref b437)] [(.int (3 : Int32)), (.int (3 : Int32)), (.ref b341), (.ref b357)])) rfl (by rw [hml]; rfl) (lenOf pd_14 rfl) rfl (by show 2 * 0 + _ ≤ _; exact Nat.le_of_eq rfl) (hb hby at_243) (fun v526 T526 h526 L526 X526 e526 hQ526 => ?_)
    obtain ⟨rfl, Nq526, q526⟩ := hQ526
    have N526 := Fr.app N525 Nq526
    rw [q526] at e526
    show OwnWk _ _ _ _ (T526.setTop (mkF m 246 #[.val (.long u), .second, .val (.int sz), .val (.int (3 : Int32)), .val (.ref b341), .val (.ref b357), .val (.ref b401), .val (.ref b437)] [(.int (1 : Int32))]))
    refine own_go (fun tgt kst => XS.ifNo X526.here hx rfl (hb hby at_246) rfl ((if0 _ _).trans (feq (by decide : ¬ ((1 : Int32) = (0 : Int32)))).1) kst) ?_
    show OwnWk _ _ _ _ (T526.setTop (mkF m 249 #[.val (.long u), .second, .val (.int sz), .val (.int (3 : Int32)), .val (.ref b341), .val (.ref b357), .val (.ref b401), .val (.ref b437)] []))
    refine own_go (fun tgt kst => XS.iconst X526.here hx rfl (hb hby at_249) kst) ?_
    show OwnWk _ _ _ _ (T526.setTop (mkF m 250 #[.val (.long u), .second, .val (.int sz), .val (.int (3 : Int32)), .val (.ref b341), .val (.ref b357), .val (.ref b401), .val (.ref b437)] [(.int (1 : Int32))]))
    refine own_go (fun tgt kst => XS.goto X526.here hx rfl (pc0 := 250) (pc' := 254) rfl (hb hby at_250) (by decide) (by decide) kst) ?_
    show OwnWk _ _ _ _ (T526.setTop (mkF m 254 #[.val (.long u), .second, .val (.int sz), .val (.int (3 : Int32)), .val (.ref b341), .val (.ref b357), .val (.ref b401), .val (.ref b437)] [(.int (1 : Int32))]))
    exact own_retZ X526 hx hlk hret (by simp) (z' := (1 : Int32)) rfl (hb hby at_254) (by decide) (by decide) (by rw [e526]; exact ⟨rfl, N526⟩)
  ·
    show OwnWk _ _ _ _ (s₁.setTop (mkF m 6 #[.val (.long u), .second, .val (.int sz), .unset, .unset, .unset, .unset, .unset] [(.int (4 : Int32))]))
    refine own_go (fun tgt kst => XS.istoreN X0.here hx rfl (hb hby at_6) rfl (l' := #[.val (.long u), .second, .val (.int sz), .val (.int (4 : Int32)), .unset, .unset, .unset, .unset]) rfl kst) ?_
    show OwnWk _ _ _ _ (s₁.setTop (mkF m 7 #[.val (.long u), .second, .val (.int sz), .val (.int (4 : Int32)), .unset, .unset, .unset, .unset] []))
    refine own_go (fun tgt kst => XS.iconst X0.here hx rfl (hb hby at_7) kst) ?_
    show OwnWk _ _ _ _ (s₁.setTop (mkF m 8 #[.val (.long u), .second, .val (.int sz), .val (.int (4 : Int32)), .unset, .unset, .unset, .unset] [(.int (4 : Int32))]))
    refine own_newP X0 hx hZ (aty := .int) (hw _ (List.mem_of_getElem? (i := 1) rfl)) e0 (g := (mkF m 8 #[.val (.long u), .second, .val (.int sz), .val (.int (4 : Int32)), .unset, .unset, .unset, .unset] [(.int (4 : Int32))])) rfl (hb hby at_8) rfl (by decide) (cap := 4) (by decide) (by decide) (by decide) (by decide) (fun T527 h527 b527 X527 e527 g527 E527 V527 => ?_)
    have ge528 : n0 ≤ b527 := Nat.le_trans Z0 (Nat.le_of_eq g527.symm)
    have F529 := Old.ext O0 E527
    have Z530 := Nat.le_trans Z0 E527.1
    have V527b : OAr Z h527 b527 .int [(.int (0 : Int32)), (.int (0 : Int32)), (.int (0 : Int32)), (.int (0 : Int32))] := V527
    show OwnWk _ _ _ _ (T527.setTop (mkF m 10 #[.val (.long u), .second, .val (.int sz), .val (.int (4 : Int32)), .unset, .unset, .unset, .unset] [(.ref b527)]))
    refine own_go (fun tgt kst => XS.dup X527.here hx rfl (hb hby at_10) rfl rfl kst) ?_
    show OwnWk _ _ _ _ (T527.setTop (mkF m 11 #[.val (.long u), .second, .val (.int sz), .val (.int (4 : Int32)), .unset, .unset, .unset, .unset] [(.ref b527), (.ref b527)]))
    refine own_go (fun tgt kst => XS.iconst X527.here hx rfl (hb hby at_11) kst) ?_
    show OwnWk _ _ _ _ (T527.setTop (mkF m 12 #[.val (.long u), .second, .val (.int sz), .val (.int (4 : Int32)), .unset, .unset, .unset, .unset] [(.int (0 : Int32)), (.ref b527), (.ref b527)]))
    refine own_go (fun tgt kst => XS.iconst X527.here hx rfl (hb hby at_12) kst) ?_
    show OwnWk _ _ _ _ (T527.setTop (mkF m 13 #[.val (.long u), .second, .val (.int sz), .val (.int (4 : Int32)), .unset, .unset, .unset, .unset] [(.int (0 : Int32)), (.int (0 : Int32)), (.ref b527), (.ref b527)]))
    refine own_stI X527 hx hZ e527 V527b (g := (mkF m 13 #[.val (.long u), .second, .val (.int sz), .val (.int (4 : Int32)), .unset, .unset, .unset, .unset] [(.int (0 : Int32)), (.int (0 : Int32)), (.ref b527), (.ref b527)])) rfl rfl (hb hby at_13) (by decide) (Nat.le_of_ble_eq_true rfl) (fun T531 h531 X531 e531 W531 V531 => ?_)
    have N531 := Fr.snoc X531 N0 ge528
    have F532 := Old.wr F529 W531 ge528
    have Z533 := Nat.le_trans Z530 (Keep.of_wr W531).1
    show OwnWk _ _ _ _ (T531.setTop (mkF m 14 #[.val (.long u), .second, .val (.int sz), .val (.int (4 : Int32)), .unset, .unset, .unset, .unset] [(.ref b527)]))
    refine own_go (fun tgt kst => XS.dup X531.here hx rfl (hb hby at_14) rfl rfl kst) ?_
    show OwnWk _ _ _ _ (T531.setTop (mkF m 15 #[.val (.long u), .second, .val (.int sz), .val (.int (4 : Int32)), .unset, .unset, .unset, .unset] [(.ref b527), (.ref b527)]))
    refine own_go (fun tgt kst => XS.iconst X531.here hx rfl (hb hby at_15) kst) ?_
    show OwnWk _ _ _ _ (T531.setTop (mkF m 16 #[.val (.long u), .second, .val (.int sz), .val (.int (4 : Int32)), .unset, .unset, .unset, .unset] [(.int (1 : Int32)), (.ref b527), (.ref b527)]))
    refine own_go (fun tgt kst => XS.iconst X531.here hx rfl (hb hby at_16) kst) ?_
    show OwnWk _ _ _ _ (T531.setTop (mkF m 17 #[.val (.long u), .second, .val (.int sz), .val (.int (4 : Int32)), .unset, .unset, .unset, .unset] [(.int (1 : Int32)), (.int (1 : Int32)), (.ref b527), (.ref b527)]))
    refine own_stI X531 hx hZ e531 V531 (g := (mkF m 17 #[.val (.long u), .second, .val (.int sz), .val (.int (4 : Int32)), .unset, .unset, .unset, .unset] [(.int (1 : Int32)), (.int (1 : Int32)), (.ref b527), (.ref b527)])) rfl rfl (hb hby at_17) (by decide) (Nat.le_of_ble_eq_true rfl) (fun T534 h534 X534 e534 W534 V534 => ?_)
    have N534 := Fr.snoc X534 N531 ge528
    have F535 := Old.wr F532 W534 ge528
    have Z536 := Nat.le_trans Z533 (Keep.of_wr W534).1
    show OwnWk _ _ _ _ (T534.setTop (mkF m 18 #[.val (.long u), .second, .val (.int sz), .val (.int (4 : Int32)), .unset, .unset, .unset, .unset] [(.ref b527)]))
    refine own_go (fun tgt kst => XS.dup X534.here hx rfl (hb hby at_18) rfl rfl kst) ?_
    show OwnWk _ _ _ _ (T534.setTop (mkF m 19 #[.val (.long u), .second, .val (.int sz), .val (.int (4 : Int32)), .unset, .unset, .unset, .unset] [(.ref b527), (.ref b527)]))
    refine own_go (fun tgt kst => XS.iconst X534.here hx rfl (hb hby at_19) kst) ?_
    show OwnWk _ _ _ _ (T534.setTop (mkF m 20 #[.val (.long u), .second, .val (.int sz), .val (.int (4 : Int32)), .unset, .unset, .unset, .unset] [(.int (2 : Int32)), (.ref b527), (.ref b527)]))
    refine own_go (fun tgt kst => XS.iconst X534.here hx rfl (hb hby at_20) kst) ?_
    show OwnWk _ _ _ _ (T534.setTop (mkF m 21 #[.val (.long u), .second, .val (.int sz), .val (.int (4 : Int32)), .unset, .unset, .unset, .unset] [(.int (2 : Int32)), (.int (2 : Int32)), (.ref b527), (.ref b527)]))
    refine own_stI X534 hx hZ e534 V534 (g := (mkF m 21 #[.val (.long u), .second, .val (.int sz), .val (.int (4 : Int32)), .unset, .unset, .unset, .unset] [(.int (2 : Int32)), (.int (2 : Int32)), (.ref b527), (.ref b527)])) rfl rfl (hb hby at_21) (by decide) (Nat.le_of_ble_eq_true rfl) (fun T537 h537 X537 e537 W537 V537 => ?_)
    have N537 := Fr.snoc X537 N534 ge528
    have F538 := Old.wr F535 W537 ge528
    have Z539 := Nat.le_trans Z536 (Keep.of_wr W537).1
    show OwnWk _ _ _ _ (T537.setTop (mkF m 22 #[.val (.long u), .second, .val (.int sz), .val (.int (4 : Int32)), .unset, .unset, .unset, .unset] [(.ref b527)]))
    refine own_go (fun tgt kst => XS.dup X537.here hx rfl (hb hby at_22) rfl rfl kst) ?_
    show OwnWk _ _ _ _ (T537.setTop (mkF m 23 #[.val (.long u), .second, .val (.int sz), .val (.int (4 : Int32)), .unset, .unset, .unset, .unset] [(.ref b527), (.ref b527)]))
    refine own_go (fun tgt kst => XS.iconst X537.here hx rfl (hb hby at_23) kst) ?_
    show OwnWk _ _ _ _ (T537.setTop (mkF m 24 #[.val (.long u), .second, .val (.int sz), .val (.int (4 : Int32)), .unset, .unset, .unset, .unset] [(.int (3 : Int32)), (.ref b527), (.ref b527)]))
    refine own_go (fun tgt kst => XS.iconst X537.here hx rfl (hb hby at_24) kst) ?_
    show OwnWk _ _ _ _ (T537.setTop (mkF m 25 #[.val (.long u), .second, .val (.int sz), .val (.int (4 : Int32)), .unset, .unset, .unset, .unset] [(.int (3 : Int32)), (.int (3 : Int32)), (.ref b527), (.ref b527)]))
    refine own_stI X537 hx hZ e537 V537 (g := (mkF m 25 #[.val (.long u), .second, .val (.int sz), .val (.int (4 : Int32)), .unset, .unset, .unset, .unset] [(.int (3 : Int32)), (.int (3 : Int32)), (.ref b527), (.ref b527)])) rfl rfl (hb hby at_25) (by decide) (Nat.le_of_ble_eq_true rfl) (fun T540 h540 X540 e540 W540 V540 => ?_)
    have N540 := Fr.snoc X540 N537 ge528
    have F541 := Old.wr F538 W540 ge528
    have Z542 := Nat.le_trans Z539 (Keep.of_wr W540).1
    show OwnWk _ _ _ _ (T540.setTop (mkF m 26 #[.val (.long u), .second, .val (.int sz), .val (.int (4 : Int32)), .unset, .unset, .unset, .unset] [(.ref b527)]))
    have Vst : OAr Z h540 b527 .int (own_iv [0, 1, 2, 3]) := V540
    refine own_go (fun tgt kst => XS.astore X540.here hx rfl (hb hby at_26) rfl rfl (l' := #[.val (.long u), .second, .val (.int sz), .val (.int (4 : Int32)), .val (.ref b527), .unset, .unset, .unset]) rfl kst) ?_
    show OwnWk _ _ _ _ (T540.setTop (mkF m 28 #[.val (.long u), .second, .val (.int sz), .val (.int (4 : Int32)), .val (.ref b527), .unset, .unset, .unset] []))
    obtain ⟨T543, h543, X543, e543, E543, A543, D543, -, st543⟩ := newO X540 hx hZ hown (hw _ (List.mem_of_getElem? (i := 2) rfl)) (hw _ (List.mem_of_getElem? (i := 3) rfl)) (hw _ (List.mem_of_getElem? (i := 4) rfl)) e540 (g := (mkF m 28 #[.val (.long u), .second, .val (.int sz), .val (.int (4 : Int32)), .val (.ref b527), .unset, .unset, .unset] [])) rfl (hb hby at_28) (by decide) (by decide)
    obtain ⟨b543, g543⟩ : ∃ z, z = h540.size := ⟨_, rfl⟩
    rw [← g543] at A543 D543 st543
    refine own_go st543 ?_
    have ne544 : b527 ≠ b543 := Nat.ne_of_lt (Nat.lt_of_lt_of_le Vst.lt (Nat.le_of_eq g543.symm))
    have ge545 : n0 ≤ b543 := Nat.le_trans Z542 (Nat.le_of_eq g543.symm)
    have F546 := Old.ext F541 E543
    have F547 := OAr.ext Vst E543
    have Z548 := Nat.le_trans Z542 E543.1
    have F549 : Fld Z h543 b543 "java/util/AbstractList" "modCount" "I" (.int (0 : Int32)) := D543 (Or.inl (hw _ (List.mem_of_getElem? (i := 24) rfl))) (ty := .int) (by decide)
    have F550 : Fld Z h543 b543 "java/util/ArrayList" "elementData" "[Ljava/lang/Object;" .null := D543 (Or.inl (hw _ (List.mem_of_getElem? (i := 27) rfl))) (ty := (.array (.object "java/lang/Object"))) (by decide)
    have F551 : Fld Z h543 b543 "java/util/ArrayList" "size" "I" (.int (0 : Int32)) := D543 (Or.inl (hw _ (List.mem_of_getElem? (i := 43) rfl))) (ty := .int) (by decide)
    show OwnWk _ _ _ _ (T543.setTop (mkF m 31 #[.val (.long u), .second, .val (.int sz), .val (.int (4 : Int32)), .val (.ref b527), .unset, .unset, .unset] [(.ref b543)]))
    refine own_go (fun tgt kst => XS.dup X543.here hx rfl (hb hby at_31) rfl rfl kst) ?_
    show OwnWk _ _ _ _ (T543.setTop (mkF m 32 #[.val (.long u), .second, .val (.int sz), .val (.int (4 : Int32)), .val (.ref b527), .unset, .unset, .unset] [(.ref b543), (.ref b543)]))
    refine own_callC X543 hx hZ (y := (⟨"java/util/ArrayList", "<init>", "()V"⟩ : MethodName)) hown rfl (hw _ (List.mem_of_getElem? (i := 5) rfl)) (hw _ (List.mem_of_getElem? (i := 6) rfl)) (hw _ (List.mem_of_getElem? (i := 4) rfl)) (hw _ (List.mem_of_getElem? (i := 7) rfl)) (by decide) (a := b543) (argsL := []) (rest := [(.ref b543)]) (rm := ({ frames := 3, cells := 0, slots := 0, locals := 36 } : Room)) (h := h543) (rm1 l Z a0 hw dce cac ia b543 h543 n0 Z548 F546 S_d V_d S_h S_c hL hE hV A543 ge545 F549 F550 F551) e543 (W := 1) (by decide) (by decide) (by decide) (by decide) (g := (mkF m 32 #[.val (.long u), .second, .val (.int sz), .val (.int (4 : Int32)), .val (.ref b527), .unset, .unset, .unset] [(.ref b543), (.ref b543)])) rfl (by rw [hml]; rfl) (lenOf pd_0 rfl) rfl (by show 2 * 0 + _ ≤ _; exact Nat.le_of_eq rfl) (hb hby at_32) (fun v552 T552 h552 L552 X552 e552 hQ552 => ?_)
    obtain ⟨rfl, Nq552, Kq552, Fm552, Fe552, Fs552⟩ := hQ552
    have N552 := Fr.app N540 Nq552
    have F553 := Old.keep F546 Kq552 (allS ge545 all0)
    have F554 := OAr.keep F547 Kq552 (ninS ne544 nin0)
    have F555 := Exa.keep A543 Kq552
    have Z556 := Nat.le_trans Z548 Kq552.1
    show OwnWk _ _ _ _ (T552.setTop (mkF m 35 #[.val (.long u), .second, .val (.int sz), .val (.int (4 : Int32)), .val (.ref b527), .unset, .unset, .unset] [(.ref b543)]))
    refine own_go (fun tgt kst => XS.astore X552.here hx rfl (hb hby at_35) rfl rfl (l' := #[.val (.long u), .second, .val (.int sz), .val (.int (4 : Int32)), .val (.ref b527), .val (.ref b543), .unset, .unset]) rfl kst) ?_
    show OwnWk _ _ _ _ (T552.setTop (mkF m 37 #[.val (.long u), .second, .val (.int sz), .val (.int (4 : Int32)), .val (.ref b527), .val (.ref b543), .unset, .unset] []))
    refine own_go (fun tgt kst => XS.iloadN X552.here hx rfl (hb hby at_37) rfl  kst) ?_
    show OwnWk _ _ _ _ (T552.setTop (mkF m 38 #[.val (.long u), .second, .val (.int sz), .val (.int (4 : Int32)), .val (.ref b527), .val (.ref b543), .unset, .unset] [(.int (4 : Int32))]))
    refine own_go (fun tgt kst => XS.ifNo X552.here hx rfl (hb hby at_38) rfl ((if0 _ _).trans (tlt (by decide : (0 : Int32) < (4 : Int32))).2.2.2) kst) ?_
    show OwnWk _ _ _ _ (T552.setTop (mkF m 41 #[.val (.long u), .second, .val (.int sz), .val (.int (4 : Int32)), .val (.ref b527), .val (.ref b543), .unset, .unset] []))
    refine own_go (fun tgt kst => XS.aload X552.here hx rfl (hb hby at_41) rfl rfl  kst) ?_
    show OwnWk _ _ _ _ (T552.setTop (mkF m 43 #[.val (.long u), .second, .val (.int sz), .val (.int (4 : Int32)), .val (.ref b527), .val (.ref b543), .unset, .unset] [(.ref b543)]))
    refine own_go (fun tgt kst => XS.iconst X552.here hx rfl (hb hby at_43) kst) ?_
    show OwnWk _ _ _ _ (T552.setTop (mkF m 44 #[.val (.long u), .second, .val (.int sz), .val (.int (4 : Int32)), .val (.ref b527), .val (.ref b543), .unset, .unset] [(.int (0 : Int32)), (.ref b543)]))
    refine own_callS X552 hx hZ (y := (⟨"java/lang/Integer", "valueOf", "(I)Ljava/lang/Integer;"⟩ : MethodName)) hown (hw _ (List.mem_of_getElem? (i := 28) rfl)) (hw _ (List.mem_of_getElem? (i := 29) rfl)) (hw _ (List.mem_of_getElem? (i := 30) rfl)) (hw _ (List.mem_of_getElem? (i := 31) rfl)) (by decide) (argsL := [(.int (0 : Int32))]) (rest := [(.ref b543)]) (rm := ({ frames := 0, cells := 0, slots := 0, locals := 0 } : Room)) (h := h552) (vo0 l Z a0 hw dce cac ia h552 n0 Z556 F553 S_d V_d S_h S_c hL hE hV) e552 (W := 1) (by decide) (by decide) (by decide) (by decide) (g := (mkF m 44 #[.val (.long u), .second, .val (.int sz), .val (.int (4 : Int32)), .val (.ref b527), .val (.ref b543), .unset, .unset] [(.int (0 : Int32)), (.ref b543)])) rfl (by rw [hml]; rfl) (lenOf pd_15 rfl) rfl (by show 2 * 0 + _ ≤ _; exact Nat.le_of_eq rfl) (hb hby at_44) (fun v557 T557 h557 L557 X557 e557 hQ557 => ?_)
    obtain ⟨rfl, Nq557, q557⟩ := hQ557
    have N557 := Fr.app N552 Nq557
    rw [q557] at e557
    show OwnWk _ _ _ _ (T557.setTop (mkF m 47 #[.val (.long u), .second, .val (.int sz), .val (.int (4 : Int32)), .val (.ref b527), .val (.ref b543), .unset, .unset] [(.ref (ia 0)), (.ref b543)]))
    have lt558 : b527 < h552.size := F554.lt
    have lt559 : b543 < h552.size := F555.lt
    refine own_callV X557 hx hZ (y := (⟨"java/util/ArrayList", "add", "(Ljava/lang/Object;)Z"⟩ : MethodName)) (z := (⟨"java/util/ArrayList", "add", "(Ljava/lang/Object;)Z"⟩ : MethodName)) hown (hw _ (List.mem_of_getElem? (i := 35) rfl)) (hw _ (List.mem_of_getElem? (i := 36) rfl)) (notFace_of_selects (args := #[]) (mvT hZ (hw _ (List.mem_of_getElem? (i := 38) rfl)))) (hw _ (List.mem_of_getElem? (i := 38) rfl)) (hw _ (List.mem_of_getElem? (i := 37) rfl)) (hw _ (List.mem_of_getElem? (i := 4) rfl)) (hw _ (List.mem_of_getElem? (i := 39) rfl)) (by decide) (a := b543) F555 (argsL := [(.ref (ia 0))]) (rest := []) (rm := ({ frames := 4, cells := 1, slots := 10, locals := 56 } : Room)) (h := h552) (adB0 l Z a0 hw dce cac ia b543 (ia 0) h552 n0 Z556 F553 S_d V_d S_h S_c hL hE hV (Ins.of_exa (Exa.ext F553.2 (hE 0 (by decide))) (hw _ (List.mem_of_getElem? (i := 65) rfl))) F555 ge545 Fm552 Fe552 Fs552) e557 (W := 0) (by decide) (by decide) (by decide) (by decide) (g := (mkF m 47 #[.val (.long u), .second, .val (.int sz), .val (.int (4 : Int32)), .val (.ref b527), .val (.ref b543), .unset, .unset] [(.ref (ia 0)), (.ref b543)])) rfl (by rw [hml]; rfl) (lenOf pd_16 rfl) rfl (by show 2 * 0 + _ ≤ _; exact Nat.le_of_eq rfl) (hb hby at_47) (fun v560 T560 h560 L560 X560 e560 hQ560 => ?_)
    obtain ⟨ed, rfl, Nq560, Kq560, szed, ged, Fm560, Fe560, Fs560, Vq560, Oq560⟩ := hQ560
    have N560 := Fr.app N557 Nq560
    have F561 := Old.keep F553 Kq560 (allS ge545 all0)
    have F562 := OAr.keep F554 Kq560 (ninS ne544 nin0)
    have F563 := Exa.keep F555 Kq560
    have Z564 := Nat.le_trans Z556 Kq560.1
    have ne565 : b527 ≠ ed := Nat.ne_of_lt (Nat.lt_of_lt_of_le lt558 szed)
    have ne566 : b543 ≠ ed := Nat.ne_of_lt (Nat.lt_of_lt_of_le lt559 szed)
    show OwnWk _ _ _ _ (T560.setTop (mkF m 50 #[.val (.long u), .second, .val (.int sz), .val (.int (4 : Int32)), .val (.ref b527), .val (.ref b543), .unset, .unset] [(.int (1 : Int32))]))
    refine own_go (fun tgt kst => XS.pop X560.here hx rfl (hb hby at_50) rfl rfl kst) ?_
    show OwnWk _ _ _ _ (T560.setTop (mkF m 51 #[.val (.long u), .second, .val (.int sz), .val (.int (4 : Int32)), .val (.ref b527), .val (.ref b543), .unset, .unset] []))
    refine own_go (fun tgt kst => XS.iloadN X560.here hx rfl (hb hby at_51) rfl  kst) ?_
    show OwnWk _ _ _ _ (T560.setTop (mkF m 52 #[.val (.long u), .second, .val (.int sz), .val (.int (4 : Int32)), .val (.ref b527), .val (.ref b543), .unset, .unset] [(.int (4 : Int32))]))
    refine own_go (fun tgt kst => XS.iconst X560.here hx rfl (hb hby at_52) kst) ?_
    show OwnWk _ _ _ _ (T560.setTop (mkF m 53 #[.val (.long u), .second, .val (.int sz), .val (.int (4 : Int32)), .val (.ref b527), .val (.ref b543), .unset, .unset] [(.int (1 : Int32)), (.int (4 : Int32))]))
    refine own_go (fun tgt kst => XS.icmpNo X560.here hx rfl (hb hby at_53) rfl (tlt (by decide : (1 : Int32) < (4 : Int32))).2.2.2 kst) ?_
    show OwnWk _ _ _ _ (T560.setTop (mkF m 56 #[.val (.long u), .second, .val (.int sz), .val (.int (4 : Int32)), .val (.ref b527), .val (.ref b543), .unset, .unset] []))
    refine own_go (fun tgt kst => XS.aload X560.here hx rfl (hb hby at_56) rfl rfl  kst) ?_
    show OwnWk _ _ _ _ (T560.setTop (mkF m 58 #[.val (.long u), .second, .val (.int sz), .val (.int (4 : Int32)), .val (.ref b527), .val (.ref b543), .unset, .unset] [(.ref b543)]))
    refine own_go (fun tgt kst => XS.iconst X560.here hx rfl (hb hby at_58) kst) ?_
    show OwnWk _ _ _ _ (T560.setTop (mkF m 59 #[.val (.long u), .second, .val (.int sz), .val (.int (4 : Int32)), .val (.ref b527), .val (.ref b543), .unset, .unset] [(.int (1 : Int32)), (.ref b543)]))
    refine own_callS X560 hx hZ (y := (⟨"java/lang/Integer", "valueOf", "(I)Ljava/lang/Integer;"⟩ : MethodName)) hown (hw _ (List.mem_of_getElem? (i := 28) rfl)) (hw _ (List.mem_of_getElem? (i := 29) rfl)) (hw _ (List.mem_of_getElem? (i := 30) rfl)) (hw _ (List.mem_of_getElem? (i := 31) rfl)) (by decide) (argsL := [(.int (1 : Int32))]) (rest := [(.ref b543)]) (rm := ({ frames := 0, cells := 0, slots := 0, locals := 0 } : Room)) (h := h560) (vo1 l Z a0 hw dce cac ia h560 n0 Z564 F561 S_d V_d S_h S_c hL hE hV) e560 (W := 1) (by decide) (by decide) (by decide) (by decide) (g := (mkF m 59 #[.val (.long u), .second, .val (.int sz), .val (.int (4 : Int32)), .val (.ref b527), .val (.ref b543), .unset, .unset] [(.int (1 : Int32)), (.ref b543)])) rfl (by rw [hml]; rfl) (lenOf pd_15 rfl) rfl (by show 2 * 0 + _ ≤ _; exact Nat.le_of_eq rfl) (hb hby at_59) (fun v567 T567 h567 L567 X567 e567 hQ567 => ?_)
    obtain ⟨rfl, Nq567, q567⟩ := hQ567
    have N567 := Fr.app N560 Nq567
    rw [q567] at e567
    show OwnWk _ _ _ _ (T567.setTop (mkF m 62 #[.val (.long u), .second, .val (.int sz), .val (.int (4 : Int32)), .val (.ref b527), .val (.ref b543), .unset, .unset] [(.ref (ia 1)), (.ref b543)]))
    have lt568 : b527 < h560.size := F562.lt
    have lt569 : b543 < h560.size := F563.lt
    have lt570 : ed < h560.size := Vq560.lt
    refine own_callV X567 hx hZ (y := (⟨"java/util/ArrayList", "add", "(Ljava/lang/Object;)Z"⟩ : MethodName)) (z := (⟨"java/util/ArrayList", "add", "(Ljava/lang/Object;)Z"⟩ : MethodName)) hown (hw _ (List.mem_of_getElem? (i := 35) rfl)) (hw _ (List.mem_of_getElem? (i := 36) rfl)) (notFace_of_selects (args := #[]) (mvT hZ (hw _ (List.mem_of_getElem? (i := 38) rfl)))) (hw _ (List.mem_of_getElem? (i := 38) rfl)) (hw _ (List.mem_of_getElem? (i := 37) rfl)) (hw _ (List.mem_of_getElem? (i := 4) rfl)) (hw _ (List.mem_of_getElem? (i := 39) rfl)) (by decide) (a := b543) F563 (argsL := [(.ref (ia 1))]) (rest := []) (rm := ({ frames := 1, cells := 0, slots := 0, locals := 15 } : Room)) (h := h560) (adB1 l Z a0 hw dce cac ia b543 (ia 1) ed (ia 0) h560 n0 Z564 F561 S_d V_d S_h S_c hL hE hV (Ins.of_exa (Exa.ext F561.2 (hE 1 (by decide))) (hw _ (List.mem_of_getElem? (i := 65) rfl))) F563 ge545 Fm560 Fe560 Fs560 ged ne566 Vq560 Oq560) e567 (W := 0) (by decide) (by decide) (by decide) (by decide) (g := (mkF m 62 #[.val (.long u), .second, .val (.int sz), .val (.int (4 : Int32)), .val (.ref b527), .val (.ref b543), .unset, .unset] [(.ref (ia 1)), (.ref b543)])) rfl (by rw [hml]; rfl) (lenOf pd_16 rfl) rfl (by show 2 * 0 + _ ≤ _; exact Nat.le_of_eq rfl) (hb hby at_62) (fun v571 T571 h571 L571 X571 e571 hQ571 => ?_)
    obtain ⟨rfl, Nq571, Kq571, Fm571, Fe571, Fs571, Vq571, Oq571⟩ := hQ571
    have N571 := Fr.app N567 Nq571
    have F572 := Old.keep F561 Kq571 (allS ge545 (allS ged all0))
    have F573 := OAr.keep F562 Kq571 (ninS ne544 (ninS ne565 nin0))
    have F574 := Exa.keep F563 Kq571
    have F575 := OOv.keep Oq560 Kq571
    have Z576 := Nat.le_trans Z564 Kq571.1
    show OwnWk _ _ _ _ (T571.setTop (mkF m 65 #[.val (.long u), .second, .val (.int sz), .val (.int (4 : Int32)), .val (.ref b527), .val (.ref b543), .unset, .unset] [(.int (1 : Int32))]))
    refine own_go (fun tgt kst => XS.pop X571.here hx rfl (hb hby at_65) rfl rfl kst) ?_
    show OwnWk _ _ _ _ (T571.setTop (mkF m 66 #[.val (.long u), .second, .val (.int sz), .val (.int (4 : Int32)), .val (.ref b527), .val (.ref b543), .unset, .unset] []))
    refine own_go (fun tgt kst => XS.iloadN X571.here hx rfl (hb hby at_66) rfl  kst) ?_
    show OwnWk _ _ _ _ (T571.setTop (mkF m 67 #[.val (.long u), .second, .val (.int sz), .val (.int (4 : Int32)), .val (.ref b527), .val (.ref b543), .unset, .unset] [(.int (4 : Int32))]))
    refine own_go (fun tgt kst => XS.iconst X571.here hx rfl (hb hby at_67) kst) ?_
    show OwnWk _ _ _ _ (T571.setTop (mkF m 68 #[.val (.long u), .second, .val (.int sz), .val (.int (4 : Int32)), .val (.ref b527), .val (.ref b543), .unset, .unset] [(.int (2 : Int32)), (.int (4 : Int32))]))
    refine own_go (fun tgt kst => XS.icmpNo X571.here hx rfl (hb hby at_68) rfl (tlt (by decide : (2 : Int32) < (4 : Int32))).2.2.2 kst) ?_
    show OwnWk _ _ _ _ (T571.setTop (mkF m 71 #[.val (.long u), .second, .val (.int sz), .val (.int (4 : Int32)), .val (.ref b527), .val (.ref b543), .unset, .unset] []))
    refine own_go (fun tgt kst => XS.aload X571.here hx rfl (hb hby at_71) rfl rfl  kst) ?_
    show OwnWk _ _ _ _ (T571.setTop (mkF m 73 #[.val (.long u), .second, .val (.int sz), .val (.int (4 : Int32)), .val (.ref b527), .val (.ref b543), .unset, .unset] [(.ref b543)]))
    refine own_go (fun tgt kst => XS.iconst X571.here hx rfl (hb hby at_73) kst) ?_
    show OwnWk _ _ _ _ (T571.setTop (mkF m 74 #[.val (.long u), .second, .val (.int sz), .val (.int (4 : Int32)), .val (.ref b527), .val (.ref b543), .unset, .unset] [(.int (2 : Int32)), (.ref b543)]))
    refine own_callS X571 hx hZ (y := (⟨"java/lang/Integer", "valueOf", "(I)Ljava/lang/Integer;"⟩ : MethodName)) hown (hw _ (List.mem_of_getElem? (i := 28) rfl)) (hw _ (List.mem_of_getElem? (i := 29) rfl)) (hw _ (List.mem_of_getElem? (i := 30) rfl)) (hw _ (List.mem_of_getElem? (i := 31) rfl)) (by decide) (argsL := [(.int (2 : Int32))]) (rest := [(.ref b543)]) (rm := ({ frames := 0, cells := 0, slots := 0, locals := 0 } : Room)) (h := h571) (vo2 l Z a0 hw dce cac ia h571 n0 Z576 F572 S_d V_d S_h S_c hL hE hV) e571 (W := 1) (by decide) (by decide) (by decide) (by decide) (g := (mkF m 74 #[.val (.long u), .second, .val (.int sz), .val (.int (4 : Int32)), .val (.ref b527), .val (.ref b543), .unset, .unset] [(.int (2 : Int32)), (.ref b543)])) rfl (by rw [hml]; rfl) (lenOf pd_15 rfl) rfl (by show 2 * 0 + _ ≤ _; exact Nat.le_of_eq rfl) (hb hby at_74) (fun v577 T577 h577 L577 X577 e577 hQ577 => ?_)
    obtain ⟨rfl, Nq577, q577⟩ := hQ577
    have N577 := Fr.app N571 Nq577
    rw [q577] at e577
    show OwnWk _ _ _ _ (T577.setTop (mkF m 77 #[.val (.long u), .second, .val (.int sz), .val (.int (4 : Int32)), .val (.ref b527), .val (.ref b543), .unset, .unset] [(.ref (ia 2)), (.ref b543)]))
    have lt578 : b527 < h571.size := F573.lt
    have lt579 : b543 < h571.size := F574.lt
    have lt580 : ed < h571.size := Vq571.lt
    refine own_callV X577 hx hZ (y := (⟨"java/util/ArrayList", "add", "(Ljava/lang/Object;)Z"⟩ : MethodName)) (z := (⟨"java/util/ArrayList", "add", "(Ljava/lang/Object;)Z"⟩ : MethodName)) hown (hw _ (List.mem_of_getElem? (i := 35) rfl)) (hw _ (List.mem_of_getElem? (i := 36) rfl)) (notFace_of_selects (args := #[]) (mvT hZ (hw _ (List.mem_of_getElem? (i := 38) rfl)))) (hw _ (List.mem_of_getElem? (i := 38) rfl)) (hw _ (List.mem_of_getElem? (i := 37) rfl)) (hw _ (List.mem_of_getElem? (i := 4) rfl)) (hw _ (List.mem_of_getElem? (i := 39) rfl)) (by decide) (a := b543) F574 (argsL := [(.ref (ia 2))]) (rest := []) (rm := ({ frames := 1, cells := 0, slots := 0, locals := 15 } : Room)) (h := h571) (adB2 l Z a0 hw dce cac ia b543 (ia 2) ed (ia 0) (ia 1) h571 n0 Z576 F572 S_d V_d S_h S_c hL hE hV (Ins.of_exa (Exa.ext F572.2 (hE 2 (by decide))) (hw _ (List.mem_of_getElem? (i := 65) rfl))) F574 ge545 Fm571 Fe571 Fs571 ged ne566 Vq571 Oq571) e577 (W := 0) (by decide) (by decide) (by decide) (by decide) (g := (mkF m 77 #[.val (.long u), .second, .val (.int sz), .val (.int (4 : Int32)), .val (.ref b527), .val (.ref b543), .unset, .unset] [(.ref (ia 2)), (.ref b543)])) rfl (by rw [hml]; rfl) (lenOf pd_16 rfl) rfl (by show 2 * 0 + _ ≤ _; exact Nat.le_of_eq rfl) (hb hby at_77) (fun v581 T581 h581 L581 X581 e581 hQ581 => ?_)
    obtain ⟨rfl, Nq581, Kq581, Fm581, Fe581, Fs581, Vq581, Oq581⟩ := hQ581
    have N581 := Fr.app N577 Nq581
    have F582 := Old.keep F572 Kq581 (allS ge545 (allS ged all0))
    have F583 := OAr.keep F573 Kq581 (ninS ne544 (ninS ne565 nin0))
    have F584 := Exa.keep F574 Kq581
    have F585 := OOv.keep Oq571 Kq581
    have Z586 := Nat.le_trans Z576 Kq581.1
    show OwnWk _ _ _ _ (T581.setTop (mkF m 80 #[.val (.long u), .second, .val (.int sz), .val (.int (4 : Int32)), .val (.ref b527), .val (.ref b543), .unset, .unset] [(.int (1 : Int32))]))
    refine own_go (fun tgt kst => XS.pop X581.here hx rfl (hb hby at_80) rfl rfl kst) ?_
    show OwnWk _ _ _ _ (T581.setTop (mkF m 81 #[.val (.long u), .second, .val (.int sz), .val (.int (4 : Int32)), .val (.ref b527), .val (.ref b543), .unset, .unset] []))
    refine own_go (fun tgt kst => XS.iloadN X581.here hx rfl (hb hby at_81) rfl  kst) ?_
    show OwnWk _ _ _ _ (T581.setTop (mkF m 82 #[.val (.long u), .second, .val (.int sz), .val (.int (4 : Int32)), .val (.ref b527), .val (.ref b543), .unset, .unset] [(.int (4 : Int32))]))
    refine own_go (fun tgt kst => XS.iconst X581.here hx rfl (hb hby at_82) kst) ?_
    show OwnWk _ _ _ _ (T581.setTop (mkF m 83 #[.val (.long u), .second, .val (.int sz), .val (.int (4 : Int32)), .val (.ref b527), .val (.ref b543), .unset, .unset] [(.int (3 : Int32)), (.int (4 : Int32))]))
    refine own_go (fun tgt kst => XS.icmpNo X581.here hx rfl (hb hby at_83) rfl (tlt (by decide : (3 : Int32) < (4 : Int32))).2.2.2 kst) ?_
    show OwnWk _ _ _ _ (T581.setTop (mkF m 86 #[.val (.long u), .second, .val (.int sz), .val (.int (4 : Int32)), .val (.ref b527), .val (.ref b543), .unset, .unset] []))
    refine own_go (fun tgt kst => XS.aload X581.here hx rfl (hb hby at_86) rfl rfl  kst) ?_
    show OwnWk _ _ _ _ (T581.setTop (mkF m 88 #[.val (.long u), .second, .val (.int sz), .val (.int (4 : Int32)), .val (.ref b527), .val (.ref b543), .unset, .unset] [(.ref b543)]))
    refine own_go (fun tgt kst => XS.iconst X581.here hx rfl (hb hby at_88) kst) ?_
    show OwnWk _ _ _ _ (T581.setTop (mkF m 89 #[.val (.long u), .second, .val (.int sz), .val (.int (4 : Int32)), .val (.ref b527), .val (.ref b543), .unset, .unset] [(.int (3 : Int32)), (.ref b543)]))
    refine own_callS X581 hx hZ (y := (⟨"java/lang/Integer", "valueOf", "(I)Ljava/lang/Integer;"⟩ : MethodName)) hown (hw _ (List.mem_of_getElem? (i := 28) rfl)) (hw _ (List.mem_of_getElem? (i := 29) rfl)) (hw _ (List.mem_of_getElem? (i := 30) rfl)) (hw _ (List.mem_of_getElem? (i := 31) rfl)) (by decide) (argsL := [(.int (3 : Int32))]) (rest := [(.ref b543)]) (rm := ({ frames := 0, cells := 0, slots := 0, locals := 0 } : Room)) (h := h581) (vo3 l Z a0 hw dce cac ia h581 n0 Z586 F582 S_d V_d S_h S_c hL hE hV) e581 (W := 1) (by decide) (by decide) (by decide) (by decide) (g := (mkF m 89 #[.val (.long u), .second, .val (.int sz), .val (.int (4 : Int32)), .val (.ref b527), .val (.ref b543), .unset, .unset] [(.int (3 : Int32)), (.ref b543)])) rfl (by rw [hml]; rfl) (lenOf pd_15 rfl) rfl (by show 2 * 0 + _ ≤ _; exact Nat.le_of_eq rfl) (hb hby at_89) (fun v587 T587 h587 L587 X587 e587 hQ587 => ?_)
    obtain ⟨rfl, Nq587, q587⟩ := hQ587
    have N587 := Fr.app N581 Nq587
    rw [q587] at e587
    show OwnWk _ _ _ _ (T587.setTop (mkF m 92 #[.val (.long u), .second, .val (.int sz), .val (.int (4 : Int32)), .val (.ref b527), .val (.ref b543), .unset, .unset] [(.ref (ia 3)), (.ref b543)]))
    have lt588 : b527 < h581.size := F583.lt
    have lt589 : b543 < h581.size := F584.lt
    have lt590 : ed < h581.size := Vq581.lt
    refine own_callV X587 hx hZ (y := (⟨"java/util/ArrayList", "add", "(Ljava/lang/Object;)Z"⟩ : MethodName)) (z := (⟨"java/util/ArrayList", "add", "(Ljava/lang/Object;)Z"⟩ : MethodName)) hown (hw _ (List.mem_of_getElem? (i := 35) rfl)) (hw _ (List.mem_of_getElem? (i := 36) rfl)) (notFace_of_selects (args := #[]) (mvT hZ (hw _ (List.mem_of_getElem? (i := 38) rfl)))) (hw _ (List.mem_of_getElem? (i := 38) rfl)) (hw _ (List.mem_of_getElem? (i := 37) rfl)) (hw _ (List.mem_of_getElem? (i := 4) rfl)) (hw _ (List.mem_of_getElem? (i := 39) rfl)) (by decide) (a := b543) F584 (argsL := [(.ref (ia 3))]) (rest := []) (rm := ({ frames := 1, cells := 0, slots := 0, locals := 15 } : Room)) (h := h581) (adB3 l Z a0 hw dce cac ia b543 (ia 3) ed (ia 0) (ia 1) (ia 2) h581 n0 Z586 F582 S_d V_d S_h S_c hL hE hV (Ins.of_exa (Exa.ext F582.2 (hE 3 (by decide))) (hw _ (List.mem_of_getElem? (i := 65) rfl))) F584 ge545 Fm581 Fe581 Fs581 ged ne566 Vq581 Oq581) e587 (W := 0) (by decide) (by decide) (by decide) (by decide) (g := (mkF m 92 #[.val (.long u), .second, .val (.int sz), .val (.int (4 : Int32)), .val (.ref b527), .val (.ref b543), .unset, .unset] [(.ref (ia 3)), (.ref b543)])) rfl (by rw [hml]; rfl) (lenOf pd_16 rfl) rfl (by show 2 * 0 + _ ≤ _; exact Nat.le_of_eq rfl) (hb hby at_92) (fun v591 T591 h591 L591 X591 e591 hQ591 => ?_)
    obtain ⟨rfl, Nq591, Kq591, Fm591, Fe591, Fs591, Vq591, Oq591⟩ := hQ591
    have N591 := Fr.app N587 Nq591
    have F592 := Old.keep F582 Kq591 (allS ge545 (allS ged all0))
    have F593 := OAr.keep F583 Kq591 (ninS ne544 (ninS ne565 nin0))
    have F594 := Exa.keep F584 Kq591
    have F595 := OOv.keep Oq581 Kq591
    have Z596 := Nat.le_trans Z586 Kq591.1
    show OwnWk _ _ _ _ (T591.setTop (mkF m 95 #[.val (.long u), .second, .val (.int sz), .val (.int (4 : Int32)), .val (.ref b527), .val (.ref b543), .unset, .unset] [(.int (1 : Int32))]))
    refine own_go (fun tgt kst => XS.pop X591.here hx rfl (hb hby at_95) rfl rfl kst) ?_
    show OwnWk _ _ _ _ (T591.setTop (mkF m 96 #[.val (.long u), .second, .val (.int sz), .val (.int (4 : Int32)), .val (.ref b527), .val (.ref b543), .unset, .unset] []))
    obtain ⟨T597, h597, X597, e597, E597, A597, D597, -, st597⟩ := newO X591 hx hZ hown (hw _ (List.mem_of_getElem? (i := 66) rfl)) (hw _ (List.mem_of_getElem? (i := 67) rfl)) (hw _ (List.mem_of_getElem? (i := 68) rfl)) e591 (g := (mkF m 96 #[.val (.long u), .second, .val (.int sz), .val (.int (4 : Int32)), .val (.ref b527), .val (.ref b543), .unset, .unset] [])) rfl (hb hby at_96) (by decide) (by decide)
    obtain ⟨b597, g597⟩ : ∃ z, z = h591.size := ⟨_, rfl⟩
    rw [← g597] at A597 D597 st597
    refine own_go st597 ?_
    have ne598 : b527 ≠ b597 := Nat.ne_of_lt (Nat.lt_of_lt_of_le F593.lt (Nat.le_of_eq g597.symm))
    have ne599 : b543 ≠ b597 := Nat.ne_of_lt (Nat.lt_of_lt_of_le F594.lt (Nat.le_of_eq g597.symm))
    have ne600 : ed ≠ b597 := Nat.ne_of_lt (Nat.lt_of_lt_of_le Vq591.lt (Nat.le_of_eq g597.symm))
    have ge601 : n0 ≤ b597 := Nat.le_trans Z596 (Nat.le_of_eq g597.symm)
    have F602 := Old.ext F592 E597
    have F603 := OAr.ext F593 E597
    have F604 := Exa.ext E597 F594
    have F605 := OOv.ext E597 Oq591
    have F606 := Fld.ext E597 Fm591
    have F607 := Fld.ext E597 Fe591
    have F608 := Fld.ext E597 Fs591
    have F609 := OAr.ext Vq591 E597
    have Z610 := Nat.le_trans Z596 E597.1
    have F611 : Fld Z h597 b597 "com/example/spikeline/spikeline/core/SeededRandom" "state" "J" (.long (0 : Int64)) := D597 (Or.inl (hw _ (List.mem_of_getElem? (i := 74) rfl))) (ty := .long) (by decide)
    show OwnWk _ _ _ _ (T597.setTop (mkF m 99 #[.val (.long u), .second, .val (.int sz), .val (.int (4 : Int32)), .val (.ref b527), .val (.ref b543), .unset, .unset] [(.ref b597)]))
    refine own_go (fun tgt kst => XS.dup X597.here hx rfl (hb hby at_99) rfl rfl kst) ?_
    show OwnWk _ _ _ _ (T597.setTop (mkF m 100 #[.val (.long u), .second, .val (.int sz), .val (.int (4 : Int32)), .val (.ref b527), .val (.ref b543), .unset, .unset] [(.ref b597), (.ref b597)]))
    refine own_go (fun tgt kst => XS.lloadN X597.here hx rfl (hb hby at_100) rfl  kst) ?_
    show OwnWk _ _ _ _ (T597.setTop (mkF m 101 #[.val (.long u), .second, .val (.int sz), .val (.int (4 : Int32)), .val (.ref b527), .val (.ref b543), .unset, .unset] [(.long u), (.ref b597), (.ref b597)]))
    refine own_callC X597 hx hZ (y := (⟨"com/example/spikeline/spikeline/core/SeededRandom", "<init>", "(J)V"⟩ : MethodName)) hown rfl (hw _ (List.mem_of_getElem? (i := 69) rfl)) (hw _ (List.mem_of_getElem? (i := 70) rfl)) (hw _ (List.mem_of_getElem? (i := 68) rfl)) (hw _ (List.mem_of_getElem? (i := 71) rfl)) (by decide) (a := b597) (argsL := [(.long u)]) (rest := [(.ref b597)]) (rm := ({ frames := 1, cells := 0, slots := 0, locals := 12 } : Room)) (h := h597) (rm11 l Z a0 hw b597 u h597 n0 Z610 F611 A597 ge601) e597 (W := 1) (by decide) (by decide) (by decide) (by decide) (g := (mkF m 101 #[.val (.long u), .second, .val (.int sz), .val (.int (4 : Int32)), .val (.ref b527), .val (.ref b543), .unset, .unset] [(.long u), (.ref b597), (.ref b597)])) rfl (by rw [hml]; rfl) (lenOf pd_12 rfl) rfl (by show 2 * 0 + _ ≤ _; exact Nat.le_of_eq rfl) (hb hby at_101) (fun v612 T612 h612 L612 X612 e612 hQ612 => ?_)
    obtain ⟨rfl, Nq612, Kq612, Fq612⟩ := hQ612
    have N612 := Fr.app N591 Nq612
    have F613 := Old.keep F602 Kq612 (allS ge601 all0)
    have F614 := OAr.keep F603 Kq612 (ninS ne598 nin0)
    have F615 := Exa.keep F604 Kq612
    have F616 := OOv.keep F605 Kq612
    have F617 := Fld.keep F606 Kq612 (ninS ne599 nin0)
    have F618 := Fld.keep F607 Kq612 (ninS ne599 nin0)
    have F619 := Fld.keep F608 Kq612 (ninS ne599 nin0)
    have F620 := OAr.keep F609 Kq612 (ninS ne600 nin0)
    have F621 := Exa.keep A597 Kq612
    have Z622 := Nat.le_trans Z610 Kq612.1
    show OwnWk _ _ _ _ (T612.setTop (mkF m 104 #[.val (.long u), .second, .val (.int sz), .val (.int (4 : Int32)), .val (.ref b527), .val (.ref b543), .unset, .unset] [(.ref b597)]))
    refine own_go (fun tgt kst => XS.astore X612.here hx rfl (hb hby at_104) rfl rfl (l' := #[.val (.long u), .second, .val (.int sz), .val (.int (4 : Int32)), .val (.ref b527), .val (.ref b543), .val (.ref b597), .unset]) rfl kst) ?_
    show OwnWk _ _ _ _ (T612.setTop (mkF m 106 #[.val (.long u), .second, .val (.int sz), .val (.int (4 : Int32)), .val (.ref b527), .val (.ref b543), .val (.ref b597), .unset] []))
    refine own_go (fun tgt kst => XS.aload X612.here hx rfl (hb hby at_106) rfl rfl  kst) ?_
    show OwnWk _ _ _ _ (T612.setTop (mkF m 108 #[.val (.long u), .second, .val (.int sz), .val (.int (4 : Int32)), .val (.ref b527), .val (.ref b543), .val (.ref b597), .unset] [(.ref b597)]))
    refine own_go (fun tgt kst => XS.aload X612.here hx rfl (hb hby at_108) rfl rfl  kst) ?_
    show OwnWk _ _ _ _ (T612.setTop (mkF m 110 #[.val (.long u), .second, .val (.int sz), .val (.int (4 : Int32)), .val (.ref b527), .val (.ref b543), .val (.ref b597), .unset] [(.ref b543), (.ref b597)]))
    refine own_callV X612 hx hZ (y := (⟨"com/example/spikeline/spikeline/core/SeededRandom", "shuffle", "(Ljava/util/List;)V"⟩ : MethodName)) (z := (⟨"com/example/spikeline/spikeline/core/SeededRandom", "shuffle", "(Ljava/util/List;)V"⟩ : MethodName)) hown (hw _ (List.mem_of_getElem? (i := 75) rfl)) (hw _ (List.mem_of_getElem? (i := 76) rfl)) (notFace_of_selects (args := #[]) (mvT hZ (hw _ (List.mem_of_getElem? (i := 78) rfl)))) (hw _ (List.mem_of_getElem? (i := 78) rfl)) (hw _ (List.mem_of_getElem? (i := 77) rfl)) (hw _ (List.mem_of_getElem? (i := 68) rfl)) (hw _ (List.mem_of_getElem? (i := 79) rfl)) (by decide) (a := b597) F621 (argsL := [(.ref b543)]) (rest := []) (rm := ({ frames := 4, cells := 0, slots := 0, locals := 59 } : Room)) (h := h612) (shf4 l Z a0 hw dce cac ia b597 b543 ed u [0, 1, 2, 3] h612 n0 Z622 F613 S_d V_d S_h S_c hL hE hV Fq612 F621 ge601 F615 F619 F618 F620 rfl (by decide) F616 ged ne566 (Ne.symm ne600) (Ne.symm ne599)) e612 (W := 0) (by decide) (by decide) (by decide) (by decide) (g := (mkF m 110 #[.val (.long u), .second, .val (.int sz), .val (.int (4 : Int32)), .val (.ref b527), .val (.ref b543), .val (.ref b597), .unset] [(.ref b543), (.ref b597)])) rfl (by rw [hml]; rfl) (lenOf pd_13 rfl) rfl (by show 2 * 0 + _ ≤ _; exact Nat.le_of_eq rfl) (hb hby at_110) (fun v623 T623 h623 L623 X623 e623 hQ623 => ?_)
    obtain ⟨rfl, Nq623, Kq623, Fq623, Vq623⟩ := hQ623
    have N623 := Fr.app N612 Nq623
    have F624 := Old.keep F613 Kq623 (allS ge601 (allS ged all0))
    have F625 := OAr.keep F614 Kq623 (ninS ne598 (ninS ne565 nin0))
    have F626 := Exa.keep F615 Kq623
    have F627 := OOv.keep F616 Kq623
    have F628 := Fld.keep F617 Kq623 (ninS ne599 (ninS ne566 nin0))
    have F629 := Fld.keep F618 Kq623 (ninS ne599 (ninS ne566 nin0))
    have F630 := Fld.keep F619 Kq623 (ninS ne599 (ninS ne566 nin0))
    have F631 := Exa.keep F621 Kq623
    have Z632 := Nat.le_trans Z622 Kq623.1
    show OwnWk _ _ _ _ (T623.setTop (mkF m 113 #[.val (.long u), .second, .val (.int sz), .val (.int (4 : Int32)), .val (.ref b527), .val (.ref b543), .val (.ref b597), .unset] []))
    obtain ⟨T633, h633, X633, e633, E633, A633, D633, -, st633⟩ := newO X623 hx hZ hown (hw _ (List.mem_of_getElem? (i := 66) rfl)) (hw _ (List.mem_of_getElem? (i := 67) rfl)) (hw _ (List.mem_of_getElem? (i := 68) rfl)) e623 (g := (mkF m 113 #[.val (.long u), .second, .val (.int sz), .val (.int (4 : Int32)), .val (.ref b527), .val (.ref b543), .val (.ref b597), .unset] [])) rfl (hb hby at_113) (by decide) (by decide)
    obtain ⟨b633, g633⟩ : ∃ z, z = h623.size := ⟨_, rfl⟩
    rw [← g633] at A633 D633 st633
    refine own_go st633 ?_
    have ne634 : b527 ≠ b633 := Nat.ne_of_lt (Nat.lt_of_lt_of_le F625.lt (Nat.le_of_eq g633.symm))
    have ne635 : b543 ≠ b633 := Nat.ne_of_lt (Nat.lt_of_lt_of_le F626.lt (Nat.le_of_eq g633.symm))
    have ne636 : b597 ≠ b633 := Nat.ne_of_lt (Nat.lt_of_lt_of_le F631.lt (Nat.le_of_eq g633.symm))
    have ne637 : ed ≠ b633 := Nat.ne_of_lt (Nat.lt_of_lt_of_le Vq623.lt (Nat.le_of_eq g633.symm))
    have ge638 : n0 ≤ b633 := Nat.le_trans Z632 (Nat.le_of_eq g633.symm)
    have F639 := Old.ext F624 E633
    have F640 := OAr.ext F625 E633
    have F641 := Exa.ext E633 F626
    have F642 := OOv.ext E633 F627
    have F643 := Fld.ext E633 F628
    have F644 := Fld.ext E633 F629
    have F645 := Fld.ext E633 F630
    have F646 := Exa.ext E633 F631
    have F647 := Fld.ext E633 Fq623
    have F648 := OAr.ext Vq623 E633
    have Z649 := Nat.le_trans Z632 E633.1
    have F650 : Fld Z h633 b633 "com/example/spikeline/spikeline/core/SeededRandom" "state" "J" (.long (0 : Int64)) := D633 (Or.inl (hw _ (List.mem_of_getElem? (i := 74) rfl))) (ty := .long) (by decide)
    show OwnWk _ _ _ _ (T633.setTop (mkF m 116 #[.val (.long u), .second, .val (.int sz), .val (.int (4 : Int32)), .val (.ref b527), .val (.ref b543), .val (.ref b597), .unset] [(.ref b633)]))
    refine own_go (fun tgt kst => XS.dup X633.here hx rfl (hb hby at_116) rfl rfl kst) ?_
    show OwnWk _ _ _ _ (T633.setTop (mkF m 117 #[.val (.long u), .second, .val (.int sz), .val (.int (4 : Int32)), .val (.ref b527), .val (.ref b543), .val (.ref b597), .unset] [(.ref b633), (.ref b633)]))
    refine own_go (fun tgt kst => XS.lloadN X633.here hx rfl (hb hby at_117) rfl  kst) ?_
    show OwnWk _ _ _ _ (T633.setTop (mkF m 118 #[.val (.long u), .second, .val (.int sz), .val (.int (4 : Int32)), .val (.ref b527), .val (.ref b543), .val (.ref b597), .unset] [(.long u), (.ref b633), (.ref b633)]))
    refine own_callC X633 hx hZ (y := (⟨"com/example/spikeline/spikeline/core/SeededRandom", "<init>", "(J)V"⟩ : MethodName)) hown rfl (hw _ (List.mem_of_getElem? (i := 69) rfl)) (hw _ (List.mem_of_getElem? (i := 70) rfl)) (hw _ (List.mem_of_getElem? (i := 68) rfl)) (hw _ (List.mem_of_getElem? (i := 71) rfl)) (by decide) (a := b633) (argsL := [(.long u)]) (rest := [(.ref b633)]) (rm := ({ frames := 1, cells := 0, slots := 0, locals := 12 } : Room)) (h := h633) (rm11 l Z a0 hw b633 u h633 n0 Z649 F650 A633 ge638) e633 (W := 1) (by decide) (by decide) (by decide) (by decide) (g := (mkF m 118 #[.val (.long u), .second, .val (.int sz), .val (.int (4 : Int32)), .val (.ref b527), .val (.ref b543), .val (.ref b597), .unset] [(.long u), (.ref b633), (.ref b633)])) rfl (by rw [hml]; rfl) (lenOf pd_12 rfl) rfl (by show 2 * 0 + _ ≤ _; exact Nat.le_of_eq rfl) (hb hby at_118) (fun v651 T651 h651 L651 X651 e651 hQ651 => ?_)
    obtain ⟨rfl, Nq651, Kq651, Fq651⟩ := hQ651
    have N651 := Fr.app N623 Nq651
    have F652 := Old.keep F639 Kq651 (allS ge638 all0)
    have F653 := OAr.keep F640 Kq651 (ninS ne634 nin0)
    have F654 := Exa.keep F641 Kq651
    have F655 := OOv.keep F642 Kq651
    have F656 := Fld.keep F643 Kq651 (ninS ne635 nin0)
    have F657 := Fld.keep F644 Kq651 (ninS ne635 nin0)
    have F658 := Fld.keep F645 Kq651 (ninS ne635 nin0)
    have F659 := Exa.keep F646 Kq651
    have F660 := Fld.keep F647 Kq651 (ninS ne636 nin0)
    have F661 := OAr.keep F648 Kq651 (ninS ne637 nin0)
    have F662 := Exa.keep A633 Kq651
    have Z663 := Nat.le_trans Z649 Kq651.1
    show OwnWk _ _ _ _ (T651.setTop (mkF m 121 #[.val (.long u), .second, .val (.int sz), .val (.int (4 : Int32)), .val (.ref b527), .val (.ref b543), .val (.ref b597), .unset] [(.ref b633)]))
    refine own_go (fun tgt kst => XS.astore X651.here hx rfl (hb hby at_121) rfl rfl (l' := #[.val (.long u), .second, .val (.int sz), .val (.int (4 : Int32)), .val (.ref b527), .val (.ref b543), .val (.ref b597), .val (.ref b633)]) rfl kst) ?_
    show OwnWk _ _ _ _ (T651.setTop (mkF m 123 #[.val (.long u), .second, .val (.int sz), .val (.int (4 : Int32)), .val (.ref b527), .val (.ref b543), .val (.ref b597), .val (.ref b633)] []))
    refine own_go (fun tgt kst => XS.iloadN X651.here hx rfl (hb hby at_123) rfl  kst) ?_
    show OwnWk _ _ _ _ (T651.setTop (mkF m 124 #[.val (.long u), .second, .val (.int sz), .val (.int (4 : Int32)), .val (.ref b527), .val (.ref b543), .val (.ref b597), .val (.ref b633)] [(.int (4 : Int32))]))
    refine own_go (fun tgt kst => XS.iconst X651.here hx rfl (hb hby at_124) kst) ?_
    show OwnWk _ _ _ _ (T651.setTop (mkF m 125 #[.val (.long u), .second, .val (.int sz), .val (.int (4 : Int32)), .val (.ref b527), .val (.ref b543), .val (.ref b597), .val (.ref b633)] [(.int (4 : Int32)), (.int (4 : Int32))]))
    refine own_go (fun tgt kst => XS.icmpNo X651.here hx rfl (hb hby at_125) rfl (flt (by decide : ¬ ((4 : Int32) < (4 : Int32)))).1 kst) ?_
    show OwnWk _ _ _ _ (T651.setTop (mkF m 128 #[.val (.long u), .second, .val (.int sz), .val (.int (4 : Int32)), .val (.ref b527), .val (.ref b543), .val (.ref b597), .val (.ref b633)] []))
    refine own_go (fun tgt kst => XS.aload X651.here hx rfl (hb hby at_128) rfl rfl  kst) ?_
    show OwnWk _ _ _ _ (T651.setTop (mkF m 130 #[.val (.long u), .second, .val (.int sz), .val (.int (4 : Int32)), .val (.ref b527), .val (.ref b543), .val (.ref b597), .val (.ref b633)] [(.ref b527)]))
    refine own_go (fun tgt kst => XS.iconst X651.here hx rfl (hb hby at_130) kst) ?_
    show OwnWk _ _ _ _ (T651.setTop (mkF m 131 #[.val (.long u), .second, .val (.int sz), .val (.int (4 : Int32)), .val (.ref b527), .val (.ref b543), .val (.ref b597), .val (.ref b633)] [(.int (3 : Int32)), (.ref b527)]))
    refine own_go (fun tgt kst => XS.aload X651.here hx rfl (hb hby at_131) rfl rfl  kst) ?_
    show OwnWk _ _ _ _ (T651.setTop (mkF m 133 #[.val (.long u), .second, .val (.int sz), .val (.int (4 : Int32)), .val (.ref b527), .val (.ref b543), .val (.ref b597), .val (.ref b633)] [(.ref b633), (.int (3 : Int32)), (.ref b527)]))
    refine own_go (fun tgt kst => XS.iconst X651.here hx rfl (hb hby at_133) kst) ?_
    show OwnWk _ _ _ _ (T651.setTop (mkF m 134 #[.val (.long u), .second, .val (.int sz), .val (.int (4 : Int32)), .val (.ref b527), .val (.ref b543), .val (.ref b597), .val (.ref b633)] [(.int (4 : Int32)), (.ref b633), (.int (3 : Int32)), (.ref b527)]))
    refine own_callV X651 hx hZ (y := (⟨"com/example/spikeline/spikeline/core/SeededRandom", "nextInt", "(I)I"⟩ : MethodName)) (z := (⟨"com/example/spikeline/spikeline/core/SeededRandom", "nextInt", "(I)I"⟩ : MethodName)) hown (hw _ (List.mem_of_getElem? (i := 136) rfl)) (hw _ (List.mem_of_getElem? (i := 90) rfl)) (notFace_of_selects (args := #[]) (mvT hZ (hw _ (List.mem_of_getElem? (i := 92) rfl)))) (hw _ (List.mem_of_getElem? (i := 92) rfl)) (hw _ (List.mem_of_getElem? (i := 91) rfl)) (hw _ (List.mem_of_getElem? (i := 68) rfl)) (hw _ (List.mem_of_getElem? (i := 93) rfl)) (by decide) (a := b633) F662 (argsL := [(.int (4 : Int32))]) (rest := [(.int (3 : Int32)), (.ref b527)]) (rm := ({ frames := 1, cells := 0, slots := 0, locals := 14 } : Room)) (h := h651) (rm14 l Z a0 hw b633 (4 : Int32) u h651 n0 Z663 Fq651 F662 ge638 (by decide)) e651 (W := 2) (by decide) (by decide) (by decide) (by decide) (g := (mkF m 134 #[.val (.long u), .second, .val (.int sz), .val (.int (4 : Int32)), .val (.ref b527), .val (.ref b543), .val (.ref b597), .val (.ref b633)] [(.int (4 : Int32)), (.ref b633), (.int (3 : Int32)), (.ref b527)])) rfl (by rw [hml]; rfl) (lenOf pd_10 rfl) rfl (by show 2 * 0 + _ ≤ _; exact Nat.le_of_eq rfl) (hb hby at_134) (fun v664 T664 h664 L664 X664 e664 hQ664 => ?_)
    obtain ⟨rfl, Nq664, Kq664, Fq664⟩ := hQ664
    have N664 := Fr.app N651 Nq664
    have F665 := Old.keep F652 Kq664 (allS ge638 all0)
    have F666 := OAr.keep F653 Kq664 (ninS ne634 nin0)
    have F667 := Exa.keep F654 Kq664
    have F668 := OOv.keep F655 Kq664
    have F669 := Fld.keep F656 Kq664 (ninS ne635 nin0)
    have F670 := Fld.keep F657 Kq664 (ninS ne635 nin0)
    have F671 := Fld.keep F658 Kq664 (ninS ne635 nin0)
    have F672 := Exa.keep F659 Kq664
    have F673 := Fld.keep F660 Kq664 (ninS ne636 nin0)
    have F674 := OAr.keep F661 Kq664 (ninS ne637 nin0)
    have F675 := Exa.keep F662 Kq664
    have Z676 := Nat.le_trans Z663 Kq664.1
    show OwnWk _ _ _ _ (T664.setTop (mkF m 137 #[.val (.long u), .second, .val (.int sz), .val (.int (4 : Int32)), .val (.ref b527), .val (.ref b543), .val (.ref b597), .val (.ref b633)] [(.int (own_r (own_land u (4 : Int32)) (4 : Int32))), (.int (3 : Int32)), (.ref b527)]))
    rw [own_j_eq (q := u) (b := (4 : Int32)) (by decide)]
    show OwnWk _ _ _ _ (T664.setTop (mkF m 137 #[.val (.long u), .second, .val (.int sz), .val (.int (4 : Int32)), .val (.ref b527), .val (.ref b543), .val (.ref b597), .val (.ref b633)] [(.int (Int32.ofNat (own_j u (4 : Int32)))), (.int (3 : Int32)), (.ref b527)]))
    refine own_callS X664 hx hZ (y := (⟨"com/example/spikeline/spikeline/core/SeededRandomShufflePinLaw", "swap", "([III)V"⟩ : MethodName)) hown (hw _ (List.mem_of_getElem? (i := 137) rfl)) (hw _ (List.mem_of_getElem? (i := 138) rfl)) (hw _ (List.mem_of_getElem? (i := 139) rfl)) (hw _ (List.mem_of_getElem? (i := 140) rfl)) (by decide) (argsL := [(.ref b527), (.int (3 : Int32)), (.int (Int32.ofNat (own_j u (4 : Int32))))]) (rest := []) (rm := ({ frames := 0, cells := 0, slots := 0, locals := 0 } : Room)) (h := h664) (lsw l Z a0 hw b527 [0, 1, 2, 3] 3 (own_j u (4 : Int32)) h664 n0 Z676 F666 ge528 (by simp [own_slen]) (by decide) (own_j_lt (by decide) (n := 4) rfl (by decide))) e664 (W := 0) (by decide) (by decide) (by decide) (by decide) (g := (mkF m 137 #[.val (.long u), .second, .val (.int sz), .val (.int (4 : Int32)), .val (.ref b527), .val (.ref b543), .val (.ref b597), .val (.ref b633)] [(.int (Int32.ofNat (own_j u (4 : Int32)))), (.int (3 : Int32)), (.ref b527)])) rfl (by rw [hml]; rfl) (lenOf pd_17 rfl) rfl (by show 2 * 0 + _ ≤ _; exact Nat.le_of_eq rfl) (hb hby at_137) (fun v677 T677 h677 L677 X677 e677 hQ677 => ?_)
    obtain ⟨rfl, Nq677, Kq677, Vq677⟩ := hQ677
    have N677 := Fr.app N664 Nq677
    have F678 := Old.keep F665 Kq677 (allS ge528 all0)
    have F679 := Exa.keep F667 Kq677
    have F680 := OOv.keep F668 Kq677
    have F681 := Fld.keep F669 Kq677 (ninS (Ne.symm ne544) nin0)
    have F682 := Fld.keep F670 Kq677 (ninS (Ne.symm ne544) nin0)
    have F683 := Fld.keep F671 Kq677 (ninS (Ne.symm ne544) nin0)
    have F684 := Exa.keep F672 Kq677
    have F685 := Fld.keep F673 Kq677 (ninS (Ne.symm ne598) nin0)
    have F686 := OAr.keep F674 Kq677 (ninS (Ne.symm ne565) nin0)
    have F687 := Exa.keep F675 Kq677
    have F688 := Fld.keep Fq664 Kq677 (ninS (Ne.symm ne634) nin0)
    have Z689 := Nat.le_trans Z676 Kq677.1
    show OwnWk _ _ _ _ (T677.setTop (mkF m 140 #[.val (.long u), .second, .val (.int sz), .val (.int (4 : Int32)), .val (.ref b527), .val (.ref b543), .val (.ref b597), .val (.ref b633)] []))
    refine own_go (fun tgt kst => XS.iloadN X677.here hx rfl (hb hby at_140) rfl  kst) ?_
    show OwnWk _ _ _ _ (T677.setTop (mkF m 141 #[.val (.long u), .second, .val (.int sz), .val (.int (4 : Int32)), .val (.ref b527), .val (.ref b543), .val (.ref b597), .val (.ref b633)] [(.int (4 : Int32))]))
    refine own_go (fun tgt kst => XS.iconst X677.here hx rfl (hb hby at_141) kst) ?_
    show OwnWk _ _ _ _ (T677.setTop (mkF m 142 #[.val (.long u), .second, .val (.int sz), .val (.int (4 : Int32)), .val (.ref b527), .val (.ref b543), .val (.ref b597), .val (.ref b633)] [(.int (3 : Int32)), (.int (4 : Int32))]))
    refine own_go (fun tgt kst => XS.icmpNo X677.here hx rfl (hb hby at_142) rfl (flt (by decide : ¬ ((4 : Int32) < (3 : Int32)))).1 kst) ?_
    show OwnWk _ _ _ _ (T677.setTop (mkF m 145 #[.val (.long u), .second, .val (.int sz), .val (.int (4 : Int32)), .val (.ref b527), .val (.ref b543), .val (.ref b597), .val (.ref b633)] []))
    refine own_go (fun tgt kst => XS.aload X677.here hx rfl (hb hby at_145) rfl rfl  kst) ?_
    show OwnWk _ _ _ _ (T677.setTop (mkF m 147 #[.val (.long u), .second, .val (.int sz), .val (.int (4 : Int32)), .val (.ref b527), .val (.ref b543), .val (.ref b597), .val (.ref b633)] [(.ref b527)]))
    refine own_go (fun tgt kst => XS.iconst X677.here hx rfl (hb hby at_147) kst) ?_
    show OwnWk _ _ _ _ (T677.setTop (mkF m 148 #[.val (.long u), .second, .val (.int sz), .val (.int (4 : Int32)), .val (.ref b527), .val (.ref b543), .val (.ref b597), .val (.ref b633)] [(.int (2 : Int32)), (.ref b527)]))
    refine own_go (fun tgt kst => XS.aload X677.here hx rfl (hb hby at_148) rfl rfl  kst) ?_
    show OwnWk _ _ _ _ (T677.setTop (mkF m 150 #[.val (.long u), .second, .val (.int sz), .val (.int (4 : Int32)), .val (.ref b527), .val (.ref b543), .val (.ref b597), .val (.ref b633)] [(.ref b633), (.int (2 : Int32)), (.ref b527)]))
    refine own_go (fun tgt kst => XS.iconst X677.here hx rfl (hb hby at_150) kst) ?_
    show OwnWk _ _ _ _ (T677.setTop (mkF m 151 #[.val (.long u), .second, .val (.int sz), .val (.int (4 : Int32)), .val (.ref b527), .val (.ref b543), .val (.ref b597), .val (.ref b633)] [(.int (3 : Int32)), (.ref b633), (.int (2 : Int32)), (.ref b527)]))
    refine own_callV X677 hx hZ (y := (⟨"com/example/spikeline/spikeline/core/SeededRandom", "nextInt", "(I)I"⟩ : MethodName)) (z := (⟨"com/example/spikeline/spikeline/core/SeededRandom", "nextInt", "(I)I"⟩ : MethodName)) hown (hw _ (List.mem_of_getElem? (i := 136) rfl)) (hw _ (List.mem_of_getElem? (i := 90) rfl)) (notFace_of_selects (args := #[]) (mvT hZ (hw _ (List.mem_of_getElem? (i := 92) rfl)))) (hw _ (List.mem_of_getElem? (i := 92) rfl)) (hw _ (List.mem_of_getElem? (i := 91) rfl)) (hw _ (List.mem_of_getElem? (i := 68) rfl)) (hw _ (List.mem_of_getElem? (i := 93) rfl)) (by decide) (a := b633) F687 (argsL := [(.int (3 : Int32))]) (rest := [(.int (2 : Int32)), (.ref b527)]) (rm := ({ frames := 1, cells := 0, slots := 0, locals := 14 } : Room)) (h := h677) (rm14 l Z a0 hw b633 (3 : Int32) (own_land u (4 : Int32)) h677 n0 Z689 F688 F687 ge638 (by decide)) e677 (W := 2) (by decide) (by decide) (by decide) (by decide) (g := (mkF m 151 #[.val (.long u), .second, .val (.int sz), .val (.int (4 : Int32)), .val (.ref b527), .val (.ref b543), .val (.ref b597), .val (.ref b633)] [(.int (3 : Int32)), (.ref b633), (.int (2 : Int32)), (.ref b527)])) rfl (by rw [hml]; rfl) (lenOf pd_10 rfl) rfl (by show 2 * 0 + _ ≤ _; exact Nat.le_of_eq rfl) (hb hby at_151) (fun v690 T690 h690 L690 X690 e690 hQ690 => ?_)
    obtain ⟨rfl, Nq690, Kq690, Fq690⟩ := hQ690
    have N690 := Fr.app N677 Nq690
    have F691 := Old.keep F678 Kq690 (allS ge638 all0)
    have F692 := Exa.keep F679 Kq690
    have F693 := OOv.keep F680 Kq690
    have F694 := Fld.keep F681 Kq690 (ninS ne635 nin0)
    have F695 := Fld.keep F682 Kq690 (ninS ne635 nin0)
    have F696 := Fld.keep F683 Kq690 (ninS ne635 nin0)
    have F697 := Exa.keep F684 Kq690
    have F698 := Fld.keep F685 Kq690 (ninS ne636 nin0)
    have F699 := OAr.keep F686 Kq690 (ninS ne637 nin0)
    have F700 := Exa.keep F687 Kq690
    have F701 := OAr.keep Vq677 Kq690 (ninS ne634 nin0)
    have Z702 := Nat.le_trans Z689 Kq690.1
    show OwnWk _ _ _ _ (T690.setTop (mkF m 154 #[.val (.long u), .second, .val (.int sz), .val (.int (4 : Int32)), .val (.ref b527), .val (.ref b543), .val (.ref b597), .val (.ref b633)] [(.int (own_r (own_land (own_land u (4 : Int32)) (3 : Int32)) (3 : Int32))), (.int (2 : Int32)), (.ref b527)]))
    rw [own_j_eq (q := (own_land u (4 : Int32))) (b := (3 : Int32)) (by decide)]
    show OwnWk _ _ _ _ (T690.setTop (mkF m 154 #[.val (.long u), .second, .val (.int sz), .val (.int (4 : Int32)), .val (.ref b527), .val (.ref b543), .val (.ref b597), .val (.ref b633)] [(.int (Int32.ofNat (own_j (own_land u (4 : Int32)) (3 : Int32)))), (.int (2 : Int32)), (.ref b527)]))
    refine own_callS X690 hx hZ (y := (⟨"com/example/spikeline/spikeline/core/SeededRandomShufflePinLaw", "swap", "([III)V"⟩ : MethodName)) hown (hw _ (List.mem_of_getElem? (i := 137) rfl)) (hw _ (List.mem_of_getElem? (i := 138) rfl)) (hw _ (List.mem_of_getElem? (i := 139) rfl)) (hw _ (List.mem_of_getElem? (i := 140) rfl)) (by decide) (argsL := [(.ref b527), (.int (2 : Int32)), (.int (Int32.ofNat (own_j (own_land u (4 : Int32)) (3 : Int32))))]) (rest := []) (rm := ({ frames := 0, cells := 0, slots := 0, locals := 0 } : Room)) (h := h690) (lsw l Z a0 hw b527 (own_swp [0, 1, 2, 3] 3 (own_j u (4 : Int32))) 2 (own_j (own_land u (4 : Int32)) (3 : Int32)) h690 n0 Z702 F701 ge528 (by simp [own_slen]) (by decide) (own_j_lt (by decide) (n := 4) rfl (by decide))) e690 (W := 0) (by decide) (by decide) (by decide) (by decide) (g := (mkF m 154 #[.val (.long u), .second, .val (.int sz), .val (.int (4 : Int32)), .val (.ref b527), .val (.ref b543), .val (.ref b597), .val (.ref b633)] [(.int (Int32.ofNat (own_j (own_land u (4 : Int32)) (3 : Int32)))), (.int (2 : Int32)), (.ref b527)])) rfl (by rw [hml]; rfl) (lenOf pd_17 rfl) rfl (by show 2 * 0 + _ ≤ _; exact Nat.le_of_eq rfl) (hb hby at_154) (fun v703 T703 h703 L703 X703 e703 hQ703 => ?_)
    obtain ⟨rfl, Nq703, Kq703, Vq703⟩ := hQ703
    have N703 := Fr.app N690 Nq703
    have F704 := Old.keep F691 Kq703 (allS ge528 all0)
    have F705 := Exa.keep F692 Kq703
    have F706 := OOv.keep F693 Kq703
    have F707 := Fld.keep F694 Kq703 (ninS (Ne.symm ne544) nin0)
    have F708 := Fld.keep F695 Kq703 (ninS (Ne.symm ne544) nin0)
    have F709 := Fld.keep F696 Kq703 (ninS (Ne.symm ne544) nin0)
    have F710 := Exa.keep F697 Kq703
    have F711 := Fld.keep F698 Kq703 (ninS (Ne.symm ne598) nin0)
    have F712 := OAr.keep F699 Kq703 (ninS (Ne.symm ne565) nin0)
    have F713 := Exa.keep F700 Kq703
    have F714 := Fld.keep Fq690 Kq703 (ninS (Ne.symm ne634) nin0)
    have Z715 := Nat.le_trans Z702 Kq703.1
    show OwnWk _ _ _ _ (T703.setTop (mkF m 157 #[.val (.long u), .second, .val (.int sz), .val (.int (4 : Int32)), .val (.ref b527), .val (.ref b543), .val (.ref b597), .val (.ref b633)] []))
    refine own_go (fun tgt kst => XS.iloadN X703.here hx rfl (hb hby at_157) rfl  kst) ?_
    show OwnWk _ _ _ _ (T703.setTop (mkF m 158 #[.val (.long u), .second, .val (.int sz), .val (.int (4 : Int32)), .val (.ref b527), .val (.ref b543), .val (.ref b597), .val (.ref b633)] [(.int (4 : Int32))]))
    refine own_go (fun tgt kst => XS.iconst X703.here hx rfl (hb hby at_158) kst) ?_
    show OwnWk _ _ _ _ (T703.setTop (mkF m 159 #[.val (.long u), .second, .val (.int sz), .val (.int (4 : Int32)), .val (.ref b527), .val (.ref b543), .val (.ref b597), .val (.ref b633)] [(.int (2 : Int32)), (.int (4 : Int32))]))
    refine own_go (fun tgt kst => XS.icmpNo X703.here hx rfl (hb hby at_159) rfl (flt (by decide : ¬ ((4 : Int32) < (2 : Int32)))).1 kst) ?_
    show OwnWk _ _ _ _ (T703.setTop (mkF m 162 #[.val (.long u), .second, .val (.int sz), .val (.int (4 : Int32)), .val (.ref b527), .val (.ref b543), .val (.ref b597), .val (.ref b633)] []))
    refine own_go (fun tgt kst => XS.aload X703.here hx rfl (hb hby at_162) rfl rfl  kst) ?_
    show OwnWk _ _ _ _ (T703.setTop (mkF m 164 #[.val (.long u), .second, .val (.int sz), .val (.int (4 : Int32)), .val (.ref b527), .val (.ref b543), .val (.ref b597), .val (.ref b633)] [(.ref b527)]))
    refine own_go (fun tgt kst => XS.iconst X703.here hx rfl (hb hby at_164) kst) ?_
    show OwnWk _ _ _ _ (T703.setTop (mkF m 165 #[.val (.long u), .second, .val (.int sz), .val (.int (4 : Int32)), .val (.ref b527), .val (.ref b543), .val (.ref b597), .val (.ref b633)] [(.int (1 : Int32)), (.ref b527)]))
    refine own_go (fun tgt kst => XS.aload X703.here hx rfl (hb hby at_165) rfl rfl  kst) ?_
    show OwnWk _ _ _ _ (T703.setTop (mkF m 167 #[.val (.long u), .second, .val (.int sz), .val (.int (4 : Int32)), .val (.ref b527), .val (.ref b543), .val (.ref b597), .val (.ref b633)] [(.ref b633), (.int (1 : Int32)), (.ref b527)]))
    refine own_go (fun tgt kst => XS.iconst X703.here hx rfl (hb hby at_167) kst) ?_
    show OwnWk _ _ _ _ (T703.setTop (mkF m 168 #[.val (.long u), .second, .val (.int sz), .val (.int (4 : Int32)), .val (.ref b527), .val (.ref b543), .val (.ref b597), .val (.ref b633)] [(.int (2 : Int32)), (.ref b633), (.int (1 : Int32)), (.ref b527)]))
    refine own_callV X703 hx hZ (y := (⟨"com/example/spikeline/spikeline/core/SeededRandom", "nextInt", "(I)I"⟩ : MethodName)) (z := (⟨"com/example/spikeline/spikeline/core/SeededRandom", "nextInt", "(I)I"⟩ : MethodName)) hown (hw _ (List.mem_of_getElem? (i := 136) rfl)) (hw _ (List.mem_of_getElem? (i := 90) rfl)) (notFace_of_selects (args := #[]) (mvT hZ (hw _ (List.mem_of_getElem? (i := 92) rfl)))) (hw _ (List.mem_of_getElem? (i := 92) rfl)) (hw _ (List.mem_of_getElem? (i := 91) rfl)) (hw _ (List.mem_of_getElem? (i := 68) rfl)) (hw _ (List.mem_of_getElem? (i := 93) rfl)) (by decide) (a := b633) F713 (argsL := [(.int (2 : Int32))]) (rest := [(.int (1 : Int32)), (.ref b527)]) (rm := ({ frames := 1, cells := 0, slots := 0, locals := 14 } : Room)) (h := h703) (rm14 l Z a0 hw b633 (2 : Int32) (own_land (own_land u (4 : Int32)) (3 : Int32)) h703 n0 Z715 F714 F713 ge638 (by decide)) e703 (W := 2) (by decide) (by decide) (by decide) (by decide) (g := (mkF m 168 #[.val (.long u), .second, .val (.int sz), .val (.int (4 : Int32)), .val (.ref b527), .val (.ref b543), .val (.ref b597), .val (.ref b633)] [(.int (2 : Int32)), (.ref b633), (.int (1 : Int32)), (.ref b527)])) rfl (by rw [hml]; rfl) (lenOf pd_10 rfl) rfl (by show 2 * 0 + _ ≤ _; exact Nat.le_of_eq rfl) (hb hby at_168) (fun v716 T716 h716 L716 X716 e716 hQ716 => ?_)
    obtain ⟨rfl, Nq716, Kq716, Fq716⟩ := hQ716
    have N716 := Fr.app N703 Nq716
    have F717 := Old.keep F704 Kq716 (allS ge638 all0)
    have F718 := Exa.keep F705 Kq716
    have F719 := OOv.keep F706 Kq716
    have F720 := Fld.keep F707 Kq716 (ninS ne635 nin0)
    have F721 := Fld.keep F708 Kq716 (ninS ne635 nin0)
    have F722 := Fld.keep F709 Kq716 (ninS ne635 nin0)
    have F723 := Exa.keep F710 Kq716
    have F724 := Fld.keep F711 Kq716 (ninS ne636 nin0)
    have F725 := OAr.keep F712 Kq716 (ninS ne637 nin0)
    have F726 := Exa.keep F713 Kq716
    have F727 := OAr.keep Vq703 Kq716 (ninS ne634 nin0)
    have Z728 := Nat.le_trans Z715 Kq716.1
    show OwnWk _ _ _ _ (T716.setTop (mkF m 171 #[.val (.long u), .second, .val (.int sz), .val (.int (4 : Int32)), .val (.ref b527), .val (.ref b543), .val (.ref b597), .val (.ref b633)] [(.int (own_r (own_land (own_land (own_land u (4 : Int32)) (3 : Int32)) (2 : Int32)) (2 : Int32))), (.int (1 : Int32)), (.ref b527)]))
    rw [own_j_eq (q := (own_land (own_land u (4 : Int32)) (3 : Int32))) (b := (2 : Int32)) (by decide)]
    show OwnWk _ _ _ _ (T716.setTop (mkF m 171 #[.val (.long u), .second, .val (.int sz), .val (.int (4 : Int32)), .val (.ref b527), .val (.ref b543), .val (.ref b597), .val (.ref b633)] [(.int (Int32.ofNat (own_j (own_land (own_land u (4 : Int32)) (3 : Int32)) (2 : Int32)))), (.int (1 : Int32)), (.ref b527)]))
    refine own_callS X716 hx hZ (y := (⟨"com/example/spikeline/spikeline/core/SeededRandomShufflePinLaw", "swap", "([III)V"⟩ : MethodName)) hown (hw _ (List.mem_of_getElem? (i := 137) rfl)) (hw _ (List.mem_of_getElem? (i := 138) rfl)) (hw _ (List.mem_of_getElem? (i := 139) rfl)) (hw _ (List.mem_of_getElem? (i := 140) rfl)) (by decide) (argsL := [(.ref b527), (.int (1 : Int32)), (.int (Int32.ofNat (own_j (own_land (own_land u (4 : Int32)) (3 : Int32)) (2 : Int32))))]) (rest := []) (rm := ({ frames := 0, cells := 0, slots := 0, locals := 0 } : Room)) (h := h716) (lsw l Z a0 hw b527 (own_swp (own_swp [0, 1, 2, 3] 3 (own_j u (4 : Int32))) 2 (own_j (own_land u (4 : Int32)) (3 : Int32))) 1 (own_j (own_land (own_land u (4 : Int32)) (3 : Int32)) (2 : Int32)) h716 n0 Z728 F727 ge528 (by simp [own_slen]) (by decide) (own_j_lt (by decide) (n := 4) rfl (by decide))) e716 (W := 0) (by decide) (by decide) (by decide) (by decide) (g := (mkF m 171 #[.val (.long u), .second, .val (.int sz), .val (.int (4 : Int32)), .val (.ref b527), .val (.ref b543), .val (.ref b597), .val (.ref b633)] [(.int (Int32.ofNat (own_j (own_land (own_land u (4 : Int32)) (3 : Int32)) (2 : Int32)))), (.int (1 : Int32)), (.ref b527)])) rfl (by rw [hml]; rfl) (lenOf pd_17 rfl) rfl (by show 2 * 0 + _ ≤ _; exact Nat.le_of_eq rfl) (hb hby at_171) (fun v729 T729 h729 L729 X729 e729 hQ729 => ?_)
    obtain ⟨rfl, Nq729, Kq729, Vq729⟩ := hQ729
    have N729 := Fr.app N716 Nq729
    have F730 := Old.keep F717 Kq729 (allS ge528 all0)
    have F731 := Exa.keep F718 Kq729
    have F732 := OOv.keep F719 Kq729
    have F733 := Fld.keep F720 Kq729 (ninS (Ne.symm ne544) nin0)
    have F734 := Fld.keep F721 Kq729 (ninS (Ne.symm ne544) nin0)
    have F735 := Fld.keep F722 Kq729 (ninS (Ne.symm ne544) nin0)
    have F736 := Exa.keep F723 Kq729
    have F737 := Fld.keep F724 Kq729 (ninS (Ne.symm ne598) nin0)
    have F738 := OAr.keep F725 Kq729 (ninS (Ne.symm ne565) nin0)
    have F739 := Exa.keep F726 Kq729
    have F740 := Fld.keep Fq716 Kq729 (ninS (Ne.symm ne634) nin0)
    have Z741 := Nat.le_trans Z728 Kq729.1
    show OwnWk _ _ _ _ (T729.setTop (mkF m 174 #[.val (.long u), .second, .val (.int sz), .val (.int (4 : Int32)), .val (.ref b527), .val (.ref b543), .val (.ref b597), .val (.ref b633)] []))
    refine own_go (fun tgt kst => XS.aload X729.here hx rfl (hb hby at_174) rfl rfl  kst) ?_
    show OwnWk _ _ _ _ (T729.setTop (mkF m 176 #[.val (.long u), .second, .val (.int sz), .val (.int (4 : Int32)), .val (.ref b527), .val (.ref b543), .val (.ref b597), .val (.ref b633)] [(.ref b543)]))
    refine own_callV X729 hx hZ (y := (⟨"java/util/ArrayList", "size", "()I"⟩ : MethodName)) (z := (⟨"java/util/ArrayList", "size", "()I"⟩ : MethodName)) hown (hw _ (List.mem_of_getElem? (i := 141) rfl)) (hw _ (List.mem_of_getElem? (i := 142) rfl)) (notFace_of_selects (args := #[]) (mvT hZ (hw _ (List.mem_of_getElem? (i := 143) rfl)))) (hw _ (List.mem_of_getElem? (i := 143) rfl)) (hw _ (List.mem_of_getElem? (i := 84) rfl)) (hw _ (List.mem_of_getElem? (i := 4) rfl)) (hw _ (List.mem_of_getElem? (i := 88) rfl)) (by decide) (a := b543) F731 (argsL := []) (rest := []) (rm := ({ frames := 0, cells := 0, slots := 0, locals := 0 } : Room)) (h := h729) (rm13 l Z a0 hw b543 (4 : Int32) h729 n0 Z741 F735) e729 (W := 0) (by decide) (by decide) (by decide) (by decide) (g := (mkF m 176 #[.val (.long u), .second, .val (.int sz), .val (.int (4 : Int32)), .val (.ref b527), .val (.ref b543), .val (.ref b597), .val (.ref b633)] [(.ref b543)])) rfl (by rw [hml]; rfl) (lenOf pd_9 rfl) rfl (by show 2 * 0 + _ ≤ _; exact Nat.le_of_eq rfl) (hb hby at_176) (fun v742 T742 h742 L742 X742 e742 hQ742 => ?_)
    obtain ⟨rfl, Nq742, q742⟩ := hQ742
    have N742 := Fr.app N729 Nq742
    rw [q742] at e742
    show OwnWk _ _ _ _ (T742.setTop (mkF m 179 #[.val (.long u), .second, .val (.int sz), .val (.int (4 : Int32)), .val (.ref b527), .val (.ref b543), .val (.ref b597), .val (.ref b633)] [(.int (4 : Int32))]))
    refine own_go (fun tgt kst => XS.iloadN X742.here hx rfl (hb hby at_179) rfl  kst) ?_
    show OwnWk _ _ _ _ (T742.setTop (mkF m 180 #[.val (.long u), .second, .val (.int sz), .val (.int (4 : Int32)), .val (.ref b527), .val (.ref b543), .val (.ref b597), .val (.ref b633)] [(.int (4 : Int32)), (.int (4 : Int32))]))
    refine own_go (fun tgt kst => XS.icmpYes X742.here hx rfl (pc0 := 180) (pc' := 185) rfl (hb hby at_180) rfl (teq (by decide : (4 : Int32) = (4 : Int32))).1 (by decide) (by decide) kst) ?_
    show OwnWk _ _ _ _ (T742.setTop (mkF m 185 #[.val (.long u), .second, .val (.int sz), .val (.int (4 : Int32)), .val (.ref b527), .val (.ref b543), .val (.ref b597), .val (.ref b633)] []))
    refine own_go (fun tgt kst => XS.aload X742.here hx rfl (hb hby at_185) rfl rfl  kst) ?_
    show OwnWk _ _ _ _ (T742.setTop (mkF m 187 #[.val (.long u), .second, .val (.int sz), .val (.int (4 : Int32)), .val (.ref b527), .val (.ref b543), .val (.ref b597), .val (.ref b633)] [(.ref b597)]))
    refine own_callV X742 hx hZ (y := (⟨"com/example/spikeline/spikeline/core/SeededRandom", "state", "()J"⟩ : MethodName)) (z := (⟨"com/example/spikeline/spikeline/core/SeededRandom", "state", "()J"⟩ : MethodName)) hown (hw _ (List.mem_of_getElem? (i := 144) rfl)) (hw _ (List.mem_of_getElem? (i := 145) rfl)) (notFace_of_selects (args := #[]) (mvT hZ (hw _ (List.mem_of_getElem? (i := 147) rfl)))) (hw _ (List.mem_of_getElem? (i := 147) rfl)) (hw _ (List.mem_of_getElem? (i := 146) rfl)) (hw _ (List.mem_of_getElem? (i := 68) rfl)) (hw _ (List.mem_of_getElem? (i := 148) rfl)) (by decide) (a := b597) F736 (argsL := []) (rest := []) (rm := ({ frames := 0, cells := 0, slots := 0, locals := 0 } : Room)) (h := h729) (rm23 l Z a0 hw b597 (own_land (own_land (own_land u (4 : Int32)) (3 : Int32)) (2 : Int32)) h729 n0 Z741 F737) e742 (W := 0) (by decide) (by decide) (by decide) (by decide) (g := (mkF m 187 #[.val (.long u), .second, .val (.int sz), .val (.int (4 : Int32)), .val (.ref b527), .val (.ref b543), .val (.ref b597), .val (.ref b633)] [(.ref b597)])) rfl (by rw [hml]; rfl) (lenOf pd_8 rfl) rfl (by show 2 * 0 + _ ≤ _; exact Nat.le_of_eq rfl) (hb hby at_187) (fun v743 T743 h743 L743 X743 e743 hQ743 => ?_)
    obtain ⟨rfl, Nq743, q743⟩ := hQ743
    have N743 := Fr.app N742 Nq743
    rw [q743] at e743
    show OwnWk _ _ _ _ (T743.setTop (mkF m 190 #[.val (.long u), .second, .val (.int sz), .val (.int (4 : Int32)), .val (.ref b527), .val (.ref b543), .val (.ref b597), .val (.ref b633)] [(.long (own_land (own_land (own_land u (4 : Int32)) (3 : Int32)) (2 : Int32)))]))
    refine own_go (fun tgt kst => XS.aload X743.here hx rfl (hb hby at_190) rfl rfl  kst) ?_
    show OwnWk _ _ _ _ (T743.setTop (mkF m 192 #[.val (.long u), .second, .val (.int sz), .val (.int (4 : Int32)), .val (.ref b527), .val (.ref b543), .val (.ref b597), .val (.ref b633)] [(.ref b633), (.long (own_land (own_land (own_land u (4 : Int32)) (3 : Int32)) (2 : Int32)))]))
    refine own_callV X743 hx hZ (y := (⟨"com/example/spikeline/spikeline/core/SeededRandom", "state", "()J"⟩ : MethodName)) (z := (⟨"com/example/spikeline/spikeline/core/SeededRandom", "state", "()J"⟩ : MethodName)) hown (hw _ (List.mem_of_getElem? (i := 144) rfl)) (hw _ (List.mem_of_getElem? (i := 145) rfl)) (notFace_of_selects (args := #[]) (mvT hZ (hw _ (List.mem_of_getElem? (i := 147) rfl)))) (hw _ (List.mem_of_getElem? (i := 147) rfl)) (hw _ (List.mem_of_getElem? (i := 146) rfl)) (hw _ (List.mem_of_getElem? (i := 68) rfl)) (hw _ (List.mem_of_getElem? (i := 148) rfl)) (by decide) (a := b633) F739 (argsL := []) (rest := [(.long (own_land (own_land (own_land u (4 : Int32)) (3 : Int32)) (2 : Int32)))]) (rm := ({ frames := 0, cells := 0, slots := 0, locals := 0 } : Room)) (h := h729) (rm23 l Z a0 hw b633 (own_land (own_land (own_land u (4 : Int32)) (3 : Int32)) (2 : Int32)) h729 n0 Z741 F740) e743 (W := 2) (by decide) (by decide) (by decide) (by decide) (g := (mkF m 192 #[.val (.long u), .second, .val (.int sz), .val (.int (4 : Int32)), .val (.ref b527), .val (.ref b543), .val (.ref b597), .val (.ref b633)] [(.ref b633), (.long (own_land (own_land (own_land u (4 : Int32)) (3 : Int32)) (2 : Int32)))])) rfl (by rw [hml]; rfl) (lenOf pd_8 rfl) rfl (by show 2 * 0 + _ ≤ _; exact Nat.le_of_eq rfl) (hb hby at_192) (fun v744 T744 h744 L744 X744 e744 hQ744 => ?_)
    obtain ⟨rfl, Nq744, q744⟩ := hQ744
    have N744 := Fr.app N743 Nq744
    rw [q744] at e744
    show OwnWk _ _ _ _ (T744.setTop (mkF m 195 #[.val (.long u), .second, .val (.int sz), .val (.int (4 : Int32)), .val (.ref b527), .val (.ref b543), .val (.ref b597), .val (.ref b633)] [(.long (own_land (own_land (own_land u (4 : Int32)) (3 : Int32)) (2 : Int32))), (.long (own_land (own_land (own_land u (4 : Int32)) (3 : Int32)) (2 : Int32)))]))
    refine own_go (fun tgt kst => XS.lcmp X744.here hx rfl (hb hby at_195) rfl kst) ?_
    show OwnWk _ _ _ _ (T744.setTop (mkF m 196 #[.val (.long u), .second, .val (.int sz), .val (.int (4 : Int32)), .val (.ref b527), .val (.ref b543), .val (.ref b597), .val (.ref b633)] [(.int (lcmpW (own_land (own_land (own_land u (4 : Int32)) (3 : Int32)) (2 : Int32)) (own_land (own_land (own_land u (4 : Int32)) (3 : Int32)) (2 : Int32))))]))
    refine own_go (fun tgt kst => XS.ifYes X744.here hx rfl (pc0 := 196) (pc' := 201) rfl (hb hby at_196) rfl ((if0 _ _).trans (teq (own_lc_eq.mpr rfl)).1) (by decide) (by decide) kst) ?_
    show OwnWk _ _ _ _ (T744.setTop (mkF m 201 #[.val (.long u), .second, .val (.int sz), .val (.int (4 : Int32)), .val (.ref b527), .val (.ref b543), .val (.ref b597), .val (.ref b633)] []))
    refine own_go (fun tgt kst => XS.aload X744.here hx rfl (hb hby at_201) rfl rfl  kst) ?_
    show OwnWk _ _ _ _ (T744.setTop (mkF m 203 #[.val (.long u), .second, .val (.int sz), .val (.int (4 : Int32)), .val (.ref b527), .val (.ref b543), .val (.ref b597), .val (.ref b633)] [(.ref b543)]))
    refine own_go (fun tgt kst => XS.aload X744.here hx rfl (hb hby at_203) rfl rfl  kst) ?_
    show OwnWk _ _ _ _ (T744.setTop (mkF m 205 #[.val (.long u), .second, .val (.int sz), .val (.int (4 : Int32)), .val (.ref b527), .val (.ref b543), .val (.ref b597), .val (.ref b633)] [(.ref b527), (.ref b543)]))
    refine own_go (fun tgt kst => XS.iconst X744.here hx rfl (hb hby at_205) kst) ?_
    show OwnWk _ _ _ _ (T744.setTop (mkF m 206 #[.val (.long u), .second, .val (.int sz), .val (.int (4 : Int32)), .val (.ref b527), .val (.ref b543), .val (.ref b597), .val (.ref b633)] [(.int (0 : Int32)), (.ref b527), (.ref b543)]))
    refine own_go (fun tgt kst => XS.iloadN X744.here hx rfl (hb hby at_206) rfl  kst) ?_
    show OwnWk _ _ _ _ (T744.setTop (mkF m 207 #[.val (.long u), .second, .val (.int sz), .val (.int (4 : Int32)), .val (.ref b527), .val (.ref b543), .val (.ref b597), .val (.ref b633)] [(.int (4 : Int32)), (.int (0 : Int32)), (.ref b527), (.ref b543)]))
    refine own_callS X744 hx hZ (y := (⟨"com/example/spikeline/spikeline/core/SeededRandomShufflePinLaw", "same", "(Ljava/util/ArrayList;[III)Z"⟩ : MethodName)) hown (hw _ (List.mem_of_getElem? (i := 149) rfl)) (hw _ (List.mem_of_getElem? (i := 150) rfl)) (hw _ (List.mem_of_getElem? (i := 139) rfl)) (hw _ (List.mem_of_getElem? (i := 151) rfl)) (by decide) (argsL := [(.ref b543), (.ref b527), (.int (0 : Int32)), (.int (4 : Int32))]) (rest := []) (rm := ({ frames := 3, cells := 0, slots := 0, locals := 40 } : Room)) (h := h729) (smI l Z a0 hw dce cac ia b543 ed b527 (own_exch (own_exch (own_exch [0, 1, 2, 3] 3 (own_j u (4 : Int32))) 2 (own_j (own_land u (4 : Int32)) (3 : Int32))) 1 (own_j (own_land (own_land u (4 : Int32)) (3 : Int32)) (2 : Int32))) (own_swp (own_swp (own_swp [0, 1, 2, 3] 3 (own_j u (4 : Int32))) 2 (own_j (own_land u (4 : Int32)) (3 : Int32))) 1 (own_j (own_land (own_land u (4 : Int32)) (3 : Int32)) (2 : Int32))) 0 4 h729 n0 Z741 F730 S_d V_d S_h S_c hL hE hV F731 F735 F734 F738 Vq729 (by decide) (by simp [own_elen]) (by decide) (own_k4 (own_k4 (own_k4 (by decide : ∀ k ∈ [0, 1, 2, 3], k < 4)))) (by simp [own_slen])) e744 (W := 0) (by decide) (by decide) (by decide) (by decide) (g := (mkF m 207 #[.val (.long u), .second, .val (.int sz), .val (.int (4 : Int32)), .val (.ref b527), .val (.ref b543), .val (.ref b597), .val (.ref b633)] [(.int (4 : Int32)), (.int (0 : Int32)), (.ref b527), (.ref b543)])) rfl (by rw [hml]; rfl) (lenOf pd_14 rfl) rfl (by show 2 * 0 + _ ≤ _; exact Nat.le_of_eq rfl) (hb hby at_207) (fun v745 T745 h745 L745 X745 e745 hQ745 => ?_)
    obtain ⟨rfl, Nq745, q745⟩ := hQ745
    have N745 := Fr.app N744 Nq745
    rw [q745] at e745
    show OwnWk _ _ _ _ (T745.setTop (mkF m 210 #[.val (.long u), .second, .val (.int sz), .val (.int (4 : Int32)), .val (.ref b527), .val (.ref b543), .val (.ref b597), .val (.ref b633)] [(.int (own_same (own_exch (own_exch (own_exch [0, 1, 2, 3] 3 (own_j u (4 : Int32))) 2 (own_j (own_land u (4 : Int32)) (3 : Int32))) 1 (own_j (own_land (own_land u (4 : Int32)) (3 : Int32)) (2 : Int32))) (own_swp (own_swp (own_swp [0, 1, 2, 3] 3 (own_j u (4 : Int32))) 2 (own_j (own_land u (4 : Int32)) (3 : Int32))) 1 (own_j (own_land (own_land u (4 : Int32)) (3 : Int32)) (2 : Int32))) 0))]))
    refine own_go (fun tgt kst => XS.ifNo X745.here hx rfl (hb hby at_210) rfl ((if0 _ _).trans (feq (by rw [own_fin4 (own_j u (4 : Int32)) (own_j_lt (by decide) rfl (by decide)) (own_j (own_land u (4 : Int32)) (3 : Int32)) (own_j_lt (by decide) rfl (by decide)) (own_j (own_land (own_land u (4 : Int32)) (3 : Int32)) (2 : Int32)) (own_j_lt (by decide) rfl (by decide)) 0 (by decide)]; decide)).1) kst) ?_
    show OwnWk _ _ _ _ (T745.setTop (mkF m 213 #[.val (.long u), .second, .val (.int sz), .val (.int (4 : Int32)), .val (.ref b527), .val (.ref b543), .val (.ref b597), .val (.ref b633)] []))
    refine own_go (fun tgt kst => XS.aload X745.here hx rfl (hb hby at_213) rfl rfl  kst) ?_
    show OwnWk _ _ _ _ (T745.setTop (mkF m 215 #[.val (.long u), .second, .val (.int sz), .val (.int (4 : Int32)), .val (.ref b527), .val (.ref b543), .val (.ref b597), .val (.ref b633)] [(.ref b543)]))
    refine own_go (fun tgt kst => XS.aload X745.here hx rfl (hb hby at_215) rfl rfl  kst) ?_
    show OwnWk _ _ _ _ (T745.setTop (mkF m 217 #[.val (.long u), .second, .val (.int sz), .val (.int (4 : Int32)), .val (.ref b527), .val (.ref b543), .val (.ref b597), .val (.ref b633)] [(.ref b527), (.ref b543)]))
    refine own_go (fun tgt kst => XS.iconst X745.here hx rfl (hb hby at_217) kst) ?_
    show OwnWk _ _ _ _ (T745.setTop (mkF m 218 #[.val (.long u), .second, .val (.int sz), .val (.int (4 : Int32)), .val (.ref b527), .val (.ref b543), .val (.ref b597), .val (.ref b633)] [(.int (1 : Int32)), (.ref b527), (.ref b543)]))
    refine own_go (fun tgt kst => XS.iloadN X745.here hx rfl (hb hby at_218) rfl  kst) ?_
    show OwnWk _ _ _ _ (T745.setTop (mkF m 219 #[.val (.long u), .second, .val (.int sz), .val (.int (4 : Int32)), .val (.ref b527), .val (.ref b543), .val (.ref b597), .val (.ref b633)] [(.int (4 : Int32)), (.int (1 : Int32)), (.ref b527), (.ref b543)]))
    refine own_callS X745 hx hZ (y := (⟨"com/example/spikeline/spikeline/core/SeededRandomShufflePinLaw", "same", "(Ljava/util/ArrayList;[III)Z"⟩ : MethodName)) hown (hw _ (List.mem_of_getElem? (i := 149) rfl)) (hw _ (List.mem_of_getElem? (i := 150) rfl)) (hw _ (List.mem_of_getElem? (i := 139) rfl)) (hw _ (List.mem_of_getElem? (i := 151) rfl)) (by decide) (argsL := [(.ref b543), (.ref b527), (.int (1 : Int32)), (.int (4 : Int32))]) (rest := []) (rm := ({ frames := 3, cells := 0, slots := 0, locals := 40 } : Room)) (h := h729) (smI l Z a0 hw dce cac ia b543 ed b527 (own_exch (own_exch (own_exch [0, 1, 2, 3] 3 (own_j u (4 : Int32))) 2 (own_j (own_land u (4 : Int32)) (3 : Int32))) 1 (own_j (own_land (own_land u (4 : Int32)) (3 : Int32)) (2 : Int32))) (own_swp (own_swp (own_swp [0, 1, 2, 3] 3 (own_j u (4 : Int32))) 2 (own_j (own_land u (4 : Int32)) (3 : Int32))) 1 (own_j (own_land (own_land u (4 : Int32)) (3 : Int32)) (2 : Int32))) 1 4 h729 n0 Z741 F730 S_d V_d S_h S_c hL hE hV F731 F735 F734 F738 Vq729 (by decide) (by simp [own_elen]) (by decide) (own_k4 (own_k4 (own_k4 (by decide : ∀ k ∈ [0, 1, 2, 3], k < 4)))) (by simp [own_slen])) e745 (W := 0) (by decide) (by decide) (by decide) (by decide) (g := (mkF m 219 #[.val (.long u), .second, .val (.int sz), .val (.int (4 : Int32)), .val (.ref b527), .val (.ref b543), .val (.ref b597), .val (.ref b633)] [(.int (4 : Int32)), (.int (1 : Int32)), (.ref b527), (.ref b543)])) rfl (by rw [hml]; rfl) (lenOf pd_14 rfl) rfl (by show 2 * 0 + _ ≤ _; exact Nat.le_of_eq rfl) (hb hby at_219) (fun v746 T746 h746 L746 X746 e746 hQ746 => ?_)
    obtain ⟨rfl, Nq746, q746⟩ := hQ746
    have N746 := Fr.app N745 Nq746
    rw [q746] at e746
    show OwnWk _ _ _ _ (T746.setTop (mkF m 222 #[.val (.long u), .second, .val (.int sz), .val (.int (4 : Int32)), .val (.ref b527), .val (.ref b543), .val (.ref b597), .val (.ref b633)] [(.int (own_same (own_exch (own_exch (own_exch [0, 1, 2, 3] 3 (own_j u (4 : Int32))) 2 (own_j (own_land u (4 : Int32)) (3 : Int32))) 1 (own_j (own_land (own_land u (4 : Int32)) (3 : Int32)) (2 : Int32))) (own_swp (own_swp (own_swp [0, 1, 2, 3] 3 (own_j u (4 : Int32))) 2 (own_j (own_land u (4 : Int32)) (3 : Int32))) 1 (own_j (own_land (own_land u (4 : Int32)) (3 : Int32)) (2 : Int32))) 1))]))
    refine own_go (fun tgt kst => XS.ifNo X746.here hx rfl (hb hby at_222) rfl ((if0 _ _).trans (feq (by rw [own_fin4 (own_j u (4 : Int32)) (own_j_lt (by decide) rfl (by decide)) (own_j (own_land u (4 : Int32)) (3 : Int32)) (own_j_lt (by decide) rfl (by decide)) (own_j (own_land (own_land u (4 : Int32)) (3 : Int32)) (2 : Int32)) (own_j_lt (by decide) rfl (by decide)) 1 (by decide)]; decide)).1) kst) ?_
    show OwnWk _ _ _ _ (T746.setTop (mkF m 225 #[.val (.long u), .second, .val (.int sz), .val (.int (4 : Int32)), .val (.ref b527), .val (.ref b543), .val (.ref b597), .val (.ref b633)] []))
    refine own_go (fun tgt kst => XS.aload X746.here hx rfl (hb hby at_225) rfl rfl  kst) ?_
    show OwnWk _ _ _ _ (T746.setTop (mkF m 227 #[.val (.long u), .second, .val (.int sz), .val (.int (4 : Int32)), .val (.ref b527), .val (.ref b543), .val (.ref b597), .val (.ref b633)] [(.ref b543)]))
    refine own_go (fun tgt kst => XS.aload X746.here hx rfl (hb hby at_227) rfl rfl  kst) ?_
    show OwnWk _ _ _ _ (T746.setTop (mkF m 229 #[.val (.long u), .second, .val (.int sz), .val (.int (4 : Int32)), .val (.ref b527), .val (.ref b543), .val (.ref b597), .val (.ref b633)] [(.ref b527), (.ref b543)]))
    refine own_go (fun tgt kst => XS.iconst X746.here hx rfl (hb hby at_229) kst) ?_
    show OwnWk _ _ _ _ (T746.setTop (mkF m 230 #[.val (.long u), .second, .val (.int sz), .val (.int (4 : Int32)), .val (.ref b527), .val (.ref b543), .val (.ref b597), .val (.ref b633)] [(.int (2 : Int32)), (.ref b527), (.ref b543)]))
    refine own_go (fun tgt kst => XS.iloadN X746.here hx rfl (hb hby at_230) rfl  kst) ?_
    show OwnWk _ _ _ _ (T746.setTop (mkF m 231 #[.val (.long u), .second, .val (.int sz), .val (.int (4 : Int32)), .val (.ref b527), .val (.ref b543), .val (.ref b597), .val (.ref b633)] [(.int (4 : Int32)), (.int (2 : Int32)), (.ref b527), (.ref b543)]))
    refine own_callS X746 hx hZ (y := (⟨"com/example/spikeline/spikeline/core/SeededRandomShufflePinLaw", "same", "(Ljava/util/ArrayList;[III)Z"⟩ : MethodName)) hown (hw _ (List.mem_of_getElem? (i := 149) rfl)) (hw _ (List.mem_of_getElem? (i := 150) rfl)) (hw _ (List.mem_of_getElem? (i := 139) rfl)) (hw _ (List.mem_of_getElem? (i := 151) rfl)) (by decide) (argsL := [(.ref b543), (.ref b527), (.int (2 : Int32)), (.int (4 : Int32))]) (rest := []) (rm := ({ frames := 3, cells := 0, slots := 0, locals := 40 } : Room)) (h := h729) (smI l Z a0 hw dce cac ia b543 ed b527 (own_exch (own_exch (own_exch [0, 1, 2, 3] 3 (own_j u (4 : Int32))) 2 (own_j (own_land u (4 : Int32)) (3 : Int32))) 1 (own_j (own_land (own_land u (4 : Int32)) (3 : Int32)) (2 : Int32))) (own_swp (own_swp (own_swp [0, 1, 2, 3] 3 (own_j u (4 : Int32))) 2 (own_j (own_land u (4 : Int32)) (3 : Int32))) 1 (own_j (own_land (own_land u (4 : Int32)) (3 : Int32)) (2 : Int32))) 2 4 h729 n0 Z741 F730 S_d V_d S_h S_c hL hE hV F731 F735 F734 F738 Vq729 (by decide) (by simp [own_elen]) (by decide) (own_k4 (own_k4 (own_k4 (by decide : ∀ k ∈ [0, 1, 2, 3], k < 4)))) (by simp [own_slen])) e746 (W := 0) (by decide) (by decide) (by decide) (by decide) (g := (mkF m 231 #[.val (.long u), .second, .val (.int sz), .val (.int (4 : Int32)), .val (.ref b527), .val (.ref b543), .val (.ref b597), .val (.ref b633)] [(.int (4 : Int32)), (.int (2 : Int32)), (.ref b527), (.ref b543)])) rfl (by rw [hml]; rfl) (lenOf pd_14 rfl) rfl (by show 2 * 0 + _ ≤ _; exact Nat.le_of_eq rfl) (hb hby at_231) (fun v747 T747 h747 L747 X747 e747 hQ747 => ?_)
    obtain ⟨rfl, Nq747, q747⟩ := hQ747
    have N747 := Fr.app N746 Nq747
    rw [q747] at e747
    show OwnWk _ _ _ _ (T747.setTop (mkF m 234 #[.val (.long u), .second, .val (.int sz), .val (.int (4 : Int32)), .val (.ref b527), .val (.ref b543), .val (.ref b597), .val (.ref b633)] [(.int (own_same (own_exch (own_exch (own_exch [0, 1, 2, 3] 3 (own_j u (4 : Int32))) 2 (own_j (own_land u (4 : Int32)) (3 : Int32))) 1 (own_j (own_land (own_land u (4 : Int32)) (3 : Int32)) (2 : Int32))) (own_swp (own_swp (own_swp [0, 1, 2, 3] 3 (own_j u (4 : Int32))) 2 (own_j (own_land u (4 : Int32)) (3 : Int32))) 1 (own_j (own_land (own_land u (4 : Int32)) (3 : Int32)) (2 : Int32))) 2))]))
    refine own_go (fun tgt kst => XS.ifNo X747.here hx rfl (hb hby at_234) rfl ((if0 _ _).trans (feq (by rw [own_fin4 (own_j u (4 : Int32)) (own_j_lt (by decide) rfl (by decide)) (own_j (own_land u (4 : Int32)) (3 : Int32)) (own_j_lt (by decide) rfl (by decide)) (own_j (own_land (own_land u (4 : Int32)) (3 : Int32)) (2 : Int32)) (own_j_lt (by decide) rfl (by decide)) 2 (by decide)]; decide)).1) kst) ?_
    show OwnWk _ _ _ _ (T747.setTop (mkF m 237 #[.val (.long u), .second, .val (.int sz), .val (.int (4 : Int32)), .val (.ref b527), .val (.ref b543), .val (.ref b597), .val (.ref b633)] []))
    refine own_go (fun tgt kst => XS.aload X747.here hx rfl (hb hby at_237) rfl rfl  kst) ?_
    show OwnWk _ _ _ _ (T747.setTop (mkF m 239 #[.val (.long u), .second, .val (.int sz), .val (.int (4 : Int32)), .val (.ref b527), .val (.ref b543), .val (.ref b597), .val (.ref b633)] [(.ref b543)]))
    refine own_go (fun tgt kst => XS.aload X747.here hx rfl (hb hby at_239) rfl rfl  kst) ?_
    show OwnWk _ _ _ _ (T747.setTop (mkF m 241 #[.val (.long u), .second, .val (.int sz), .val (.int (4 : Int32)), .val (.ref b527), .val (.ref b543), .val (.ref b597), .val (.ref b633)] [(.ref b527), (.ref b543)]))
    refine own_go (fun tgt kst => XS.iconst X747.here hx rfl (hb hby at_241) kst) ?_
    show OwnWk _ _ _ _ (T747.setTop (mkF m 242 #[.val (.long u), .second, .val (.int sz), .val (.int (4 : Int32)), .val (.ref b527), .val (.ref b543), .val (.ref b597), .val (.ref b633)] [(.int (3 : Int32)), (.ref b527), (.ref b543)]))
    refine own_go (fun tgt kst => XS.iloadN X747.here hx rfl (hb hby at_242) rfl  kst) ?_
    show OwnWk _ _ _ _ (T747.setTop (mkF m 243 #[.val (.long u), .second, .val (.int sz), .val (.int (4 : Int32)), .val (.ref b527), .val (.ref b543), .val (.ref b597), .val (.ref b633)] [(.int (4 : Int32)), (.int (3 : Int32)), (.ref b527), (.ref b543)]))
    refine own_callS X747 hx hZ (y := (⟨"com/example/spikeline/spikeline/core/SeededRandomShufflePinLaw", "same", "(Ljava/util/ArrayList;[III)Z"⟩ : MethodName)) hown (hw _ (List.mem_of_getElem? (i := 149) rfl)) (hw _ (List.mem_of_getElem? (i := 150) rfl)) (hw _ (List.mem_of_getElem? (i := 139) rfl)) (hw _ (List.mem_of_getElem? (i := 151) rfl)) (by decide) (argsL := [(.ref b543), (.ref b527), (.int (3 : Int32)), (.int (4 : Int32))]) (rest := []) (rm := ({ frames := 3, cells := 0, slots := 0, locals := 40 } : Room)) (h := h729) (smI l Z a0 hw dce cac ia b543 ed b527 (own_exch (own_exch (own_exch [0, 1, 2, 3] 3 (own_j u (4 : Int32))) 2 (own_j (own_land u (4 : Int32)) (3 : Int32))) 1 (own_j (own_land (own_land u (4 : Int32)) (3 : Int32)) (2 : Int32))) (own_swp (own_swp (own_swp [0, 1, 2, 3] 3 (own_j u (4 : Int32))) 2 (own_j (own_land u (4 : Int32)) (3 : Int32))) 1 (own_j (own_land (own_land u (4 : Int32)) (3 : Int32)) (2 : Int32))) 3 4 h729 n0 Z741 F730 S_d V_d S_h S_c hL hE hV F731 F735 F734 F738 Vq729 (by decide) (by simp [own_elen]) (by decide) (own_k4 (own_k4 (own_k4 (by decide : ∀ k ∈ [0, 1, 2, 3], k < 4)))) (by simp [own_slen])) e747 (W := 0) (by decide) (by decide) (by decide) (by decide) (g := (mkF m 243 #[.val (.long u), .second, .val (.int sz), .val (.int (4 : Int32)), .val (.ref b527), .val (.ref b543), .val (.ref b597), .val (.ref b633)] [(.int (4 : Int32)), (.int (3 : Int32)), (.ref b527), (.ref b543)])) rfl (by rw [hml]; rfl) (lenOf pd_14 rfl) rfl (by show 2 * 0 + _ ≤ _; exact Nat.le_of_eq rfl) (hb hby at_243) (fun v748 T748 h748 L748 X748 e748 hQ748 => ?_)
    obtain ⟨rfl, Nq748, q748⟩ := hQ748
    have N748 := Fr.app N747 Nq748
    rw [q748] at e748
    show OwnWk _ _ _ _ (T748.setTop (mkF m 246 #[.val (.long u), .second, .val (.int sz), .val (.int (4 : Int32)), .val (.ref b527), .val (.ref b543), .val (.ref b597), .val (.ref b633)] [(.int (own_same (own_exch (own_exch (own_exch [0, 1, 2, 3] 3 (own_j u (4 : Int32))) 2 (own_j (own_land u (4 : Int32)) (3 : Int32))) 1 (own_j (own_land (own_land u (4 : Int32)) (3 : Int32)) (2 : Int32))) (own_swp (own_swp (own_swp [0, 1, 2, 3] 3 (own_j u (4 : Int32))) 2 (own_j (own_land u (4 : Int32)) (3 : Int32))) 1 (own_j (own_land (own_land u (4 : Int32)) (3 : Int32)) (2 : Int32))) 3))]))
    refine own_go (fun tgt kst => XS.ifNo X748.here hx rfl (hb hby at_246) rfl ((if0 _ _).trans (feq (by rw [own_fin4 (own_j u (4 : Int32)) (own_j_lt (by decide) rfl (by decide)) (own_j (own_land u (4 : Int32)) (3 : Int32)) (own_j_lt (by decide) rfl (by decide)) (own_j (own_land (own_land u (4 : Int32)) (3 : Int32)) (2 : Int32)) (own_j_lt (by decide) rfl (by decide)) 3 (by decide)]; decide)).1) kst) ?_
    show OwnWk _ _ _ _ (T748.setTop (mkF m 249 #[.val (.long u), .second, .val (.int sz), .val (.int (4 : Int32)), .val (.ref b527), .val (.ref b543), .val (.ref b597), .val (.ref b633)] []))
    refine own_go (fun tgt kst => XS.iconst X748.here hx rfl (hb hby at_249) kst) ?_
    show OwnWk _ _ _ _ (T748.setTop (mkF m 250 #[.val (.long u), .second, .val (.int sz), .val (.int (4 : Int32)), .val (.ref b527), .val (.ref b543), .val (.ref b597), .val (.ref b633)] [(.int (1 : Int32))]))
    refine own_go (fun tgt kst => XS.goto X748.here hx rfl (pc0 := 250) (pc' := 254) rfl (hb hby at_250) (by decide) (by decide) kst) ?_
    show OwnWk _ _ _ _ (T748.setTop (mkF m 254 #[.val (.long u), .second, .val (.int sz), .val (.int (4 : Int32)), .val (.ref b527), .val (.ref b543), .val (.ref b597), .val (.ref b633)] [(.int (1 : Int32))]))
    exact own_retZ X748 hx hlk hret (by simp) (z' := (1 : Int32)) rfl (hb hby at_254) (by decide) (by decide) (by rw [e748]; exact ⟨rfl, N748⟩)
theorem own_dce {s : State} {args : Array Value} (hf : Fit s) (w1 : (Jvm.Cond.initialized "java/util/ArrayList").before args s = true) (w2 : (Jvm.Cond.laysStatic "java/util/ArrayList" "DEFAULTCAPACITY_EMPTY_ELEMENTDATA" "[Ljava/lang/Object;").before args s = true)
    (w3 : (Jvm.Cond.arrayOf (Jvm.Term.static "java/util/ArrayList" "DEFAULTCAPACITY_EMPTY_ELEMENTDATA" "[Ljava/lang/Object;") (Jvm.ClassFile.FieldType.object "java/lang/Object")).before args s = true) :
    ∃ dce : Addr, (Jvm.Term.static "java/util/ArrayList" "DEFAULTCAPACITY_EMPTY_ELEMENTDATA" "[Ljava/lang/Object;").eval args s none [] s = some (.ref dce) ∧ Sta s s.heap "java/util/ArrayList" "DEFAULTCAPACITY_EMPTY_ELEMENTDATA" "[Ljava/lang/Object;" (.ref dce) := by
  obtain ⟨v, ev, fv⟩ := static_fit hf w2 (ty := .array (.object "java/lang/Object")) (by decide)
  rcases ref_cases (fit_R fv rfl) with rfl | ⟨a, rfl⟩
  · have q := Cond.before_iff.mp w3
    simp [Cond.value, ev] at q
  · exact ⟨a, ev, Sta.start ev (Or.inr ⟨w1, w2⟩)⟩
theorem own_small {s : State} {args : Array Value} {t : Term} {a : Addr} {c : Cell} {ty : FieldType} {k : Int32} (et : t.eval args s none [] s = some (.ref a)) (A : Arr s s.heap a c ty) (w : (Jvm.Cond.eq (Jvm.Term.length t) (Jvm.Term.int k)).before args s = true) : c.slots.size < 2 ^ 31 ∧ c.slots.size.toInt32 = k := by
  have hA := A.fin (Vm.Alike.refl _)
  by_cases p : c.slots.size < 2 ^ 31
  · have e : (Term.length t).eval args s none [] s = some (.int c.slots.size.toInt32) := by simp [Term.eval, et, hA, p]
    exact ⟨p, gotT (Cond.eq_ints e (Term.int_eval k)) (Cond.before_iff.mp w)⟩
  · simp [Cond.before, Cond.holds, Cond.value, Term.eval, et, hA, p] at w
theorem own_olds {s : State} {args : Array Value} (hf : Fit s) (hw : ∀ d ∈ tables_1, d.before args s = true) (hsets : ∀ w ∈ jdkStatics_1, w.before args s = true) : ∃ (dce cac : Addr) (ia : Nat → Addr),
    Sta s s.heap "java/util/ArrayList" "DEFAULTCAPACITY_EMPTY_ELEMENTDATA" "[Ljava/lang/Object;" (.ref dce) ∧ OAr s s.heap dce (.object "java/lang/Object") [] ∧ Sta s s.heap "java/lang/Integer$IntegerCache" "high" "I" (.int (127 : Int32)) ∧ Sta s s.heap "java/lang/Integer$IntegerCache" "cache" "[Ljava/lang/Integer;" (.ref cac) ∧
    (∀ k < 4, OEl s s.heap cac (.object "java/lang/Integer") (128 + k) (.ref (ia k))) ∧ (∀ k < 4, Exa s s.heap (ia k) "java/lang/Integer") ∧ ∀ k < 4, Fld s s.heap (ia k) "java/lang/Integer" "value" "I" (.int (Int32.ofNat k)) := by
  have wc : (Jvm.Cond.laysStatic "java/lang/Integer$IntegerCache" "cache" "[Ljava/lang/Integer;").before args s = true := hsets _ (List.mem_of_getElem? (i := 11) rfl)
  have wa : (Jvm.Cond.arrayOf (Jvm.Term.static "java/lang/Integer$IntegerCache" "cache" "[Ljava/lang/Integer;") (Jvm.ClassFile.FieldType.object "java/lang/Integer")).before args s = true := hsets _ (List.mem_of_getElem? (i := 13) rfl)
  obtain ⟨dce, ed, S_d⟩ := own_dce hf (hw _ (List.mem_of_getElem? (i := 4) rfl)) (hsets _ (List.mem_of_getElem? (i := 2) rfl)) (hsets _ (List.mem_of_getElem? (i := 6) rfl))
  obtain ⟨c1, A1⟩ := Arr.start ed (Cond.before_iff.mp (hsets _ (List.mem_of_getElem? (i := 6) rfl)))
  obtain ⟨q1, z1⟩ := own_small ed A1 (hsets _ (List.mem_of_getElem? (i := 8) rfl))
  have n1 : c1.slots.size = 0 := by
    have := congrArg Int32.toInt z1
    rw [show c1.slots.size.toInt32 = Int32.ofNat c1.slots.size from rfl, own_n_int q1] at this
    have e0 : (0 : Int32).toInt = 0 := rfl
    omega
  have V_d : OAr s s.heap dce (.object "java/lang/Object") [] := ⟨c1, A1, by rw [Array.eq_empty_of_size_eq_zero n1]⟩
  have S_h : Sta s s.heap "java/lang/Integer$IntegerCache" "high" "I" (.int (127 : Int32)) := Sta.start (eqv_i (F := Jvm.Term.int 127) rfl (Cond.before_iff.mp (hsets _ (List.mem_of_getElem? (i := 12) rfl)))) (Or.inl (hsets _ (List.mem_of_getElem? (i := 10) rfl)))
  obtain ⟨v, ev, fv⟩ := static_fit hf wc (ty := .array (.object "java/lang/Integer")) (by decide)
  rcases ref_cases (fit_R fv rfl) with rfl | ⟨cac, rfl⟩
  · have q := Cond.before_iff.mp wa
    simp [Cond.value, ev] at q
  have S_c := Sta.start ev (Or.inr ⟨(hw _ (List.mem_of_getElem? (i := 33) rfl)), wc⟩)
  obtain ⟨c2, A2⟩ := Arr.start ev (Cond.before_iff.mp wa)
  obtain ⟨q2, z2⟩ := own_small ev A2 (hsets _ (List.mem_of_getElem? (i := 15) rfl))
  have B : Bxs s cac c2 "java/lang/Integer" "I" 256 (fun j => .int (j - 128)) := Bxs.start (fun _ => ev) A2 q2 z2 (by decide) (Cond.before_iff.mp (hsets _ (List.mem_of_getElem? (i := 16) rfl))) (fun X j hj h => eqv_i (by simp [Term.eval, (back32 hj).1]) h)
  obtain ⟨-, sz, -, hB⟩ := B
  have H : ∀ k : Nat, ∃ b : Addr, k < 4 → OEl s s.heap cac (.object "java/lang/Integer") (128 + k) (.ref b) ∧ Exa s s.heap b "java/lang/Integer" ∧ Fld s s.heap b "java/lang/Integer" "value" "I" (.int (Int32.ofNat k)) := fun k => by
    by_cases hk : k < 4
    · have sz2 : c2.slots.size = 256 := by rw [sz]; rfl
      obtain ⟨b, b1, b2, b3⟩ := hB (Int32.ofNat (128 + k)) (by rw [sz2, own_n_nat (by omega)]; have := own_n_nn (i := 128 + k) (by omega); intro q; rcases q with q | q; exact this q; omega)
      rw [own_n_nat (by omega)] at b1
      refine ⟨b, fun _ => ⟨⟨c2, A2, b1⟩, b2, ?_⟩⟩
      have e : Int32.ofNat (128 + k) - 128 = Int32.ofNat k := by
        rw [Int32.ofNat_add]
        show (128 : Int32) + Int32.ofNat k - 128 = Int32.ofNat k
        rw [Int32.add_comm, Int32.add_sub_cancel]
      have b4 : Fld s s.heap b "java/lang/Integer" "value" "I" (.int (Int32.ofNat (128 + k) - 128)) := b3
      rw [e] at b4; exact b4
    · exact ⟨0, fun q => absurd q hk⟩
  obtain ⟨ia, hia⟩ := Classical.axiomOfChoice H
  exact ⟨dce, cac, ia, S_d, V_d, S_h, S_c, fun k hk => (hia k hk).1, fun k hk => (hia k hk).2.1, fun k hk => (hia k hk).2.2⟩
set_option maxRecDepth 65536 in
set_option maxHeartbeats 40000000 in
theorem comes_1 {Post : Tables → Env → Array Value → State → Outcome → State → Prop} (hpost : ∀ tb e args s v u, (limb_1_1.after args s (.returned v) u = true ∧ limb_1_2.after args s (.returned v) u = true) → FrameEnd s (.returned v) u (Jvm.fieldLocs frame_1_writes args s ++ Jvm.arrayLocs frame_1_arrays args s ++ Jvm.staticLocs frame_1_statics s) 24 128 → Post tb e args s (.returned v) u) :
    ArmFor flags0 classFile x code maxLocals ret World_1 tables_1 room_1 Calls_1 rest_1 Pre_1 Post := by
  intro l hfl _ _ p e ha hc hk s m args below hf hA hF happ hP
  obtain ⟨hcalls, hrest, hpre⟩ := hP
  obtain ⟨-, -, -, hnamed, -, -, -, hat⟩ := (Spec.applies_iff hf).mp happ
  obtain ⟨hg, hn⟩ := and_e (Cond.before_iff.mp (show (Jvm.Cond.and given_1 narrow_1).before args s = true from hpre))
  obtain ⟨g0, r0⟩ := and_e hg
  obtain ⟨g1, r1⟩ := and_e r0
  obtain ⟨w0, w1, rfl⟩ : ∃ w0 w1 : Value, args = #[w0, w1] := by
    have hs : args.size = 2 := by simpa [Cond.value, given_1] using g0
    obtain ⟨L⟩ := args
    match L, hs with
    | [w0, w1], _ => exact ⟨w0, w1, rfl⟩
  have hw := fun d (hd : d ∈ tables_1) => atoms_spec (ws := Jvm.Cond.code x code maxLocals ret :: tables_1) hat d (List.mem_cons_of_mem _ hd)
  have hfit : Fit s := fun {y c} hc i hi => by
    obtain ⟨ha, rfl⟩ := Array.getElem?_eq_some_iff.mp hc
    have q := List.all_eq_true.mp ((Array.all_eq_true_iff_forall_mem.mp hF) _ (Array.getElem_mem ha)) i (List.mem_range.mpr hi)
    simpa [Array.getElem?_eq_getElem hi] using q
  obtain ⟨i0, ei0⟩ := isL_v g1
  obtain rfl : w0 = (.long i0) := Option.some.inj ei0
  obtain ⟨i1, ei1⟩ := is_v r1
  obtain rfl : w1 = (.int i1) := Option.some.inj ei1
  obtain ⟨hsets, hown0⟩ := atoms_of _ (rest_1_c_eq ▸ (show rest_1_c.before _ s = true from hrest))
  obtain ⟨dce, cac, ia, S_d, V_d, S_h, S_c, hL, hE, hV⟩ := own_olds hfit hw hsets
  obtain ⟨n, o, h1, h2, h3, _, L, rfl, ⟨rfl, N⟩, hq⟩ := rm0 l s _ hw i0 i1 dce cac ia s.heap s.heap.size (Nat.le_refl _) (Old.start s) S_d V_d S_h S_c hL hE hV p e ha hc hk s m _ below hf ((Spec.applies_iff_loose hf).mp happ).1 ⟨rfl, State.Warmed39.refl s, rfl⟩ trivial
  refine ⟨n, _, h1, h2, h3, hpost _ _ _ _ _ _ ⟨Cond.after_iff.mpr rfl, Cond.after_iff.mpr (eq_i res_at (Term.int_eval (1)) rfl)⟩ ⟨hq.1, hq.2.1, (hq.2.2.sift fun y hy => Or.inr (N y hy)).mono (by decide) (by decide)⟩⟩
theorem main_1_1 : Claimed_1_1 := comes_1 fun _ _ _ _ _ _ h hF => ⟨h.1, hF⟩
theorem main_1_2 : Claimed_1_2 := comes_1 fun _ _ _ _ _ _ h hF => ⟨h.2, hF⟩
end Jvm.Pilot.@@N@@
namespace Jvm.Pilot.@@N@@
open Jvm Jvm.ClassFile Sem Op Lib Jvm.Free Jvm.Stand Jvm.Pilot.@@N@@.Jvm.D
/-! MADE BY PROGRAM (witnessworld.py) out of the Statement's table words and the real class files: 29 classes; the members and pool entries that the words name. The judged class is class 1, her method 1. -/
namespace start1
open Jvm.ClassFile
def u (s : String) : CpInfo := .utf8 (stringToUtf16 s)
/-- a pool by its gaps: so many unusable entries, then the entry; so many at the end -/
def gap : Nat → List CpInfo → List CpInfo
  | 0, r => r
  | n + 1, r => .unusable :: gap n r
def poolList (es : List (Nat × CpInfo)) (last : Nat) : List CpInfo := es.foldr (fun e r => gap e.1 (e.2 :: r)) (gap last [])
def pool (es : List (Nat × CpInfo)) (last : Nat) : Array CpInfo := ⟨poolList es last⟩
def fileOf (pool : Array CpInfo) (this : Nat) (attrs : Array Attribute := #[]) (ms : Array MethodInfo := #[]) (fl : Nat := 33) (sup : Nat := 0) (ifs : Array Nat := #[]) (fds : Array FieldInfo := #[]) : ClassFile where
  minorVersion := 0
  majorVersion := 65
  constantPool := pool
  accessFlags := fl
  thisClass := this
  superClass := sup
  interfaces := ifs
  fields := fds
  methods := ms
  attributes := attrs
def plain (name : String) (sup : Option ClassId) : Class where
  name := name
  kind := .ordinary
  loader := none
  accessFlags := 33
  super := sup
  interfaces := #[]
  cf := none
  fields := #[]
  methods := #[]
  instanceTypes := #[]
  staticTypes := #[]
  resolved := #[]
  callSites := []
  init := .initialized
  statics := none
  mirror := none

def pool0 : Array CpInfo := pool [(5, u "<init>"), (0, u "()V"), (1, .class_ 10), (1, u "java/lang/Object")] 113

def k0c0 : Code := { maxStack := 0, maxLocals := 1, code := object_method_1_code, exceptionTable := #[], attributes := #[] }
def k0m0 : Method := { name := "<init>", desc := "()V", sig := { parameters := [], returnType := none }, accessFlags := 1, code := some k0c0 }
/-- java/lang/Object -/
def k0 : Class := { plain "java/lang/Object" none with
  accessFlags := 33
  interfaces := #[]
  cf := some (fileOf pool0 8 #[] #[{ accessFlags := 1, nameIndex := 5, descriptorIndex := 6, attributes := #[] }] 33 0 #[] #[])
  fields := #[]
  methods := #[k0m0]
  instanceTypes := #[]
  staticTypes := #[]
  resolved := Array.replicate 124 none
  statics := none }

def pool1 : Array CpInfo := pool [(2, .class_ 4), (0, .nameAndType 5 6), (0, u "java/lang/Object"), (0, u "<init>"), (0, u "()V"), (0, .integer 2147483647), (0, .class_ 9), (0, u "java/util/ArrayList"), (0, .methodref 8 3), (0, .methodref 12 13), (0, .class_ 14), (0, .nameAndType 15 16), (0, u "java/lang/Integer"), (0, u "valueOf"), (0, u "(I)Ljava/lang/Integer;"), (0, .methodref 8 18), (0, .nameAndType 19 20), (0, u "add"), (0, u "(Ljava/lang/Object;)Z"), (0, .class_ 22), (0, u "com/example/spikeline/spikeline/core/SeededRandom"), (0, .methodref 21 24), (0, .nameAndType 5 25), (0, u "(J)V"), (0, .methodref 21 27), (0, .nameAndType 28 29), (0, u "shuffle"), (0, u "(Ljava/util/List;)V"), (0, .methodref 21 31), (0, .nameAndType 32 33), (0, u "nextInt"), (0, u "(I)I"), (0, .methodref 35 36), (0, .class_ 37), (0, .nameAndType 38 39), (0, u "com/example/spikeline/spikeline/core/SeededRandomShufflePinLaw"), (0, u "swap"), (0, u "([III)V"), (0, .methodref 8 41), (0, .nameAndType 42 43), (0, u "size"), (0, u "()I"), (0, .methodref 21 45), (0, .nameAndType 46 47), (0, u "state"), (0, u "()J"), (0, .methodref 35 49), (0, .nameAndType 50 51), (0, u "same"), (0, u "(Ljava/util/ArrayList;[III)Z"), (0, .methodref 8 53), (0, .nameAndType 54 55), (0, u "get"), (0, u "(I)Ljava/lang/Object;"), (0, .methodref 12 57), (0, .nameAndType 58 43), (0, u "intValue"), (2, u "law"), (0, u "(JI)Z")] 7

def k1m0 : Method := { name := "<init>", desc := "()V", sig := { parameters := [], returnType := none }, accessFlags := 1, code := none }
def k1c1 : Code := { maxStack := 4, maxLocals := 8, code := code, exceptionTable := #[], attributes := #[] }
def k1m1 : Method := { name := "law", desc := "(JI)Z", sig := { parameters := [.long, .int], returnType := some .boolean }, accessFlags := 9, code := some k1c1 }
def k1c2 : Code := { maxStack := 4, maxLocals := 4, code := method_3_code, exceptionTable := #[], attributes := #[] }
def k1m2 : Method := { name := "swap", desc := "([III)V", sig := { parameters := [(.array .int), .int, .int], returnType := none }, accessFlags := 10, code := some k1c2 }
def k1c3 : Code := { maxStack := 3, maxLocals := 4, code := method_4_code, exceptionTable := #[], attributes := #[] }
def k1m3 : Method := { name := "same", desc := "(Ljava/util/ArrayList;[III)Z", sig := { parameters := [(.object "java/util/ArrayList"), (.array .int), .int, .int], returnType := some .boolean }, accessFlags := 10, code := some k1c3 }
/-- com/example/spikeline/spikeline/core/SeededRandomShufflePinLaw -/
def k1 : Class := { plain "com/example/spikeline/spikeline/core/SeededRandomShufflePinLaw" (some 0) with
  accessFlags := 49
  interfaces := #[]
  cf := some (fileOf pool1 35 #[] #[{ accessFlags := 1, nameIndex := 5, descriptorIndex := 6, attributes := #[] }, { accessFlags := 9, nameIndex := 61, descriptorIndex := 62, attributes := #[] }, { accessFlags := 10, nameIndex := 38, descriptorIndex := 39, attributes := #[] }, { accessFlags := 10, nameIndex := 50, descriptorIndex := 51, attributes := #[] }] 49 2 #[] #[])
  fields := #[]
  methods := #[k1m0, k1m1, k1m2, k1m3]
  instanceTypes := #[]
  staticTypes := #[]
  resolved := Array.replicate 70 none
  statics := none }

def pool2 : Array CpInfo := pool [(8, .class_ 10), (1, u "java/lang/Iterable"), (24, .class_ 36), (0, u "java/lang/Object")] 25

/-- java/lang/Iterable -/
def k2 : Class := { plain "java/lang/Iterable" (some 0) with
  accessFlags := 1537
  interfaces := #[]
  cf := some (fileOf pool2 8 #[] #[] 1537 35 #[] #[])
  fields := #[]
  methods := #[]
  instanceTypes := #[]
  staticTypes := #[]
  resolved := Array.replicate 62 none
  statics := none }

def pool3 : Array CpInfo := pool [(10, .class_ 12), (1, u "java/util/Collection"), (47, .class_ 61), (0, u "java/lang/Object"), (0, .class_ 63), (0, u "java/lang/Iterable")] 51

/-- java/util/Collection -/
def k3 : Class := { plain "java/util/Collection" (some 0) with
  accessFlags := 1537
  interfaces := #[2]
  cf := some (fileOf pool3 10 #[] #[] 1537 60 #[62] #[])
  fields := #[]
  methods := #[]
  instanceTypes := #[]
  staticTypes := #[]
  resolved := Array.replicate 115 none
  statics := none }

def pool4 : Array CpInfo := pool [(1, .methodref 2 3), (0, .class_ 4), (0, .nameAndType 5 6), (0, u "java/lang/Object"), (0, u "<init>"), (0, u "()V"), (1, .class_ 10), (1, u "java/util/AbstractCollection"), (66, .class_ 78), (0, u "java/util/Collection")] 81

def k4c0 : Code := { maxStack := 1, maxLocals := 1, code := jdk_22_method_1_code, exceptionTable := #[], attributes := #[] }
def k4m0 : Method := { name := "<init>", desc := "()V", sig := { parameters := [], returnType := none }, accessFlags := 4, code := some k4c0 }
/-- java/util/AbstractCollection -/
def k4 : Class := { plain "java/util/AbstractCollection" (some 0) with
  accessFlags := 1057
  interfaces := #[3]
  cf := some (fileOf pool4 8 #[] #[{ accessFlags := 4, nameIndex := 5, descriptorIndex := 6, attributes := #[] }] 1057 2 #[77] #[])
  fields := #[]
  methods := #[k4m0]
  instanceTypes := #[]
  staticTypes := #[]
  resolved := Array.replicate 160 none
  statics := none }

def pool5 : Array CpInfo := pool [(8, .class_ 10), (1, u "java/util/SequencedCollection"), (15, .class_ 27), (0, u "java/lang/Object"), (0, .class_ 29), (0, u "java/util/Collection")] 27

/-- java/util/SequencedCollection -/
def k5 : Class := { plain "java/util/SequencedCollection" (some 0) with
  accessFlags := 1537
  interfaces := #[3]
  cf := some (fileOf pool5 8 #[] #[] 1537 26 #[28] #[])
  fields := #[]
  methods := #[]
  instanceTypes := #[]
  staticTypes := #[]
  resolved := Array.replicate 57 none
  statics := none }

def pool6 : Array CpInfo := pool [(8, .class_ 10), (1, u "java/util/List"), (19, u "set"), (44, u "get"), (0, u "(I)Ljava/lang/Object;"), (2, u "size"), (0, u "()I"), (22, .class_ 104), (0, u "java/lang/Object"), (15, .class_ 121), (0, u "java/util/SequencedCollection"), (51, u "(ILjava/lang/Object;)Ljava/lang/Object;")] 77

def k6m0 : Method := { name := "size", desc := "()I", sig := { parameters := [], returnType := some .int }, accessFlags := 1025, code := none }
def k6m1 : Method := { name := "get", desc := "(I)Ljava/lang/Object;", sig := { parameters := [.int], returnType := some (.object "java/lang/Object") }, accessFlags := 1025, code := none }
def k6m2 : Method := { name := "set", desc := "(ILjava/lang/Object;)Ljava/lang/Object;", sig := { parameters := [.int, (.object "java/lang/Object")], returnType := some (.object "java/lang/Object") }, accessFlags := 1025, code := none }
/-- java/util/List -/
def k6 : Class := { plain "java/util/List" (some 0) with
  accessFlags := 1537
  interfaces := #[5]
  cf := some (fileOf pool6 8 #[] #[{ accessFlags := 1025, nameIndex := 79, descriptorIndex := 80, attributes := #[] }, { accessFlags := 1025, nameIndex := 75, descriptorIndex := 76, attributes := #[] }, { accessFlags := 1025, nameIndex := 30, descriptorIndex := 173, attributes := #[] }] 1537 103 #[120] #[])
  fields := #[]
  methods := #[k6m0, k6m1, k6m2]
  instanceTypes := #[]
  staticTypes := #[]
  resolved := Array.replicate 251 none
  statics := none }

def pool7 : Array CpInfo := pool [(1, .methodref 2 3), (0, .class_ 4), (0, .nameAndType 5 6), (0, u "java/util/AbstractCollection"), (0, u "<init>"), (0, u "()V"), (0, .fieldref 8 9), (0, .class_ 10), (0, .nameAndType 11 12), (0, u "java/util/AbstractList"), (0, u "modCount"), (0, u "I"), (64, .class_ 78), (0, u "java/util/AbstractList$Itr"), (3, .class_ 83), (0, u "java/util/AbstractList$ListItr"), (9, .class_ 94), (0, u "java/util/AbstractList$RandomAccessSubList"), (3, .class_ 99), (0, u "java/util/AbstractList$SubList"), (33, .class_ 134), (0, u "java/util/List"), (73, .class_ 209), (0, u "java/util/AbstractList$SubList$1"), (0, .class_ 211), (0, u "java/util/AbstractList$RandomAccessSpliterator")] 6

def k7c0 : Code := { maxStack := 2, maxLocals := 1, code := jdk_39_method_1_code, exceptionTable := #[], attributes := #[] }
def k7m0 : Method := { name := "<init>", desc := "()V", sig := { parameters := [], returnType := none }, accessFlags := 4, code := some k7c0 }
/-- java/util/AbstractList -/
def k7 : Class := { plain "java/util/AbstractList" (some 4) with
  accessFlags := 1057
  interfaces := #[6]
  cf := some (fileOf pool7 8 #[.nestMembers #[93, 98, 208, 210, 82, 77]] #[{ accessFlags := 4, nameIndex := 5, descriptorIndex := 6, attributes := #[] }] 1057 2 #[133] #[{ accessFlags := 132, nameIndex := 11, descriptorIndex := 12, attributes := #[] }])
  fields := #[{ name := "modCount", type := .int, accessFlags := 132, slot := 0, constantValue := 0 }]
  methods := #[k7m0]
  instanceTypes := #[.int]
  staticTypes := #[]
  resolved := Array.replicate 218 none
  statics := none }

def pool8 : Array CpInfo := pool [(1, .class_ 2), (0, u "java/util/RandomAccess"), (0, .class_ 4), (0, u "java/lang/Object")] 2

/-- java/util/RandomAccess -/
def k8 : Class := { plain "java/util/RandomAccess" (some 0) with
  accessFlags := 1537
  interfaces := #[]
  cf := some (fileOf pool8 1 #[] #[] 1537 3 #[] #[])
  fields := #[]
  methods := #[]
  instanceTypes := #[]
  staticTypes := #[]
  resolved := Array.replicate 7 none
  statics := none }

def pool9 : Array CpInfo := pool [(1, .class_ 2), (0, u "java/lang/Cloneable"), (0, .class_ 4), (0, u "java/lang/Object")] 2

/-- java/lang/Cloneable -/
def k9 : Class := { plain "java/lang/Cloneable" (some 0) with
  accessFlags := 1537
  interfaces := #[]
  cf := some (fileOf pool9 1 #[] #[] 1537 3 #[] #[])
  fields := #[]
  methods := #[]
  instanceTypes := #[]
  staticTypes := #[]
  resolved := Array.replicate 7 none
  statics := none }

def pool10 : Array CpInfo := pool [(1, .class_ 2), (0, u "java/io/Serializable"), (0, .class_ 4), (0, u "java/lang/Object")] 2

/-- java/io/Serializable -/
def k10 : Class := { plain "java/io/Serializable" (some 0) with
  accessFlags := 1537
  interfaces := #[]
  cf := some (fileOf pool10 1 #[] #[] 1537 3 #[] #[])
  fields := #[]
  methods := #[]
  instanceTypes := #[]
  staticTypes := #[]
  resolved := Array.replicate 7 none
  statics := none }

def pool11 : Array CpInfo := pool [(1, .methodref 2 3), (0, .class_ 4), (0, .nameAndType 5 6), (0, u "java/util/AbstractList"), (0, u "<init>"), (0, u "()V"), (0, .class_ 8), (0, u "java/lang/Object"), (0, .fieldref 10 11), (0, .class_ 12), (0, .nameAndType 13 14), (0, u "java/util/ArrayList"), (0, u "elementData"), (0, u "[Ljava/lang/Object;"), (2, u "EMPTY_ELEMENTDATA"), (21, .fieldref 10 40), (0, .nameAndType 41 14), (0, u "DEFAULTCAPACITY_EMPTY_ELEMENTDATA"), (5, u "()[Ljava/lang/Object;"), (0, .fieldref 10 49), (0, .nameAndType 50 51), (0, u "size"), (0, u "I"), (11, .fieldref 10 64), (0, .nameAndType 65 51), (0, u "modCount"), (3, .methodref 10 70), (0, .nameAndType 71 72), (0, u "grow"), (0, u "(I)[Ljava/lang/Object;"), (6, .methodref 80 81), (0, .class_ 82), (0, .nameAndType 83 84), (0, u "java/lang/Math"), (0, u "max"), (0, u "(II)I"), (11, u "(Ljava/lang/Object;)Z"), (21, .methodref 119 120), (0, .class_ 121), (0, .nameAndType 122 84), (0, u "java/util/Objects"), (0, u "checkIndex"), (0, .methodref 10 124), (0, .nameAndType 13 125), (0, u "(I)Ljava/lang/Object;"), (3, .methodref 10 130), (0, .nameAndType 71 47), (0, .methodref 10 132), (0, .nameAndType 133 134), (0, u "add"), (0, u "(Ljava/lang/Object;[Ljava/lang/Object;I)V"), (13, .class_ 149), (0, u "java/util/List"), (36, u "()I"), (75, .class_ 263), (0, u "java/util/ArrayList$ListItr"), (3, .class_ 268), (0, u "java/util/ArrayList$Itr"), (7, .class_ 277), (0, u "java/util/ArrayList$SubList"), (12, .class_ 291), (0, u "java/util/ArrayList$ArrayListSpliterator"), (37, .class_ 330), (0, u "java/util/RandomAccess"), (0, .class_ 332), (0, u "java/lang/Cloneable"), (0, .class_ 334), (0, u "java/io/Serializable"), (0, u "serialVersionUID"), (0, u "J"), (3, u "DEFAULT_CAPACITY"), (40, u "get"), (4, u "set"), (0, u "(ILjava/lang/Object;)Ljava/lang/Object;"), (112, .class_ 501), (0, u "java/util/ArrayList$SubList$2"), (0, .class_ 503), (0, u "java/util/ArrayList$SubList$1")] 5

def k11c0 : Code := { maxStack := 2, maxLocals := 1, code := jdk_38_method_2_code, exceptionTable := #[], attributes := #[] }
def k11m0 : Method := { name := "<init>", desc := "()V", sig := { parameters := [], returnType := none }, accessFlags := 1, code := some k11c0 }
def k11c1 : Code := { maxStack := 4, maxLocals := 4, code := jdk_38_method_6_code, exceptionTable := #[], attributes := #[] }
def k11m1 : Method := { name := "grow", desc := "(I)[Ljava/lang/Object;", sig := { parameters := [.int], returnType := some (.array (.object "java/lang/Object")) }, accessFlags := 2, code := some k11c1 }
def k11c2 : Code := { maxStack := 3, maxLocals := 1, code := jdk_38_method_7_code, exceptionTable := #[], attributes := #[] }
def k11m2 : Method := { name := "grow", desc := "()[Ljava/lang/Object;", sig := { parameters := [], returnType := some (.array (.object "java/lang/Object")) }, accessFlags := 2, code := some k11c2 }
def k11c3 : Code := { maxStack := 1, maxLocals := 1, code := jdk_38_method_8_code, exceptionTable := #[], attributes := #[] }
def k11m3 : Method := { name := "size", desc := "()I", sig := { parameters := [], returnType := some .int }, accessFlags := 1, code := some k11c3 }
def k11c4 : Code := { maxStack := 2, maxLocals := 2, code := jdk_38_method_18_code, exceptionTable := #[], attributes := #[] }
def k11m4 : Method := { name := "elementData", desc := "(I)Ljava/lang/Object;", sig := { parameters := [.int], returnType := some (.object "java/lang/Object") }, accessFlags := 0, code := some k11c4 }
def k11c5 : Code := { maxStack := 2, maxLocals := 2, code := jdk_38_method_20_code, exceptionTable := #[], attributes := #[] }
def k11m5 : Method := { name := "get", desc := "(I)Ljava/lang/Object;", sig := { parameters := [.int], returnType := some (.object "java/lang/Object") }, accessFlags := 1, code := some k11c5 }
def k11c6 : Code := { maxStack := 3, maxLocals := 4, code := jdk_38_method_23_code, exceptionTable := #[], attributes := #[] }
def k11m6 : Method := { name := "set", desc := "(ILjava/lang/Object;)Ljava/lang/Object;", sig := { parameters := [.int, (.object "java/lang/Object")], returnType := some (.object "java/lang/Object") }, accessFlags := 1, code := some k11c6 }
def k11c7 : Code := { maxStack := 3, maxLocals := 4, code := jdk_38_method_24_code, exceptionTable := #[], attributes := #[] }
def k11m7 : Method := { name := "add", desc := "(Ljava/lang/Object;[Ljava/lang/Object;I)V", sig := { parameters := [(.object "java/lang/Object"), (.array (.object "java/lang/Object")), .int], returnType := none }, accessFlags := 2, code := some k11c7 }
def k11c8 : Code := { maxStack := 4, maxLocals := 2, code := jdk_38_method_25_code, exceptionTable := #[], attributes := #[] }
def k11m8 : Method := { name := "add", desc := "(Ljava/lang/Object;)Z", sig := { parameters := [(.object "java/lang/Object")], returnType := some .boolean }, accessFlags := 1, code := some k11c8 }
/-- java/util/ArrayList -/
def k11 : Class := { plain "java/util/ArrayList" (some 7) with
  accessFlags := 33
  interfaces := #[6, 8, 9, 10]
  cf := some (fileOf pool11 10 #[.nestMembers #[290, 276, 500, 502, 262, 267]] #[{ accessFlags := 1, nameIndex := 5, descriptorIndex := 6, attributes := #[] }, { accessFlags := 2, nameIndex := 71, descriptorIndex := 72, attributes := #[] }, { accessFlags := 2, nameIndex := 71, descriptorIndex := 47, attributes := #[] }, { accessFlags := 1, nameIndex := 50, descriptorIndex := 186, attributes := #[] }, { accessFlags := 0, nameIndex := 13, descriptorIndex := 125, attributes := #[] }, { accessFlags := 1, nameIndex := 381, descriptorIndex := 125, attributes := #[] }, { accessFlags := 1, nameIndex := 386, descriptorIndex := 387, attributes := #[] }, { accessFlags := 2, nameIndex := 133, descriptorIndex := 134, attributes := #[] }, { accessFlags := 1, nameIndex := 133, descriptorIndex := 96, attributes := #[] }] 33 2 #[148, 329, 331, 333] #[{ accessFlags := 26, nameIndex := 335, descriptorIndex := 336, attributes := #[] }, { accessFlags := 26, nameIndex := 340, descriptorIndex := 51, attributes := #[] }, { accessFlags := 26, nameIndex := 17, descriptorIndex := 14, attributes := #[] }, { accessFlags := 26, nameIndex := 41, descriptorIndex := 14, attributes := #[] }, { accessFlags := 128, nameIndex := 13, descriptorIndex := 14, attributes := #[] }, { accessFlags := 2, nameIndex := 50, descriptorIndex := 51, attributes := #[] }])
  fields := #[{ name := "serialVersionUID", type := .long, accessFlags := 26, slot := 0, constantValue := 0 }, { name := "DEFAULT_CAPACITY", type := .int, accessFlags := 26, slot := 1, constantValue := 0 }, { name := "EMPTY_ELEMENTDATA", type := (.array (.object "java/lang/Object")), accessFlags := 26, slot := 2, constantValue := 0 }, { name := "DEFAULTCAPACITY_EMPTY_ELEMENTDATA", type := (.array (.object "java/lang/Object")), accessFlags := 26, slot := 3, constantValue := 0 }, { name := "elementData", type := (.array (.object "java/lang/Object")), accessFlags := 128, slot := 1, constantValue := 0 }, { name := "size", type := .int, accessFlags := 2, slot := 2, constantValue := 0 }]
  methods := #[k11m0, k11m1, k11m2, k11m3, k11m4, k11m5, k11m6, k11m7, k11m8]
  instanceTypes := #[.int, (.array (.object "java/lang/Object")), .int]
  staticTypes := #[.long, .int, (.array (.object "java/lang/Object")), (.array (.object "java/lang/Object"))]
  resolved := Array.replicate 509 none
  statics := some 0 }

def pool12 : Array CpInfo := pool [(2, .class_ 4), (1, u "java/lang/Object"), (0, u "<init>"), (0, u "()V"), (1, .class_ 10), (1, u "java/lang/Number"), (2, .class_ 14), (0, u "java/io/Serializable"), (0, u "serialVersionUID"), (0, u "J")] 20

def k12m0 : Method := { name := "<init>", desc := "()V", sig := { parameters := [], returnType := none }, accessFlags := 1, code := none }
/-- java/lang/Number -/
def k12 : Class := { plain "java/lang/Number" (some 0) with
  accessFlags := 1057
  interfaces := #[10]
  cf := some (fileOf pool12 8 #[] #[{ accessFlags := 1, nameIndex := 5, descriptorIndex := 6, attributes := #[] }] 1057 2 #[13] #[{ accessFlags := 26, nameIndex := 15, descriptorIndex := 16, attributes := #[] }])
  fields := #[{ name := "serialVersionUID", type := .long, accessFlags := 26, slot := 0, constantValue := 0 }]
  methods := #[k12m0]
  instanceTypes := #[]
  staticTypes := #[.long]
  resolved := Array.replicate 37 none
  statics := none }

def pool13 : Array CpInfo := pool [(1, .class_ 2), (0, u "java/lang/Comparable"), (0, .class_ 4), (0, u "java/lang/Object")] 7

/-- java/lang/Comparable -/
def k13 : Class := { plain "java/lang/Comparable" (some 0) with
  accessFlags := 1537
  interfaces := #[]
  cf := some (fileOf pool13 1 #[] #[] 1537 3 #[] #[])
  fields := #[]
  methods := #[]
  instanceTypes := #[]
  staticTypes := #[]
  resolved := Array.replicate 12 none
  statics := none }

def pool14 : Array CpInfo := pool [(1, .class_ 2), (0, u "java/lang/constant/Constable"), (0, .class_ 4), (0, u "java/lang/Object")] 6

/-- java/lang/constant/Constable -/
def k14 : Class := { plain "java/lang/constant/Constable" (some 0) with
  accessFlags := 1537
  interfaces := #[]
  cf := some (fileOf pool14 1 #[] #[] 1537 3 #[] #[])
  fields := #[]
  methods := #[]
  instanceTypes := #[]
  staticTypes := #[]
  resolved := Array.replicate 11 none
  statics := none }

def pool15 : Array CpInfo := pool [(1, .class_ 2), (0, u "java/lang/constant/ConstantDesc"), (0, .class_ 4), (0, u "java/lang/Object")] 32

/-- java/lang/constant/ConstantDesc -/
def k15 : Class := { plain "java/lang/constant/ConstantDesc" (some 0) with
  accessFlags := 1537
  interfaces := #[]
  cf := some (fileOf pool15 1 #[] #[] 1537 3 #[] #[])
  fields := #[]
  methods := #[]
  instanceTypes := #[]
  staticTypes := #[]
  resolved := Array.replicate 37 none
  statics := none }

def pool16 : Array CpInfo := pool [(1, .class_ 2), (0, u "java/lang/Integer"), (16, u "digits"), (0, u "[C"), (64, u "DigitOnes"), (0, u "[B"), (2, u "DigitTens"), (31, u "()I"), (65, u "valueOf"), (0, u "(I)Ljava/lang/Integer;"), (0, .class_ 190), (0, u "java/lang/Integer$IntegerCache"), (0, .fieldref 189 192), (0, .nameAndType 193 194), (0, u "high"), (0, u "I"), (0, .fieldref 189 196), (0, .nameAndType 197 198), (0, u "cache"), (0, u "[Ljava/lang/Integer;"), (4, .class_ 204), (0, u "java/lang/Number"), (0, .fieldref 1 206), (0, .nameAndType 207 194), (0, u "value"), (5, u "intValue"), (88, u "TYPE"), (0, u "Ljava/lang/Class;"), (0, .class_ 305), (0, u "java/lang/Comparable"), (0, .class_ 307), (0, u "java/lang/constant/Constable"), (0, .class_ 309), (0, u "java/lang/constant/ConstantDesc"), (0, u "MIN_VALUE"), (1, u "MAX_VALUE"), (3, u "SIZE"), (1, u "BYTES"), (1, u "serialVersionUID"), (0, u "J")] 131

def k16c0 : Code := { maxStack := 3, maxLocals := 1, code := jdk_33_method_22_code, exceptionTable := #[], attributes := #[] }
def k16m0 : Method := { name := "valueOf", desc := "(I)Ljava/lang/Integer;", sig := { parameters := [.int], returnType := some (.object "java/lang/Integer") }, accessFlags := 9, code := some k16c0 }
def k16c1 : Code := { maxStack := 1, maxLocals := 1, code := jdk_33_method_27_code, exceptionTable := #[], attributes := #[] }
def k16m1 : Method := { name := "intValue", desc := "()I", sig := { parameters := [], returnType := some .int }, accessFlags := 1, code := some k16c1 }
/-- java/lang/Integer -/
def k16 : Class := { plain "java/lang/Integer" (some 12) with
  accessFlags := 49
  interfaces := #[13, 14, 15]
  cf := some (fileOf pool16 1 #[.nestMembers #[189]] #[{ accessFlags := 9, nameIndex := 187, descriptorIndex := 188, attributes := #[] }, { accessFlags := 1, nameIndex := 213, descriptorIndex := 121, attributes := #[] }] 49 203 #[304, 306, 308] #[{ accessFlags := 25, nameIndex := 310, descriptorIndex := 194, attributes := #[] }, { accessFlags := 25, nameIndex := 312, descriptorIndex := 194, attributes := #[] }, { accessFlags := 25, nameIndex := 302, descriptorIndex := 303, attributes := #[] }, { accessFlags := 24, nameIndex := 19, descriptorIndex := 20, attributes := #[] }, { accessFlags := 24, nameIndex := 89, descriptorIndex := 86, attributes := #[] }, { accessFlags := 24, nameIndex := 85, descriptorIndex := 86, attributes := #[] }, { accessFlags := 18, nameIndex := 207, descriptorIndex := 194, attributes := #[] }, { accessFlags := 25, nameIndex := 316, descriptorIndex := 194, attributes := #[] }, { accessFlags := 25, nameIndex := 318, descriptorIndex := 194, attributes := #[] }, { accessFlags := 26, nameIndex := 320, descriptorIndex := 321, attributes := #[] }])
  fields := #[{ name := "MIN_VALUE", type := .int, accessFlags := 25, slot := 0, constantValue := 0 }, { name := "MAX_VALUE", type := .int, accessFlags := 25, slot := 1, constantValue := 0 }, { name := "TYPE", type := (.object "java/lang/Class"), accessFlags := 25, slot := 2, constantValue := 0 }, { name := "digits", type := (.array .char), accessFlags := 24, slot := 3, constantValue := 0 }, { name := "DigitTens", type := (.array .byte), accessFlags := 24, slot := 4, constantValue := 0 }, { name := "DigitOnes", type := (.array .byte), accessFlags := 24, slot := 5, constantValue := 0 }, { name := "value", type := .int, accessFlags := 18, slot := 0, constantValue := 0 }, { name := "SIZE", type := .int, accessFlags := 25, slot := 6, constantValue := 0 }, { name := "BYTES", type := .int, accessFlags := 25, slot := 7, constantValue := 0 }, { name := "serialVersionUID", type := .long, accessFlags := 26, slot := 8, constantValue := 0 }]
  methods := #[k16m0, k16m1]
  instanceTypes := #[.int]
  staticTypes := #[.int, .int, (.object "java/lang/Class"), (.array .char), (.array .byte), (.array .byte), .int, .int, .long]
  resolved := Array.replicate 453 none
  statics := none }

def pool17 : Array CpInfo := pool [(2, .class_ 4), (1, u "java/lang/Object"), (0, u "<init>"), (0, u "()V"), (0, .class_ 8), (0, u "java/lang/Integer"), (7, .class_ 18), (1, u "java/lang/Integer$IntegerCache"), (0, u "$assertionsDisabled"), (0, u "Z"), (26, u "high"), (0, u "I"), (8, u "archivedCache"), (0, u "[Ljava/lang/Integer;"), (12, u "cache"), (0, u "low")] 27

def k17m0 : Method := { name := "<init>", desc := "()V", sig := { parameters := [], returnType := none }, accessFlags := 2, code := none }
/-- java/lang/Integer$IntegerCache -/
def k17 : Class := { plain "java/lang/Integer$IntegerCache" (some 0) with
  accessFlags := 48
  interfaces := #[]
  cf := some (fileOf pool17 16 #[.nestHost 7] #[{ accessFlags := 2, nameIndex := 5, descriptorIndex := 6, attributes := #[] }] 48 2 #[] #[{ accessFlags := 24, nameIndex := 72, descriptorIndex := 48, attributes := #[] }, { accessFlags := 24, nameIndex := 47, descriptorIndex := 48, attributes := #[] }, { accessFlags := 24, nameIndex := 71, descriptorIndex := 58, attributes := #[] }, { accessFlags := 8, nameIndex := 57, descriptorIndex := 58, attributes := #[] }, { accessFlags := 4120, nameIndex := 19, descriptorIndex := 20, attributes := #[] }])
  fields := #[{ name := "low", type := .int, accessFlags := 24, slot := 0, constantValue := 0 }, { name := "high", type := .int, accessFlags := 24, slot := 1, constantValue := 0 }, { name := "cache", type := (.array (.object "java/lang/Integer")), accessFlags := 24, slot := 2, constantValue := 0 }, { name := "archivedCache", type := (.array (.object "java/lang/Integer")), accessFlags := 8, slot := 3, constantValue := 0 }, { name := "$assertionsDisabled", type := .boolean, accessFlags := 4120, slot := 4, constantValue := 0 }]
  methods := #[k17m0]
  instanceTypes := #[]
  staticTypes := #[.int, .int, (.array (.object "java/lang/Integer")), (.array (.object "java/lang/Integer")), .boolean]
  resolved := Array.replicate 100 none
  statics := some 1 }

def pool18 : Array CpInfo := pool [(1, .class_ 2), (0, u "java/lang/Math"), (1, .class_ 6), (1, u "java/lang/Object"), (0, u "<init>"), (0, u "()V"), (89, .class_ 100), (1, u "java/lang/Math$RandomNumberGeneratorHolder"), (71, u "negativeZeroFloatBits"), (0, u "J"), (2, u "negativeZeroDoubleBits"), (21, u "max"), (46, u "$assertionsDisabled"), (0, u "Z"), (88, u "(II)I"), (2, u "twoToTheDoubleScaleDown"), (0, u "D"), (4, u "twoToTheDoubleScaleUp"), (9, u "E"), (3, u "PI"), (2, u "TAU"), (2, u "DEGREES_TO_RADIANS"), (0, u "RADIANS_TO_DEGREES")] 94

def k18m0 : Method := { name := "<init>", desc := "()V", sig := { parameters := [], returnType := none }, accessFlags := 2, code := none }
def k18c1 : Code := { maxStack := 2, maxLocals := 2, code := jdk_29_method_65_code, exceptionTable := #[], attributes := #[] }
def k18m1 : Method := { name := "max", desc := "(II)I", sig := { parameters := [.int, .int], returnType := some .int }, accessFlags := 9, code := some k18c1 }
/-- java/lang/Math -/
def k18 : Class := { plain "java/lang/Math" (some 0) with
  accessFlags := 49
  interfaces := #[]
  cf := some (fileOf pool18 1 #[.nestMembers #[98]] #[{ accessFlags := 2, nameIndex := 7, descriptorIndex := 8, attributes := #[] }, { accessFlags := 9, nameIndex := 198, descriptorIndex := 335, attributes := #[] }] 49 4 #[] #[{ accessFlags := 25, nameIndex := 354, descriptorIndex := 339, attributes := #[] }, { accessFlags := 25, nameIndex := 358, descriptorIndex := 339, attributes := #[] }, { accessFlags := 25, nameIndex := 361, descriptorIndex := 339, attributes := #[] }, { accessFlags := 26, nameIndex := 364, descriptorIndex := 339, attributes := #[] }, { accessFlags := 26, nameIndex := 365, descriptorIndex := 339, attributes := #[] }, { accessFlags := 26, nameIndex := 172, descriptorIndex := 173, attributes := #[] }, { accessFlags := 26, nameIndex := 176, descriptorIndex := 173, attributes := #[] }, { accessFlags := 8, nameIndex := 344, descriptorIndex := 339, attributes := #[] }, { accessFlags := 8, nameIndex := 338, descriptorIndex := 339, attributes := #[] }, { accessFlags := 4120, nameIndex := 245, descriptorIndex := 246, attributes := #[] }])
  fields := #[{ name := "E", type := .double, accessFlags := 25, slot := 0, constantValue := 0 }, { name := "PI", type := .double, accessFlags := 25, slot := 1, constantValue := 0 }, { name := "TAU", type := .double, accessFlags := 25, slot := 2, constantValue := 0 }, { name := "DEGREES_TO_RADIANS", type := .double, accessFlags := 26, slot := 3, constantValue := 0 }, { name := "RADIANS_TO_DEGREES", type := .double, accessFlags := 26, slot := 4, constantValue := 0 }, { name := "negativeZeroFloatBits", type := .long, accessFlags := 26, slot := 5, constantValue := 0 }, { name := "negativeZeroDoubleBits", type := .long, accessFlags := 26, slot := 6, constantValue := 0 }, { name := "twoToTheDoubleScaleUp", type := .double, accessFlags := 8, slot := 7, constantValue := 0 }, { name := "twoToTheDoubleScaleDown", type := .double, accessFlags := 8, slot := 8, constantValue := 0 }, { name := "$assertionsDisabled", type := .boolean, accessFlags := 4120, slot := 9, constantValue := 0 }]
  methods := #[k18m0, k18m1]
  instanceTypes := #[]
  staticTypes := #[.double, .double, .double, .double, .double, .long, .long, .double, .double, .boolean]
  resolved := Array.replicate 460 none
  statics := none }

def pool19 : Array CpInfo := pool [(1, .methodref 2 3), (0, .class_ 4), (0, .nameAndType 5 6), (0, u "java/lang/Object"), (0, u "<init>"), (0, u "()V"), (0, .fieldref 8 9), (0, .class_ 10), (0, .nameAndType 11 12), (0, u "com/example/spikeline/spikeline/core/SeededRandom"), (0, u "state"), (0, u "J"), (0, .long 11400714819323198485), (1, .long 13787848793156543929), (1, .long 10723151780598845931), (10, .methodref 8 29), (0, .nameAndType 30 31), (0, u "nextLong"), (0, u "()J"), (0, .long 4294967295), (1, .long 4294967296), (1, .interfaceMethodref 37 38), (0, .class_ 39), (0, .nameAndType 40 41), (0, u "java/util/List"), (0, u "size"), (0, u "()I"), (0, .methodref 8 43), (0, .nameAndType 44 45), (0, u "nextInt"), (0, u "(I)I"), (0, .methodref 47 48), (0, .class_ 49), (0, .nameAndType 50 51), (0, u "java/util/Collections"), (0, u "swap"), (0, u "(Ljava/util/List;II)V"), (0, u "GAMMA"), (1, u "LOW_32_BITS"), (0, u "(J)V"), (3, u "shuffle"), (0, u "(Ljava/util/List;)V")] 19

def k19c0 : Code := { maxStack := 3, maxLocals := 3, code := prog_8_method_1_code, exceptionTable := #[], attributes := #[] }
def k19m0 : Method := { name := "<init>", desc := "(J)V", sig := { parameters := [.long], returnType := none }, accessFlags := 1, code := some k19c0 }
def k19c1 : Code := { maxStack := 2, maxLocals := 1, code := prog_8_method_2_code, exceptionTable := #[], attributes := #[] }
def k19m1 : Method := { name := "state", desc := "()J", sig := { parameters := [], returnType := some .long }, accessFlags := 1, code := some k19c1 }
def k19c2 : Code := { maxStack := 5, maxLocals := 3, code := prog_8_method_3_code, exceptionTable := #[], attributes := #[] }
def k19m2 : Method := { name := "nextLong", desc := "()J", sig := { parameters := [], returnType := some .long }, accessFlags := 1, code := some k19c2 }
def k19c3 : Code := { maxStack := 4, maxLocals := 6, code := prog_8_method_4_code, exceptionTable := #[], attributes := #[] }
def k19m3 : Method := { name := "nextInt", desc := "(I)I", sig := { parameters := [.int], returnType := some .int }, accessFlags := 1, code := some k19c3 }
def k19c4 : Code := { maxStack := 5, maxLocals := 3, code := prog_8_method_5_code, exceptionTable := #[], attributes := #[] }
def k19m4 : Method := { name := "shuffle", desc := "(Ljava/util/List;)V", sig := { parameters := [(.object "java/util/List")], returnType := none }, accessFlags := 1, code := some k19c4 }
/-- com/example/spikeline/spikeline/core/SeededRandom -/
def k19 : Class := { plain "com/example/spikeline/spikeline/core/SeededRandom" (some 0) with
  accessFlags := 49
  interfaces := #[]
  cf := some (fileOf pool19 8 #[] #[{ accessFlags := 1, nameIndex := 5, descriptorIndex := 55, attributes := #[] }, { accessFlags := 1, nameIndex := 11, descriptorIndex := 31, attributes := #[] }, { accessFlags := 1, nameIndex := 30, descriptorIndex := 31, attributes := #[] }, { accessFlags := 1, nameIndex := 44, descriptorIndex := 45, attributes := #[] }, { accessFlags := 1, nameIndex := 59, descriptorIndex := 60, attributes := #[] }] 49 2 #[] #[{ accessFlags := 26, nameIndex := 52, descriptorIndex := 12, attributes := #[] }, { accessFlags := 26, nameIndex := 54, descriptorIndex := 12, attributes := #[] }, { accessFlags := 2, nameIndex := 11, descriptorIndex := 12, attributes := #[] }])
  fields := #[{ name := "GAMMA", type := .long, accessFlags := 26, slot := 0, constantValue := 0 }, { name := "LOW_32_BITS", type := .long, accessFlags := 26, slot := 1, constantValue := 0 }, { name := "state", type := .long, accessFlags := 2, slot := 0, constantValue := 0 }]
  methods := #[k19m0, k19m1, k19m2, k19m3, k19m4]
  instanceTypes := #[.long]
  staticTypes := #[.long, .long]
  resolved := Array.replicate 80 none
  statics := none }

def pool20 : Array CpInfo := pool [(2, .class_ 4), (1, u "java/lang/Object"), (0, u "<init>"), (0, u "()V"), (1, .class_ 10), (1, u "java/util/List"), (8, .class_ 20), (0, u "java/util/Collections"), (7, .interfaceMethodref 8 29), (0, .nameAndType 30 31), (0, u "get"), (0, u "(I)Ljava/lang/Object;"), (41, u "swap"), (0, u "(Ljava/util/List;II)V"), (5, u "set"), (3, u "r"), (0, u "Ljava/util/Random;"), (23, .interfaceMethodref 8 110), (0, .nameAndType 80 111), (0, u "(ILjava/lang/Object;)Ljava/lang/Object;"), (54, .class_ 167), (0, u "java/util/Collections$UnmodifiableCollection"), (6, .class_ 175), (0, u "java/util/Collections$UnmodifiableSequencedCollection"), (6, .class_ 183), (0, u "java/util/Collections$UnmodifiableSet"), (6, .class_ 191), (0, u "java/util/Collections$UnmodifiableSequencedSet"), (6, .class_ 199), (0, u "java/util/Collections$UnmodifiableSortedSet"), (6, .class_ 207), (0, u "java/util/Collections$UnmodifiableNavigableSet"), (4, .class_ 213), (0, u "java/util/Collections$UnmodifiableList"), (1, .class_ 216), (0, u "java/util/Collections$UnmodifiableRandomAccessList"), (6, .class_ 224), (0, u "java/util/Collections$UnmodifiableMap"), (6, .class_ 232), (0, u "java/util/Collections$UnmodifiableSequencedMap"), (4, .class_ 238), (0, u "java/util/Collections$UnmodifiableSortedMap"), (6, .class_ 246), (0, u "java/util/Collections$UnmodifiableNavigableMap"), (3, .class_ 251), (0, u "java/util/Collections$SynchronizedCollection"), (4, .class_ 257), (0, u "java/util/Collections$SynchronizedSet"), (4, .class_ 263), (0, u "java/util/Collections$SynchronizedSortedSet"), (1, .class_ 266), (0, u "java/util/Collections$SynchronizedNavigableSet"), (1, .class_ 269), (0, u "java/util/Collections$SynchronizedRandomAccessList"), (1, .class_ 272), (0, u "java/util/Collections$SynchronizedList"), (5, .class_ 279), (0, u "java/util/Collections$SynchronizedMap"), (1, .class_ 282), (0, u "java/util/Collections$SynchronizedSortedMap"), (1, .class_ 285), (0, u "java/util/Collections$SynchronizedNavigableMap"), (1, .class_ 288), (0, u "java/util/Collections$CheckedCollection"), (11, .class_ 301), (0, u "java/util/Collections$CheckedQueue"), (3, .class_ 306), (0, u "java/util/Collections$CheckedSet"), (3, .class_ 311), (0, u "java/util/Collections$CheckedSortedSet"), (3, .class_ 316), (0, u "java/util/Collections$CheckedNavigableSet"), (3, .class_ 321), (0, u "java/util/Collections$CheckedRandomAccessList"), (3, .class_ 326), (0, u "java/util/Collections$CheckedList"), (1, .class_ 329), (0, u "java/util/Collections$CheckedMap"), (3, .class_ 334), (0, u "java/util/Collections$CheckedSortedMap"), (3, .class_ 339), (0, u "java/util/Collections$CheckedNavigableMap"), (4, .class_ 346), (1, u "java/util/Collections$EmptyIterator"), (3, .class_ 352), (1, u "java/util/Collections$EmptyListIterator"), (2, .class_ 357), (1, u "java/util/Collections$EmptyEnumeration"), (4, u "EMPTY_SET"), (0, u "Ljava/util/Set;"), (6, u "EMPTY_LIST"), (0, u "Ljava/util/List;"), (2, u "EMPTY_MAP"), (0, u "Ljava/util/Map;"), (4, .class_ 381), (0, u "java/util/Collections$SingletonSet"), (2, .class_ 385), (0, u "java/util/Collections$1"), (1, .class_ 388), (0, u "java/util/Collections$2"), (1, .class_ 391), (0, u "java/util/Collections$SingletonList"), (1, .class_ 394), (0, u "java/util/Collections$SingletonMap"), (22, .class_ 418), (0, u "java/util/Collections$CopiesList"), (4, .class_ 425), (1, u "java/util/Collections$ReverseComparator"), (8, .class_ 435), (0, u "java/util/Collections$ReverseComparator2"), (6, .class_ 443), (0, u "java/util/Collections$3"), (25, .class_ 470), (0, u "java/util/Collections$SetFromMap"), (2, .class_ 474), (0, u "java/util/Collections$SequencedSetFromMap"), (3, .class_ 479), (0, u "java/util/Collections$AsLIFOQueue"), (11, .class_ 492), (0, u "java/util/Collections$EmptySet"), (1, .class_ 495), (0, u "java/util/Collections$EmptyList"), (1, .class_ 498), (0, u "java/util/Collections$EmptyMap"), (1, u "BINARYSEARCH_THRESHOLD"), (0, u "I"), (2, u "REVERSE_THRESHOLD"), (1, u "SHUFFLE_THRESHOLD"), (1, u "FILL_THRESHOLD"), (1, u "ROTATE_THRESHOLD"), (1, u "COPY_THRESHOLD"), (1, u "REPLACEALL_THRESHOLD"), (1, u "INDEXOFSUBLIST_THRESHOLD"), (333, .class_ 851), (0, u "java/util/Collections$CheckedMap$CheckedEntrySet"), (0, .class_ 853), (0, u "java/util/Collections$CheckedMap$CheckedEntrySet$CheckedEntry"), (0, .class_ 855), (0, u "java/util/Collections$CheckedMap$CheckedEntrySet$1"), (0, .class_ 857), (0, u "java/util/Collections$CheckedList$1"), (0, .class_ 859), (0, u "java/util/Collections$CheckedCollection$1"), (0, .class_ 861), (0, u "java/util/Collections$UnmodifiableNavigableMap$EmptyNavigableMap"), (0, .class_ 863), (0, u "java/util/Collections$UnmodifiableMap$UnmodifiableEntrySet"), (0, .class_ 865), (0, u "java/util/Collections$UnmodifiableMap$UnmodifiableEntrySet$UnmodifiableEntry"), (0, .class_ 867), (0, u "java/util/Collections$UnmodifiableMap$UnmodifiableEntrySet$UnmodifiableEntrySetSpliterator"), (0, .class_ 869), (0, u "java/util/Collections$UnmodifiableMap$UnmodifiableEntrySet$1"), (0, .class_ 871), (0, u "java/util/Collections$UnmodifiableList$1"), (0, .class_ 873), (0, u "java/util/Collections$UnmodifiableNavigableSet$EmptyNavigableSet"), (0, .class_ 875), (0, u "java/util/Collections$UnmodifiableCollection$1")] 57

def k20m0 : Method := { name := "<init>", desc := "()V", sig := { parameters := [], returnType := none }, accessFlags := 2, code := none }
def k20c1 : Code := { maxStack := 6, maxLocals := 4, code := jdk_79_method_15_code, exceptionTable := #[], attributes := #[] }
def k20m1 : Method := { name := "swap", desc := "(Ljava/util/List;II)V", sig := { parameters := [(.object "java/util/List"), .int, .int], returnType := none }, accessFlags := 9, code := some k20c1 }
/-- java/util/Collections -/
def k20 : Class := { plain "java/util/Collections" (some 0) with
  accessFlags := 33
  interfaces := #[]
  cf := some (fileOf pool20 19 #[.nestMembers #[478, 473, 469, 434, 423, 417, 393, 390, 380, 497, 494, 491, 355, 350, 344, 338, 333, 328, 850, 852, 854, 320, 325, 856, 315, 310, 305, 300, 287, 858, 284, 281, 278, 268, 271, 265, 262, 256, 250, 245, 860, 237, 231, 223, 862, 864, 866, 868, 215, 212, 870, 206, 872, 198, 190, 182, 174, 166, 874, 442, 387, 384]] #[{ accessFlags := 2, nameIndex := 5, descriptorIndex := 6, attributes := #[] }, { accessFlags := 9, nameIndex := 73, descriptorIndex := 74, attributes := #[] }] 33 2 #[] #[{ accessFlags := 26, nameIndex := 500, descriptorIndex := 501, attributes := #[] }, { accessFlags := 26, nameIndex := 504, descriptorIndex := 501, attributes := #[] }, { accessFlags := 26, nameIndex := 506, descriptorIndex := 501, attributes := #[] }, { accessFlags := 26, nameIndex := 508, descriptorIndex := 501, attributes := #[] }, { accessFlags := 26, nameIndex := 510, descriptorIndex := 501, attributes := #[] }, { accessFlags := 26, nameIndex := 512, descriptorIndex := 501, attributes := #[] }, { accessFlags := 26, nameIndex := 514, descriptorIndex := 501, attributes := #[] }, { accessFlags := 26, nameIndex := 516, descriptorIndex := 501, attributes := #[] }, { accessFlags := 10, nameIndex := 84, descriptorIndex := 85, attributes := #[] }, { accessFlags := 25, nameIndex := 362, descriptorIndex := 363, attributes := #[] }, { accessFlags := 25, nameIndex := 370, descriptorIndex := 371, attributes := #[] }, { accessFlags := 25, nameIndex := 374, descriptorIndex := 375, attributes := #[] }])
  fields := #[{ name := "BINARYSEARCH_THRESHOLD", type := .int, accessFlags := 26, slot := 0, constantValue := 0 }, { name := "REVERSE_THRESHOLD", type := .int, accessFlags := 26, slot := 1, constantValue := 0 }, { name := "SHUFFLE_THRESHOLD", type := .int, accessFlags := 26, slot := 2, constantValue := 0 }, { name := "FILL_THRESHOLD", type := .int, accessFlags := 26, slot := 3, constantValue := 0 }, { name := "ROTATE_THRESHOLD", type := .int, accessFlags := 26, slot := 4, constantValue := 0 }, { name := "COPY_THRESHOLD", type := .int, accessFlags := 26, slot := 5, constantValue := 0 }, { name := "REPLACEALL_THRESHOLD", type := .int, accessFlags := 26, slot := 6, constantValue := 0 }, { name := "INDEXOFSUBLIST_THRESHOLD", type := .int, accessFlags := 26, slot := 7, constantValue := 0 }, { name := "r", type := (.object "java/util/Random"), accessFlags := 10, slot := 8, constantValue := 0 }, { name := "EMPTY_SET", type := (.object "java/util/Set"), accessFlags := 25, slot := 9, constantValue := 0 }, { name := "EMPTY_LIST", type := (.object "java/util/List"), accessFlags := 25, slot := 10, constantValue := 0 }, { name := "EMPTY_MAP", type := (.object "java/util/Map"), accessFlags := 25, slot := 11, constantValue := 0 }]
  methods := #[k20m0, k20m1]
  instanceTypes := #[]
  staticTypes := #[.int, .int, .int, .int, .int, .int, .int, .int, (.object "java/util/Random"), (.object "java/util/Set"), (.object "java/util/List"), (.object "java/util/Map")]
  resolved := Array.replicate 933 none
  statics := none }

def pool21 : Array CpInfo := pool [(2, .class_ 4), (1, u "java/lang/Object"), (0, u "<init>"), (0, u "()V"), (35, .class_ 44), (1, u "java/util/Objects"), (60, .methodref 106 107), (0, .class_ 108), (0, .nameAndType 109 110), (0, u "jdk/internal/util/Preconditions"), (0, u "checkIndex"), (0, u "(IILjava/util/function/BiFunction;)I"), (60, u "(II)I")] 12

def k21m0 : Method := { name := "<init>", desc := "()V", sig := { parameters := [], returnType := none }, accessFlags := 2, code := none }
def k21c1 : Code := { maxStack := 3, maxLocals := 2, code := jdk_31_method_17_code, exceptionTable := #[], attributes := #[] }
def k21m1 : Method := { name := "checkIndex", desc := "(II)I", sig := { parameters := [.int, .int], returnType := some .int }, accessFlags := 9, code := some k21c1 }
/-- java/util/Objects -/
def k21 : Class := { plain "java/util/Objects" (some 0) with
  accessFlags := 49
  interfaces := #[]
  cf := some (fileOf pool21 42 #[] #[{ accessFlags := 2, nameIndex := 5, descriptorIndex := 6, attributes := #[] }, { accessFlags := 9, nameIndex := 109, descriptorIndex := 171, attributes := #[] }] 49 2 #[] #[])
  fields := #[]
  methods := #[k21m0, k21m1]
  instanceTypes := #[]
  staticTypes := #[]
  resolved := Array.replicate 184 none
  statics := none }

def pool22 : Array CpInfo := pool [(2, .class_ 4), (1, u "java/lang/Object"), (0, u "<init>"), (0, u "()V"), (17, .class_ 26), (1, u "jdk/internal/util/Preconditions"), (6, u "checkIndex"), (21, .class_ 56), (0, u "jdk/internal/util/Preconditions$4"), (57, .class_ 115), (0, u "jdk/internal/util/Preconditions$1"), (7, u "SIOOBE_FORMATTER"), (0, u "Ljava/util/function/BiFunction;"), (0, .class_ 126), (0, u "jdk/internal/util/Preconditions$2"), (3, u "AIOOBE_FORMATTER"), (0, .class_ 132), (0, u "jdk/internal/util/Preconditions$3"), (3, u "IOOBE_FORMATTER"), (41, u "(IILjava/util/function/BiFunction;)I")] 15

def k22m0 : Method := { name := "<init>", desc := "()V", sig := { parameters := [], returnType := none }, accessFlags := 1, code := none }
def k22c1 : Code := { maxStack := 3, maxLocals := 3, code := jdk_41_method_11_code, exceptionTable := #[], attributes := #[] }
def k22m1 : Method := { name := "checkIndex", desc := "(IILjava/util/function/BiFunction;)I", sig := { parameters := [.int, .int, (.object "java/util/function/BiFunction")], returnType := some .int }, accessFlags := 9, code := some k22c1 }
/-- jdk/internal/util/Preconditions -/
def k22 : Class := { plain "jdk/internal/util/Preconditions" (some 0) with
  accessFlags := 33
  interfaces := #[]
  cf := some (fileOf pool22 24 #[.nestMembers #[55, 131, 125, 114]] #[{ accessFlags := 1, nameIndex := 5, descriptorIndex := 6, attributes := #[] }, { accessFlags := 9, nameIndex := 33, descriptorIndex := 178, attributes := #[] }] 33 2 #[] #[{ accessFlags := 25, nameIndex := 123, descriptorIndex := 124, attributes := #[] }, { accessFlags := 25, nameIndex := 130, descriptorIndex := 124, attributes := #[] }, { accessFlags := 25, nameIndex := 136, descriptorIndex := 124, attributes := #[] }])
  fields := #[{ name := "SIOOBE_FORMATTER", type := (.object "java/util/function/BiFunction"), accessFlags := 25, slot := 0, constantValue := 0 }, { name := "AIOOBE_FORMATTER", type := (.object "java/util/function/BiFunction"), accessFlags := 25, slot := 1, constantValue := 0 }, { name := "IOOBE_FORMATTER", type := (.object "java/util/function/BiFunction"), accessFlags := 25, slot := 2, constantValue := 0 }]
  methods := #[k22m0, k22m1]
  instanceTypes := #[]
  staticTypes := #[(.object "java/util/function/BiFunction"), (.object "java/util/function/BiFunction"), (.object "java/util/function/BiFunction")]
  resolved := Array.replicate 194 none
  statics := none }

/-- the primitive byte -/
def k23 : Class := { plain "byte" none with kind := .primitive 'B', accessFlags := 0x411 }
/-- [B -/
def k24 : Class := { plain "[B" (some 0) with kind := .array 23 .byte, interfaces := #[9, 10], accessFlags := 1041 }

/-- the primitive int -/
def k25 : Class := { plain "int" none with kind := .primitive 'I', accessFlags := 0x411 }
/-- [I -/
def k26 : Class := { plain "[I" (some 0) with kind := .array 25 .int, interfaces := #[9, 10], accessFlags := 1041 }

/-- [Ljava/lang/Integer; -/
def k27 : Class := { plain "[Ljava/lang/Integer;" (some 0) with kind := .array 16 (.object "java/lang/Integer"), interfaces := #[9, 10], accessFlags := 1041 }

/-- [Ljava/lang/Object; -/
def k28 : Class := { plain "[Ljava/lang/Object;" (some 0) with kind := .array 0 (.object "java/lang/Object"), interfaces := #[9, 10], accessFlags := 1041 }

def heap : Heap := #[{ cls := 11, slots := #[.long 0, .int 0, .ref 259, .ref 260], vm := .statics 11 },
  { cls := 17, slots := #[.int 0, .int 127, .ref 2, .null, .int 0], vm := .statics 17 },
  { cls := 27, slots := #[.ref 3, .ref 4, .ref 5, .ref 6, .ref 7, .ref 8, .ref 9, .ref 10, .ref 11, .ref 12, .ref 13, .ref 14, .ref 15, .ref 16, .ref 17, .ref 18, .ref 19, .ref 20, .ref 21, .ref 22, .ref 23, .ref 24, .ref 25, .ref 26, .ref 27, .ref 28, .ref 29, .ref 30, .ref 31, .ref 32, .ref 33, .ref 34, .ref 35, .ref 36, .ref 37, .ref 38, .ref 39, .ref 40, .ref 41, .ref 42, .ref 43, .ref 44, .ref 45, .ref 46, .ref 47, .ref 48, .ref 49, .ref 50, .ref 51, .ref 52, .ref 53, .ref 54, .ref 55, .ref 56, .ref 57, .ref 58, .ref 59, .ref 60, .ref 61, .ref 62, .ref 63, .ref 64, .ref 65, .ref 66, .ref 67, .ref 68, .ref 69, .ref 70, .ref 71, .ref 72, .ref 73, .ref 74, .ref 75, .ref 76, .ref 77, .ref 78, .ref 79, .ref 80, .ref 81, .ref 82, .ref 83, .ref 84, .ref 85, .ref 86, .ref 87, .ref 88, .ref 89, .ref 90, .ref 91, .ref 92, .ref 93, .ref 94, .ref 95, .ref 96, .ref 97, .ref 98, .ref 99, .ref 100, .ref 101, .ref 102, .ref 103, .ref 104, .ref 105, .ref 106, .ref 107, .ref 108, .ref 109, .ref 110, .ref 111, .ref 112, .ref 113, .ref 114, .ref 115, .ref 116, .ref 117, .ref 118, .ref 119, .ref 120, .ref 121, .ref 122, .ref 123, .ref 124, .ref 125, .ref 126, .ref 127, .ref 128, .ref 129, .ref 130, .ref 131, .ref 132, .ref 133, .ref 134, .ref 135, .ref 136, .ref 137, .ref 138, .ref 139, .ref 140, .ref 141, .ref 142, .ref 143, .ref 144, .ref 145, .ref 146, .ref 147, .ref 148, .ref 149, .ref 150, .ref 151, .ref 152, .ref 153, .ref 154, .ref 155, .ref 156, .ref 157, .ref 158, .ref 159, .ref 160, .ref 161, .ref 162, .ref 163, .ref 164, .ref 165, .ref 166, .ref 167, .ref 168, .ref 169, .ref 170, .ref 171, .ref 172, .ref 173, .ref 174, .ref 175, .ref 176, .ref 177, .ref 178, .ref 179, .ref 180, .ref 181, .ref 182, .ref 183, .ref 184, .ref 185, .ref 186, .ref 187, .ref 188, .ref 189, .ref 190, .ref 191, .ref 192, .ref 193, .ref 194, .ref 195, .ref 196, .ref 197, .ref 198, .ref 199, .ref 200, .ref 201, .ref 202, .ref 203, .ref 204, .ref 205, .ref 206, .ref 207, .ref 208, .ref 209, .ref 210, .ref 211, .ref 212, .ref 213, .ref 214, .ref 215, .ref 216, .ref 217, .ref 218, .ref 219, .ref 220, .ref 221, .ref 222, .ref 223, .ref 224, .ref 225, .ref 226, .ref 227, .ref 228, .ref 229, .ref 230, .ref 231, .ref 232, .ref 233, .ref 234, .ref 235, .ref 236, .ref 237, .ref 238, .ref 239, .ref 240, .ref 241, .ref 242, .ref 243, .ref 244, .ref 245, .ref 246, .ref 247, .ref 248, .ref 249, .ref 250, .ref 251, .ref 252, .ref 253, .ref 254, .ref 255, .ref 256, .ref 257, .ref 258], vm := .none },
  { cls := 16, slots := #[.int (-128)], vm := .none },
  { cls := 16, slots := #[.int (-127)], vm := .none },
  { cls := 16, slots := #[.int (-126)], vm := .none },
  { cls := 16, slots := #[.int (-125)], vm := .none },
  { cls := 16, slots := #[.int (-124)], vm := .none },
  { cls := 16, slots := #[.int (-123)], vm := .none },
  { cls := 16, slots := #[.int (-122)], vm := .none },
  { cls := 16, slots := #[.int (-121)], vm := .none },
  { cls := 16, slots := #[.int (-120)], vm := .none },
  { cls := 16, slots := #[.int (-119)], vm := .none },
  { cls := 16, slots := #[.int (-118)], vm := .none },
  { cls := 16, slots := #[.int (-117)], vm := .none },
  { cls := 16, slots := #[.int (-116)], vm := .none },
  { cls := 16, slots := #[.int (-115)], vm := .none },
  { cls := 16, slots := #[.int (-114)], vm := .none },
  { cls := 16, slots := #[.int (-113)], vm := .none },
  { cls := 16, slots := #[.int (-112)], vm := .none },
  { cls := 16, slots := #[.int (-111)], vm := .none },
  { cls := 16, slots := #[.int (-110)], vm := .none },
  { cls := 16, slots := #[.int (-109)], vm := .none },
  { cls := 16, slots := #[.int (-108)], vm := .none },
  { cls := 16, slots := #[.int (-107)], vm := .none },
  { cls := 16, slots := #[.int (-106)], vm := .none },
  { cls := 16, slots := #[.int (-105)], vm := .none },
  { cls := 16, slots := #[.int (-104)], vm := .none },
  { cls := 16, slots := #[.int (-103)], vm := .none },
  { cls := 16, slots := #[.int (-102)], vm := .none },
  { cls := 16, slots := #[.int (-101)], vm := .none },
  { cls := 16, slots := #[.int (-100)], vm := .none },
  { cls := 16, slots := #[.int (-99)], vm := .none },
  { cls := 16, slots := #[.int (-98)], vm := .none },
  { cls := 16, slots := #[.int (-97)], vm := .none },
  { cls := 16, slots := #[.int (-96)], vm := .none },
  { cls := 16, slots := #[.int (-95)], vm := .none },
  { cls := 16, slots := #[.int (-94)], vm := .none },
  { cls := 16, slots := #[.int (-93)], vm := .none },
  { cls := 16, slots := #[.int (-92)], vm := .none },
  { cls := 16, slots := #[.int (-91)], vm := .none },
  { cls := 16, slots := #[.int (-90)], vm := .none },
  { cls := 16, slots := #[.int (-89)], vm := .none },
  { cls := 16, slots := #[.int (-88)], vm := .none },
  { cls := 16, slots := #[.int (-87)], vm := .none },
  { cls := 16, slots := #[.int (-86)], vm := .none },
  { cls := 16, slots := #[.int (-85)], vm := .none },
  { cls := 16, slots := #[.int (-84)], vm := .none },
  { cls := 16, slots := #[.int (-83)], vm := .none },
  { cls := 16, slots := #[.int (-82)], vm := .none },
  { cls := 16, slots := #[.int (-81)], vm := .none },
  { cls := 16, slots := #[.int (-80)], vm := .none },
  { cls := 16, slots := #[.int (-79)], vm := .none },
  { cls := 16, slots := #[.int (-78)], vm := .none },
  { cls := 16, slots := #[.int (-77)], vm := .none },
  { cls := 16, slots := #[.int (-76)], vm := .none },
  { cls := 16, slots := #[.int (-75)], vm := .none },
  { cls := 16, slots := #[.int (-74)], vm := .none },
  { cls := 16, slots := #[.int (-73)], vm := .none },
  { cls := 16, slots := #[.int (-72)], vm := .none },
  { cls := 16, slots := #[.int (-71)], vm := .none },
  { cls := 16, slots := #[.int (-70)], vm := .none },
  { cls := 16, slots := #[.int (-69)], vm := .none },
  { cls := 16, slots := #[.int (-68)], vm := .none },
  { cls := 16, slots := #[.int (-67)], vm := .none },
  { cls := 16, slots := #[.int (-66)], vm := .none },
  { cls := 16, slots := #[.int (-65)], vm := .none },
  { cls := 16, slots := #[.int (-64)], vm := .none },
  { cls := 16, slots := #[.int (-63)], vm := .none },
  { cls := 16, slots := #[.int (-62)], vm := .none },
  { cls := 16, slots := #[.int (-61)], vm := .none },
  { cls := 16, slots := #[.int (-60)], vm := .none },
  { cls := 16, slots := #[.int (-59)], vm := .none },
  { cls := 16, slots := #[.int (-58)], vm := .none },
  { cls := 16, slots := #[.int (-57)], vm := .none },
  { cls := 16, slots := #[.int (-56)], vm := .none },
  { cls := 16, slots := #[.int (-55)], vm := .none },
  { cls := 16, slots := #[.int (-54)], vm := .none },
  { cls := 16, slots := #[.int (-53)], vm := .none },
  { cls := 16, slots := #[.int (-52)], vm := .none },
  { cls := 16, slots := #[.int (-51)], vm := .none },
  { cls := 16, slots := #[.int (-50)], vm := .none },
  { cls := 16, slots := #[.int (-49)], vm := .none },
  { cls := 16, slots := #[.int (-48)], vm := .none },
  { cls := 16, slots := #[.int (-47)], vm := .none },
  { cls := 16, slots := #[.int (-46)], vm := .none },
  { cls := 16, slots := #[.int (-45)], vm := .none },
  { cls := 16, slots := #[.int (-44)], vm := .none },
  { cls := 16, slots := #[.int (-43)], vm := .none },
  { cls := 16, slots := #[.int (-42)], vm := .none },
  { cls := 16, slots := #[.int (-41)], vm := .none },
  { cls := 16, slots := #[.int (-40)], vm := .none },
  { cls := 16, slots := #[.int (-39)], vm := .none },
  { cls := 16, slots := #[.int (-38)], vm := .none },
  { cls := 16, slots := #[.int (-37)], vm := .none },
  { cls := 16, slots := #[.int (-36)], vm := .none },
  { cls := 16, slots := #[.int (-35)], vm := .none },
  { cls := 16, slots := #[.int (-34)], vm := .none },
  { cls := 16, slots := #[.int (-33)], vm := .none },
  { cls := 16, slots := #[.int (-32)], vm := .none },
  { cls := 16, slots := #[.int (-31)], vm := .none },
  { cls := 16, slots := #[.int (-30)], vm := .none },
  { cls := 16, slots := #[.int (-29)], vm := .none },
  { cls := 16, slots := #[.int (-28)], vm := .none },
  { cls := 16, slots := #[.int (-27)], vm := .none },
  { cls := 16, slots := #[.int (-26)], vm := .none },
  { cls := 16, slots := #[.int (-25)], vm := .none },
  { cls := 16, slots := #[.int (-24)], vm := .none },
  { cls := 16, slots := #[.int (-23)], vm := .none },
  { cls := 16, slots := #[.int (-22)], vm := .none },
  { cls := 16, slots := #[.int (-21)], vm := .none },
  { cls := 16, slots := #[.int (-20)], vm := .none },
  { cls := 16, slots := #[.int (-19)], vm := .none },
  { cls := 16, slots := #[.int (-18)], vm := .none },
  { cls := 16, slots := #[.int (-17)], vm := .none },
  { cls := 16, slots := #[.int (-16)], vm := .none },
  { cls := 16, slots := #[.int (-15)], vm := .none },
  { cls := 16, slots := #[.int (-14)], vm := .none },
  { cls := 16, slots := #[.int (-13)], vm := .none },
  { cls := 16, slots := #[.int (-12)], vm := .none },
  { cls := 16, slots := #[.int (-11)], vm := .none },
  { cls := 16, slots := #[.int (-10)], vm := .none },
  { cls := 16, slots := #[.int (-9)], vm := .none },
  { cls := 16, slots := #[.int (-8)], vm := .none },
  { cls := 16, slots := #[.int (-7)], vm := .none },
  { cls := 16, slots := #[.int (-6)], vm := .none },
  { cls := 16, slots := #[.int (-5)], vm := .none },
  { cls := 16, slots := #[.int (-4)], vm := .none },
  { cls := 16, slots := #[.int (-3)], vm := .none },
  { cls := 16, slots := #[.int (-2)], vm := .none },
  { cls := 16, slots := #[.int (-1)], vm := .none },
  { cls := 16, slots := #[.int 0], vm := .none },
  { cls := 16, slots := #[.int 1], vm := .none },
  { cls := 16, slots := #[.int 2], vm := .none },
  { cls := 16, slots := #[.int 3], vm := .none },
  { cls := 16, slots := #[.int 4], vm := .none },
  { cls := 16, slots := #[.int 5], vm := .none },
  { cls := 16, slots := #[.int 6], vm := .none },
  { cls := 16, slots := #[.int 7], vm := .none },
  { cls := 16, slots := #[.int 8], vm := .none },
  { cls := 16, slots := #[.int 9], vm := .none },
  { cls := 16, slots := #[.int 10], vm := .none },
  { cls := 16, slots := #[.int 11], vm := .none },
  { cls := 16, slots := #[.int 12], vm := .none },
  { cls := 16, slots := #[.int 13], vm := .none },
  { cls := 16, slots := #[.int 14], vm := .none },
  { cls := 16, slots := #[.int 15], vm := .none },
  { cls := 16, slots := #[.int 16], vm := .none },
  { cls := 16, slots := #[.int 17], vm := .none },
  { cls := 16, slots := #[.int 18], vm := .none },
  { cls := 16, slots := #[.int 19], vm := .none },
  { cls := 16, slots := #[.int 20], vm := .none },
  { cls := 16, slots := #[.int 21], vm := .none },
  { cls := 16, slots := #[.int 22], vm := .none },
  { cls := 16, slots := #[.int 23], vm := .none },
  { cls := 16, slots := #[.int 24], vm := .none },
  { cls := 16, slots := #[.int 25], vm := .none },
  { cls := 16, slots := #[.int 26], vm := .none },
  { cls := 16, slots := #[.int 27], vm := .none },
  { cls := 16, slots := #[.int 28], vm := .none },
  { cls := 16, slots := #[.int 29], vm := .none },
  { cls := 16, slots := #[.int 30], vm := .none },
  { cls := 16, slots := #[.int 31], vm := .none },
  { cls := 16, slots := #[.int 32], vm := .none },
  { cls := 16, slots := #[.int 33], vm := .none },
  { cls := 16, slots := #[.int 34], vm := .none },
  { cls := 16, slots := #[.int 35], vm := .none },
  { cls := 16, slots := #[.int 36], vm := .none },
  { cls := 16, slots := #[.int 37], vm := .none },
  { cls := 16, slots := #[.int 38], vm := .none },
  { cls := 16, slots := #[.int 39], vm := .none },
  { cls := 16, slots := #[.int 40], vm := .none },
  { cls := 16, slots := #[.int 41], vm := .none },
  { cls := 16, slots := #[.int 42], vm := .none },
  { cls := 16, slots := #[.int 43], vm := .none },
  { cls := 16, slots := #[.int 44], vm := .none },
  { cls := 16, slots := #[.int 45], vm := .none },
  { cls := 16, slots := #[.int 46], vm := .none },
  { cls := 16, slots := #[.int 47], vm := .none },
  { cls := 16, slots := #[.int 48], vm := .none },
  { cls := 16, slots := #[.int 49], vm := .none },
  { cls := 16, slots := #[.int 50], vm := .none },
  { cls := 16, slots := #[.int 51], vm := .none },
  { cls := 16, slots := #[.int 52], vm := .none },
  { cls := 16, slots := #[.int 53], vm := .none },
  { cls := 16, slots := #[.int 54], vm := .none },
  { cls := 16, slots := #[.int 55], vm := .none },
  { cls := 16, slots := #[.int 56], vm := .none },
  { cls := 16, slots := #[.int 57], vm := .none },
  { cls := 16, slots := #[.int 58], vm := .none },
  { cls := 16, slots := #[.int 59], vm := .none },
  { cls := 16, slots := #[.int 60], vm := .none },
  { cls := 16, slots := #[.int 61], vm := .none },
  { cls := 16, slots := #[.int 62], vm := .none },
  { cls := 16, slots := #[.int 63], vm := .none },
  { cls := 16, slots := #[.int 64], vm := .none },
  { cls := 16, slots := #[.int 65], vm := .none },
  { cls := 16, slots := #[.int 66], vm := .none },
  { cls := 16, slots := #[.int 67], vm := .none },
  { cls := 16, slots := #[.int 68], vm := .none },
  { cls := 16, slots := #[.int 69], vm := .none },
  { cls := 16, slots := #[.int 70], vm := .none },
  { cls := 16, slots := #[.int 71], vm := .none },
  { cls := 16, slots := #[.int 72], vm := .none },
  { cls := 16, slots := #[.int 73], vm := .none },
  { cls := 16, slots := #[.int 74], vm := .none },
  { cls := 16, slots := #[.int 75], vm := .none },
  { cls := 16, slots := #[.int 76], vm := .none },
  { cls := 16, slots := #[.int 77], vm := .none },
  { cls := 16, slots := #[.int 78], vm := .none },
  { cls := 16, slots := #[.int 79], vm := .none },
  { cls := 16, slots := #[.int 80], vm := .none },
  { cls := 16, slots := #[.int 81], vm := .none },
  { cls := 16, slots := #[.int 82], vm := .none },
  { cls := 16, slots := #[.int 83], vm := .none },
  { cls := 16, slots := #[.int 84], vm := .none },
  { cls := 16, slots := #[.int 85], vm := .none },
  { cls := 16, slots := #[.int 86], vm := .none },
  { cls := 16, slots := #[.int 87], vm := .none },
  { cls := 16, slots := #[.int 88], vm := .none },
  { cls := 16, slots := #[.int 89], vm := .none },
  { cls := 16, slots := #[.int 90], vm := .none },
  { cls := 16, slots := #[.int 91], vm := .none },
  { cls := 16, slots := #[.int 92], vm := .none },
  { cls := 16, slots := #[.int 93], vm := .none },
  { cls := 16, slots := #[.int 94], vm := .none },
  { cls := 16, slots := #[.int 95], vm := .none },
  { cls := 16, slots := #[.int 96], vm := .none },
  { cls := 16, slots := #[.int 97], vm := .none },
  { cls := 16, slots := #[.int 98], vm := .none },
  { cls := 16, slots := #[.int 99], vm := .none },
  { cls := 16, slots := #[.int 100], vm := .none },
  { cls := 16, slots := #[.int 101], vm := .none },
  { cls := 16, slots := #[.int 102], vm := .none },
  { cls := 16, slots := #[.int 103], vm := .none },
  { cls := 16, slots := #[.int 104], vm := .none },
  { cls := 16, slots := #[.int 105], vm := .none },
  { cls := 16, slots := #[.int 106], vm := .none },
  { cls := 16, slots := #[.int 107], vm := .none },
  { cls := 16, slots := #[.int 108], vm := .none },
  { cls := 16, slots := #[.int 109], vm := .none },
  { cls := 16, slots := #[.int 110], vm := .none },
  { cls := 16, slots := #[.int 111], vm := .none },
  { cls := 16, slots := #[.int 112], vm := .none },
  { cls := 16, slots := #[.int 113], vm := .none },
  { cls := 16, slots := #[.int 114], vm := .none },
  { cls := 16, slots := #[.int 115], vm := .none },
  { cls := 16, slots := #[.int 116], vm := .none },
  { cls := 16, slots := #[.int 117], vm := .none },
  { cls := 16, slots := #[.int 118], vm := .none },
  { cls := 16, slots := #[.int 119], vm := .none },
  { cls := 16, slots := #[.int 120], vm := .none },
  { cls := 16, slots := #[.int 121], vm := .none },
  { cls := 16, slots := #[.int 122], vm := .none },
  { cls := 16, slots := #[.int 123], vm := .none },
  { cls := 16, slots := #[.int 124], vm := .none },
  { cls := 16, slots := #[.int 125], vm := .none },
  { cls := 16, slots := #[.int 126], vm := .none },
  { cls := 16, slots := #[.int 127], vm := .none },
  { cls := 28, slots := #[], vm := .none },
  { cls := 28, slots := #[], vm := .none }]
def classes : Array Class := #[k0, k1, k2, k3, k4, k5, k6, k7, k8, k9, k10, k11, k12, k13, k14, k15, k16, k17, k18, k19, k20, k21, k22, k23, k24, k25, k26, k27, k28]
def interned : List (Array UInt16 × Addr) := []
def slotsUsed : Nat := 521
def theMethod : MethodId := ⟨1, 1⟩
def args0 : Array Value := #[.long 5, .int 3]
def aboutOver (below : List Frame) : State where
  vm := { classes := classes, interned := interned.toArray }
  heap := heap
  slotsUsed := slotsUsed
  threads := #[{ frames := .invoking theMethod args0 :: below }]
def below0 : List Frame := [.native { method := ⟨0, 0⟩, args := #[] }]
def about1 : State := aboutOver below0
def p0 : Program := .bare "" "" ""
def e0 : Env := launch0.env 0 0 0
theorem w_frames : about1.frames = Frame.invoking theMethod args0 :: below0 := rfl
set_option maxRecDepth 65536 in
theorem w_args : argsFit about1.vm theMethod args0 = true := by decide +kernel
set_option maxRecDepth 65536 in
theorem w_heap : heapFits about1 = true := by decide +kernel
set_option maxRecDepth 65536 in
theorem w_runnable : about1.curStatus? = some .runnable := by decide +kernel
set_option maxRecDepth 65536 in
theorem w_alone : about1.alone = true := by decide +kernel
set_option maxRecDepth 65536 in
theorem w_named : about1.methodNamed? x = some theMethod := by decide +kernel
set_option maxRecDepth 65536 in
theorem w_hears : about1.hears theMethod below0 = true := by decide +kernel
set_option maxRecDepth 65536 in
theorem w_ripe : about1.ripe theMethod args0 below0 = true := by decide +kernel
theorem w_running : about1.status = .running := rfl
set_option maxRecDepth 65536 in
theorem w_room : about1.hasRoom e0.platform room_1 = true :=
  launch0.hasRoom_least _ room_1 (by decide +kernel) (by decide +kernel) (by decide +kernel) (by decide +kernel) (by decide +kernel) (by decide +kernel)
theorem allAtoms_all (ts : List Jvm.Cond) (a : Array Jvm.Value) (st : Jvm.State) : (allAtoms ts).before a st = ts.all (fun c => c.before a st) := by
  induction ts with
  | nil => rfl
  | cons c t ih =>
    show (Jvm.Cond.and c (allAtoms t)).before a st = _
    rw [Jvm.Cond.before_and, ih, List.all_cons]
def words1 : List Jvm.Cond := Jvm.Cond.code x code maxLocals ret :: tables_1
/-- a 'code' word, met by the world's own term for the bytes: nothing is compared byte by byte -/
theorem code_word {y : MethodName} {bytes : ByteArray} {mx : Nat} {rt : Option FieldType} {a : Array Value} {s : State} {m : MethodId} {meth : Method} {c : Code} (h1 : s.methodNamed? y = some m) (h2 : s.vm.method? m = some meth) (h3 : meth.code = some c) (h4 : c.code = bytes)
    (h5 : (c.maxLocals == mx && c.exceptionTable.isEmpty && decide (c.maxStack ≤ mostOperands) && decide (meth.sig.returnType = rt) && !meth.locks && decide (parseMethodDescriptor y.desc = some meth.sig)) = true) : (Jvm.Cond.code y bytes mx rt).before a s = true := by
  simp only [Bool.and_eq_true, beq_iff_eq, Bool.not_eq_true', decide_eq_true_eq] at h5
  obtain ⟨⟨⟨⟨⟨g1, g2⟩, g3⟩, g4⟩, g5⟩, g6⟩ := h5
  simp [Cond.before, Cond.holds, Cond.value, h1, h2, h3, h4, g1, g2, g3, g4, g5, g6]
def isCode : Jvm.Cond → Bool
  | .code _ _ _ _ => true
  | _ => false
theorem all_split {L : List Jvm.Cond} {P : Jvm.Cond → Bool} (h1 : L.all (fun c => isCode c || P c) = true) (h2 : ∀ c ∈ L.filter isCode, P c = true) : L.all P = true := by
  refine List.all_eq_true.mpr fun c hc => ?_
  have h := List.all_eq_true.mp h1 c hc
  rcases Bool.eq_false_or_eq_true (isCode c) with hi | hi
  · exact h2 c (List.mem_filter.mpr ⟨hc, hi⟩)
  · simpa [hi] using h
set_option maxRecDepth 65536 in
theorem w_c0 : (Jvm.Cond.code x code maxLocals ret).before args0 about1 = true := code_word (m := ⟨1, 1⟩) (meth := k1m1) (c := k1c1) (by decide +kernel) rfl rfl rfl (by decide +kernel)
set_option maxRecDepth 65536 in
theorem w_c1 : (Jvm.Cond.code ({ cls := "java/util/ArrayList", name := "<init>", desc := "()V" } : Jvm.MethodName) jdk_38_method_2_code (1 : Nat) (Option.none : Option Jvm.ClassFile.FieldType)).before args0 about1 = true := code_word (m := ⟨11, 0⟩) (meth := k11m0) (c := k11c0) (by decide +kernel) rfl rfl rfl (by decide +kernel)
set_option maxRecDepth 65536 in
theorem w_c2 : (Jvm.Cond.code ({ cls := "java/util/AbstractList", name := "<init>", desc := "()V" } : Jvm.MethodName) jdk_39_method_1_code (1 : Nat) (Option.none : Option Jvm.ClassFile.FieldType)).before args0 about1 = true := code_word (m := ⟨7, 0⟩) (meth := k7m0) (c := k7c0) (by decide +kernel) rfl rfl rfl (by decide +kernel)
set_option maxRecDepth 65536 in
theorem w_c3 : (Jvm.Cond.code ({ cls := "java/util/AbstractCollection", name := "<init>", desc := "()V" } : Jvm.MethodName) jdk_22_method_1_code (1 : Nat) (Option.none : Option Jvm.ClassFile.FieldType)).before args0 about1 = true := code_word (m := ⟨4, 0⟩) (meth := k4m0) (c := k4c0) (by decide +kernel) rfl rfl rfl (by decide +kernel)
set_option maxRecDepth 65536 in
theorem w_c4 : (Jvm.Cond.code ({ cls := "java/lang/Object", name := "<init>", desc := "()V" } : Jvm.MethodName) object_method_1_code (1 : Nat) (Option.none : Option Jvm.ClassFile.FieldType)).before args0 about1 = true := code_word (m := ⟨0, 0⟩) (meth := k0m0) (c := k0c0) (by decide +kernel) rfl rfl rfl (by decide +kernel)
set_option maxRecDepth 65536 in
theorem w_c5 : (Jvm.Cond.code ({ cls := "java/lang/Integer", name := "valueOf", desc := "(I)Ljava/lang/Integer;" } : Jvm.MethodName) jdk_33_method_22_code (1 : Nat) (Option.some (Jvm.ClassFile.FieldType.object "java/lang/Integer"))).before args0 about1 = true := code_word (m := ⟨16, 0⟩) (meth := k16m0) (c := k16c0) (by decide +kernel) rfl rfl rfl (by decide +kernel)
set_option maxRecDepth 65536 in
theorem w_c6 : (Jvm.Cond.code ({ cls := "java/util/ArrayList", name := "add", desc := "(Ljava/lang/Object;)Z" } : Jvm.MethodName) jdk_38_method_25_code (2 : Nat) (Option.some Jvm.ClassFile.FieldType.boolean)).before args0 about1 = true := code_word (m := ⟨11, 8⟩) (meth := k11m8) (c := k11c8) (by decide +kernel) rfl rfl rfl (by decide +kernel)
set_option maxRecDepth 65536 in
theorem w_c7 : (Jvm.Cond.code ({ cls := "java/util/ArrayList", name := "add", desc := "(Ljava/lang/Object;[Ljava/lang/Object;I)V" } : Jvm.MethodName) jdk_38_method_24_code (4 : Nat) (Option.none : Option Jvm.ClassFile.FieldType)).before args0 about1 = true := code_word (m := ⟨11, 7⟩) (meth := k11m7) (c := k11c7) (by decide +kernel) rfl rfl rfl (by decide +kernel)
set_option maxRecDepth 65536 in
theorem w_c8 : (Jvm.Cond.code ({ cls := "java/util/ArrayList", name := "grow", desc := "()[Ljava/lang/Object;" } : Jvm.MethodName) jdk_38_method_7_code (1 : Nat) (Option.some (Jvm.ClassFile.FieldType.array (Jvm.ClassFile.FieldType.object "java/lang/Object")))).before args0 about1 = true := code_word (m := ⟨11, 2⟩) (meth := k11m2) (c := k11c2) (by decide +kernel) rfl rfl rfl (by decide +kernel)
set_option maxRecDepth 65536 in
theorem w_c9 : (Jvm.Cond.code ({ cls := "java/util/ArrayList", name := "grow", desc := "(I)[Ljava/lang/Object;" } : Jvm.MethodName) jdk_38_method_6_code (4 : Nat) (Option.some (Jvm.ClassFile.FieldType.array (Jvm.ClassFile.FieldType.object "java/lang/Object")))).before args0 about1 = true := code_word (m := ⟨11, 1⟩) (meth := k11m1) (c := k11c1) (by decide +kernel) rfl rfl rfl (by decide +kernel)
set_option maxRecDepth 65536 in
theorem w_c10 : (Jvm.Cond.code ({ cls := "java/lang/Math", name := "max", desc := "(II)I" } : Jvm.MethodName) jdk_29_method_65_code (2 : Nat) (Option.some Jvm.ClassFile.FieldType.int)).before args0 about1 = true := code_word (m := ⟨18, 1⟩) (meth := k18m1) (c := k18c1) (by decide +kernel) rfl rfl rfl (by decide +kernel)
set_option maxRecDepth 65536 in
theorem w_c11 : (Jvm.Cond.code ({ cls := "com/example/spikeline/spikeline/core/SeededRandom", name := "<init>", desc := "(J)V" } : Jvm.MethodName) prog_8_method_1_code (3 : Nat) (Option.none : Option Jvm.ClassFile.FieldType)).before args0 about1 = true := code_word (m := ⟨19, 0⟩) (meth := k19m0) (c := k19c0) (by decide +kernel) rfl rfl rfl (by decide +kernel)
set_option maxRecDepth 65536 in
theorem w_c12 : (Jvm.Cond.code ({ cls := "com/example/spikeline/spikeline/core/SeededRandom", name := "shuffle", desc := "(Ljava/util/List;)V" } : Jvm.MethodName) prog_8_method_5_code (3 : Nat) (Option.none : Option Jvm.ClassFile.FieldType)).before args0 about1 = true := code_word (m := ⟨19, 4⟩) (meth := k19m4) (c := k19c4) (by decide +kernel) rfl rfl rfl (by decide +kernel)
set_option maxRecDepth 65536 in
theorem w_c13 : (Jvm.Cond.code ({ cls := "java/util/ArrayList", name := "size", desc := "()I" } : Jvm.MethodName) jdk_38_method_8_code (1 : Nat) (Option.some Jvm.ClassFile.FieldType.int)).before args0 about1 = true := code_word (m := ⟨11, 3⟩) (meth := k11m3) (c := k11c3) (by decide +kernel) rfl rfl rfl (by decide +kernel)
set_option maxRecDepth 65536 in
theorem w_c14 : (Jvm.Cond.code ({ cls := "com/example/spikeline/spikeline/core/SeededRandom", name := "nextInt", desc := "(I)I" } : Jvm.MethodName) prog_8_method_4_code (6 : Nat) (Option.some Jvm.ClassFile.FieldType.int)).before args0 about1 = true := code_word (m := ⟨19, 3⟩) (meth := k19m3) (c := k19c3) (by decide +kernel) rfl rfl rfl (by decide +kernel)
set_option maxRecDepth 65536 in
theorem w_c15 : (Jvm.Cond.code ({ cls := "com/example/spikeline/spikeline/core/SeededRandom", name := "nextLong", desc := "()J" } : Jvm.MethodName) prog_8_method_3_code (3 : Nat) (Option.some Jvm.ClassFile.FieldType.long)).before args0 about1 = true := code_word (m := ⟨19, 2⟩) (meth := k19m2) (c := k19c2) (by decide +kernel) rfl rfl rfl (by decide +kernel)
set_option maxRecDepth 65536 in
theorem w_c16 : (Jvm.Cond.code ({ cls := "java/util/Collections", name := "swap", desc := "(Ljava/util/List;II)V" } : Jvm.MethodName) jdk_79_method_15_code (4 : Nat) (Option.none : Option Jvm.ClassFile.FieldType)).before args0 about1 = true := code_word (m := ⟨20, 1⟩) (meth := k20m1) (c := k20c1) (by decide +kernel) rfl rfl rfl (by decide +kernel)
set_option maxRecDepth 65536 in
theorem w_c17 : (Jvm.Cond.code ({ cls := "java/util/ArrayList", name := "get", desc := "(I)Ljava/lang/Object;" } : Jvm.MethodName) jdk_38_method_20_code (2 : Nat) (Option.some (Jvm.ClassFile.FieldType.object "java/lang/Object"))).before args0 about1 = true := code_word (m := ⟨11, 5⟩) (meth := k11m5) (c := k11c5) (by decide +kernel) rfl rfl rfl (by decide +kernel)
set_option maxRecDepth 65536 in
theorem w_c18 : (Jvm.Cond.code ({ cls := "java/util/Objects", name := "checkIndex", desc := "(II)I" } : Jvm.MethodName) jdk_31_method_17_code (2 : Nat) (Option.some Jvm.ClassFile.FieldType.int)).before args0 about1 = true := code_word (m := ⟨21, 1⟩) (meth := k21m1) (c := k21c1) (by decide +kernel) rfl rfl rfl (by decide +kernel)
set_option maxRecDepth 65536 in
theorem w_c19 : (Jvm.Cond.code ({ cls := "jdk/internal/util/Preconditions", name := "checkIndex", desc := "(IILjava/util/function/BiFunction;)I" } : Jvm.MethodName) jdk_41_method_11_code (3 : Nat) (Option.some Jvm.ClassFile.FieldType.int)).before args0 about1 = true := code_word (m := ⟨22, 1⟩) (meth := k22m1) (c := k22c1) (by decide +kernel) rfl rfl rfl (by decide +kernel)
set_option maxRecDepth 65536 in
theorem w_c20 : (Jvm.Cond.code ({ cls := "java/util/ArrayList", name := "elementData", desc := "(I)Ljava/lang/Object;" } : Jvm.MethodName) jdk_38_method_18_code (2 : Nat) (Option.some (Jvm.ClassFile.FieldType.object "java/lang/Object"))).before args0 about1 = true := code_word (m := ⟨11, 4⟩) (meth := k11m4) (c := k11c4) (by decide +kernel) rfl rfl rfl (by decide +kernel)
set_option maxRecDepth 65536 in
theorem w_c21 : (Jvm.Cond.code ({ cls := "java/util/ArrayList", name := "set", desc := "(ILjava/lang/Object;)Ljava/lang/Object;" } : Jvm.MethodName) jdk_38_method_23_code (4 : Nat) (Option.some (Jvm.ClassFile.FieldType.object "java/lang/Object"))).before args0 about1 = true := code_word (m := ⟨11, 6⟩) (meth := k11m6) (c := k11c6) (by decide +kernel) rfl rfl rfl (by decide +kernel)
set_option maxRecDepth 65536 in
theorem w_c22 : (Jvm.Cond.code ({ cls := "com/example/spikeline/spikeline/core/SeededRandomShufflePinLaw", name := "swap", desc := "([III)V" } : Jvm.MethodName) method_3_code (4 : Nat) (Option.none : Option Jvm.ClassFile.FieldType)).before args0 about1 = true := code_word (m := ⟨1, 2⟩) (meth := k1m2) (c := k1c2) (by decide +kernel) rfl rfl rfl (by decide +kernel)
set_option maxRecDepth 65536 in
theorem w_c23 : (Jvm.Cond.code ({ cls := "com/example/spikeline/spikeline/core/SeededRandom", name := "state", desc := "()J" } : Jvm.MethodName) prog_8_method_2_code (1 : Nat) (Option.some Jvm.ClassFile.FieldType.long)).before args0 about1 = true := code_word (m := ⟨19, 1⟩) (meth := k19m1) (c := k19c1) (by decide +kernel) rfl rfl rfl (by decide +kernel)
set_option maxRecDepth 65536 in
theorem w_c24 : (Jvm.Cond.code ({ cls := "com/example/spikeline/spikeline/core/SeededRandomShufflePinLaw", name := "same", desc := "(Ljava/util/ArrayList;[III)Z" } : Jvm.MethodName) method_4_code (4 : Nat) (Option.some Jvm.ClassFile.FieldType.boolean)).before args0 about1 = true := code_word (m := ⟨1, 3⟩) (meth := k1m3) (c := k1c3) (by decide +kernel) rfl rfl rfl (by decide +kernel)
set_option maxRecDepth 65536 in
theorem w_c25 : (Jvm.Cond.code ({ cls := "java/lang/Integer", name := "intValue", desc := "()I" } : Jvm.MethodName) jdk_33_method_27_code (1 : Nat) (Option.some Jvm.ClassFile.FieldType.int)).before args0 about1 = true := code_word (m := ⟨16, 1⟩) (meth := k16m1) (c := k16c1) (by decide +kernel) rfl rfl rfl (by decide +kernel)
def codes1 : List Jvm.Cond := [Jvm.Cond.code x code maxLocals ret, Jvm.Cond.code ({ cls := "java/util/ArrayList", name := "<init>", desc := "()V" } : Jvm.MethodName) jdk_38_method_2_code (1 : Nat) (Option.none : Option Jvm.ClassFile.FieldType), Jvm.Cond.code ({ cls := "java/util/AbstractList", name := "<init>", desc := "()V" } : Jvm.MethodName) jdk_39_method_1_code (1 : Nat) (Option.none : Option Jvm.ClassFile.FieldType), Jvm.Cond.code ({ cls := "java/util/AbstractCollection", name := "<init>", desc := "()V" } : Jvm.MethodName) jdk_22_method_1_code (1 : Nat) (Option.none : Option Jvm.ClassFile.FieldType), Jvm.Cond.code ({ cls := "java/lang/Object", name := "<init>", desc := "()V" } : Jvm.MethodName) object_method_1_code (1 : Nat) (Option.none : Option Jvm.ClassFile.FieldType), Jvm.Cond.code ({ cls := "java/lang/Integer", name := "valueOf", desc := "(I)Ljava/lang/Integer;" } : Jvm.MethodName) jdk_33_method_22_code (1 : Nat) (Option.some (Jvm.ClassFile.FieldType.object "java/lang/Integer")), Jvm.Cond.code ({ cls := "java/util/ArrayList", name := "add", desc := "(Ljava/lang/Object;)Z" } : Jvm.MethodName) jdk_38_method_25_code (2 : Nat) (Option.some Jvm.ClassFile.FieldType.boolean), Jvm.Cond.code ({ cls := "java/util/ArrayList", name := "add", desc := "(Ljava/lang/Object;[Ljava/lang/Object;I)V" } : Jvm.MethodName) jdk_38_method_24_code (4 : Nat) (Option.none : Option Jvm.ClassFile.FieldType), Jvm.Cond.code ({ cls := "java/util/ArrayList", name := "grow", desc := "()[Ljava/lang/Object;" } : Jvm.MethodName) jdk_38_method_7_code (1 : Nat) (Option.some (Jvm.ClassFile.FieldType.array (Jvm.ClassFile.FieldType.object "java/lang/Object"))), Jvm.Cond.code ({ cls := "java/util/ArrayList", name := "grow", desc := "(I)[Ljava/lang/Object;" } : Jvm.MethodName) jdk_38_method_6_code (4 : Nat) (Option.some (Jvm.ClassFile.FieldType.array (Jvm.ClassFile.FieldType.object "java/lang/Object"))), Jvm.Cond.code ({ cls := "java/lang/Math", name := "max", desc := "(II)I" } : Jvm.MethodName) jdk_29_method_65_code (2 : Nat) (Option.some Jvm.ClassFile.FieldType.int), Jvm.Cond.code ({ cls := "com/example/spikeline/spikeline/core/SeededRandom", name := "<init>", desc := "(J)V" } : Jvm.MethodName) prog_8_method_1_code (3 : Nat) (Option.none : Option Jvm.ClassFile.FieldType), Jvm.Cond.code ({ cls := "com/example/spikeline/spikeline/core/SeededRandom", name := "shuffle", desc := "(Ljava/util/List;)V" } : Jvm.MethodName) prog_8_method_5_code (3 : Nat) (Option.none : Option Jvm.ClassFile.FieldType), Jvm.Cond.code ({ cls := "java/util/ArrayList", name := "size", desc := "()I" } : Jvm.MethodName) jdk_38_method_8_code (1 : Nat) (Option.some Jvm.ClassFile.FieldType.int), Jvm.Cond.code ({ cls := "com/example/spikeline/spikeline/core/SeededRandom", name := "nextInt", desc := "(I)I" } : Jvm.MethodName) prog_8_method_4_code (6 : Nat) (Option.some Jvm.ClassFile.FieldType.int), Jvm.Cond.code ({ cls := "com/example/spikeline/spikeline/core/SeededRandom", name := "nextLong", desc := "()J" } : Jvm.MethodName) prog_8_method_3_code (3 : Nat) (Option.some Jvm.ClassFile.FieldType.long), Jvm.Cond.code ({ cls := "java/util/Collections", name := "swap", desc := "(Ljava/util/List;II)V" } : Jvm.MethodName) jdk_79_method_15_code (4 : Nat) (Option.none : Option Jvm.ClassFile.FieldType), Jvm.Cond.code ({ cls := "java/util/ArrayList", name := "get", desc := "(I)Ljava/lang/Object;" } : Jvm.MethodName) jdk_38_method_20_code (2 : Nat) (Option.some (Jvm.ClassFile.FieldType.object "java/lang/Object")), Jvm.Cond.code ({ cls := "java/util/Objects", name := "checkIndex", desc := "(II)I" } : Jvm.MethodName) jdk_31_method_17_code (2 : Nat) (Option.some Jvm.ClassFile.FieldType.int), Jvm.Cond.code ({ cls := "jdk/internal/util/Preconditions", name := "checkIndex", desc := "(IILjava/util/function/BiFunction;)I" } : Jvm.MethodName) jdk_41_method_11_code (3 : Nat) (Option.some Jvm.ClassFile.FieldType.int), Jvm.Cond.code ({ cls := "java/util/ArrayList", name := "elementData", desc := "(I)Ljava/lang/Object;" } : Jvm.MethodName) jdk_38_method_18_code (2 : Nat) (Option.some (Jvm.ClassFile.FieldType.object "java/lang/Object")), Jvm.Cond.code ({ cls := "java/util/ArrayList", name := "set", desc := "(ILjava/lang/Object;)Ljava/lang/Object;" } : Jvm.MethodName) jdk_38_method_23_code (4 : Nat) (Option.some (Jvm.ClassFile.FieldType.object "java/lang/Object")), Jvm.Cond.code ({ cls := "com/example/spikeline/spikeline/core/SeededRandomShufflePinLaw", name := "swap", desc := "([III)V" } : Jvm.MethodName) method_3_code (4 : Nat) (Option.none : Option Jvm.ClassFile.FieldType), Jvm.Cond.code ({ cls := "com/example/spikeline/spikeline/core/SeededRandom", name := "state", desc := "()J" } : Jvm.MethodName) prog_8_method_2_code (1 : Nat) (Option.some Jvm.ClassFile.FieldType.long), Jvm.Cond.code ({ cls := "com/example/spikeline/spikeline/core/SeededRandomShufflePinLaw", name := "same", desc := "(Ljava/util/ArrayList;[III)Z" } : Jvm.MethodName) method_4_code (4 : Nat) (Option.some Jvm.ClassFile.FieldType.boolean), Jvm.Cond.code ({ cls := "java/lang/Integer", name := "intValue", desc := "()I" } : Jvm.MethodName) jdk_33_method_27_code (1 : Nat) (Option.some Jvm.ClassFile.FieldType.int)]
set_option maxRecDepth 65536 in
theorem codes_eq : words1.filter isCode = codes1 := rfl
theorem w_codes : ∀ c ∈ words1.filter isCode, c.before args0 about1 = true := by
  rw [codes_eq]
  intro c hc
  simp only [codes1, List.mem_cons, List.not_mem_nil, or_false] at hc
  rcases hc with rfl | rfl | rfl | rfl | rfl | rfl | rfl | rfl | rfl | rfl | rfl | rfl | rfl | rfl | rfl | rfl | rfl | rfl | rfl | rfl | rfl | rfl | rfl | rfl | rfl | rfl
  · exact w_c0
  · exact w_c1
  · exact w_c2
  · exact w_c3
  · exact w_c4
  · exact w_c5
  · exact w_c6
  · exact w_c7
  · exact w_c8
  · exact w_c9
  · exact w_c10
  · exact w_c11
  · exact w_c12
  · exact w_c13
  · exact w_c14
  · exact w_c15
  · exact w_c16
  · exact w_c17
  · exact w_c18
  · exact w_c19
  · exact w_c20
  · exact w_c21
  · exact w_c22
  · exact w_c23
  · exact w_c24
  · exact w_c25
set_option maxRecDepth 65536 in
theorem w_t1 : (words1.take 24).all (fun c => isCode c || c.before args0 about1) = true := by decide +kernel
set_option maxRecDepth 65536 in
theorem w_t2 : ((words1.drop 24).take 24).all (fun c => isCode c || c.before args0 about1) = true := by decide +kernel
set_option maxRecDepth 65536 in
theorem w_t3 : (((words1.drop 24).drop 24).take 24).all (fun c => isCode c || c.before args0 about1) = true := by decide +kernel
set_option maxRecDepth 65536 in
theorem w_t4 : ((((words1.drop 24).drop 24).drop 24).take 24).all (fun c => isCode c || c.before args0 about1) = true := by decide +kernel
set_option maxRecDepth 65536 in
theorem w_t5 : (((((words1.drop 24).drop 24).drop 24).drop 24).take 24).all (fun c => isCode c || c.before args0 about1) = true := by decide +kernel
set_option maxRecDepth 65536 in
theorem w_t6 : ((((((words1.drop 24).drop 24).drop 24).drop 24).drop 24).take 24).all (fun c => isCode c || c.before args0 about1) = true := by decide +kernel
set_option maxRecDepth 65536 in
theorem w_t7 : ((((((words1.drop 24).drop 24).drop 24).drop 24).drop 24).drop 24).all (fun c => isCode c || c.before args0 about1) = true := by decide +kernel
theorem w_tables : (allAtoms (Jvm.Cond.code x code maxLocals ret :: tables_1)).before args0 about1 = true := by
  rw [allAtoms_all]
  show words1.all (fun c => c.before args0 about1) = true
  refine all_split ?_ w_codes
  rw [← List.take_append_drop 24 words1, List.all_append, w_t1, ← List.take_append_drop 24 (words1.drop 24), List.all_append, w_t2, ← List.take_append_drop 24 ((words1.drop 24).drop 24), List.all_append, w_t3, ← List.take_append_drop 24 (((words1.drop 24).drop 24).drop 24), List.all_append, w_t4, ← List.take_append_drop 24 ((((words1.drop 24).drop 24).drop 24).drop 24), List.all_append, w_t5, ← List.take_append_drop 24 (((((words1.drop 24).drop 24).drop 24).drop 24).drop 24), List.all_append, w_t6, w_t7]
  rfl
set_option maxRecDepth 65536 in
theorem w_rest : rest_1_c.before args0 about1 = true := by decide +kernel
set_option maxRecDepth 65536 in
theorem w_case : (Jvm.Cond.and given_1 narrow_1).before args0 about1 = true := by decide +kernel
theorem w_applies : (headSpec (Jvm.Cond.code x code maxLocals ret :: tables_1) room_1).applies x e0.platform about1 = true :=
  (Spec.applies_iff w_frames).mpr ⟨w_running, w_runnable, w_alone, w_named, w_hears, w_ripe, w_room, w_tables⟩
theorem atStart : AtStart classFile x code maxLocals ret World_1 tables_1 room_1 Calls_1 rest_1 Pre_1 launch0 p0 e0 about1 theMethod args0 below0 :=
  ⟨lists_1, trivial, launch0.admits_env _ _ _, launch0.least_env, fairChoices_fair.cas, fairChoices_fair.clock, w_frames, w_args, w_heap, w_applies, trivial, w_rest, w_case⟩
end start1
theorem witness_1 : WitnessClaimed_1 := ⟨start1.p0, start1.e0, start1.about1, start1.theMethod, start1.args0, start1.below0, start1.atStart⟩
end Jvm.Pilot.@@N@@
