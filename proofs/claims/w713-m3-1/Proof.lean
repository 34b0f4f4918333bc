import JvmDerived
import JvmDerived.Pilot.@@N@@Statement
import JvmDerived.Pilot.@@N@@Code
set_option linter.unusedVariables false
set_option linter.unusedSimpArgs false
namespace Jvm.Pilot.@@N@@
open Jvm Jvm.ClassFile Sem Op Lib Jvm.Free Jvm.Stand Jvm.LawKit Jvm.RoadKit Bundle Jvm.Pilot.@@N@@.Jvm.D
/-! own: the walk in continuation form: 'from the state A the body ends, and then Q' -/
def OwnWk (p : Program) (e : Env) (below : List Frame) (P : Option Value → State → List Loc → Prop) (A : State) : Prop :=
  ∃ s₂ v L, Steps p.tables e below A s₂ ∧ s₂.status = .running ∧ Ended s₂ below (.returned v) ∧ P v s₂ L
abbrev OwnP (s : State) (Q : Option Value → Heap → List Loc → Prop) (k n : Nat) : Option Value → State → List Loc → Prop := fun v t L => Q v t.heap L ∧ FrameEnd s (.returned v) t L k n
def OwnMet (l : Launch) (y : MethodName) (bytes : ByteArray) (maxL : Nat) (ret : Option FieldType) (ws : List Jvm.Cond) (rm : Room) (Z : State) (as' : Array Value) (h0 : Heap) (Q : Option Value → Heap → List Loc → Prop) : Prop :=
  MetFree l y (head1 (Jvm.Cond.code y bytes maxL ret :: ws) rm) (fun a U => a = as' ∧ Z.Warmed39 U.vm ∧ U.heap = h0) (fun _ _ _ _ _ => True)
    (fun _ U o U' => ∃ v L, o = .returned v ∧ Q v U'.heap L ∧ FrameEnd U o U' L rm.cells rm.slots)
def OAr (Z : State) (h : Heap) (a : Addr) (ty : FieldType) (vs : List Value) : Prop := ∃ c : Cell, Arr Z h a c ty ∧ c.slots = vs.toArray
theorem OAr.ext {Z : State} {h h' : Heap} {a : Addr} {ty : FieldType} {vs : List Value} (A : OAr Z h a ty vs) (E : Ext h h') : OAr Z h' a ty vs := by
  obtain ⟨c, A, e⟩ := A; exact ⟨c, A.ext E, e⟩
theorem OAr.other {Z : State} {h h' : Heap} {a b : Addr} {ty : FieldType} {vs : List Value} {sl : Nat} {v : Value} (A : OAr Z h b ty vs) (W : Wr h h' a sl v) (q : b ≠ a) : OAr Z h' b ty vs := by
  obtain ⟨c, A, e⟩ := A; exact ⟨c, A.other W q, e⟩
theorem OAr.keep {Z : State} {h h' : Heap} {a : Addr} {ty : FieldType} {vs : List Value} {ws : List Addr} (A : OAr Z h a ty vs) (K : Keep h h' ws) (q : a ∉ ws) : OAr Z h' a ty vs := by
  obtain ⟨c, A, e⟩ := A; exact ⟨c, ⟨K.2.1 a c A.1 q, A.2⟩, e⟩
theorem OAr.lt {Z : State} {h : Heap} {a : Addr} {ty : FieldType} {vs : List Value} (A : OAr Z h a ty vs) : a < h.size := by
  obtain ⟨c, A, e⟩ := A; exact A.lt
theorem OAr.set {Z : State} {h h' : Heap} {a : Addr} {ty : FieldType} {vs : List Value} {sl : Nat} {v : Value} (A : OAr Z h a ty vs) (W : Wr h h' a sl v) : OAr Z h' a ty (vs.set sl v) := by
  obtain ⟨c, A, e⟩ := A
  refine ⟨_, A.same W, ?_⟩
  show c.slots.setIfInBounds sl v = _
  rw [e]; simp
theorem own_plE {Z : State} {h : Heap} {a : Addr} {C : String} (E : Exa Z h a C) : ∀ c : Cell, h[a]? = some c → c.vm.isStatics = false := fun c hc => by
  obtain ⟨c', k, h1, -, -, h4, -⟩ := E; cases h1.symm.trans hc; exact h4
theorem own_plV {Z : State} {h : Heap} {a : Addr} {ty : FieldType} {vs : List Value} (A : OAr Z h a ty vs) : ∀ c : Cell, h[a]? = some c → c.vm.isStatics = false := fun c hc => by
  obtain ⟨c', A, -⟩ := A; cases A.1.symm.trans hc; exact A.plain
theorem own_sta_keep {Z : State} {h h' : Heap} {ws : List Addr} {O f d : String} {v : Value} (F : Sta Z h O f d v) (K : Keep h h' ws) (q : ∀ x ∈ ws, ∀ c : Cell, h[x]? = some c → c.vm.isStatics = false) : Sta Z h' O f d v := by
  obtain ⟨cf, i, k, f, st, cell, h1, h2, h3, h4, h5, h6, h7⟩ := F
  refine ⟨cf, i, k, f, st, cell, h1, h2, h3, h4, K.2.1 st cell h5 (fun m => ?_), h6, h7⟩
  have := q st m cell h5
  rw [h6] at this; cases this
theorem own_ins_keep {Z : State} {h h' : Heap} {ws : List Addr} {a : Addr} {C : String} {b : Bool} (F : Ins Z h a C b) (K : Keep h h' ws) : Ins Z h' a C b := by
  obtain ⟨cell, cT, h1, h2, h3⟩ := F
  obtain ⟨c', q, r1, r2, -⟩ := K.2.2 a cell h1
  exact ⟨c', cT, q, h2, by rw [r1, r2]; exact h3⟩
section Own
variable {p : Program} {l : Launch} {e : Env} {R : Room} {s : State} {m : MethodId} {args : Array Value} {below : List Frame} {meth : Method} {c : Code} {T : State} {locs : List Loc} {cells slots : Nat}
  {P : Option Value → State → List Loc → Prop} {Q : Option Value → Heap → List Loc → Prop} {k n : Nat} {Z : State} {a0 : Array Value} {h : Heap} {g : JFrame} {rest : List Value}
theorem own_go {A B : State} (st : ∀ t, Steps p.tables e below B t → Steps p.tables e below A t) (h : OwnWk p e below P B) : OwnWk p e below P A := by
  obtain ⟨s₂, v, L, h1, r⟩ := h; exact ⟨s₂, v, L, st _ h1, r⟩
theorem own_met {y : MethodName} {bytes : ByteArray} {maxL : Nat} {ret : Option FieldType} {ws : List Jvm.Cond} {rm : Room} {as' : Array Value} {h0 : Heap} (hpl : plainFor y = true)
    (body : ∀ (p : Program) (e : Env) (s : State) (m : MethodId) (below : List Frame) (meth : Method) (c : Code) (s₁ : State), p.tables.exec = Jvm.exec → c.code = bytes → c.maxLocals = maxL → s.vm.findClass y.cls = some m.cls → meth.name = y.name → meth.sig.returnType = ret → meth.locks = false → Z.Warmed39 s.vm →
      Stand p l e rm s m as' below meth c s₁ [] 0 0 → s₁.heap = h0 → OwnWk p e below (OwnP s Q rm.cells rm.slots) (s₁.setTop (entryFrame m as' maxL))) : OwnMet l y bytes maxL ret ws rm Z as' h0 Q := by
  refine MetFree.of_bodySF hpl hisR ?_
  intro p e s m args below meth c s₁ Bd hml0 hP hK
  obtain ⟨rfl, hZ, hh⟩ := hP
  obtain ⟨s₂, v, L, h1, h2, h3, h4, h5⟩ := body p e s m below meth c s₁ Bd.exec Bd.bytes hml0 (findClass_of_methodNamed Bd.named) (name_of_methodNamed Bd.named Bd.method).1 Bd.returns (BodyLoose.notSynchronized Bd) hZ (Stand.of_body Bd) (by rw [← hh, Bd.state]; rfl)
  exact ⟨s₂, _, h1, h2, h3, v, L, rfl, h4, h5⟩
theorem own_out0 {A : State} {v : Option Value} (X : Stand p l e R s m args below meth c T locs cells slots) (hlk : meth.locks = false) (hv : meth.sig.returnType = none → v = none)
    (st : ∀ fs, (∀ (f : JFrame) (acts : List Action), f.method = m → f.locked = none → f.entered = [] → (doReturn e (T.setTop f) acts v).1 = T.setFrames fs) → Steps p.tables e below A (T.setFrames fs))
    (hq : ∀ t : State, t.heap = T.heap → FrameEnd s (.returned v) t locs cells slots → P v t locs) : OwnWk p e below P A := by
  obtain ⟨fs, hr, hrun, hended, hW, hsame⟩ := X.leave (v := v) hv hlk
  exact ⟨_, v, locs, st fs hr, hrun, hended, hq _ rfl ⟨⟨v, rfl⟩, hW, hsame⟩⟩
theorem own_out {A : State} {v : Option Value} (X : Stand p l e R s m args below meth c T locs cells slots) (hlk : meth.locks = false) (hv : meth.sig.returnType = none → v = none)
    (st : ∀ fs, (∀ (f : JFrame) (acts : List Action), f.method = m → f.locked = none → f.entered = [] → (doReturn e (T.setTop f) acts v).1 = T.setFrames fs) → Steps p.tables e below A (T.setFrames fs))
    (hc : cells ≤ k) (hs : slots ≤ n) (hq : Q v T.heap locs) : OwnWk p e below (OwnP s Q k n) A :=
  own_out0 X hlk hv st fun t ht hF => ⟨by rw [ht]; exact hq, hF.1, hF.2.1, hF.2.2.mono hc hs⟩
theorem own_retI (X : Stand p l e R s m args below meth c T locs cells slots) (hx : p.tables.exec = Jvm.exec) (hlk : meth.locks = false) (hret : meth.sig.returnType = some .int) {pc : Nat} {Ls : Array Slot} {z : Int32} (hd : decode c.code pc = .ok (.ireturn, 1)) (hc : cells ≤ k) (hs : slots ≤ n)
    (hq : Q (some (.int z)) T.heap locs) : OwnWk p e below (OwnP s Q k n) (T.setTop (mkF m pc Ls (.int z :: rest))) :=
  own_out X hlk (fun q => by rw [hret] at q; cases q) (fun fs hr => retOut X hx hret rfl (Or.inl ⟨rfl, Or.inl rfl, z, rfl⟩) hd hr) hc hs hq
theorem own_retZ (X : Stand p l e R s m args below meth c T locs cells slots) (hx : p.tables.exec = Jvm.exec) (hlk : meth.locks = false) {t : FieldType} (hret : meth.sig.returnType = some t) (ht : t = .boolean ∨ t = .byte ∨ t = .char ∨ t = .short) {pc : Nat} {Ls : Array Slot} {z z' : Int32} (hz : nar t z = z') (hd : decode c.code pc = .ok (.ireturn, 1)) (hc : cells ≤ k) (hs : slots ≤ n)
    (hq : Q (some (.int z')) T.heap locs) : OwnWk p e below (OwnP s Q k n) (T.setTop (mkF m pc Ls (.int z :: rest))) := by
  subst hz
  exact own_out X hlk (fun q => by rw [hret] at q; cases q) (fun fs hr => retN X hx hret ht hd hr) hc hs hq
theorem own_retJ (X : Stand p l e R s m args below meth c T locs cells slots) (hx : p.tables.exec = Jvm.exec) (hlk : meth.locks = false) (hret : meth.sig.returnType = some .long) {pc : Nat} {Ls : Array Slot} {z : Int64} (hd : decode c.code pc = .ok (.lreturn, 1)) (hc : cells ≤ k) (hs : slots ≤ n)
    (hq : Q (some (.long z)) T.heap locs) : OwnWk p e below (OwnP s Q k n) (T.setTop (mkF m pc Ls (.long z :: rest))) :=
  own_out X hlk (fun q => by rw [hret] at q; cases q) (fun fs hr => retOut X hx hret rfl (Or.inr (Or.inl ⟨rfl, rfl, z, rfl⟩)) hd hr) hc hs hq
theorem own_retA (X : Stand p l e R s m args below meth c T locs cells slots) (hx : p.tables.exec = Jvm.exec) (hlk : meth.locks = false) {t : FieldType} (hret : meth.sig.returnType = some t) (ht : t.isReference = true) {pc : Nat} {Ls : Array Slot} {v : Value} (hv : v.isRef = true) (hn : narrow t v = v) (hd : decode c.code pc = .ok (.areturn, 1)) (hc : cells ≤ k) (hs : slots ≤ n)
    (hq : Q (some v) T.heap locs) : OwnWk p e below (OwnP s Q k n) (T.setTop (mkF m pc Ls (v :: rest))) :=
  own_out X hlk (fun q => by rw [hret] at q; cases q) (fun fs hr => retOut X hx hret hn (Or.inr (Or.inr (Or.inr (Or.inr ⟨rfl, ht, hv⟩)))) hd hr) hc hs hq
theorem own_retV (X : Stand p l e R s m args below meth c T locs cells slots) (hx : p.tables.exec = Jvm.exec) (hlk : meth.locks = false) (hret : meth.sig.returnType = none) {pc : Nat} {Ls : Array Slot} (hd : decode c.code pc = .ok (.return_, 1)) (hc : cells ≤ k) (hs : slots ≤ n)
    (hq : Q none T.heap locs) : OwnWk p e below (OwnP s Q k n) (T.setTop (mkF m pc Ls [])) :=
  own_out X hlk (fun _ => rfl) (fun fs hr => X.returnOut hx hret hd hr) hc hs hq
/-! calls by a contract -/
variable {own C : String} {idx cnt : Nat} {y z : MethodName} {bytes : ByteArray} {maxL : Nat} {ret : Option FieldType} {rm : Room} {Q' : Option Value → Heap → List Loc → Prop} {W : Nat} {argsL : List Value} {a b : Addr}
theorem OwnMet.back {len : Nat} {as' : Array Value} (hM : OwnMet l y bytes maxL ret [] rm Z as' h Q') (hZ : Z.Warmed39 s.vm) (wc : (Jvm.Cond.code y bytes maxL ret).before a0 Z = true) (wz : (Jvm.Cond.initialized y.cls).before a0 Z = true) (hf : rm.frames + 1 ≤ R.frames) (hl : W + (maxL + 11) + rm.locals ≤ R.locals) :
    Back l R p e below s args y len W (fun A a => a = as' ∧ A.U.heap = h ∧ A.cells + rm.cells ≤ R.cells ∧ A.slots + rm.slots ≤ R.slots)
      (fun A _ v B => ∃ L, Q' v B.U.heap L ∧ B.locs = A.locs ++ L ∧ B.cells = A.cells + rm.cells ∧ B.slots = A.slots + rm.slots) := backOf (Q := Q') hM hZ wc wz hf hl
theorem own_callS (X : Stand p l e R s m args below meth c T locs cells slots) (hx : p.tables.exec = Jvm.exec) (hZ : Z.Warmed39 s.vm) (hown : s.vm.findClass own = some m.cls)
    (w1 : (Jvm.Cond.methodLink own idx y).before a0 Z = true) (w2 : (Jvm.Cond.static y).before a0 Z = true) (w3 : (Jvm.Cond.initialized y.cls).before a0 Z = true) (w4 : (Jvm.Cond.code y bytes maxL ret).before a0 Z = true)
    (hy : y.cls ≠ "java/lang/invoke/MethodHandle" ∧ y.cls ≠ "java/lang/invoke/VarHandle") (hM : OwnMet l y bytes maxL ret [] rm Z argsL.toArray h Q') (eT : T.heap = h)
    (hf : rm.frames + 1 ≤ R.frames) (hl : W + (maxL + 11) + rm.locals ≤ R.locals) (hc : cells + rm.cells ≤ R.cells) (hs : slots + rm.slots ≤ R.slots)
    (hg : g.method = m) (hsize : g.locals.size = c.maxLocals) (hlen : ∀ sig, parseMethodDescriptor y.desc = some sig → argsL.length = sig.parameters.length) (hstack : g.stack = argsL.reverse ++ rest)
    (hW : 2 * g.monitorRoom + (rest.map fun v => v.category).sum ≤ W) (hd : decode c.code g.pc = .ok (.invokestatic idx, 3))
    (K : ∀ v T' h' L, Stand p l e R s m args below meth c T' (locs ++ L) (cells + rm.cells) (slots + rm.slots) → T'.heap = h' → Q' v h' L → OwnWk p e below P (T'.setTop { g with pc := g.pc + 3, stack := v.toList ++ rest })) :
    OwnWk p e below P (T.setTop g) := by
  obtain ⟨v, vm₁, ⟨T', L', k', n'⟩, -, X', ⟨L, hQ, e1, e2, e3⟩, st⟩ := Jvm.LawKit.callS X hx hown (mvT hZ w1) (mvT hZ w2) (mvT hZ w3) (mvT hZ w4) hy (hM.back hZ w4 w3 hf hl) hg hsize hlen hstack hW hd (fun _ _ => ⟨rfl, eT, hc, hs⟩)
  dsimp only [Pt.U, Pt.locs, Pt.cells, Pt.slots] at X' e1 e2 e3 st hQ
  subst e1 e2 e3
  exact own_go st (K v T' _ L X' rfl hQ)
theorem own_callC (X : Stand p l e R s m args below meth c T locs cells slots) (hx : p.tables.exec = Jvm.exec) (hZ : Z.Warmed39 s.vm) (hown : s.vm.findClass own = some m.cls) (hy1 : y.name = "<init>")
    (w1 : (Jvm.Cond.methodLink own idx y).before a0 Z = true) (w2 : (Jvm.Cond.instanceMethod y).before a0 Z = true) (w3 : (Jvm.Cond.initialized y.cls).before a0 Z = true) (w4 : (Jvm.Cond.code y bytes maxL none).before a0 Z = true)
    (hy : y.cls ≠ "java/lang/invoke/MethodHandle" ∧ y.cls ≠ "java/lang/invoke/VarHandle") (hM : OwnMet l y bytes maxL none [] rm Z (.ref a :: argsL).toArray h Q') (eT : T.heap = h)
    (hf : rm.frames + 1 ≤ R.frames) (hl : W + (maxL + 11) + rm.locals ≤ R.locals) (hc : cells + rm.cells ≤ R.cells) (hs : slots + rm.slots ≤ R.slots)
    (hg : g.method = m) (hsize : g.locals.size = c.maxLocals) (hlen : ∀ sig, parseMethodDescriptor y.desc = some sig → argsL.length = sig.parameters.length) (hstack : g.stack = argsL.reverse ++ .ref a :: rest)
    (hW : 2 * g.monitorRoom + (rest.map fun v => v.category).sum ≤ W) (hd : decode c.code g.pc = .ok (.invokespecial idx, 3))
    (K : ∀ v T' h' L, Stand p l e R s m args below meth c T' (locs ++ L) (cells + rm.cells) (slots + rm.slots) → T'.heap = h' → Q' v h' L → OwnWk p e below P (T'.setTop { g with pc := g.pc + 3, stack := v.toList ++ rest })) :
    OwnWk p e below P (T.setTop g) := by
  obtain ⟨v, vm₁, ⟨T', L', k', n'⟩, -, X', ⟨L, hQ, e1, e2, e3⟩, st⟩ := X.specialBack hx hy1 hown (mvT hZ w1) (mvT hZ w2) (mvT hZ w4) hy (hM.back hZ w4 w3 hf hl) hg hsize (Steps.refl _) hlen hstack hW hd (fun _ _ => ⟨rfl, eT, hc, hs⟩)
  dsimp only [Pt.U, Pt.locs, Pt.cells, Pt.slots] at X' e1 e2 e3 st hQ
  subst e1 e2 e3
  exact own_go (fun t q => st.trans q) (K v T' _ L X' rfl hQ)
theorem own_callV (X : Stand p l e R s m args below meth c T locs cells slots) (hx : p.tables.exec = Jvm.exec) (hZ : Z.Warmed39 s.vm) (hown : s.vm.findClass own = some m.cls)
    (w1 : (Jvm.Cond.methodLink own idx y).before a0 Z = true) (w2 : (Jvm.Cond.declares y).before a0 Z = true) (nf : NotFace s y) (w5 : (Jvm.Cond.selects C y z).before a0 Z = true) (w6 : (Jvm.Cond.instanceMethod z).before a0 Z = true) (w3 : (Jvm.Cond.initialized z.cls).before a0 Z = true) (w4 : (Jvm.Cond.code z bytes maxL ret).before a0 Z = true)
    (hy : y.cls ≠ "java/lang/invoke/MethodHandle" ∧ y.cls ≠ "java/lang/invoke/VarHandle") (E : Exa Z h a C) (hM : OwnMet l z bytes maxL ret [] rm Z (.ref a :: argsL).toArray h Q') (eT : T.heap = h)
    (hf : rm.frames + 1 ≤ R.frames) (hl : W + (maxL + 11) + rm.locals ≤ R.locals) (hc : cells + rm.cells ≤ R.cells) (hs : slots + rm.slots ≤ R.slots)
    (hg : g.method = m) (hsize : g.locals.size = c.maxLocals) (hlen : ∀ sig, parseMethodDescriptor y.desc = some sig → argsL.length = sig.parameters.length) (hstack : g.stack = argsL.reverse ++ .ref a :: rest)
    (hW : 2 * g.monitorRoom + (rest.map fun v => v.category).sum ≤ W) (hd : decode c.code g.pc = .ok (.invokevirtual idx, 3))
    (K : ∀ v T' h' L, Stand p l e R s m args below meth c T' (locs ++ L) (cells + rm.cells) (slots + rm.slots) → T'.heap = h' → Q' v h' L → OwnWk p e below P (T'.setTop { g with pc := g.pc + 3, stack := v.toList ++ rest })) :
    OwnWk p e below P (T.setTop g) := by
  obtain ⟨cq, kq, q1, q2, q3⟩ := isOf hZ eT E
  obtain ⟨v, vm₁, ⟨T', L', k', n'⟩, -, X', ⟨L, hQ, e1, e2, e3⟩, st⟩ := X.virtualBack hx hown (mvT hZ w1) (mvT hZ w2) nf (mvT hZ w5) (mvT hZ w6) hy (hM.back hZ w4 w3 hf hl) q1 q3 hg hsize (Steps.refl _) hlen hstack hW hd (fun _ _ => ⟨rfl, eT, hc, hs⟩)
  dsimp only [Pt.U, Pt.locs, Pt.cells, Pt.slots] at X' e1 e2 e3 st hQ
  subst e1 e2 e3
  exact own_go (fun t q => st.trans q) (K v T' _ L X' rfl hQ)
theorem own_callI (X : Stand p l e R s m args below meth c T locs cells slots) (hx : p.tables.exec = Jvm.exec) (hZ : Z.Warmed39 s.vm) (hown : s.vm.findClass own = some m.cls)
    (w1 : (Jvm.Cond.methodLink own idx y).before a0 Z = true) (w2 : (Jvm.Cond.declares y).before a0 Z = true) (w7 : (Jvm.Cond.interfaceMethod y.cls y.cls y.name y.desc).before args s = true) (w5 : (Jvm.Cond.selects C y z).before a0 Z = true) (w6 : (Jvm.Cond.instanceMethod z).before a0 Z = true)
    (w8 : (Jvm.Cond.publicMethod z).before a0 Z = true) (w9 : (Jvm.Cond.unhidden C y.name y.desc).before a0 Z = true) (w10 : (Jvm.Cond.castable C y.cls).before a0 Z = true) (w3 : (Jvm.Cond.initialized z.cls).before a0 Z = true) (w4 : (Jvm.Cond.code z bytes maxL ret).before a0 Z = true)
    (hy : y.cls ≠ "java/lang/invoke/MethodHandle" ∧ y.cls ≠ "java/lang/invoke/VarHandle") (E : Exa Z h a C) (hM : OwnMet l z bytes maxL ret [] rm Z (.ref a :: argsL).toArray h Q') (eT : T.heap = h)
    (hf : rm.frames + 1 ≤ R.frames) (hl : W + (maxL + 11) + rm.locals ≤ R.locals) (hc : cells + rm.cells ≤ R.cells) (hs : slots + rm.slots ≤ R.slots)
    (hg : g.method = m) (hsize : g.locals.size = c.maxLocals) (hlen : ∀ sig, parseMethodDescriptor y.desc = some sig → argsL.length = sig.parameters.length) (hstack : g.stack = argsL.reverse ++ .ref a :: rest)
    (hW : 2 * g.monitorRoom + (rest.map fun v => v.category).sum ≤ W) (hd : decode c.code g.pc = .ok (.invokeinterface idx cnt, 5))
    (K : ∀ v T' h' L, Stand p l e R s m args below meth c T' (locs ++ L) (cells + rm.cells) (slots + rm.slots) → T'.heap = h' → Q' v h' L → OwnWk p e below P (T'.setTop { g with pc := g.pc + 5, stack := v.toList ++ rest })) :
    OwnWk p e below P (T.setTop g) := by
  obtain ⟨cq, kq, q1, q2, q3⟩ := isOf hZ eT E
  obtain ⟨v, vm₁, ⟨T', L', k', n'⟩, -, X', ⟨L, hQ, e1, e2, e3⟩, st⟩ := X.interfaceBack hx hown (mvT hZ w1) (mvT hZ w2) w7 (mvT hZ w5) (mvT hZ w6) (mvT hZ w8) (mvT hZ w9) (mvT hZ w10) hy (hM.back hZ w4 w3 hf hl) q1 q2 q3 hg hsize (Steps.refl _) hlen hstack hW hd (fun _ _ => ⟨rfl, eT, hc, hs⟩)
  dsimp only [Pt.U, Pt.locs, Pt.cells, Pt.slots] at X' e1 e2 e3 st hQ
  subst e1 e2 e3
  exact own_go (fun t q => st.trans q) (K v T' _ L X' rfl hQ)
theorem own_callP (X : Stand p l e R s m args below meth c T locs cells slots) (hx : p.tables.exec = Jvm.exec) (hZ : Z.Warmed39 s.vm) (hown : s.vm.findClass own = some m.cls)
    (w1 : (Jvm.Cond.methodLink own idx y).before a0 Z = true) (w2 : (Jvm.Cond.instanceMethod y).before a0 Z = true) (w5 : (Jvm.Cond.selects y.cls y y).before a0 Z = true) (w6 : (Jvm.Cond.privateMethod y).before a0 Z = true) (w3 : (Jvm.Cond.initialized y.cls).before a0 Z = true) (w4 : (Jvm.Cond.code y bytes maxL ret).before a0 Z = true)
    (hy : y.cls ≠ "java/lang/invoke/MethodHandle" ∧ y.cls ≠ "java/lang/invoke/VarHandle") (E : Exa Z h a C) (hM : OwnMet l y bytes maxL ret [] rm Z (.ref a :: argsL).toArray h Q') (eT : T.heap = h)
    (hf : rm.frames + 1 ≤ R.frames) (hl : W + (maxL + 11) + rm.locals ≤ R.locals) (hc : cells + rm.cells ≤ R.cells) (hs : slots + rm.slots ≤ R.slots)
    (hg : g.method = m) (hsize : g.locals.size = c.maxLocals) (hlen : ∀ sig, parseMethodDescriptor y.desc = some sig → argsL.length = sig.parameters.length) (hstack : g.stack = argsL.reverse ++ .ref a :: rest)
    (hW : 2 * g.monitorRoom + (rest.map fun v => v.category).sum ≤ W) (hd : decode c.code g.pc = .ok (.invokevirtual idx, 3))
    (K : ∀ v T' h' L, Stand p l e R s m args below meth c T' (locs ++ L) (cells + rm.cells) (slots + rm.slots) → T'.heap = h' → Q' v h' L → OwnWk p e below P (T'.setTop { g with pc := g.pc + 3, stack := v.toList ++ rest })) :
    OwnWk p e below P (T.setTop g) := by
  obtain ⟨cq, q, q'⟩ := E.cell
  obtain ⟨v, vm₁, ⟨T', L', k', n'⟩, -, X', ⟨L, hQ, e1, e2, e3⟩, st⟩ := X.privateBack hx hown (mvT hZ w1) (mvT hZ w2) (mvT hZ w5) (Cond.privateMethod_at (mvP hZ w6 (args := #[]))) (mvT hZ w4) hy (hM.back hZ w4 w3 hf hl) hg hsize (Steps.refl _) (by rw [eT]; exact q) q' hlen hstack hW hd (fun _ _ => ⟨rfl, eT, hc, hs⟩)
  dsimp only [Pt.U, Pt.locs, Pt.cells, Pt.slots] at X' e1 e2 e3 st hQ
  subst e1 e2 e3
  exact own_go (fun t q => st.trans q) (K v T' _ L X' rfl hQ)
/-! arrays by their lists -/
variable {vs : List Value} {ty : FieldType} {j : Int32} {v : Value}
theorem own_in (c : Cell) (e : c.slots = vs.toArray) (h0 : ¬ j < 0) (hj : j.toNatClampNeg < vs.length) : ¬ (j < 0 ∨ c.slots.size ≤ j.toNatClampNeg) := by
  rw [e]; simp only [List.size_toArray]
  rintro (q | q)
  · exact h0 q
  · omega
theorem own_len (X : Stand p l e R s m args below meth c T locs cells slots) (hx : p.tables.exec = Jvm.exec) (hZ : Z.Warmed39 s.vm) (eT : T.heap = h) (A : OAr Z h a ty vs) (hg : g.method = m) (hs : g.stack = .ref a :: rest) (hd : decode c.code g.pc = .ok (.arraylength, 1)) {N : Int32} (hN : vs.length.toInt32 = N)
    (K : OwnWk p e below P (T.setTop { g with pc := g.pc + 1, stack := .int N :: rest })) : OwnWk p e below P (T.setTop g) := by
  obtain ⟨cl, A, ec⟩ := A
  refine own_go (fun t q => X.arraylength hx (by rw [eT]; exact A.1) (State.isArrayOf_alike hZ.alike A.2.1) hg hs hd _ q) ?_
  rw [ec, List.size_toArray, hN]; exact K
theorem own_ldI (X : Stand p l e R s m args below meth c T locs cells slots) (hx : p.tables.exec = Jvm.exec) (hZ : Z.Warmed39 s.vm) (eT : T.heap = h) (A : OAr Z h a .int vs) (hg : g.method = m) (hs : g.stack = .int j :: .ref a :: rest) (hd : decode c.code g.pc = .ok (.iaload, 1)) (h0 : ¬ j < 0) (hj : vs[j.toNatClampNeg]? = some v)
    (K : OwnWk p e below P (T.setTop { g with pc := g.pc + 1, stack := v :: rest })) : OwnWk p e below P (T.setTop g) := by
  obtain ⟨cl, A, ec⟩ := A
  exact own_go (fun t q => X.iaload hx (by rw [eT]; exact A.1) (State.isArrayOf_alike hZ.alike A.2.1) A.2.2 (own_in cl ec h0 (List.getElem?_eq_some_iff.mp hj).1) (by rw [ec]; simpa using hj) hg hs hd _ q) K
theorem own_ldJ (X : Stand p l e R s m args below meth c T locs cells slots) (hx : p.tables.exec = Jvm.exec) (hZ : Z.Warmed39 s.vm) (eT : T.heap = h) (A : OAr Z h a .long vs) (hg : g.method = m) (hs : g.stack = .int j :: .ref a :: rest) (hd : decode c.code g.pc = .ok (.laload, 1)) (h0 : ¬ j < 0) (hj : vs[j.toNatClampNeg]? = some v)
    (K : OwnWk p e below P (T.setTop { g with pc := g.pc + 1, stack := v :: rest })) : OwnWk p e below P (T.setTop g) := by
  obtain ⟨cl, A, ec⟩ := A
  exact own_go (fun t q => X.laload hx (by rw [eT]; exact A.1) (State.isArrayOf_alike hZ.alike A.2.1) A.2.2 (own_in cl ec h0 (List.getElem?_eq_some_iff.mp hj).1) (by rw [ec]; simpa using hj) hg hs hd _ q) K
theorem own_ldA (X : Stand p l e R s m args below meth c T locs cells slots) (hx : p.tables.exec = Jvm.exec) (hZ : Z.Warmed39 s.vm) (eT : T.heap = h) (A : OAr Z h a ty vs) (hty : ty.isReference = true) (hg : g.method = m) (hs : g.stack = .int j :: .ref a :: rest) (hd : decode c.code g.pc = .ok (.aaload, 1)) (h0 : ¬ j < 0) (hj : vs[j.toNatClampNeg]? = some v)
    (K : OwnWk p e below P (T.setTop { g with pc := g.pc + 1, stack := v :: rest })) : OwnWk p e below P (T.setTop g) := by
  obtain ⟨cl, A, ec⟩ := A
  exact own_go (fun t q => X.aaload hx (by rw [eT]; exact A.1) (State.isArrayOf_alike hZ.alike A.2.1) hty A.2.2 (own_in cl ec h0 (List.getElem?_eq_some_iff.mp hj).1) (by rw [ec]; simpa using hj) hg hs hd _ q) K
theorem own_stI (X : Stand p l e R s m args below meth c T locs cells slots) (hx : p.tables.exec = Jvm.exec) (hZ : Z.Warmed39 s.vm) (eT : T.heap = h) (A : OAr Z h a .int vs) {x : Int32} (hg : g.method = m) (hs : g.stack = .int x :: .int j :: .ref a :: rest) (hd : decode c.code g.pc = .ok (.iastore, 1)) (h0 : ¬ j < 0) (hj : j.toNatClampNeg < vs.length)
    (K : ∀ T' h', Stand p l e R s m args below meth c T' (locs ++ [⟨a, j.toNatClampNeg⟩]) cells slots → T'.heap = h' → Wr h h' a j.toNatClampNeg (.int x) → OAr Z h' a .int (vs.set j.toNatClampNeg (.int x)) → OwnWk p e below P (T'.setTop { g with pc := g.pc + 1, stack := rest })) : OwnWk p e below P (T.setTop g) := by
  obtain ⟨cl, A', ec⟩ := A
  obtain ⟨T', h', X', e', W', st⟩ := stI X hx hZ eT A' (j := j) (own_in cl ec h0 hj) hg hs hd
  exact own_go st (K T' h' X' e' W' (OAr.set ⟨cl, A', ec⟩ W'))
theorem own_stJ (X : Stand p l e R s m args below meth c T locs cells slots) (hx : p.tables.exec = Jvm.exec) (hZ : Z.Warmed39 s.vm) (eT : T.heap = h) (A : OAr Z h a .long vs) {x : Int64} (hg : g.method = m) (hs : g.stack = .long x :: .int j :: .ref a :: rest) (hd : decode c.code g.pc = .ok (.lastore, 1)) (h0 : ¬ j < 0) (hj : j.toNatClampNeg < vs.length)
    (K : ∀ T' h', Stand p l e R s m args below meth c T' (locs ++ [⟨a, j.toNatClampNeg⟩]) cells slots → T'.heap = h' → Wr h h' a j.toNatClampNeg (.long x) → OAr Z h' a .long (vs.set j.toNatClampNeg (.long x)) → OwnWk p e below P (T'.setTop { g with pc := g.pc + 1, stack := rest })) : OwnWk p e below P (T.setTop g) := by
  obtain ⟨cl, A', ec⟩ := A
  obtain ⟨T', h', X', e', W', st⟩ := stJ X hx hZ eT A' (j := j) (own_in cl ec h0 hj) hg hs hd
  exact own_go st (K T' h' X' e' W' (OAr.set ⟨cl, A', ec⟩ W'))
theorem own_newP {aty : ArrayType} (X : Stand p l e R s m args below meth c T locs cells slots) (hx : p.tables.exec = Jvm.exec) (hZ : Z.Warmed39 s.vm) (w : (Jvm.Cond.arrayClass (newarray.typeOf aty)).before a0 Z = true) (eT : T.heap = h) (hg : g.method = m) (hd : decode c.code g.pc = .ok (.newarray aty, 2)) {N : Int32} (hs : g.stack = .int N :: rest)
    (hn : ¬ N < 0) {cap : Nat} (hcap : N.toNatClampNeg ≤ cap) (hb : cap * 8 ≤ 536870912) (hc : cells + 1 ≤ R.cells) (hl : slots + cap ≤ R.slots)
    (K : ∀ T' h' b, Stand p l e R s m args below meth c T' locs (cells + 1) (slots + cap) → T'.heap = h' → b = h.size → Ext h h' → OAr Z h' b (newarray.typeOf aty) (List.replicate N.toNatClampNeg (defaultValue (newarray.typeOf aty))) → OwnWk p e below P (T'.setTop { g with pc := g.pc + 2, stack := .ref b :: rest })) : OwnWk p e below P (T.setTop g) := by
  obtain ⟨T', h', cA, X', e', E', A', st⟩ := newP X hx hZ w eT hg hd hs hn hcap hb hc hl
  exact own_go st (K T' h' _ X' e' rfl E' ⟨_, A', by simp [newA]⟩)
theorem own_newPE {aty : ArrayType} {ad : String} (X : Stand p l e R s m args below meth c T locs cells slots) (hx : p.tables.exec = Jvm.exec) (hZ : Z.Warmed39 s.vm) (w : (Jvm.Cond.arrayClass (newarray.typeOf aty)).before a0 Z = true) (eT : T.heap = h) (hg : g.method = m) (hd : decode c.code g.pc = .ok (.newarray aty, 2)) {N : Int32} (hs : g.stack = .int N :: rest)
    (hn : ¬ N < 0) {cap : Nat} (hcap : N.toNatClampNeg ≤ cap) (hb : cap * 8 ≤ 536870912) (hc : cells + 1 ≤ R.cells) (hl : slots + cap ≤ R.slots) (had : "[" ++ (newarray.typeOf aty).toString = ad)
    (K : ∀ T' h' b, Stand p l e R s m args below meth c T' locs (cells + 1) (slots + cap) → T'.heap = h' → b = h.size → Ext h h' → OAr Z h' b (newarray.typeOf aty) (List.replicate N.toNatClampNeg (defaultValue (newarray.typeOf aty))) → Exa Z h' b ad → OwnWk p e below P (T'.setTop { g with pc := g.pc + 2, stack := .ref b :: rest })) : OwnWk p e below P (T.setTop g) := by
  obtain ⟨T', h', cA, X', e', E', A', Ex, st⟩ := newPE X hx hZ w eT hg hd hs hn hcap hb hc hl had
  exact own_go st (K T' h' _ X' e' rfl E' ⟨_, A', by simp [newA]⟩ Ex)
theorem own_clone {ad : String} (X : Stand p l e R s m args below meth c T locs cells slots) (hx : p.tables.exec = Jvm.exec) (hZ : Z.Warmed39 s.vm) (hown : s.vm.findClass own = some m.cls)
    (w1 : (Jvm.Cond.methodLink own idx ⟨ad, "clone", "()Ljava/lang/Object;"⟩).before a0 Z = true) (w2 : (Jvm.Cond.sameMethod ad "java/lang/Object" "clone" "()Ljava/lang/Object;").before a0 Z = true) (w3 : (Jvm.Cond.native ⟨"java/lang/Object", "clone", "()Ljava/lang/Object;"⟩).before a0 Z = true)
    (w4 : (Jvm.Cond.instanceMethod ⟨"java/lang/Object", "clone", "()Ljava/lang/Object;"⟩).before a0 Z = true) (w5 : (Jvm.Cond.selects ad ⟨ad, "clone", "()Ljava/lang/Object;"⟩ ⟨"java/lang/Object", "clone", "()Ljava/lang/Object;"⟩).before a0 Z = true) (w6 : (Jvm.Cond.castable ad "java/lang/Cloneable").before a0 Z = true)
    (eT : T.heap = h) (A : OAr Z h a ty vs) (E : Exa Z h a ad) (F : ∀ v ∈ vs, fits ty v = true) (hg : g.method = m) (hsize : g.locals.size = c.maxLocals) (hs : g.stack = .ref a :: rest) (hd : decode c.code g.pc = .ok (.invokevirtual idx, 3))
    (hf : 1 ≤ R.frames) {cap : Nat} (hW : 2 * g.monitorRoom + (rest.map fun v => v.category).sum ≤ W) (hl : W + 14 ≤ R.locals) (hcap : vs.length ≤ cap) (hc : cells + 1 ≤ R.cells) (hsl : slots + cap ≤ R.slots)
    (K : ∀ T' h' b, Stand p l e R s m args below meth c T' locs (cells + 1) (slots + cap) → T'.heap = h' → b = h.size → Ext h h' → OAr Z h' b ty vs → Exa Z h' b ad → OwnWk p e below P (T'.setTop { g with pc := g.pc + 3, stack := .ref b :: rest })) : OwnWk p e below P (T.setTop g) := by
  obtain ⟨cl, A, ec⟩ := A
  have FC : FitC Z cl := fitC_of A fun i hi v hv => by
    rw [ec] at hv
    exact F v (List.mem_of_getElem? (by simpa using hv))
  obtain ⟨T', h', X', e', E', A', Ex, st⟩ := cloneA X hx hZ hown w1 w2 w3 w4 w5 w6 eT A E FC hg hsize hs hd hf hW hl (by rw [ec]; simpa using hcap) hc hsl
  exact own_go st (K T' h' _ X' e' rfl E' ⟨_, A', ec⟩ Ex)
end Own
/-! comparisons of longs -/
theorem own_tri (x y : Int64) : x < y ∨ x = y ∨ y < x := by
  rcases Int.lt_trichotomy x.toInt y.toInt with h | h | h
  · exact Or.inl (Int64.lt_iff_toInt_lt.mpr h)
  · exact Or.inr (Or.inl (Int64.toInt_inj.mp h))
  · exact Or.inr (Or.inr (Int64.lt_iff_toInt_lt.mpr h))
theorem own_lc_lt {x y : Int64} : (lcmpW x y < 0) ↔ x < y := by
  unfold lcmpW
  rcases own_tri x y with h | h | h
  · have h1 : ¬ x > y := Int64.lt_asymm h
    have h2 : ¬ x = y := Int64.ne_of_lt h
    simp [h1, h2, h]
  · subst h; simp
  · have h1 : ¬ x < y := Int64.lt_asymm h
    simp [h, h1]
theorem own_lc_gt {x y : Int64} : (0 < lcmpW x y) ↔ y < x := by
  unfold lcmpW
  rcases own_tri x y with h | h | h
  · have h1 : ¬ x > y := Int64.lt_asymm h
    have h2 : ¬ x = y := Int64.ne_of_lt h
    have h3 : ¬ y < x := h1
    simp [h1, h2, h3]
  · subst h; simp
  · simp [h]
theorem own_lc_eq {x y : Int64} : (lcmpW x y = 0) ↔ x = y := by
  unfold lcmpW
  rcases own_tri x y with h | h | h
  · have h1 : ¬ x > y := Int64.lt_asymm h
    have h2 : ¬ x = y := Int64.ne_of_lt h
    simp [h1, h2]
  · subst h; simp
  · have h2 : ¬ x = y := (Int64.ne_of_lt h).symm
    simp [h, h2]
theorem wq {a0 : Array Value} {Z : State} (hw : ∀ d ∈ tables_1, d.before a0 Z = true) (i : Nat) {d : Jvm.Cond} (h : tables_1[i]? = some d) : d.before a0 Z = true := hw d (List.mem_of_getElem? h)
theorem own_gF {p : Program} {l : Launch} {e : Env} {R : Room} {s : State} {m : MethodId} {args : Array Value} {below : List Frame} {meth : Method} {c : Code} {T : State} {locs : List Loc} {cells slots : Nat} {P : Option Value → State → List Loc → Prop} {Z : State} {a0 : Array Value} {h : Heap} {g : JFrame} {rest : List Value} {own R0 O n d : String} {idx : Nat} {a : Addr} {v : Value}
    (X : Stand p l e R s m args below meth c T locs cells slots) (hx : p.tables.exec = Jvm.exec) (hZ : Z.Warmed39 s.vm) (hown : s.vm.findClass own = some m.cls) (w : (Jvm.Cond.fieldLink own idx R0 n d).before a0 Z = true) (via : Via Z R0 O n d) (eT : T.heap = h) (F : Fld Z h a O n d v) (hg : g.method = m) (hs : g.stack = .ref a :: rest) (hd : decode c.code g.pc = .ok (.getfield idx, 3))
    (K : ∀ T', Stand p l e R s m args below meth c T' locs cells slots → T'.heap = h → OwnWk p e below P (T'.setTop { g with pc := g.pc + 3, stack := v :: rest })) : OwnWk p e below P (T.setTop g) := by
  obtain ⟨T', X', e', st⟩ := getF X hx hZ hown (host := "") (Or.inl w) via eT F hg hs hd
  exact own_go st (K T' X' e')
abbrev vI (n : Int32) : Slot := .val (.int n)
abbrev vJ (n : Int64) : Slot := .val (.long n)
abbrev vR (a : Addr) : Slot := .val (.ref a)
abbrev vD (u : UInt64) : Slot := .val (.double u)
abbrev uX : Slot := .unset
abbrev sX : Slot := .second
theorem own_nl {a b n : Nat} (h : a < n) (g : n ≤ b) : a ≠ b := Nat.ne_of_lt (Nat.lt_of_lt_of_le h g)
abbrev yN1 : MethodName := (⟨"com/example/enrichd/enrichd/core/Line", "<init>", "(IIIII)V"⟩ : MethodName)
abbrev yN2 : MethodName := (⟨"java/lang/Record", "<init>", "()V"⟩ : MethodName)
abbrev yN3 : MethodName := (⟨"java/lang/Object", "<init>", "()V"⟩ : MethodName)
abbrev yN4 : MethodName := (⟨"com/example/enrichd/enrichd/core/Block", "<init>", "(Lcom/example/enrichd/enrichd/core/Line;Lcom/example/enrichd/enrichd/core/Line;ILjava/lang/String;)V"⟩ : MethodName)
abbrev yN5 : MethodName := (⟨"com/example/enrichd/enrichd/core/Block", "of", "(Lcom/example/enrichd/enrichd/core/Line;Lcom/example/enrichd/enrichd/core/Line;)Lcom/example/enrichd/enrichd/core/Block;"⟩ : MethodName)
abbrev yN6 : MethodName := (⟨"com/example/enrichd/enrichd/core/Block", "isHeading", "()Z"⟩ : MethodName)
abbrev yN7 : MethodName := (⟨"com/example/enrichd/enrichd/core/BlockIsHeadingPinLaw", "drawn", "(III)Ljava/lang/String;"⟩ : MethodName)
abbrev yN8 : MethodName := (⟨"java/lang/String", "<init>", "([C)V"⟩ : MethodName)
abbrev yN9 : MethodName := (⟨"java/lang/String", "<init>", "([CIILjava/lang/Void;)V"⟩ : MethodName)
abbrev yN10 : MethodName := (⟨"java/lang/StringUTF16", "compress", "([CII)[B"⟩ : MethodName)
abbrev yN11 : MethodName := (⟨"java/lang/StringUTF16", "compress", "([CI[BII)I"⟩ : MethodName)
abbrev yN12 : MethodName := (⟨"java/lang/StringUTF16", "coderFromArrayLen", "([BI)B"⟩ : MethodName)
/-! own: a walk that interns Strings: the end said of the true start, in the wide sense -/
abbrev OwnPW (s : State) (Q : Option Value → Heap → List Loc → Prop) (k n : Nat) : Option Value → State → List Loc → Prop := fun v t L => Q v t.heap L ∧ ReturnedEndW s (.returned v) t L k n
def OwnMetW (l : Launch) (y : MethodName) (bytes : ByteArray) (maxL : Nat) (ret : Option FieldType) (ws : List Jvm.Cond) (rm : Room) (Z : State) (as' : Array Value) (h0 : Heap) (Q : Option Value → Heap → List Loc → Prop) : Prop :=
  MetFree l y (head1 (Jvm.Cond.code y bytes maxL ret :: ws) rm) (fun a U => a = as' ∧ Z.Warmed39 U.vm ∧ U.heap = h0) (fun _ _ _ _ _ => True)
    (fun _ U o U' => ∃ v L, o = .returned v ∧ Q v U'.heap L ∧ ReturnedEndW U o U' L rm.cells rm.slots)
theorem own_metW {l : Launch} {y : MethodName} {bytes : ByteArray} {maxL : Nat} {ret : Option FieldType} {ws : List Jvm.Cond} {rm : Room} {Z : State} {as' : Array Value} {h0 : Heap} {Q : Option Value → Heap → List Loc → Prop} (hpl : plainFor y = true)
    (body : ∀ (p : Program) (e : Env) (s : State) (m : MethodId) (below : List Frame) (meth : Method) (c : Code) (s₁ : State), p.tables.exec = Jvm.exec → c.code = bytes → c.maxLocals = maxL → s.vm.findClass y.cls = some m.cls → meth.name = y.name → meth.sig.returnType = ret → meth.locks = false → Z.Warmed39 s.vm →
      Stand p l e rm s m as' below meth c s₁ [] 0 0 → s₁.heap = h0 → OwnWk p e below (OwnPW s Q rm.cells rm.slots) (s₁.setTop (entryFrame m as' maxL))) : OwnMetW l y bytes maxL ret ws rm Z as' h0 Q := by
  refine MetFree.of_bodySF hpl hisR ?_
  intro p e s m args below meth c s₁ Bd hml0 hP hK
  obtain ⟨rfl, hZ, hh⟩ := hP
  obtain ⟨s₂, v, L, h1, h2, h3, h4, h5⟩ := body p e s m below meth c s₁ Bd.exec Bd.bytes hml0 (findClass_of_methodNamed Bd.named) (name_of_methodNamed Bd.named Bd.method).1 Bd.returns (BodyLoose.notSynchronized Bd) hZ (Stand.of_body Bd) (by rw [← hh, Bd.state]; rfl)
  exact ⟨s₂, _, h1, h2, h3, v, L, rfl, h4, h5⟩
theorem own_retZW {p : Program} {l : Launch} {e : Env} {R : Room} {s : State} {m : MethodId} {args : Array Value} {below : List Frame} {meth : Method} {c : Code} {T : State} {locs : List Loc} {cells slots : Nat} {Q : Option Value → Heap → List Loc → Prop} {k n k1 : Nat} {vm1 : Vm} {rest : List Value}
    (X : Stand p l e R (s.setVm vm1) m args below meth c T locs cells slots) (hx : p.tables.exec = Jvm.exec) (hlk : meth.locks = false) (hret : meth.sig.returnType = some .boolean) (hS : s.Since vm1 k1) (hk : k1 ≤ T.heap.size) {pc : Nat} {Ls : Array Slot} {z z' : Int32} (hz : nar .boolean z = z') (hd : decode c.code pc = .ok (.ireturn, 1)) (hc : cells ≤ k) (hs : slots ≤ n)
    (hq : Q (some (.int z')) T.heap locs) : OwnWk p e below (OwnPW s Q k n) (T.setTop (mkF m pc Ls (.int z :: rest))) := by
  subst hz
  refine own_out0 X hlk (fun q => by rw [hret] at q; cases q) (fun fs hr => retN X hx hret (Or.inl rfl) hd hr) (fun t ht hF => ⟨by rw [ht]; exact hq, ?_⟩)
  obtain ⟨g1, g2, g3⟩ := hS.ended hF.2.1 (by rw [ht]; exact hk) hF.2.2
  exact ⟨hF.1, g1, g2, g3.mono hc hs⟩
/-! own: callees that may intern (their walk loads a String constant): the contract's start books nothing beyond the case's start; the end in the wide sense -/
def OwnMetI (l : Launch) (y : MethodName) (bytes : ByteArray) (maxL : Nat) (ret : Option FieldType) (rm : Room) (Z : State) (as' : Array Value) (h0 : Heap) (Q : Option Value → Heap → List Loc → Prop) : Prop :=
  MetFree l y (head1 [Jvm.Cond.code y bytes maxL ret] rm) (fun a U => a = as' ∧ Z.Warmed39 U.vm ∧ U.heap = h0 ∧ IB Z U.vm []) (fun _ _ _ _ _ => True)
    (fun _ U o U' => ∃ v L, o = .returned v ∧ Q v U'.heap L ∧ ReturnedEndW U o U' L rm.cells rm.slots)
section OwnIntern
variable {p : Program} {l : Launch} {e : Env} {R : Room} {s : State} {m : MethodId} {args : Array Value} {below : List Frame} {meth : Method} {c : Code} {T : State} {locs : List Loc} {cells slots : Nat}
variable {P : Option Value → State → List Loc → Prop} {Q : Option Value → Heap → List Loc → Prop} {k n k1 : Nat} {vm1 : Vm} {Z : State} {a0 : Array Value} {h : Heap} {g : JFrame} {rest : List Value}
theorem own_metI {y : MethodName} {bytes : ByteArray} {maxL : Nat} {ret : Option FieldType} {rm : Room} {as' : Array Value} {h0 : Heap} (hpl : plainFor y = true)
    (body : ∀ (p : Program) (e : Env) (s : State) (m : MethodId) (below : List Frame) (meth : Method) (c : Code) (s₁ : State), p.tables.exec = Jvm.exec → c.code = bytes → c.maxLocals = maxL → s.vm.findClass y.cls = some m.cls → meth.name = y.name → meth.sig.returnType = ret → meth.locks = false → Z.Warmed39 s.vm → s.heap = h0 → IB Z s.vm [] →
      Stand p l e rm s m as' below meth c s₁ [] 0 0 → s₁.heap = h0 → OwnWk p e below (OwnPW s Q rm.cells rm.slots) (s₁.setTop (entryFrame m as' maxL))) : OwnMetI l y bytes maxL ret rm Z as' h0 Q := by
  refine MetFree.of_bodySF hpl hisR ?_
  intro p e s m args below meth c s₁ Bd hml0 hP hK
  obtain ⟨rfl, hZ, hh, hI⟩ := hP
  obtain ⟨s₂, v, L, h1, h2, h3, h4, h5⟩ := body p e s m below meth c s₁ Bd.exec Bd.bytes hml0 (findClass_of_methodNamed Bd.named) (name_of_methodNamed Bd.named Bd.method).1 Bd.returns (BodyLoose.notSynchronized Bd) hZ hh hI (Stand.of_body Bd) (by rw [← hh, Bd.state]; rfl)
  exact ⟨s₂, _, h1, h2, h3, v, L, rfl, h4, h5⟩
theorem own_ib {vm : Vm} (e : vm.interned = s.vm.interned) (I : IB Z s.vm []) : IB Z vm [] := by
  obtain ⟨more, q1, q2⟩ := I; exact ⟨more, by rw [e]; exact q1, q2⟩
variable {own C : String} {idx cnt : Nat} {y z : MethodName} {bytes : ByteArray} {maxL : Nat} {ret : Option FieldType} {rm : Room} {Q' : Option Value → Heap → List Loc → Prop} {W : Nat} {argsL : List Value} {a b : Addr}
theorem OwnMetI.back {len : Nat} {as' : Array Value} (hM : OwnMetI l y bytes maxL ret rm Z as' h Q') (hZ : Z.Warmed39 s.vm) (hI : IB Z s.vm []) (wc : (Jvm.Cond.code y bytes maxL ret).before a0 Z = true) (wz : (Jvm.Cond.initialized y.cls).before a0 Z = true) (hf : rm.frames + 1 ≤ R.frames) (hl : W + (maxL + 11) + rm.locals ≤ R.locals) :
    BackS l R p e below s args y len W (fun A a => a = as' ∧ A.U.heap = h ∧ A.cells + rm.cells ≤ R.cells ∧ A.slots + rm.slots ≤ R.slots)
      (fun A _ v B => ∃ L, Q' v B.U.heap L ∧ B.locs = A.locs ++ L ∧ B.cells = A.cells + rm.cells ∧ B.slots = A.slots + rm.slots) :=
  BackS.of_freeW (bytes := bytes) (maxL := maxL) (ret := ret) (E := fun _ _ o t L k n => k = rm.cells ∧ n = rm.slots ∧ ∃ v, o = .returned v ∧ Q' v t.heap L) hM hf hl
    (fun m meth c A a Y hp => have hU : Z.Warmed39 A.U.vm := wtrans hZ Y.warmed
      ⟨by show (Jvm.Cond.and _ .tt).before a A.U = true; rw [Jvm.Cond.before_and, mv hU wc]; rfl, mv hU wc, mv hU wz, hp.2.2.1, hp.2.2.2⟩)
    (fun m meth c A a g mk Y hp => ⟨hp.1, wtrans hZ Y.warmed, hp.2.1, own_ib Y.warmed.interned_eq hI⟩) (fun _ _ _ _ _ _ _ _ _ => trivial)
    (fun _ _ _ _ ⟨v, L, h1, h2, h3⟩ => ⟨L, _, _, h3, rfl, rfl, v, h1, h2⟩)
    (fun m meth c A a g mk v t L k n Y hp _ _ ⟨e1, e2, v', e3, e4⟩ => by cases e3; subst e1 e2; exact ⟨L, e4, rfl, rfl, rfl⟩)
theorem own_callCI (X : Stand p l e R s m args below meth c T locs cells slots) (hx : p.tables.exec = Jvm.exec) (hZ : Z.Warmed39 s.vm) (hI : IB Z s.vm []) (hown : s.vm.findClass own = some m.cls) (hy1 : y.name = "<init>")
    (w1 : (Jvm.Cond.methodLink own idx y).before a0 Z = true) (w2 : (Jvm.Cond.instanceMethod y).before a0 Z = true) (w3 : (Jvm.Cond.initialized y.cls).before a0 Z = true) (w4 : (Jvm.Cond.code y bytes maxL none).before a0 Z = true)
    (hy : y.cls ≠ "java/lang/invoke/MethodHandle" ∧ y.cls ≠ "java/lang/invoke/VarHandle") (hM : OwnMetI l y bytes maxL none rm Z (.ref a :: argsL).toArray h Q') (eT : T.heap = h)
    (hf : rm.frames + 1 ≤ R.frames) (hl : W + (maxL + 11) + rm.locals ≤ R.locals) (hc : cells + rm.cells ≤ R.cells) (hs : slots + rm.slots ≤ R.slots)
    (hg : g.method = m) (hsize : g.locals.size = c.maxLocals) (hlen : ∀ sig, parseMethodDescriptor y.desc = some sig → argsL.length = sig.parameters.length) (hstack : g.stack = argsL.reverse ++ .ref a :: rest)
    (hW : 2 * g.monitorRoom + (rest.map fun v => v.category).sum ≤ W) (hd : decode c.code g.pc = .ok (.invokespecial idx, 3))
    (K : ∀ v T' h' L, Stand p l e R (s.setVm T'.vm) m args below meth c T' (locs ++ L) (cells + rm.cells) (slots + rm.slots) → T'.heap = h' → s.Since T'.vm h'.size → Z.Warmed39 (s.setVm T'.vm).vm → (s.setVm T'.vm).vm.findClass own = some m.cls → h.size ≤ h'.size → Q' v h' L → OwnWk p e below P (T'.setTop { g with pc := g.pc + 3, stack := v.toList ++ rest })) :
    OwnWk p e below P (T.setTop g) := by
  obtain ⟨v, vm₁, ⟨T', L', k', n'⟩, -, X', hS, hgr, ⟨L, hQ, e1, e2, e3⟩, st⟩ := X.specialBackS hx hy1 hown (mvT hZ w1) (mvT hZ w2) (mvT hZ w4) hy (hM.back hZ hI w4 w3 hf hl) hg hsize (Steps.refl _) hlen hstack hW hd (fun _ _ => ⟨rfl, eT, hc, hs⟩)
  dsimp only [Pt.U, Pt.locs, Pt.cells, Pt.slots] at X' e1 e2 e3 st hQ hS hgr
  subst e1 e2 e3
  exact own_go (fun t q => st.trans q) (K v T' _ L X' rfl hS (State.Warmed39.trans (t := s) hZ hS.1) (by rw [show (s.setVm T'.vm).vm = T'.vm from rfl, hS.1.alike.findClass]; exact hown) (by rw [← eT]; exact hgr) hQ)
theorem own_callSI (X : Stand p l e R s m args below meth c T locs cells slots) (hx : p.tables.exec = Jvm.exec) (hZ : Z.Warmed39 s.vm) (hI : IB Z s.vm []) (hown : s.vm.findClass own = some m.cls)
    (w1 : (Jvm.Cond.methodLink own idx y).before a0 Z = true) (w2 : (Jvm.Cond.static y).before a0 Z = true) (w3 : (Jvm.Cond.initialized y.cls).before a0 Z = true) (w4 : (Jvm.Cond.code y bytes maxL ret).before a0 Z = true)
    (hy : y.cls ≠ "java/lang/invoke/MethodHandle" ∧ y.cls ≠ "java/lang/invoke/VarHandle") (hM : OwnMetI l y bytes maxL ret rm Z argsL.toArray h Q') (eT : T.heap = h)
    (hf : rm.frames + 1 ≤ R.frames) (hl : W + (maxL + 11) + rm.locals ≤ R.locals) (hc : cells + rm.cells ≤ R.cells) (hs : slots + rm.slots ≤ R.slots)
    (hg : g.method = m) (hsize : g.locals.size = c.maxLocals) (hlen : ∀ sig, parseMethodDescriptor y.desc = some sig → argsL.length = sig.parameters.length) (hstack : g.stack = argsL.reverse ++ rest)
    (hW : 2 * g.monitorRoom + (rest.map fun v => v.category).sum ≤ W) (hd : decode c.code g.pc = .ok (.invokestatic idx, 3))
    (K : ∀ v T' h' L, Stand p l e R (s.setVm T'.vm) m args below meth c T' (locs ++ L) (cells + rm.cells) (slots + rm.slots) → T'.heap = h' → s.Since T'.vm h'.size → Z.Warmed39 (s.setVm T'.vm).vm → (s.setVm T'.vm).vm.findClass own = some m.cls → h.size ≤ h'.size → Q' v h' L → OwnWk p e below P (T'.setTop { g with pc := g.pc + 3, stack := v.toList ++ rest })) :
    OwnWk p e below P (T.setTop g) := by
  obtain ⟨v, vm₁, ⟨T', L', k', n'⟩, -, X', hS, hgr, ⟨L, hQ, e1, e2, e3⟩, st⟩ := callSS X hx hown (mvT hZ w1) (mvT hZ w2) (mvT hZ w3) (mvT hZ w4) hy (hM.back hZ hI w4 w3 hf hl) hg hsize hlen hstack hW hd (fun _ _ => ⟨rfl, eT, hc, hs⟩)
  dsimp only [Pt.U, Pt.locs, Pt.cells, Pt.slots] at X' e1 e2 e3 st hQ hS hgr
  subst e1 e2 e3
  exact own_go (fun t q => st.trans q) (K v T' _ L X' rfl hS (State.Warmed39.trans (t := s) hZ hS.1) (by rw [show (s.setVm T'.vm).vm = T'.vm from rfl, hS.1.alike.findClass]; exact hown) (by rw [← eT]; exact hgr) hQ)
theorem own_endW {v : Option Value} {t : State} (hS : s.Since vm1 k1) (hk : k1 ≤ t.heap.size) (hF : FrameEnd (s.setVm vm1) (.returned v) t locs cells slots) (hc : cells ≤ k) (hs : slots ≤ n) : ReturnedEndW s (.returned v) t locs k n := by
  obtain ⟨g1, g2, g3⟩ := hS.ended hF.2.1 hk hF.2.2
  exact ⟨hF.1, g1, g2, g3.mono hc hs⟩
theorem own_retVW (X : Stand p l e R (s.setVm vm1) m args below meth c T locs cells slots) (hx : p.tables.exec = Jvm.exec) (hlk : meth.locks = false) (hret : meth.sig.returnType = none) (hS : s.Since vm1 k1) (hk : k1 ≤ T.heap.size) {pc : Nat} {Ls : Array Slot} (hd : decode c.code pc = .ok (.return_, 1)) (hc : cells ≤ k) (hs : slots ≤ n)
    (hq : Q none T.heap locs) : OwnWk p e below (OwnPW s Q k n) (T.setTop (mkF m pc Ls [])) :=
  own_out0 X hlk (fun _ => rfl) (fun fs hr => X.returnOut hx hret hd hr) fun t ht hF => ⟨by rw [ht]; exact hq, own_endW hS (by rw [ht]; exact hk) hF hc hs⟩
theorem own_retAW (X : Stand p l e R (s.setVm vm1) m args below meth c T locs cells slots) (hx : p.tables.exec = Jvm.exec) (hlk : meth.locks = false) {t : FieldType} (hret : meth.sig.returnType = some t) (ht : t.isReference = true) (hS : s.Since vm1 k1) (hk : k1 ≤ T.heap.size) {pc : Nat} {Ls : Array Slot} {v : Value} (hv : v.isRef = true) (hn : narrow t v = v) (hd : decode c.code pc = .ok (.areturn, 1)) (hc : cells ≤ k) (hs : slots ≤ n)
    (hq : Q (some v) T.heap locs) : OwnWk p e below (OwnPW s Q k n) (T.setTop (mkF m pc Ls (v :: rest))) :=
  own_out0 X hlk (fun q => by rw [hret] at q; cases q) (fun fs hr => retOut X hx hret hn (Or.inr (Or.inr (Or.inr (Or.inr ⟨rfl, ht, hv⟩)))) hd hr) fun t ht' hF => ⟨by rw [ht']; exact hq, own_endW hS (by rw [ht']; exact hk) hF hc hs⟩
end OwnIntern
def OwnMetIL (l : Launch) (y : MethodName) (bytes : ByteArray) (maxL : Nat) (ret : Option FieldType) (ws : List Jvm.Cond) (rm : Room) (Z : State) (as' : Array Value) (h0 : Heap) (Q : Option Value → Heap → List Loc → Prop) : Prop :=
  MetFree l y (head1 (Jvm.Cond.code y bytes maxL ret :: ws) rm) (fun a U => a = as' ∧ Z.Warmed39 U.vm ∧ U.heap = h0 ∧ IB Z U.vm []) (fun _ _ _ _ _ => True)
    (fun _ U o U' => ∃ v L, o = .returned v ∧ Q v U'.heap L ∧ ReturnedEndW U o U' L rm.cells rm.slots)
theorem own_metIL {l : Launch} {y : MethodName} {bytes : ByteArray} {maxL : Nat} {ret : Option FieldType} {ws : List Jvm.Cond} {rm : Room} {Z : State} {as' : Array Value} {h0 : Heap} {Q : Option Value → Heap → List Loc → Prop} (hpl : plainFor y = true)
    (body : ∀ (p : Program) (e : Env) (s : State) (m : MethodId) (below : List Frame) (meth : Method) (c : Code) (s₁ : State), p.tables.exec = Jvm.exec → c.code = bytes → c.maxLocals = maxL → s.vm.findClass y.cls = some m.cls → meth.name = y.name → meth.sig.returnType = ret → meth.locks = false → Z.Warmed39 s.vm → s.heap = h0 → IB Z s.vm [] →
      Stand p l e rm s m as' below meth c s₁ [] 0 0 → s₁.heap = h0 → OwnWk p e below (OwnPW s Q rm.cells rm.slots) (s₁.setTop (entryFrame m as' maxL))) : OwnMetIL l y bytes maxL ret ws rm Z as' h0 Q := by
  refine MetFree.of_bodySF hpl hisR ?_
  intro p e s m args below meth c s₁ Bd hml0 hP hK
  obtain ⟨rfl, hZ, hh, hI⟩ := hP
  obtain ⟨s₂, v, L, h1, h2, h3, h4, h5⟩ := body p e s m below meth c s₁ Bd.exec Bd.bytes hml0 (findClass_of_methodNamed Bd.named) (name_of_methodNamed Bd.named Bd.method).1 Bd.returns (BodyLoose.notSynchronized Bd) hZ hh hI (Stand.of_body Bd) (by rw [← hh, Bd.state]; rfl)
  exact ⟨s₂, _, h1, h2, h3, v, L, rfl, h4, h5⟩
theorem own_n_int {i : Nat} (h : i < 2 ^ 31) : (Int32.ofNat i).toInt = (i : Int) := by
  rw [Int32.toInt_ofNat']
  simp only [Int32.size, Int.bmod]
  omega
theorem own_n_nat {i : Nat} (h : i < 2 ^ 31) : (Int32.ofNat i).toNatClampNeg = i := by
  simp only [Int32.toNatClampNeg, own_n_int h]; omega
theorem own_n_nn {i : Nat} (h : i < 2 ^ 31) : ¬ Int32.ofNat i < 0 := by
  rw [Int32.lt_iff_toInt_lt, own_n_int h]; have : (0 : Int32).toInt = 0 := rfl
  omega
theorem own_n_lt {i j : Nat} (hi : i < 2 ^ 31) (hj : j < 2 ^ 31) : Int32.ofNat i < Int32.ofNat j ↔ i < j := by
  rw [Int32.lt_iff_toInt_lt, own_n_int hi, own_n_int hj]; omega
theorem own_n_succ {i : Nat} : Int32.ofNat i + (1 : Int32) = Int32.ofNat (i + 1) := by
  rw [Int32.ofNat_add]; rfl
theorem own_n_len (xs : List Int32) : (xs.map Value.int).length.toInt32 = Int32.ofNat xs.length := by rw [List.length_map]
theorem own_n_at {xs : List Int32} {i : Nat} {x : Int32} (h : i < 2 ^ 31) (hx : xs[i]? = some x) : (xs.map Value.int)[(Int32.ofNat i).toNatClampNeg]? = some (.int x) := by
  rw [own_n_nat h, List.getElem?_map, hx]; rfl
theorem own_drop {α : Type} {xs : List α} {i : Nat} {x : α} (h : xs[i]? = some x) : xs.drop i = x :: xs.drop (i + 1) := by
  obtain ⟨hi, rfl⟩ := List.getElem?_eq_some_iff.mp h
  exact List.drop_eq_getElem_cons hi
theorem own_get {α : Type} {xs : List α} {i : Nat} (h : i < xs.length) : ∃ x, xs[i]? = some x := ⟨xs[i], List.getElem?_eq_getElem h⟩
def own_iv (ns : List Nat) : List Value := ns.map fun n => .int (Int32.ofNat n)
theorem own_getD {α : Type} {xs : List α} {i : Nat} {d : α} (h : i < xs.length) : xs[i]? = some (xs.getD i d) := by
  rw [List.getD_eq_getElem?_getD, List.getElem?_eq_getElem h]; rfl
theorem own_and_nat (u : Int32) (k : Nat) (hk : k < 2 ^ 31) : ∃ n, n ≤ k ∧ (u &&& Int32.ofNat k) = Int32.ofNat n := by
  obtain ⟨n, hn⟩ : ∃ n, n = (u &&& Int32.ofNat k).toBitVec.toNat := ⟨_, rfl⟩
  have h0 : n ≤ k := by
    rw [hn, Int32.toBitVec_and, BitVec.toNat_and]
    refine Nat.le_trans Nat.and_le_right ?_
    show (BitVec.ofNat 32 k).toNat ≤ k
    simp; omega
  refine ⟨n, h0, ?_⟩
  apply Int32.toBitVec_inj.mp; apply BitVec.eq_of_toNat_eq; rw [← hn]
  show n = (BitVec.ofNat 32 n).toNat
  simp; omega
theorem own_rem_nat {n k : Nat} (hn : n < 2 ^ 31) (hk : 0 < k) (hk2 : k < 2 ^ 31) : Int32.ofNat n % Int32.ofNat k = Int32.ofNat (n % k) := by
  apply Int32.toInt_inj.mp
  have := Nat.mod_lt n hk
  rw [Int32.toInt_mod, own_n_int hn, own_n_int hk2, own_n_int (by omega), Int.tmod_eq_emod_of_nonneg (by omega)]
  norm_cast
theorem own_draw (u : Int32) (k m : Nat) (hk : k < 2 ^ 31) (hm : 0 < m) (hm2 : m < 2 ^ 31) : ∃ n, n < m ∧ (u &&& Int32.ofNat k) % Int32.ofNat m = Int32.ofNat n := by
  obtain ⟨n, h1, h2⟩ := own_and_nat u k hk
  exact ⟨n % m, Nat.mod_lt n hm, by rw [h2, own_rem_nat (by omega) hm hm2]⟩
theorem own_cast {Z : State} {h : Heap} {a : Addr} {ty : FieldType} {vs ws : List Value} (e : vs = ws) (V : OAr Z h a ty vs) : OAr Z h a ty ws := e ▸ V
/-! own: char[] and byte[] by their lists -/
section OwnChar
variable {p : Program} {l : Launch} {e : Env} {R : Room} {s : State} {m : MethodId} {args : Array Value} {below : List Frame} {meth : Method} {c : Code} {T : State} {locs : List Loc} {cells slots : Nat}
  {P : Option Value → State → List Loc → Prop} {Z : State} {h : Heap} {g : JFrame} {rest : List Value} {a : Addr} {vs : List Value} {j : Int32} {v : Value}
theorem own_ldC (X : Stand p l e R s m args below meth c T locs cells slots) (hx : p.tables.exec = Jvm.exec) (hZ : Z.Warmed39 s.vm) (eT : T.heap = h) (A : OAr Z h a .char vs) (hg : g.method = m) (hs : g.stack = .int j :: .ref a :: rest) (hd : decode c.code g.pc = .ok (.caload, 1)) (h0 : ¬ j < 0) (hj : vs[j.toNatClampNeg]? = some v)
    (K : OwnWk p e below P (T.setTop { g with pc := g.pc + 1, stack := v :: rest })) : OwnWk p e below P (T.setTop g) := by
  obtain ⟨cl, A, ec⟩ := A
  exact own_go (fun t q => X.caload hx (by rw [eT]; exact A.1) (State.isArrayOf_alike hZ.alike A.2.1) A.2.2 (own_in cl ec h0 (List.getElem?_eq_some_iff.mp hj).1) (by rw [ec]; simpa using hj) hg hs hd _ q) K
theorem own_stC (X : Stand p l e R s m args below meth c T locs cells slots) (hx : p.tables.exec = Jvm.exec) (hZ : Z.Warmed39 s.vm) (eT : T.heap = h) (A : OAr Z h a .char vs) {x : Int32} (hg : g.method = m) (hs : g.stack = .int x :: .int j :: .ref a :: rest) (hd : decode c.code g.pc = .ok (.castore, 1)) (h0 : ¬ j < 0) (hj : j.toNatClampNeg < vs.length)
    (K : ∀ T' h', Stand p l e R s m args below meth c T' (locs ++ [⟨a, j.toNatClampNeg⟩]) cells slots → T'.heap = h' → Wr h h' a j.toNatClampNeg (.int (nar .char x)) → OAr Z h' a .char (vs.set j.toNatClampNeg (.int (nar .char x))) → OwnWk p e below P (T'.setTop { g with pc := g.pc + 1, stack := rest })) : OwnWk p e below P (T.setTop g) := by
  obtain ⟨cl, A', ec⟩ := A
  obtain ⟨T', h', X', e', W', st⟩ := stC X hx hZ eT A' (j := j) (own_in cl ec h0 hj) hg hs hd
  exact own_go st (K T' h' X' e' W' (OAr.set ⟨cl, A', ec⟩ W'))
theorem own_stB (X : Stand p l e R s m args below meth c T locs cells slots) (hx : p.tables.exec = Jvm.exec) (hZ : Z.Warmed39 s.vm) (eT : T.heap = h) (A : OAr Z h a .byte vs) {x : Int32} (hg : g.method = m) (hs : g.stack = .int x :: .int j :: .ref a :: rest) (hd : decode c.code g.pc = .ok (.bastore, 1)) (h0 : ¬ j < 0) (hj : j.toNatClampNeg < vs.length)
    (K : ∀ T' h', Stand p l e R s m args below meth c T' (locs ++ [⟨a, j.toNatClampNeg⟩]) cells slots → T'.heap = h' → Wr h h' a j.toNatClampNeg (.int (nar .byte x)) → OAr Z h' a .byte (vs.set j.toNatClampNeg (.int (nar .byte x))) → OwnWk p e below P (T'.setTop { g with pc := g.pc + 1, stack := rest })) : OwnWk p e below P (T.setTop g) := by
  obtain ⟨cl, A', ec⟩ := A
  obtain ⟨T', h', X', e', W', st⟩ := stB X hx hZ eT A' (j := j) (own_in cl ec h0 hj) hg hs hd
  exact own_go st (K T' h' X' e' W' (OAr.set ⟨cl, A', ec⟩ W'))
end OwnChar
theorem own_c255 (u : Int32) : ¬ (255 : Int32) < nar .char ((u &&& (255 : Int32)).toUInt32.toUInt16.toUInt32.toInt32) := by
  obtain ⟨n, h1, h2⟩ := own_and_nat u 255 (by decide)
  have h2 : u &&& (255 : Int32) = Int32.ofNat n := h2
  have q : ∀ n < 256, ¬ (255 : Int32) < nar .char ((Int32.ofNat n).toUInt32.toUInt16.toUInt32.toInt32) := by decide +kernel
  rw [h2]; exact q n (by omega)
theorem pn_pn_11 : plainName "java/lang/StringUTF16" = true := by first | (simp [plainName, overriddenIn]; done) | decide +kernel
theorem pn_11 : plainFor yN11 = true := plainFor_of_name pn_pn_11
abbrev tB11 : List (Nat × Instr × Nat) := [(0, .iconst 0, 1), (1, .istore 5, 2), (3, .iload 5, 2), (5, .iload 4, 2), (7, .if_icmp .ge 37, 3), (10, .aload_n 0, 1), (11, .iload_n 1, 1), (12, .caload, 1), (13, .istore 6, 2), (15, .iload 6, 2), (17, .sipush 255, 3), (20, .if_icmp .le 6, 3), (23, .iload 5, 2), (25, .ireturn, 1), (26, .aload_n 2, 1), (27, .iload_n 3, 1), (28, .iload 6, 2), (30, .i2b, 1), (31, .bastore, 1), (32, .iinc 1 1, 3), (35, .iinc 3 1, 3), (38, .iinc 5 1, 3), (41, .goto (-38), 3), (44, .iload 4, 2), (46, .ireturn, 1)]
theorem dB11 (k : Fin 25) : decode jdk_52_method_21_code (tB11.getD k (0, .nop, 1)).1 = .ok (tB11.getD k (0, .nop, 1)).2 := by revert k; decide +kernel
theorem ef_cmp1 (m : MethodId) (x0 : Addr) (x1 : Int32) (x2 : Addr) (x3 : Int32) (x4 : Int32) : entryFrame m #[(.ref x0), (.int x1), (.ref x2), (.int x3), (.int x4)] 7 = mkF m 0 #[vR x0, vI x1, vR x2, vI x3, vI x4, .unset, .unset] [] := by first | (simp [entryFrame, mkF, argsToLocals, Value.category]; done) | rfl
def Q_cmp1 (Z : State) (cs bb : Addr) (q0_ : Int32) (h0 : Heap) (n0 : Nat) (v : Option Value) (h : Heap) (L : List Loc) : Prop := v = some (.int (1 : Int32)) ∧ Fr n0 L ∧ Keep h0 h [bb] ∧ ∃ d0_ : Int32, OAr Z h bb .byte [(.int d0_)]
set_option maxRecDepth 65536 in
set_option maxHeartbeats 40000000 in
theorem cmp1 (l : Launch) (Z : State) (a0 : Array Value) (hw : ∀ d ∈ tables_1, d.before a0 Z = true) (cs bb : Addr) (q0_ : Int32) (h0 : Heap) (n0 : Nat) (Z0 : n0 ≤ h0.size) (pf0 : OAr Z h0 cs .char [(.int q0_)]) (pf1 : OAr Z h0 bb .byte [(.int (0 : Int32))]) (dn0 : cs ≠ bb) (gn0 : n0 ≤ bb) (hq0_ : ¬ (255 : Int32) < q0_) :
    OwnMet l yN11 jdk_52_method_21_code 7 (some .int) [] ({ frames := 0, cells := 0, slots := 0, locals := 0 } : Room) Z #[(.ref cs), (.int (0 : Int32)), (.ref bb), (.int (0 : Int32)), (.int (1 : Int32))] h0 (Q_cmp1 Z cs bb q0_ h0 n0) := by
 refine own_met pn_11 (fun p e s m below meth c s₁ hx hby hml hown hnm hret hlk hZ X0 e0 => ?_)
 have hown : s.vm.findClass "java/lang/StringUTF16" = some m.cls := hown
 have N0 := Fr.nil n0
 have K0 := Keep.refl h0 [bb]
 rw [ef_cmp1]
 show OwnWk _ _ _ _ (s₁.setTop (mkF m 0 #[vR cs, vI (0 : Int32), vR bb, vI (0 : Int32), vI (1 : Int32), uX, uX] []))
 refine own_go (fun tgt kst => XS.iconst X0.here hx rfl (hb hby (dB11 0)) kst) ?_
 refine own_go (fun tgt kst => XS.istore X0.here hx rfl (hb hby (dB11 1)) rfl (l' := #[vR cs, vI (0 : Int32), vR bb, vI (0 : Int32), vI (1 : Int32), vI (0 : Int32), uX]) rfl kst) ?_
 refine own_go (fun tgt kst => XS.iload X0.here hx rfl (hb hby (dB11 2)) rfl  kst) ?_
 refine own_go (fun tgt kst => XS.iload X0.here hx rfl (hb hby (dB11 3)) rfl  kst) ?_
 refine own_go (fun tgt kst => XS.icmpNo X0.here hx rfl (hb hby (dB11 4)) rfl (tlt (by decide : (0 : Int32) < (1 : Int32))).2.1 kst) ?_
 refine own_go (fun tgt kst => XS.aloadN X0.here hx rfl (hb hby (dB11 5)) rfl rfl  kst) ?_
 show OwnWk _ _ _ _ (s₁.setTop (mkF m 11 #[vR cs, vI (0 : Int32), vR bb, vI (0 : Int32), vI (1 : Int32), vI (0 : Int32), uX] [(.ref cs)]))
 refine own_go (fun tgt kst => XS.iloadN X0.here hx rfl (hb hby (dB11 6)) rfl  kst) ?_
 refine own_ldC X0 hx hZ e0 pf0 rfl rfl (hb hby (dB11 7)) (v := (.int q0_)) (by decide) rfl ?_
 refine own_go (fun tgt kst => XS.istore X0.here hx rfl (hb hby (dB11 8)) rfl (l' := #[vR cs, vI (0 : Int32), vR bb, vI (0 : Int32), vI (1 : Int32), vI (0 : Int32), vI q0_]) rfl kst) ?_
 refine own_go (fun tgt kst => XS.iload X0.here hx rfl (hb hby (dB11 9)) rfl  kst) ?_
 refine own_go (fun tgt kst => XS.sipush X0.here hx rfl (hb hby (dB11 10)) kst) ?_
 show OwnWk _ _ _ _ (s₁.setTop (mkF m 20 #[vR cs, vI (0 : Int32), vR bb, vI (0 : Int32), vI (1 : Int32), vI (0 : Int32), vI q0_] [(.int (255 : Int32)), (.int q0_)]))
 refine own_go (fun tgt kst => XS.icmpYes X0.here hx rfl (pc0 := 20) (pc' := 26) rfl (hb hby (dB11 11)) rfl (flt hq0_).2.2.2 (by decide) (by decide) kst) ?_
 show OwnWk _ _ _ _ (s₁.setTop (mkF m 26 #[vR cs, vI (0 : Int32), vR bb, vI (0 : Int32), vI (1 : Int32), vI (0 : Int32), vI q0_] []))
 refine own_go (fun tgt kst => XS.aloadN X0.here hx rfl (hb hby (dB11 14)) rfl rfl  kst) ?_
 refine own_go (fun tgt kst => XS.iloadN X0.here hx rfl (hb hby (dB11 15)) rfl  kst) ?_
 refine own_go (fun tgt kst => XS.iload X0.here hx rfl (hb hby (dB11 16)) rfl  kst) ?_
 refine own_go (fun tgt kst => XS.i2b X0.here hx rfl (hb hby (dB11 17)) rfl kst) ?_
 refine own_stB X0 hx hZ e0 pf1 rfl rfl (hb hby (dB11 18)) (by decide) (Nat.le_of_ble_eq_true rfl) (fun T1 h1 X1 e1 W1 V1 => ?_)
 have N1 := Fr.snoc X1 N0 gn0
 have F2 := OAr.other pf0 W1 dn0
 have Z3 := Nat.le_trans Z0 (Keep.of_wr W1).1
 have K4 := Keep.wr K0 W1 (Or.inl (List.mem_of_getElem? (i := 0) rfl))
 refine own_go (fun tgt kst => XS.iinc X1.here hx rfl (hb hby (dB11 19)) rfl (l' := #[vR cs, vI (1 : Int32), vR bb, vI (0 : Int32), vI (1 : Int32), vI (0 : Int32), vI q0_]) rfl kst) ?_
 show OwnWk _ _ _ _ (T1.setTop (mkF m 35 #[vR cs, vI (1 : Int32), vR bb, vI (0 : Int32), vI (1 : Int32), vI (0 : Int32), vI q0_] []))
 refine own_go (fun tgt kst => XS.iinc X1.here hx rfl (hb hby (dB11 20)) rfl (l' := #[vR cs, vI (1 : Int32), vR bb, vI (1 : Int32), vI (1 : Int32), vI (0 : Int32), vI q0_]) rfl kst) ?_
 refine own_go (fun tgt kst => XS.iinc X1.here hx rfl (hb hby (dB11 21)) rfl (l' := #[vR cs, vI (1 : Int32), vR bb, vI (1 : Int32), vI (1 : Int32), vI (1 : Int32), vI q0_]) rfl kst) ?_
 refine own_go (fun tgt kst => XS.goto X1.here hx rfl (pc0 := 41) (pc' := 3) rfl (hb hby (dB11 22)) (by decide) (by decide) kst) ?_
 refine own_go (fun tgt kst => XS.iload X1.here hx rfl (hb hby (dB11 2)) rfl  kst) ?_
 refine own_go (fun tgt kst => XS.iload X1.here hx rfl (hb hby (dB11 3)) rfl  kst) ?_
 refine own_go (fun tgt kst => XS.icmpYes X1.here hx rfl (pc0 := 7) (pc' := 44) rfl (hb hby (dB11 4)) rfl (flt (by decide : ¬ ((1 : Int32) < (1 : Int32)))).2.1 (by decide) (by decide) kst) ?_
 show OwnWk _ _ _ _ (T1.setTop (mkF m 44 #[vR cs, vI (1 : Int32), vR bb, vI (1 : Int32), vI (1 : Int32), vI (1 : Int32), vI q0_] []))
 refine own_go (fun tgt kst => XS.iload X1.here hx rfl (hb hby (dB11 23)) rfl  kst) ?_
 show OwnWk _ _ _ _ (T1.setTop (mkF m 46 #[vR cs, vI (1 : Int32), vR bb, vI (1 : Int32), vI (1 : Int32), vI (1 : Int32), vI q0_] [(.int (1 : Int32))]))
 exact own_retI X1 hx hlk hret (hb hby (dB11 24)) (by decide) (by decide) (by rw [e1]; exact ⟨rfl, N1, K4, _, V1⟩)
theorem pn_pn_10 : plainName "java/lang/StringUTF16" = true := by first | (simp [plainName, overriddenIn]; done) | decide +kernel
theorem pn_10 : plainFor yN10 = true := plainFor_of_name pn_pn_10
abbrev tB10 : List (Nat × Instr × Nat) := [(0, .iload_n 2, 1), (1, .newarray .byte, 2), (3, .astore_n 3, 1), (4, .aload_n 0, 1), (5, .iload_n 1, 1), (6, .aload_n 3, 1), (7, .iconst 0, 1), (8, .iload_n 2, 1), (9, .invokestatic 115, 3), (12, .istore 4, 2), (14, .iload 4, 2), (16, .iload_n 2, 1), (17, .if_icmp .eq 40, 3), (20, .aload_n 0, 1), (21, .iload_n 1, 1), (22, .iload_n 2, 1), (23, .invokestatic 119, 3), (26, .astore 5, 2), (28, .aload 5, 2), (30, .iload 4, 2), (32, .invokestatic 71, 3), (35, .sipush 255, 3), (38, .if_icmp .gt 16, 3), (41, .aload 5, 2), (43, .iconst 0, 1), (44, .aload_n 3, 1), (45, .iconst 0, 1), (46, .iload_n 2, 1), (47, .invokestatic 123, 3), (50, .iload_n 2, 1), (51, .if_icmp .eq 6, 3), (54, .aload 5, 2), (56, .areturn, 1), (57, .aload_n 3, 1), (58, .areturn, 1)]
theorem dB10 (k : Fin 35) : decode jdk_52_method_16_code (tB10.getD k (0, .nop, 1)).1 = .ok (tB10.getD k (0, .nop, 1)).2 := by revert k; decide +kernel
theorem pd_0 : parseMethodDescriptor "([CI[BII)I" = some ⟨[(.array .char), .int, (.array .byte), .int, .int], some .int⟩ := by decide +kernel
theorem ef_cpa1 (m : MethodId) (x0 : Addr) (x1 : Int32) (x2 : Int32) : entryFrame m #[(.ref x0), (.int x1), (.int x2)] 6 = mkF m 0 #[vR x0, vI x1, vI x2, .unset, .unset, .unset] [] := by first | (simp [entryFrame, mkF, argsToLocals, Value.category]; done) | rfl
def Q_cpa1 (Z : State) (cs : Addr) (q0_ : Int32) (h0 : Heap) (n0 : Nat) (v : Option Value) (h : Heap) (L : List Loc) : Prop := ∃ bb : Addr, v = some (.ref bb) ∧ Fr n0 L ∧ Keep h0 h [] ∧ h0.size ≤ bb ∧ ∃ d0_ : Int32, OAr Z h bb .byte [(.int d0_)]
set_option maxRecDepth 65536 in
set_option maxHeartbeats 40000000 in
theorem cpa1 (l : Launch) (Z : State) (a0 : Array Value) (hw : ∀ d ∈ tables_1, d.before a0 Z = true) (cs : Addr) (q0_ : Int32) (h0 : Heap) (n0 : Nat) (Z0 : n0 ≤ h0.size) (pf0 : OAr Z h0 cs .char [(.int q0_)]) (hq0_ : ¬ (255 : Int32) < q0_) :
    OwnMet l yN10 jdk_52_method_16_code 6 (some (.array .byte)) [] ({ frames := 1, cells := 1, slots := 1, locals := 18 } : Room) Z #[(.ref cs), (.int (0 : Int32)), (.int (1 : Int32))] h0 (Q_cpa1 Z cs q0_ h0 n0) := by
 refine own_met pn_10 (fun p e s m below meth c s₁ hx hby hml hown hnm hret hlk hZ X0 e0 => ?_)
 have hown : s.vm.findClass "java/lang/StringUTF16" = some m.cls := hown
 have N0 := Fr.nil n0
 have K0 := Keep.refl h0 []
 rw [ef_cpa1]
 show OwnWk _ _ _ _ (s₁.setTop (mkF m 0 #[vR cs, vI (0 : Int32), vI (1 : Int32), uX, uX, uX] []))
 refine own_go (fun tgt kst => XS.iloadN X0.here hx rfl (hb hby (dB10 0)) rfl  kst) ?_
 refine own_newP X0 hx hZ (aty := .byte) (wq hw 72 rfl) e0 rfl (hb hby (dB10 1)) rfl (by decide) (cap := 1) (by decide) (by decide) (by decide) (by decide) (fun T1 h1 b1 X1 e1 g1 E1 V1 => ?_)
 have ne2 := own_nl pf0.lt (Nat.le_of_eq g1.symm)
 have ge3 : n0 ≤ b1 := Nat.le_trans Z0 (Nat.le_of_eq g1.symm)
 have sz4 : h0.size ≤ b1 := Nat.le_trans K0.1 (Nat.le_of_eq g1.symm)
 have F5 := OAr.ext pf0 E1
 have Z6 := Nat.le_trans Z0 E1.1
 have K7 := Keep.ext K0 E1
 have V1b : OAr Z h1 b1 .byte [(.int (0 : Int32))] := V1
 show OwnWk _ _ _ _ (T1.setTop (mkF m 3 #[vR cs, vI (0 : Int32), vI (1 : Int32), uX, uX, uX] [(.ref b1)]))
 refine own_go (fun tgt kst => XS.astoreN X1.here hx rfl (hb hby (dB10 2)) rfl rfl (l' := #[vR cs, vI (0 : Int32), vI (1 : Int32), vR b1, uX, uX]) rfl kst) ?_
 refine own_go (fun tgt kst => XS.aloadN X1.here hx rfl (hb hby (dB10 3)) rfl rfl  kst) ?_
 refine own_go (fun tgt kst => XS.iloadN X1.here hx rfl (hb hby (dB10 4)) rfl  kst) ?_
 refine own_go (fun tgt kst => XS.aloadN X1.here hx rfl (hb hby (dB10 5)) rfl rfl  kst) ?_
 refine own_go (fun tgt kst => XS.iconst X1.here hx rfl (hb hby (dB10 6)) kst) ?_
 refine own_go (fun tgt kst => XS.iloadN X1.here hx rfl (hb hby (dB10 7)) rfl  kst) ?_
 show OwnWk _ _ _ _ (T1.setTop (mkF m 9 #[vR cs, vI (0 : Int32), vI (1 : Int32), vR b1, uX, uX] [(.int (1 : Int32)), (.int (0 : Int32)), (.ref b1), (.int (0 : Int32)), (.ref cs)]))
 refine own_callS X1 hx hZ (y := yN11) hown (wq hw 73 rfl) (wq hw 74 rfl) (wq hw 70 rfl) (wq hw 75 rfl) (by decide) (argsL := [(.ref cs), (.int (0 : Int32)), (.ref b1), (.int (0 : Int32)), (.int (1 : Int32))]) (rest := [])  (h := h1) (cmp1 l Z a0 hw cs b1 q0_ h1 n0 Z6 F5 V1b ne2 ge3 hq0_) e1 (W := 0) (by decide) (by decide) (by decide) (by decide) rfl (by rw [hml]; rfl) (lenOf pd_0 rfl) rfl (by show 2 * 0 + _ ≤ _; exact Nat.le_of_eq rfl) (hb hby (dB10 8)) (fun v8 T8 h8 L8 X8 e8 hQ8 => ?_)
 obtain ⟨rfl, Nq8, Kq8, d0_, Vb8⟩ := hQ8
 have N8 := Fr.app N0 Nq8
 have F9 := OAr.keep F5 Kq8 (ninS ne2 nin0)
 have Z10 := Nat.le_trans Z6 Kq8.1
 have K11 := Keep.trans K7 Kq8 (allS (Or.inr sz4) all0)
 show OwnWk _ _ _ _ (T8.setTop (mkF m 12 #[vR cs, vI (0 : Int32), vI (1 : Int32), vR b1, uX, uX] [(.int (1 : Int32))]))
 refine own_go (fun tgt kst => XS.istore X8.here hx rfl (hb hby (dB10 9)) rfl (l' := #[vR cs, vI (0 : Int32), vI (1 : Int32), vR b1, vI (1 : Int32), uX]) rfl kst) ?_
 refine own_go (fun tgt kst => XS.iload X8.here hx rfl (hb hby (dB10 10)) rfl  kst) ?_
 refine own_go (fun tgt kst => XS.iloadN X8.here hx rfl (hb hby (dB10 11)) rfl  kst) ?_
 refine own_go (fun tgt kst => XS.icmpYes X8.here hx rfl (pc0 := 17) (pc' := 57) rfl (hb hby (dB10 12)) rfl (teq (by decide : (1 : Int32) = (1 : Int32))).1 (by decide) (by decide) kst) ?_
 refine own_go (fun tgt kst => XS.aloadN X8.here hx rfl (hb hby (dB10 33)) rfl rfl  kst) ?_
 show OwnWk _ _ _ _ (T8.setTop (mkF m 58 #[vR cs, vI (0 : Int32), vI (1 : Int32), vR b1, vI (1 : Int32), uX] [(.ref b1)]))
 exact own_retA X8 hx hlk hret rfl rfl rfl (hb hby (dB10 34)) (by decide) (by decide) (by rw [e8]; exact ⟨b1, rfl, N8, K11, sz4, d0_, Vb8⟩)
theorem pn_pn_12 : plainName "java/lang/StringUTF16" = true := by first | (simp [plainName, overriddenIn]; done) | decide +kernel
theorem pn_12 : plainFor yN12 = true := plainFor_of_name pn_pn_12
abbrev tB12 : List (Nat × Instr × Nat) := [(0, .iload_n 1, 1), (1, .aload_n 0, 1), (2, .arraylength, 1), (3, .isub, 1), (4, .bipush 31, 2), (6, .iushr, 1), (7, .i2b, 1), (8, .ireturn, 1)]
theorem dB12 (k : Fin 8) : decode jdk_52_method_15_code (tB12.getD k (0, .nop, 1)).1 = .ok (tB12.getD k (0, .nop, 1)).2 := by revert k; decide +kernel
theorem ef_cod1 (m : MethodId) (x0 : Addr) (x1 : Int32) : entryFrame m #[(.ref x0), (.int x1)] 2 = mkF m 0 #[vR x0, vI x1] [] := by first | (simp [entryFrame, mkF, argsToLocals, Value.category]; done) | rfl
def Q_cod1 (Z : State) (bb : Addr) (d0_ : Int32) (h0 : Heap) (n0 : Nat) (v : Option Value) (h : Heap) (L : List Loc) : Prop := v = some (.int (0 : Int32)) ∧ Fr n0 L ∧ h = h0
set_option maxRecDepth 65536 in
set_option maxHeartbeats 40000000 in
theorem cod1 (l : Launch) (Z : State) (a0 : Array Value) (hw : ∀ d ∈ tables_1, d.before a0 Z = true) (bb : Addr) (d0_ : Int32) (h0 : Heap) (n0 : Nat) (Z0 : n0 ≤ h0.size) (pf0 : OAr Z h0 bb .byte [(.int d0_)]) :
    OwnMet l yN12 jdk_52_method_15_code 2 (some .byte) [] ({ frames := 0, cells := 0, slots := 0, locals := 0 } : Room) Z #[(.ref bb), (.int (1 : Int32))] h0 (Q_cod1 Z bb d0_ h0 n0) := by
 refine own_met pn_12 (fun p e s m below meth c s₁ hx hby hml hown hnm hret hlk hZ X0 e0 => ?_)
 have hown : s.vm.findClass "java/lang/StringUTF16" = some m.cls := hown
 have N0 := Fr.nil n0
 rw [ef_cod1]
 show OwnWk _ _ _ _ (s₁.setTop (mkF m 0 #[vR bb, vI (1 : Int32)] []))
 refine own_go (fun tgt kst => XS.iloadN X0.here hx rfl (hb hby (dB12 0)) rfl  kst) ?_
 refine own_go (fun tgt kst => XS.aloadN X0.here hx rfl (hb hby (dB12 1)) rfl rfl  kst) ?_
 refine own_len X0 hx hZ e0 pf0 rfl rfl (hb hby (dB12 2)) (N := (1 : Int32)) rfl ?_
 refine own_go (fun tgt kst => XS.isub X0.here hx rfl (hb hby (dB12 3)) rfl kst) ?_
 refine own_go (fun tgt kst => XS.bipush X0.here hx rfl (hb hby (dB12 4)) kst) ?_
 refine own_go (fun tgt kst => XS.iushr X0.here hx rfl (hb hby (dB12 5)) rfl kst) ?_
 show OwnWk _ _ _ _ (s₁.setTop (mkF m 7 #[vR bb, vI (1 : Int32)] [(.int (((0 : Int32).toUInt32 >>> ((31 : Int32) &&& 31).toUInt32).toInt32))]))
 rw [show (((0 : Int32).toUInt32 >>> ((31 : Int32) &&& 31).toUInt32).toInt32) = (0 : Int32) from by decide]
 show OwnWk _ _ _ _ (s₁.setTop (mkF m 7 #[vR bb, vI (1 : Int32)] [(.int (0 : Int32))]))
 refine own_go (fun tgt kst => XS.i2b X0.here hx rfl (hb hby (dB12 6)) rfl kst) ?_
 show OwnWk _ _ _ _ (s₁.setTop (mkF m 8 #[vR bb, vI (1 : Int32)] [(.int ((0 : Int32).toInt8.toInt32))]))
 rw [show ((0 : Int32).toInt8.toInt32) = (0 : Int32) from by decide]
 show OwnWk _ _ _ _ (s₁.setTop (mkF m 8 #[vR bb, vI (1 : Int32)] [(.int (0 : Int32))]))
 exact own_retZ X0 hx hlk hret (by simp) (z' := (0 : Int32)) rfl (hb hby (dB12 7)) (by decide) (by decide) (by rw [e0]; exact ⟨rfl, N0, rfl⟩)
theorem pn_pn_9 : plainName "java/lang/String" = true := by first | (simp [plainName, overriddenIn]; done) | decide +kernel
theorem pn_9 : plainFor yN9 = true := plainFor_of_name pn_pn_9
abbrev tB9 : List (Nat × Instr × Nat) := [(0, .aload_n 0, 1), (1, .invokespecial 1, 3), (4, .iload_n 3, 1), (5, .ifCond .ne 22, 3), (8, .aload_n 0, 1), (9, .ldc 7, 2), (11, .getfield 9, 3), (14, .putfield 9, 3), (17, .aload_n 0, 1), (18, .ldc 7, 2), (20, .getfield 15, 3), (23, .putfield 15, 3), (26, .return_, 1), (27, .getstatic 38, 3), (30, .ifCond .eq 28, 3), (33, .aload_n 1, 1), (34, .iload_n 2, 1), (35, .iload_n 3, 1), (36, .invokestatic 177, 3), (39, .astore 5, 2), (41, .aload_n 0, 1), (42, .aload 5, 2), (44, .iload_n 3, 1), (45, .invokestatic 47, 3), (48, .putfield 15, 3), (51, .aload_n 0, 1), (52, .aload 5, 2), (54, .putfield 9, 3), (57, .return_, 1), (58, .aload_n 0, 1), (59, .iconst 1, 1), (60, .putfield 15, 3), (63, .aload_n 0, 1), (64, .aload_n 1, 1), (65, .iload_n 2, 1), (66, .iload_n 3, 1), (67, .invokestatic 180, 3), (70, .putfield 9, 3), (73, .return_, 1)]
theorem dB9 (k : Fin 39) : decode jdk_42_method_149_code (tB9.getD k (0, .nop, 1)).1 = .ok (tB9.getD k (0, .nop, 1)).2 := by revert k; decide +kernel
theorem pd_1 : parseMethodDescriptor "([CII)[B" = some ⟨[(.array .char), .int, .int], some (.array .byte)⟩ := by decide +kernel
theorem pd_2 : parseMethodDescriptor "([BI)B" = some ⟨[(.array .byte), .int], some .byte⟩ := by decide +kernel
theorem ef_stv1 (m : MethodId) (x0 : Addr) (x1 : Addr) (x2 : Int32) (x3 : Int32) : entryFrame m #[(.ref x0), (.ref x1), (.int x2), (.int x3), .null] 6 = mkF m 0 #[vR x0, vR x1, vI x2, vI x3, .val .null, .unset] [] := by first | (simp [entryFrame, mkF, argsToLocals, Value.category]; done) | rfl
def Q_stv1 (Z : State) (cv : Int32) (x_ cs : Addr) (q0_ : Int32) (h0 : Heap) (n0 : Nat) (v : Option Value) (h : Heap) (L : List Loc) : Prop := v = none ∧ Fr n0 L ∧ Keep h0 h [x_]
set_option maxRecDepth 65536 in
set_option maxHeartbeats 40000000 in
theorem stv1 (l : Launch) (Z : State) (a0 : Array Value) (hw : ∀ d ∈ tables_1, d.before a0 Z = true) (cv : Int32) (x_ cs : Addr) (q0_ : Int32) (h0 : Heap) (n0 : Nat) (Z0 : n0 ≤ h0.size) (O0 : Old Z n0 h0) (S_c : Sta Z Z.heap "java/lang/String" "COMPACT_STRINGS" "Z" (.int cv)) (hcv : ¬ cv = 0) (pf0 : Exa Z h0 x_ "java/lang/String") (pf1 : Fld Z h0 x_ "java/lang/String" "value" "[B" .null) (pf2 : Fld Z h0 x_ "java/lang/String" "coder" "B" (.int (0 : Int32))) (pf3 : OAr Z h0 cs .char [(.int q0_)]) (dn0 : x_ ≠ cs) (gn0 : n0 ≤ x_) (hq0_ : ¬ (255 : Int32) < q0_) :
    OwnMet l yN9 jdk_42_method_149_code 6 none [] ({ frames := 2, cells := 1, slots := 1, locals := 35 } : Room) Z #[(.ref x_), (.ref cs), (.int (0 : Int32)), (.int (1 : Int32)), .null] h0 (Q_stv1 Z cv x_ cs q0_ h0 n0) := by
 refine own_met pn_9 (fun p e s m below meth c s₁ hx hby hml hown hnm hret hlk hZ X0 e0 => ?_)
 have hown : s.vm.findClass "java/lang/String" = some m.cls := hown
 have N0 := Fr.nil n0
 have K0 := Keep.refl h0 [x_]
 rw [ef_stv1]
 show OwnWk _ _ _ _ (s₁.setTop (mkF m 0 #[vR x_, vR cs, vI (0 : Int32), vI (1 : Int32), .val .null, uX] []))
 refine own_go (fun tgt kst => XS.aloadN X0.here hx rfl (hb hby (dB9 0)) rfl rfl  kst) ?_
 show OwnWk _ _ _ _ (s₁.setTop (mkF m 1 #[vR x_, vR cs, vI (0 : Int32), vI (1 : Int32), .val .null, uX] [(.ref x_)]))
 obtain ⟨T1, X1, e1, st1⟩ := initO X0 hx hZ hown (wq hw 66 rfl) (wq hw 13 rfl) (wq hw 14 rfl) e0 (g := (mkF m 1 #[vR x_, vR cs, vI (0 : Int32), vI (1 : Int32), .val .null, uX] [(.ref x_)])) rfl (by rw [hml]; rfl) rfl (hb hby (dB9 1)) (by decide) (W := 0) (by show 2 * 0 + _ ≤ _; exact Nat.le_of_eq rfl) (by decide)
 refine own_go st1 ?_
 show OwnWk _ _ _ _ (T1.setTop (mkF m 4 #[vR x_, vR cs, vI (0 : Int32), vI (1 : Int32), .val .null, uX] []))
 refine own_go (fun tgt kst => XS.iloadN X1.here hx rfl (hb hby (dB9 2)) rfl  kst) ?_
 refine own_go (fun tgt kst => XS.ifYes X1.here hx rfl (pc0 := 5) (pc' := 27) rfl (hb hby (dB9 3)) rfl ((if0 _ _).trans (feq (by decide : ¬ ((1 : Int32) = (0 : Int32)))).2) (by decide) (by decide) kst) ?_
 show OwnWk _ _ _ _ (T1.setTop (mkF m 27 #[vR x_, vR cs, vI (0 : Int32), vI (1 : Int32), .val .null, uX] []))
 obtain ⟨T2, X2, e2, st2⟩ := getS2 X1 hx hZ hown (host := "") (Or.inl (wq hw 67 rfl)) Via.refl e1 (Sta.ext O0.2 S_c) (g := (mkF m 27 #[vR x_, vR cs, vI (0 : Int32), vI (1 : Int32), .val .null, uX] [])) rfl (hb hby (dB9 13))
 refine own_go st2 ?_
 show OwnWk _ _ _ _ (T2.setTop (mkF m 30 #[vR x_, vR cs, vI (0 : Int32), vI (1 : Int32), .val .null, uX] [(.int cv)]))
 refine own_go (fun tgt kst => XS.ifNo X2.here hx rfl (hb hby (dB9 14)) rfl ((if0 _ _).trans (feq hcv).1) kst) ?_
 show OwnWk _ _ _ _ (T2.setTop (mkF m 33 #[vR x_, vR cs, vI (0 : Int32), vI (1 : Int32), .val .null, uX] []))
 refine own_go (fun tgt kst => XS.aloadN X2.here hx rfl (hb hby (dB9 15)) rfl rfl  kst) ?_
 refine own_go (fun tgt kst => XS.iloadN X2.here hx rfl (hb hby (dB9 16)) rfl  kst) ?_
 refine own_go (fun tgt kst => XS.iloadN X2.here hx rfl (hb hby (dB9 17)) rfl  kst) ?_
 show OwnWk _ _ _ _ (T2.setTop (mkF m 36 #[vR x_, vR cs, vI (0 : Int32), vI (1 : Int32), .val .null, uX] [(.int (1 : Int32)), (.int (0 : Int32)), (.ref cs)]))
 have lt3 : x_ < h0.size := pf0.lt
 have lt4 : cs < h0.size := pf3.lt
 refine own_callS X2 hx hZ (y := yN10) hown (wq hw 68 rfl) (wq hw 69 rfl) (wq hw 70 rfl) (wq hw 71 rfl) (by decide) (argsL := [(.ref cs), (.int (0 : Int32)), (.int (1 : Int32))]) (rest := [])  (h := h0) (cpa1 l Z a0 hw cs q0_ h0 n0 Z0 pf3 hq0_) e2 (W := 0) (by decide) (by decide) (by decide) (by decide) rfl (by rw [hml]; rfl) (lenOf pd_1 rfl) rfl (by show 2 * 0 + _ ≤ _; exact Nat.le_of_eq rfl) (hb hby (dB9 18)) (fun v5 T5 h5 L5 X5 e5 hQ5 => ?_)
 obtain ⟨bb, rfl, Nq5, Kq5, sb5, d0_, Vb5⟩ := hQ5
 have N5 := Fr.app N0 Nq5
 have F6 := Exa.keep pf0 Kq5
 have F7 := Fld.keep pf1 Kq5 nin0
 have F8 := Fld.keep pf2 Kq5 nin0
 have F9 := OAr.keep pf3 Kq5 nin0
 have F10 := Old.keep O0 Kq5 all0
 have Z11 := Nat.le_trans Z0 Kq5.1
 have K12 := Keep.trans K0 Kq5 all0
 have ne13 := own_nl lt3 sb5
 have ne14 := own_nl lt4 sb5
 have ga15 : n0 ≤ bb := Nat.le_trans Z0 sb5
 have sa16 : h0.size ≤ bb := Nat.le_trans K0.1 sb5
 show OwnWk _ _ _ _ (T5.setTop (mkF m 39 #[vR x_, vR cs, vI (0 : Int32), vI (1 : Int32), .val .null, uX] [(.ref bb)]))
 refine own_go (fun tgt kst => XS.astore X5.here hx rfl (hb hby (dB9 19)) rfl rfl (l' := #[vR x_, vR cs, vI (0 : Int32), vI (1 : Int32), .val .null, vR bb]) rfl kst) ?_
 refine own_go (fun tgt kst => XS.aloadN X5.here hx rfl (hb hby (dB9 20)) rfl rfl  kst) ?_
 refine own_go (fun tgt kst => XS.aload X5.here hx rfl (hb hby (dB9 21)) rfl rfl  kst) ?_
 refine own_go (fun tgt kst => XS.iloadN X5.here hx rfl (hb hby (dB9 22)) rfl  kst) ?_
 show OwnWk _ _ _ _ (T5.setTop (mkF m 45 #[vR x_, vR cs, vI (0 : Int32), vI (1 : Int32), .val .null, vR bb] [(.int (1 : Int32)), (.ref bb), (.ref x_)]))
 refine own_callS X5 hx hZ (y := yN12) hown (wq hw 76 rfl) (wq hw 77 rfl) (wq hw 70 rfl) (wq hw 78 rfl) (by decide) (argsL := [(.ref bb), (.int (1 : Int32))]) (rest := [(.ref x_)])  (h := h5) (cod1 l Z a0 hw bb d0_ h5 n0 Z11 Vb5) e5 (W := 1) (by decide) (by decide) (by decide) (by decide) rfl (by rw [hml]; rfl) (lenOf pd_2 rfl) rfl (by show 2 * 0 + _ ≤ _; exact Nat.le_of_eq rfl) (hb hby (dB9 23)) (fun v17 T17 h17 L17 X17 e17 hQ17 => ?_)
 obtain ⟨rfl, Nq17, q17⟩ := hQ17
 have N17 := Fr.app N5 Nq17
 rw [q17] at e17
 show OwnWk _ _ _ _ (T17.setTop (mkF m 48 #[vR x_, vR cs, vI (0 : Int32), vI (1 : Int32), .val .null, vR bb] [(.int (0 : Int32)), (.ref x_)]))
 obtain ⟨T18, h18, X18, e18, W18, st18⟩ := putFN X17 hx hZ hown (wq hw 79 rfl) Via.refl e17 F8 F6 (Or.inr ⟨(wq hw 80 rfl), rfl, hnm⟩) (wq hw 56 rfl) (ty := .byte) (v' := (.int (0 : Int32))) (by decide) rfl rfl (g := (mkF m 48 #[vR x_, vR cs, vI (0 : Int32), vI (1 : Int32), .val .null, vR bb] [(.int (0 : Int32)), (.ref x_)])) rfl rfl (hb hby (dB9 24))
 refine own_go st18 ?_
 have N18 := Fr.snoc X18 N17 gn0
 have Fw18 := Fld.same W18 F8
 have F19 := Exa.wr W18 F6
 have F20 := Fld.other W18 F7 (Or.inr (slot_ne (Or.inr (wq hw 82 rfl)) (Or.inr (wq hw 80 rfl)) (by decide) (t := (.array .byte)) (t' := .byte) (by decide) (by decide)))
 have F21 := OAr.other F9 W18 (Ne.symm dn0)
 have F22 := Old.wr F10 W18 gn0
 have F23 := OAr.other Vb5 W18 (Ne.symm ne13)
 have Z24 := Nat.le_trans Z11 (Keep.of_wr W18).1
 have K25 := Keep.wr K12 W18 (Or.inl (List.mem_of_getElem? (i := 0) rfl))
 show OwnWk _ _ _ _ (T18.setTop (mkF m 51 #[vR x_, vR cs, vI (0 : Int32), vI (1 : Int32), .val .null, vR bb] []))
 refine own_go (fun tgt kst => XS.aloadN X18.here hx rfl (hb hby (dB9 25)) rfl rfl  kst) ?_
 refine own_go (fun tgt kst => XS.aload X18.here hx rfl (hb hby (dB9 26)) rfl rfl  kst) ?_
 show OwnWk _ _ _ _ (T18.setTop (mkF m 54 #[vR x_, vR cs, vI (0 : Int32), vI (1 : Int32), .val .null, vR bb] [(.ref bb), (.ref x_)]))
 obtain ⟨T26, h26, X26, e26, W26, st26⟩ := putF X18 hx hZ hown (host := "") (Or.inl (wq hw 81 rfl)) Via.refl e18 F20 F19 (Or.inr ⟨(wq hw 82 rfl), rfl, hnm⟩) (wq hw 56 rfl) (v := (.ref bb)) (ty := (.array .byte)) (by decide) rfl rfl (g := (mkF m 54 #[vR x_, vR cs, vI (0 : Int32), vI (1 : Int32), .val .null, vR bb] [(.ref bb), (.ref x_)])) rfl rfl (hb hby (dB9 27))
 refine own_go st26 ?_
 have N26 := Fr.snoc X26 N18 gn0
 have Fw26 := Fld.same W26 F20
 have F27 := Exa.wr W26 F19
 have F28 := OAr.other F21 W26 (Ne.symm dn0)
 have F29 := Old.wr F22 W26 gn0
 have F30 := OAr.other F23 W26 (Ne.symm ne13)
 have F31 := Fld.other W26 Fw18 (Or.inr (slot_ne (Or.inr (wq hw 80 rfl)) (Or.inr (wq hw 82 rfl)) (by decide) (t := .byte) (t' := (.array .byte)) (by decide) (by decide)))
 have Z32 := Nat.le_trans Z24 (Keep.of_wr W26).1
 have K33 := Keep.wr K25 W26 (Or.inl (List.mem_of_getElem? (i := 0) rfl))
 show OwnWk _ _ _ _ (T26.setTop (mkF m 57 #[vR x_, vR cs, vI (0 : Int32), vI (1 : Int32), .val .null, vR bb] []))
 exact own_retV X26 hx hlk hret (hb hby (dB9 28)) (by decide) (by decide) (by rw [e26]; exact ⟨rfl, N26, K33⟩)
theorem pn_pn_8 : plainName "java/lang/String" = true := by first | (simp [plainName, overriddenIn]; done) | decide +kernel
theorem pn_8 : plainFor yN8 = true := plainFor_of_name pn_pn_8
abbrev tB8 : List (Nat × Instr × Nat) := [(0, .aload_n 0, 1), (1, .aload_n 1, 1), (2, .iconst 0, 1), (3, .aload_n 1, 1), (4, .arraylength, 1), (5, .aconst_null, 1), (6, .invokespecial 27, 3), (9, .return_, 1)]
theorem dB8 (k : Fin 8) : decode jdk_42_method_3_code (tB8.getD k (0, .nop, 1)).1 = .ok (tB8.getD k (0, .nop, 1)).2 := by revert k; decide +kernel
theorem pd_3 : parseMethodDescriptor "([CIILjava/lang/Void;)V" = some ⟨[(.array .char), .int, .int, (.object "java/lang/Void")], none⟩ := by decide +kernel
theorem ef_sti1 (m : MethodId) (x0 : Addr) (x1 : Addr) : entryFrame m #[(.ref x0), (.ref x1)] 2 = mkF m 0 #[vR x0, vR x1] [] := by first | (simp [entryFrame, mkF, argsToLocals, Value.category]; done) | rfl
def Q_sti1 (Z : State) (cv : Int32) (x_ cs : Addr) (q0_ : Int32) (h0 : Heap) (n0 : Nat) (v : Option Value) (h : Heap) (L : List Loc) : Prop := v = none ∧ Fr n0 L ∧ Keep h0 h [x_]
set_option maxRecDepth 65536 in
set_option maxHeartbeats 40000000 in
theorem sti1 (l : Launch) (Z : State) (a0 : Array Value) (hw : ∀ d ∈ tables_1, d.before a0 Z = true) (cv : Int32) (x_ cs : Addr) (q0_ : Int32) (h0 : Heap) (n0 : Nat) (Z0 : n0 ≤ h0.size) (O0 : Old Z n0 h0) (S_c : Sta Z Z.heap "java/lang/String" "COMPACT_STRINGS" "Z" (.int cv)) (hcv : ¬ cv = 0) (pf0 : Exa Z h0 x_ "java/lang/String") (pf1 : Fld Z h0 x_ "java/lang/String" "value" "[B" .null) (pf2 : Fld Z h0 x_ "java/lang/String" "coder" "B" (.int (0 : Int32))) (pf3 : OAr Z h0 cs .char [(.int q0_)]) (dn0 : x_ ≠ cs) (gn0 : n0 ≤ x_) (hq0_ : ¬ (255 : Int32) < q0_) :
    OwnMet l yN8 jdk_42_method_3_code 2 none [] ({ frames := 3, cells := 1, slots := 1, locals := 52 } : Room) Z #[(.ref x_), (.ref cs)] h0 (Q_sti1 Z cv x_ cs q0_ h0 n0) := by
 refine own_met pn_8 (fun p e s m below meth c s₁ hx hby hml hown hnm hret hlk hZ X0 e0 => ?_)
 have hown : s.vm.findClass "java/lang/String" = some m.cls := hown
 have N0 := Fr.nil n0
 have K0 := Keep.refl h0 [x_]
 rw [ef_sti1]
 show OwnWk _ _ _ _ (s₁.setTop (mkF m 0 #[vR x_, vR cs] []))
 refine own_go (fun tgt kst => XS.aloadN X0.here hx rfl (hb hby (dB8 0)) rfl rfl  kst) ?_
 refine own_go (fun tgt kst => XS.aloadN X0.here hx rfl (hb hby (dB8 1)) rfl rfl  kst) ?_
 refine own_go (fun tgt kst => XS.iconst X0.here hx rfl (hb hby (dB8 2)) kst) ?_
 refine own_go (fun tgt kst => XS.aloadN X0.here hx rfl (hb hby (dB8 3)) rfl rfl  kst) ?_
 refine own_len X0 hx hZ e0 pf3 rfl rfl (hb hby (dB8 4)) (N := (1 : Int32)) rfl ?_
 refine own_go (fun tgt kst => XS.aconstNull X0.here hx rfl (hb hby (dB8 5)) kst) ?_
 show OwnWk _ _ _ _ (s₁.setTop (mkF m 6 #[vR x_, vR cs] [.null, (.int (1 : Int32)), (.int (0 : Int32)), (.ref cs), (.ref x_)]))
 refine own_callC X0 hx hZ (y := yN9) hown rfl (wq hw 62 rfl) (wq hw 63 rfl) (wq hw 57 rfl) (wq hw 65 rfl) (by decide) (a := x_) (argsL := [(.ref cs), (.int (0 : Int32)), (.int (1 : Int32)), .null]) (rest := [])  (h := h0) (stv1 l Z a0 hw cv x_ cs q0_ h0 n0 Z0 O0 S_c hcv pf0 pf1 pf2 pf3 dn0 gn0 hq0_) e0 (W := 0) (by decide) (by decide) (by decide) (by decide) rfl (by rw [hml]; rfl) (lenOf pd_3 rfl) rfl (by show 2 * 0 + _ ≤ _; exact Nat.le_of_eq rfl) (hb hby (dB8 6)) (fun v1 T1 h1 L1 X1 e1 hQ1 => ?_)
 obtain ⟨rfl, Nq1, Kq1⟩ := hQ1
 have N1 := Fr.app N0 Nq1
 have F2 := Exa.keep pf0 Kq1
 have F3 := OAr.keep pf3 Kq1 (ninS (Ne.symm dn0) nin0)
 have F4 := Old.keep O0 Kq1 (allS gn0 all0)
 have Z5 := Nat.le_trans Z0 Kq1.1
 have K6 := Keep.trans K0 Kq1 (allS (Or.inl (List.mem_of_getElem? (i := 0) rfl)) all0)
 show OwnWk _ _ _ _ (T1.setTop (mkF m 9 #[vR x_, vR cs] []))
 exact own_retV X1 hx hlk hret (hb hby (dB8 7)) (by decide) (by decide) (by rw [e1]; exact ⟨rfl, N1, K6⟩)
theorem pn_pn_7 : plainName "com/example/enrichd/enrichd/core/BlockIsHeadingPinLaw" = true := by first | (simp [plainName, overriddenIn]; done) | decide +kernel
theorem pn_7 : plainFor yN7 = true := plainFor_of_name pn_pn_7
abbrev tB7 : List (Nat × Instr × Nat) := [(0, .iload_n 1, 1), (1, .sipush 255, 3), (4, .iand, 1), (5, .i2c, 1), (6, .istore_n 3, 1), (7, .iload_n 2, 1), (8, .sipush 255, 3), (11, .iand, 1), (12, .i2c, 1), (13, .istore 4, 2), (15, .iload_n 0, 1), (16, .ifCond .ne 14, 3), (19, .new 7, 3), (22, .dup, 1), (23, .iconst 0, 1), (24, .newarray .char, 2), (26, .invokespecial 9, 3), (29, .areturn, 1), (30, .iload_n 0, 1), (31, .iconst 1, 1), (32, .if_icmp .ne 18, 3), (35, .new 7, 3), (38, .dup, 1), (39, .iconst 1, 1), (40, .newarray .char, 2), (42, .dup, 1), (43, .iconst 0, 1), (44, .iload_n 3, 1), (45, .castore, 1), (46, .invokespecial 9, 3), (49, .areturn, 1), (50, .new 7, 3), (53, .dup, 1), (54, .iconst 2, 1), (55, .newarray .char, 2), (57, .dup, 1), (58, .iconst 0, 1), (59, .iload_n 3, 1), (60, .castore, 1), (61, .dup, 1), (62, .iconst 1, 1), (63, .iload 4, 2), (65, .castore, 1), (66, .invokespecial 9, 3), (69, .areturn, 1)]
theorem dB7 (k : Fin 45) : decode method_2_code (tB7.getD k (0, .nop, 1)).1 = .ok (tB7.getD k (0, .nop, 1)).2 := by revert k; decide +kernel
theorem pd_4 : parseMethodDescriptor "([C)V" = some ⟨[(.array .char)], none⟩ := by decide +kernel
theorem ef_drw1 (m : MethodId) (x0 : Int32) (x1 : Int32) (x2 : Int32) : entryFrame m #[(.int x0), (.int x1), (.int x2)] 5 = mkF m 0 #[vI x0, vI x1, vI x2, .unset, .unset] [] := by first | (simp [entryFrame, mkF, argsToLocals, Value.category]; done) | rfl
def Q_drw1 (Z : State) (cv : Int32) (u0 u1 : Int32) (h0 : Heap) (n0 : Nat) (v : Option Value) (h : Heap) (L : List Loc) : Prop := ∃ x_ : Addr, v = some (.ref x_) ∧ Fr n0 L ∧ Keep h0 h [] ∧ h0.size ≤ x_
set_option maxRecDepth 65536 in
set_option maxHeartbeats 40000000 in
theorem drw1 (l : Launch) (Z : State) (a0 : Array Value) (hw : ∀ d ∈ tables_1, d.before a0 Z = true) (cv : Int32) (u0 u1 : Int32) (h0 : Heap) (n0 : Nat) (Z0 : n0 ≤ h0.size) (O0 : Old Z n0 h0) (S_c : Sta Z Z.heap "java/lang/String" "COMPACT_STRINGS" "Z" (.int cv)) (hcv : ¬ cv = 0)  :
    OwnMet l yN7 method_2_code 5 (some (.object "java/lang/String")) [] ({ frames := 4, cells := 3, slots := 6, locals := 66 } : Room) Z #[(.int (1 : Int32)), (.int u0), (.int u1)] h0 (Q_drw1 Z cv u0 u1 h0 n0) := by
 refine own_met pn_7 (fun p e s m below meth c s₁ hx hby hml hown hnm hret hlk hZ X0 e0 => ?_)
 have hown : s.vm.findClass "com/example/enrichd/enrichd/core/BlockIsHeadingPinLaw" = some m.cls := hown
 have N0 := Fr.nil n0
 have K0 := Keep.refl h0 []
 rw [ef_drw1]
 show OwnWk _ _ _ _ (s₁.setTop (mkF m 0 #[vI (1 : Int32), vI u0, vI u1, uX, uX] []))
 refine own_go (fun tgt kst => XS.iloadN X0.here hx rfl (hb hby (dB7 0)) rfl  kst) ?_
 refine own_go (fun tgt kst => XS.sipush X0.here hx rfl (hb hby (dB7 1)) kst) ?_
 refine own_go (fun tgt kst => XS.iand X0.here hx rfl (hb hby (dB7 2)) rfl kst) ?_
 refine own_go (fun tgt kst => XS.i2c X0.here hx rfl (hb hby (dB7 3)) rfl kst) ?_
 refine own_go (fun tgt kst => XS.istoreN X0.here hx rfl (hb hby (dB7 4)) rfl (l' := #[vI (1 : Int32), vI u0, vI u1, vI ((u0 &&& (255 : Int32)).toUInt32.toUInt16.toUInt32.toInt32), uX]) rfl kst) ?_
 refine own_go (fun tgt kst => XS.iloadN X0.here hx rfl (hb hby (dB7 5)) rfl  kst) ?_
 show OwnWk _ _ _ _ (s₁.setTop (mkF m 8 #[vI (1 : Int32), vI u0, vI u1, vI ((u0 &&& (255 : Int32)).toUInt32.toUInt16.toUInt32.toInt32), uX] [(.int u1)]))
 refine own_go (fun tgt kst => XS.sipush X0.here hx rfl (hb hby (dB7 6)) kst) ?_
 refine own_go (fun tgt kst => XS.iand X0.here hx rfl (hb hby (dB7 7)) rfl kst) ?_
 refine own_go (fun tgt kst => XS.i2c X0.here hx rfl (hb hby (dB7 8)) rfl kst) ?_
 refine own_go (fun tgt kst => XS.istore X0.here hx rfl (hb hby (dB7 9)) rfl (l' := #[vI (1 : Int32), vI u0, vI u1, vI ((u0 &&& (255 : Int32)).toUInt32.toUInt16.toUInt32.toInt32), vI ((u1 &&& (255 : Int32)).toUInt32.toUInt16.toUInt32.toInt32)]) rfl kst) ?_
 refine own_go (fun tgt kst => XS.iloadN X0.here hx rfl (hb hby (dB7 10)) rfl  kst) ?_
 refine own_go (fun tgt kst => XS.ifYes X0.here hx rfl (pc0 := 16) (pc' := 30) rfl (hb hby (dB7 11)) rfl ((if0 _ _).trans (feq (by decide : ¬ ((1 : Int32) = (0 : Int32)))).2) (by decide) (by decide) kst) ?_
 show OwnWk _ _ _ _ (s₁.setTop (mkF m 30 #[vI (1 : Int32), vI u0, vI u1, vI ((u0 &&& (255 : Int32)).toUInt32.toUInt16.toUInt32.toInt32), vI ((u1 &&& (255 : Int32)).toUInt32.toUInt16.toUInt32.toInt32)] []))
 refine own_go (fun tgt kst => XS.iloadN X0.here hx rfl (hb hby (dB7 18)) rfl  kst) ?_
 refine own_go (fun tgt kst => XS.iconst X0.here hx rfl (hb hby (dB7 19)) kst) ?_
 refine own_go (fun tgt kst => XS.icmpNo X0.here hx rfl (hb hby (dB7 20)) rfl (teq (by decide : (1 : Int32) = (1 : Int32))).2 kst) ?_
 show OwnWk _ _ _ _ (s₁.setTop (mkF m 35 #[vI (1 : Int32), vI u0, vI u1, vI ((u0 &&& (255 : Int32)).toUInt32.toUInt16.toUInt32.toInt32), vI ((u1 &&& (255 : Int32)).toUInt32.toUInt16.toUInt32.toInt32)] []))
 obtain ⟨T1, h1, X1, e1, E1, A1, D1, -, st1⟩ := newO X0 hx hZ hown (wq hw 55 rfl) (wq hw 56 rfl) (wq hw 57 rfl) e0 (g := (mkF m 35 #[vI (1 : Int32), vI u0, vI u1, vI ((u0 &&& (255 : Int32)).toUInt32.toUInt16.toUInt32.toInt32), vI ((u1 &&& (255 : Int32)).toUInt32.toUInt16.toUInt32.toInt32)] [])) rfl (hb hby (dB7 21)) (by decide) (by decide)
 obtain ⟨b1, g1⟩ : ∃ z, z = h0.size := ⟨_, rfl⟩
 rw [← g1] at A1 D1 st1
 refine own_go st1 ?_
 have ge2 : n0 ≤ b1 := Nat.le_trans Z0 (Nat.le_of_eq g1.symm)
 have sz3 : h0.size ≤ b1 := Nat.le_trans K0.1 (Nat.le_of_eq g1.symm)
 have F4 := Old.ext O0 E1
 have Z5 := Nat.le_trans Z0 E1.1
 have K6 := Keep.ext K0 E1
 have F7 : Fld Z h1 b1 "java/lang/String" "coder" "B" (.int (0 : Int32)) := D1 (Or.inr (wq hw 80 rfl)) (ty := .byte) (by decide)
 have F8 : Fld Z h1 b1 "java/lang/String" "value" "[B" .null := D1 (Or.inr (wq hw 82 rfl)) (ty := (.array .byte)) (by decide)
 show OwnWk _ _ _ _ (T1.setTop (mkF m 38 #[vI (1 : Int32), vI u0, vI u1, vI ((u0 &&& (255 : Int32)).toUInt32.toUInt16.toUInt32.toInt32), vI ((u1 &&& (255 : Int32)).toUInt32.toUInt16.toUInt32.toInt32)] [(.ref b1)]))
 refine own_go (fun tgt kst => XS.dup X1.here hx rfl (hb hby (dB7 22)) rfl rfl kst) ?_
 refine own_go (fun tgt kst => XS.iconst X1.here hx rfl (hb hby (dB7 23)) kst) ?_
 refine own_newP X1 hx hZ (aty := .char) (wq hw 58 rfl) e1 rfl (hb hby (dB7 24)) rfl (by decide) (cap := 1) (by decide) (by decide) (by decide) (by decide) (fun T9 h9 b9 X9 e9 g9 E9 V9 => ?_)
 have ne10 := own_nl A1.lt (Nat.le_of_eq g9.symm)
 have ge11 : n0 ≤ b9 := Nat.le_trans Z5 (Nat.le_of_eq g9.symm)
 have sz12 : h0.size ≤ b9 := Nat.le_trans K6.1 (Nat.le_of_eq g9.symm)
 have F13 := Old.ext F4 E9
 have F14 := Exa.ext E9 A1
 have F15 := Fld.ext E9 F7
 have F16 := Fld.ext E9 F8
 have Z17 := Nat.le_trans Z5 E9.1
 have K18 := Keep.ext K6 E9
 have V9b : OAr Z h9 b9 .char [(.int (0 : Int32))] := V9
 show OwnWk _ _ _ _ (T9.setTop (mkF m 42 #[vI (1 : Int32), vI u0, vI u1, vI ((u0 &&& (255 : Int32)).toUInt32.toUInt16.toUInt32.toInt32), vI ((u1 &&& (255 : Int32)).toUInt32.toUInt16.toUInt32.toInt32)] [(.ref b9), (.ref b1), (.ref b1)]))
 refine own_go (fun tgt kst => XS.dup X9.here hx rfl (hb hby (dB7 25)) rfl rfl kst) ?_
 refine own_go (fun tgt kst => XS.iconst X9.here hx rfl (hb hby (dB7 26)) kst) ?_
 refine own_go (fun tgt kst => XS.iloadN X9.here hx rfl (hb hby (dB7 27)) rfl  kst) ?_
 refine own_stC X9 hx hZ e9 V9b rfl rfl (hb hby (dB7 28)) (by decide) (Nat.le_of_ble_eq_true rfl) (fun T19 h19 X19 e19 W19 V19 => ?_)
 have N19 := Fr.snoc X19 N0 ge11
 have F20 := Old.wr F13 W19 ge11
 have F21 := Exa.wr W19 F14
 have F22 := Fld.other W19 F15 (Or.inl ne10)
 have F23 := Fld.other W19 F16 (Or.inl ne10)
 have Z24 := Nat.le_trans Z17 (Keep.of_wr W19).1
 have K25 := Keep.wr K18 W19 (Or.inr sz12)
 show OwnWk _ _ _ _ (T19.setTop (mkF m 46 #[vI (1 : Int32), vI u0, vI u1, vI ((u0 &&& (255 : Int32)).toUInt32.toUInt16.toUInt32.toInt32), vI ((u1 &&& (255 : Int32)).toUInt32.toUInt16.toUInt32.toInt32)] [(.ref b9), (.ref b1), (.ref b1)]))
 refine own_callC X19 hx hZ (y := yN8) hown rfl (wq hw 59 rfl) (wq hw 60 rfl) (wq hw 57 rfl) (wq hw 61 rfl) (by decide) (a := b1) (argsL := [(.ref b9)]) (rest := [(.ref b1)])  (h := h19) (sti1 l Z a0 hw cv b1 b9 (nar .char ((u0 &&& (255 : Int32)).toUInt32.toUInt16.toUInt32.toInt32)) h19 n0 Z24 F20 S_c hcv F21 F23 F22 V19 ne10 ge2 (own_c255 u0)) e19 (W := 1) (by decide) (by decide) (by decide) (by decide) rfl (by rw [hml]; rfl) (lenOf pd_4 rfl) rfl (by show 2 * 0 + _ ≤ _; exact Nat.le_of_eq rfl) (hb hby (dB7 29)) (fun v26 T26 h26 L26 X26 e26 hQ26 => ?_)
 obtain ⟨rfl, Nq26, Kq26⟩ := hQ26
 have N26 := Fr.app N19 Nq26
 have F27 := Old.keep F20 Kq26 (allS ge2 all0)
 have F28 := Exa.keep F21 Kq26
 have F29 := OAr.keep V19 Kq26 (ninS (Ne.symm ne10) nin0)
 have Z30 := Nat.le_trans Z24 Kq26.1
 have K31 := Keep.trans K25 Kq26 (allS (Or.inr sz3) all0)
 show OwnWk _ _ _ _ (T26.setTop (mkF m 49 #[vI (1 : Int32), vI u0, vI u1, vI ((u0 &&& (255 : Int32)).toUInt32.toUInt16.toUInt32.toInt32), vI ((u1 &&& (255 : Int32)).toUInt32.toUInt16.toUInt32.toInt32)] [(.ref b1)]))
 exact own_retA X26 hx hlk hret rfl rfl rfl (hb hby (dB7 30)) (by decide) (by decide) (by rw [e26]; exact ⟨b1, rfl, N26, K31, sz3⟩)
theorem ef_cmp2 (m : MethodId) (x0 : Addr) (x1 : Int32) (x2 : Addr) (x3 : Int32) (x4 : Int32) : entryFrame m #[(.ref x0), (.int x1), (.ref x2), (.int x3), (.int x4)] 7 = mkF m 0 #[vR x0, vI x1, vR x2, vI x3, vI x4, .unset, .unset] [] := by first | (simp [entryFrame, mkF, argsToLocals, Value.category]; done) | rfl
def Q_cmp2 (Z : State) (cs bb : Addr) (q0_ q1_ : Int32) (h0 : Heap) (n0 : Nat) (v : Option Value) (h : Heap) (L : List Loc) : Prop := v = some (.int (2 : Int32)) ∧ Fr n0 L ∧ Keep h0 h [bb] ∧ ∃ d0_ d1_ : Int32, OAr Z h bb .byte [(.int d0_), (.int d1_)]
set_option maxRecDepth 65536 in
set_option maxHeartbeats 40000000 in
theorem cmp2 (l : Launch) (Z : State) (a0 : Array Value) (hw : ∀ d ∈ tables_1, d.before a0 Z = true) (cs bb : Addr) (q0_ q1_ : Int32) (h0 : Heap) (n0 : Nat) (Z0 : n0 ≤ h0.size) (pf0 : OAr Z h0 cs .char [(.int q0_), (.int q1_)]) (pf1 : OAr Z h0 bb .byte [(.int (0 : Int32)), (.int (0 : Int32))]) (dn0 : cs ≠ bb) (gn0 : n0 ≤ bb) (hq0_ : ¬ (255 : Int32) < q0_) (hq1_ : ¬ (255 : Int32) < q1_) :
    OwnMet l yN11 jdk_52_method_21_code 7 (some .int) [] ({ frames := 0, cells := 0, slots := 0, locals := 0 } : Room) Z #[(.ref cs), (.int (0 : Int32)), (.ref bb), (.int (0 : Int32)), (.int (2 : Int32))] h0 (Q_cmp2 Z cs bb q0_ q1_ h0 n0) := by
 refine own_met pn_11 (fun p e s m below meth c s₁ hx hby hml hown hnm hret hlk hZ X0 e0 => ?_)
 have hown : s.vm.findClass "java/lang/StringUTF16" = some m.cls := hown
 have N0 := Fr.nil n0
 have K0 := Keep.refl h0 [bb]
 rw [ef_cmp2]
 show OwnWk _ _ _ _ (s₁.setTop (mkF m 0 #[vR cs, vI (0 : Int32), vR bb, vI (0 : Int32), vI (2 : Int32), uX, uX] []))
 refine own_go (fun tgt kst => XS.iconst X0.here hx rfl (hb hby (dB11 0)) kst) ?_
 refine own_go (fun tgt kst => XS.istore X0.here hx rfl (hb hby (dB11 1)) rfl (l' := #[vR cs, vI (0 : Int32), vR bb, vI (0 : Int32), vI (2 : Int32), vI (0 : Int32), uX]) rfl kst) ?_
 refine own_go (fun tgt kst => XS.iload X0.here hx rfl (hb hby (dB11 2)) rfl  kst) ?_
 refine own_go (fun tgt kst => XS.iload X0.here hx rfl (hb hby (dB11 3)) rfl  kst) ?_
 refine own_go (fun tgt kst => XS.icmpNo X0.here hx rfl (hb hby (dB11 4)) rfl (tlt (by decide : (0 : Int32) < (2 : Int32))).2.1 kst) ?_
 refine own_go (fun tgt kst => XS.aloadN X0.here hx rfl (hb hby (dB11 5)) rfl rfl  kst) ?_
 show OwnWk _ _ _ _ (s₁.setTop (mkF m 11 #[vR cs, vI (0 : Int32), vR bb, vI (0 : Int32), vI (2 : Int32), vI (0 : Int32), uX] [(.ref cs)]))
 refine own_go (fun tgt kst => XS.iloadN X0.here hx rfl (hb hby (dB11 6)) rfl  kst) ?_
 refine own_ldC X0 hx hZ e0 pf0 rfl rfl (hb hby (dB11 7)) (v := (.int q0_)) (by decide) rfl ?_
 refine own_go (fun tgt kst => XS.istore X0.here hx rfl (hb hby (dB11 8)) rfl (l' := #[vR cs, vI (0 : Int32), vR bb, vI (0 : Int32), vI (2 : Int32), vI (0 : Int32), vI q0_]) rfl kst) ?_
 refine own_go (fun tgt kst => XS.iload X0.here hx rfl (hb hby (dB11 9)) rfl  kst) ?_
 refine own_go (fun tgt kst => XS.sipush X0.here hx rfl (hb hby (dB11 10)) kst) ?_
 show OwnWk _ _ _ _ (s₁.setTop (mkF m 20 #[vR cs, vI (0 : Int32), vR bb, vI (0 : Int32), vI (2 : Int32), vI (0 : Int32), vI q0_] [(.int (255 : Int32)), (.int q0_)]))
 refine own_go (fun tgt kst => XS.icmpYes X0.here hx rfl (pc0 := 20) (pc' := 26) rfl (hb hby (dB11 11)) rfl (flt hq0_).2.2.2 (by decide) (by decide) kst) ?_
 show OwnWk _ _ _ _ (s₁.setTop (mkF m 26 #[vR cs, vI (0 : Int32), vR bb, vI (0 : Int32), vI (2 : Int32), vI (0 : Int32), vI q0_] []))
 refine own_go (fun tgt kst => XS.aloadN X0.here hx rfl (hb hby (dB11 14)) rfl rfl  kst) ?_
 refine own_go (fun tgt kst => XS.iloadN X0.here hx rfl (hb hby (dB11 15)) rfl  kst) ?_
 refine own_go (fun tgt kst => XS.iload X0.here hx rfl (hb hby (dB11 16)) rfl  kst) ?_
 refine own_go (fun tgt kst => XS.i2b X0.here hx rfl (hb hby (dB11 17)) rfl kst) ?_
 refine own_stB X0 hx hZ e0 pf1 rfl rfl (hb hby (dB11 18)) (by decide) (Nat.le_of_ble_eq_true rfl) (fun T1 h1 X1 e1 W1 V1 => ?_)
 have N1 := Fr.snoc X1 N0 gn0
 have F2 := OAr.other pf0 W1 dn0
 have Z3 := Nat.le_trans Z0 (Keep.of_wr W1).1
 have K4 := Keep.wr K0 W1 (Or.inl (List.mem_of_getElem? (i := 0) rfl))
 refine own_go (fun tgt kst => XS.iinc X1.here hx rfl (hb hby (dB11 19)) rfl (l' := #[vR cs, vI (1 : Int32), vR bb, vI (0 : Int32), vI (2 : Int32), vI (0 : Int32), vI q0_]) rfl kst) ?_
 show OwnWk _ _ _ _ (T1.setTop (mkF m 35 #[vR cs, vI (1 : Int32), vR bb, vI (0 : Int32), vI (2 : Int32), vI (0 : Int32), vI q0_] []))
 refine own_go (fun tgt kst => XS.iinc X1.here hx rfl (hb hby (dB11 20)) rfl (l' := #[vR cs, vI (1 : Int32), vR bb, vI (1 : Int32), vI (2 : Int32), vI (0 : Int32), vI q0_]) rfl kst) ?_
 refine own_go (fun tgt kst => XS.iinc X1.here hx rfl (hb hby (dB11 21)) rfl (l' := #[vR cs, vI (1 : Int32), vR bb, vI (1 : Int32), vI (2 : Int32), vI (1 : Int32), vI q0_]) rfl kst) ?_
 refine own_go (fun tgt kst => XS.goto X1.here hx rfl (pc0 := 41) (pc' := 3) rfl (hb hby (dB11 22)) (by decide) (by decide) kst) ?_
 refine own_go (fun tgt kst => XS.iload X1.here hx rfl (hb hby (dB11 2)) rfl  kst) ?_
 refine own_go (fun tgt kst => XS.iload X1.here hx rfl (hb hby (dB11 3)) rfl  kst) ?_
 refine own_go (fun tgt kst => XS.icmpNo X1.here hx rfl (hb hby (dB11 4)) rfl (tlt (by decide : (1 : Int32) < (2 : Int32))).2.1 kst) ?_
 show OwnWk _ _ _ _ (T1.setTop (mkF m 10 #[vR cs, vI (1 : Int32), vR bb, vI (1 : Int32), vI (2 : Int32), vI (1 : Int32), vI q0_] []))
 refine own_go (fun tgt kst => XS.aloadN X1.here hx rfl (hb hby (dB11 5)) rfl rfl  kst) ?_
 refine own_go (fun tgt kst => XS.iloadN X1.here hx rfl (hb hby (dB11 6)) rfl  kst) ?_
 refine own_ldC X1 hx hZ e1 F2 rfl rfl (hb hby (dB11 7)) (v := (.int q1_)) (by decide) rfl ?_
 refine own_go (fun tgt kst => XS.istore X1.here hx rfl (hb hby (dB11 8)) rfl (l' := #[vR cs, vI (1 : Int32), vR bb, vI (1 : Int32), vI (2 : Int32), vI (1 : Int32), vI q1_]) rfl kst) ?_
 refine own_go (fun tgt kst => XS.iload X1.here hx rfl (hb hby (dB11 9)) rfl  kst) ?_
 refine own_go (fun tgt kst => XS.sipush X1.here hx rfl (hb hby (dB11 10)) kst) ?_
 show OwnWk _ _ _ _ (T1.setTop (mkF m 20 #[vR cs, vI (1 : Int32), vR bb, vI (1 : Int32), vI (2 : Int32), vI (1 : Int32), vI q1_] [(.int (255 : Int32)), (.int q1_)]))
 refine own_go (fun tgt kst => XS.icmpYes X1.here hx rfl (pc0 := 20) (pc' := 26) rfl (hb hby (dB11 11)) rfl (flt hq1_).2.2.2 (by decide) (by decide) kst) ?_
 show OwnWk _ _ _ _ (T1.setTop (mkF m 26 #[vR cs, vI (1 : Int32), vR bb, vI (1 : Int32), vI (2 : Int32), vI (1 : Int32), vI q1_] []))
 refine own_go (fun tgt kst => XS.aloadN X1.here hx rfl (hb hby (dB11 14)) rfl rfl  kst) ?_
 refine own_go (fun tgt kst => XS.iloadN X1.here hx rfl (hb hby (dB11 15)) rfl  kst) ?_
 refine own_go (fun tgt kst => XS.iload X1.here hx rfl (hb hby (dB11 16)) rfl  kst) ?_
 refine own_go (fun tgt kst => XS.i2b X1.here hx rfl (hb hby (dB11 17)) rfl kst) ?_
 refine own_stB X1 hx hZ e1 V1 rfl rfl (hb hby (dB11 18)) (by decide) (Nat.le_of_ble_eq_true rfl) (fun T5 h5 X5 e5 W5 V5 => ?_)
 have N5 := Fr.snoc X5 N1 gn0
 have F6 := OAr.other F2 W5 dn0
 have Z7 := Nat.le_trans Z3 (Keep.of_wr W5).1
 have K8 := Keep.wr K4 W5 (Or.inl (List.mem_of_getElem? (i := 0) rfl))
 refine own_go (fun tgt kst => XS.iinc X5.here hx rfl (hb hby (dB11 19)) rfl (l' := #[vR cs, vI (2 : Int32), vR bb, vI (1 : Int32), vI (2 : Int32), vI (1 : Int32), vI q1_]) rfl kst) ?_
 show OwnWk _ _ _ _ (T5.setTop (mkF m 35 #[vR cs, vI (2 : Int32), vR bb, vI (1 : Int32), vI (2 : Int32), vI (1 : Int32), vI q1_] []))
 refine own_go (fun tgt kst => XS.iinc X5.here hx rfl (hb hby (dB11 20)) rfl (l' := #[vR cs, vI (2 : Int32), vR bb, vI (2 : Int32), vI (2 : Int32), vI (1 : Int32), vI q1_]) rfl kst) ?_
 refine own_go (fun tgt kst => XS.iinc X5.here hx rfl (hb hby (dB11 21)) rfl (l' := #[vR cs, vI (2 : Int32), vR bb, vI (2 : Int32), vI (2 : Int32), vI (2 : Int32), vI q1_]) rfl kst) ?_
 refine own_go (fun tgt kst => XS.goto X5.here hx rfl (pc0 := 41) (pc' := 3) rfl (hb hby (dB11 22)) (by decide) (by decide) kst) ?_
 refine own_go (fun tgt kst => XS.iload X5.here hx rfl (hb hby (dB11 2)) rfl  kst) ?_
 refine own_go (fun tgt kst => XS.iload X5.here hx rfl (hb hby (dB11 3)) rfl  kst) ?_
 refine own_go (fun tgt kst => XS.icmpYes X5.here hx rfl (pc0 := 7) (pc' := 44) rfl (hb hby (dB11 4)) rfl (flt (by decide : ¬ ((2 : Int32) < (2 : Int32)))).2.1 (by decide) (by decide) kst) ?_
 show OwnWk _ _ _ _ (T5.setTop (mkF m 44 #[vR cs, vI (2 : Int32), vR bb, vI (2 : Int32), vI (2 : Int32), vI (2 : Int32), vI q1_] []))
 refine own_go (fun tgt kst => XS.iload X5.here hx rfl (hb hby (dB11 23)) rfl  kst) ?_
 show OwnWk _ _ _ _ (T5.setTop (mkF m 46 #[vR cs, vI (2 : Int32), vR bb, vI (2 : Int32), vI (2 : Int32), vI (2 : Int32), vI q1_] [(.int (2 : Int32))]))
 exact own_retI X5 hx hlk hret (hb hby (dB11 24)) (by decide) (by decide) (by rw [e5]; exact ⟨rfl, N5, K8, _, _, V5⟩)
theorem ef_cpa2 (m : MethodId) (x0 : Addr) (x1 : Int32) (x2 : Int32) : entryFrame m #[(.ref x0), (.int x1), (.int x2)] 6 = mkF m 0 #[vR x0, vI x1, vI x2, .unset, .unset, .unset] [] := by first | (simp [entryFrame, mkF, argsToLocals, Value.category]; done) | rfl
def Q_cpa2 (Z : State) (cs : Addr) (q0_ q1_ : Int32) (h0 : Heap) (n0 : Nat) (v : Option Value) (h : Heap) (L : List Loc) : Prop := ∃ bb : Addr, v = some (.ref bb) ∧ Fr n0 L ∧ Keep h0 h [] ∧ h0.size ≤ bb ∧ ∃ d0_ d1_ : Int32, OAr Z h bb .byte [(.int d0_), (.int d1_)]
set_option maxRecDepth 65536 in
set_option maxHeartbeats 40000000 in
theorem cpa2 (l : Launch) (Z : State) (a0 : Array Value) (hw : ∀ d ∈ tables_1, d.before a0 Z = true) (cs : Addr) (q0_ q1_ : Int32) (h0 : Heap) (n0 : Nat) (Z0 : n0 ≤ h0.size) (pf0 : OAr Z h0 cs .char [(.int q0_), (.int q1_)]) (hq0_ : ¬ (255 : Int32) < q0_) (hq1_ : ¬ (255 : Int32) < q1_) :
    OwnMet l yN10 jdk_52_method_16_code 6 (some (.array .byte)) [] ({ frames := 1, cells := 1, slots := 2, locals := 18 } : Room) Z #[(.ref cs), (.int (0 : Int32)), (.int (2 : Int32))] h0 (Q_cpa2 Z cs q0_ q1_ h0 n0) := by
 refine own_met pn_10 (fun p e s m below meth c s₁ hx hby hml hown hnm hret hlk hZ X0 e0 => ?_)
 have hown : s.vm.findClass "java/lang/StringUTF16" = some m.cls := hown
 have N0 := Fr.nil n0
 have K0 := Keep.refl h0 []
 rw [ef_cpa2]
 show OwnWk _ _ _ _ (s₁.setTop (mkF m 0 #[vR cs, vI (0 : Int32), vI (2 : Int32), uX, uX, uX] []))
 refine own_go (fun tgt kst => XS.iloadN X0.here hx rfl (hb hby (dB10 0)) rfl  kst) ?_
 refine own_newP X0 hx hZ (aty := .byte) (wq hw 72 rfl) e0 rfl (hb hby (dB10 1)) rfl (by decide) (cap := 2) (by decide) (by decide) (by decide) (by decide) (fun T1 h1 b1 X1 e1 g1 E1 V1 => ?_)
 have ne2 := own_nl pf0.lt (Nat.le_of_eq g1.symm)
 have ge3 : n0 ≤ b1 := Nat.le_trans Z0 (Nat.le_of_eq g1.symm)
 have sz4 : h0.size ≤ b1 := Nat.le_trans K0.1 (Nat.le_of_eq g1.symm)
 have F5 := OAr.ext pf0 E1
 have Z6 := Nat.le_trans Z0 E1.1
 have K7 := Keep.ext K0 E1
 have V1b : OAr Z h1 b1 .byte [(.int (0 : Int32)), (.int (0 : Int32))] := V1
 show OwnWk _ _ _ _ (T1.setTop (mkF m 3 #[vR cs, vI (0 : Int32), vI (2 : Int32), uX, uX, uX] [(.ref b1)]))
 refine own_go (fun tgt kst => XS.astoreN X1.here hx rfl (hb hby (dB10 2)) rfl rfl (l' := #[vR cs, vI (0 : Int32), vI (2 : Int32), vR b1, uX, uX]) rfl kst) ?_
 refine own_go (fun tgt kst => XS.aloadN X1.here hx rfl (hb hby (dB10 3)) rfl rfl  kst) ?_
 refine own_go (fun tgt kst => XS.iloadN X1.here hx rfl (hb hby (dB10 4)) rfl  kst) ?_
 refine own_go (fun tgt kst => XS.aloadN X1.here hx rfl (hb hby (dB10 5)) rfl rfl  kst) ?_
 refine own_go (fun tgt kst => XS.iconst X1.here hx rfl (hb hby (dB10 6)) kst) ?_
 refine own_go (fun tgt kst => XS.iloadN X1.here hx rfl (hb hby (dB10 7)) rfl  kst) ?_
 show OwnWk _ _ _ _ (T1.setTop (mkF m 9 #[vR cs, vI (0 : Int32), vI (2 : Int32), vR b1, uX, uX] [(.int (2 : Int32)), (.int (0 : Int32)), (.ref b1), (.int (0 : Int32)), (.ref cs)]))
 refine own_callS X1 hx hZ (y := yN11) hown (wq hw 73 rfl) (wq hw 74 rfl) (wq hw 70 rfl) (wq hw 75 rfl) (by decide) (argsL := [(.ref cs), (.int (0 : Int32)), (.ref b1), (.int (0 : Int32)), (.int (2 : Int32))]) (rest := [])  (h := h1) (cmp2 l Z a0 hw cs b1 q0_ q1_ h1 n0 Z6 F5 V1b ne2 ge3 hq0_ hq1_) e1 (W := 0) (by decide) (by decide) (by decide) (by decide) rfl (by rw [hml]; rfl) (lenOf pd_0 rfl) rfl (by show 2 * 0 + _ ≤ _; exact Nat.le_of_eq rfl) (hb hby (dB10 8)) (fun v8 T8 h8 L8 X8 e8 hQ8 => ?_)
 obtain ⟨rfl, Nq8, Kq8, d0_, d1_, Vb8⟩ := hQ8
 have N8 := Fr.app N0 Nq8
 have F9 := OAr.keep F5 Kq8 (ninS ne2 nin0)
 have Z10 := Nat.le_trans Z6 Kq8.1
 have K11 := Keep.trans K7 Kq8 (allS (Or.inr sz4) all0)
 show OwnWk _ _ _ _ (T8.setTop (mkF m 12 #[vR cs, vI (0 : Int32), vI (2 : Int32), vR b1, uX, uX] [(.int (2 : Int32))]))
 refine own_go (fun tgt kst => XS.istore X8.here hx rfl (hb hby (dB10 9)) rfl (l' := #[vR cs, vI (0 : Int32), vI (2 : Int32), vR b1, vI (2 : Int32), uX]) rfl kst) ?_
 refine own_go (fun tgt kst => XS.iload X8.here hx rfl (hb hby (dB10 10)) rfl  kst) ?_
 refine own_go (fun tgt kst => XS.iloadN X8.here hx rfl (hb hby (dB10 11)) rfl  kst) ?_
 refine own_go (fun tgt kst => XS.icmpYes X8.here hx rfl (pc0 := 17) (pc' := 57) rfl (hb hby (dB10 12)) rfl (teq (by decide : (2 : Int32) = (2 : Int32))).1 (by decide) (by decide) kst) ?_
 refine own_go (fun tgt kst => XS.aloadN X8.here hx rfl (hb hby (dB10 33)) rfl rfl  kst) ?_
 show OwnWk _ _ _ _ (T8.setTop (mkF m 58 #[vR cs, vI (0 : Int32), vI (2 : Int32), vR b1, vI (2 : Int32), uX] [(.ref b1)]))
 exact own_retA X8 hx hlk hret rfl rfl rfl (hb hby (dB10 34)) (by decide) (by decide) (by rw [e8]; exact ⟨b1, rfl, N8, K11, sz4, d0_, d1_, Vb8⟩)
theorem ef_cod2 (m : MethodId) (x0 : Addr) (x1 : Int32) : entryFrame m #[(.ref x0), (.int x1)] 2 = mkF m 0 #[vR x0, vI x1] [] := by first | (simp [entryFrame, mkF, argsToLocals, Value.category]; done) | rfl
def Q_cod2 (Z : State) (bb : Addr) (d0_ d1_ : Int32) (h0 : Heap) (n0 : Nat) (v : Option Value) (h : Heap) (L : List Loc) : Prop := v = some (.int (0 : Int32)) ∧ Fr n0 L ∧ h = h0
set_option maxRecDepth 65536 in
set_option maxHeartbeats 40000000 in
theorem cod2 (l : Launch) (Z : State) (a0 : Array Value) (hw : ∀ d ∈ tables_1, d.before a0 Z = true) (bb : Addr) (d0_ d1_ : Int32) (h0 : Heap) (n0 : Nat) (Z0 : n0 ≤ h0.size) (pf0 : OAr Z h0 bb .byte [(.int d0_), (.int d1_)]) :
    OwnMet l yN12 jdk_52_method_15_code 2 (some .byte) [] ({ frames := 0, cells := 0, slots := 0, locals := 0 } : Room) Z #[(.ref bb), (.int (2 : Int32))] h0 (Q_cod2 Z bb d0_ d1_ h0 n0) := by
 refine own_met pn_12 (fun p e s m below meth c s₁ hx hby hml hown hnm hret hlk hZ X0 e0 => ?_)
 have hown : s.vm.findClass "java/lang/StringUTF16" = some m.cls := hown
 have N0 := Fr.nil n0
 rw [ef_cod2]
 show OwnWk _ _ _ _ (s₁.setTop (mkF m 0 #[vR bb, vI (2 : Int32)] []))
 refine own_go (fun tgt kst => XS.iloadN X0.here hx rfl (hb hby (dB12 0)) rfl  kst) ?_
 refine own_go (fun tgt kst => XS.aloadN X0.here hx rfl (hb hby (dB12 1)) rfl rfl  kst) ?_
 refine own_len X0 hx hZ e0 pf0 rfl rfl (hb hby (dB12 2)) (N := (2 : Int32)) rfl ?_
 refine own_go (fun tgt kst => XS.isub X0.here hx rfl (hb hby (dB12 3)) rfl kst) ?_
 refine own_go (fun tgt kst => XS.bipush X0.here hx rfl (hb hby (dB12 4)) kst) ?_
 refine own_go (fun tgt kst => XS.iushr X0.here hx rfl (hb hby (dB12 5)) rfl kst) ?_
 show OwnWk _ _ _ _ (s₁.setTop (mkF m 7 #[vR bb, vI (2 : Int32)] [(.int (((0 : Int32).toUInt32 >>> ((31 : Int32) &&& 31).toUInt32).toInt32))]))
 rw [show (((0 : Int32).toUInt32 >>> ((31 : Int32) &&& 31).toUInt32).toInt32) = (0 : Int32) from by decide]
 show OwnWk _ _ _ _ (s₁.setTop (mkF m 7 #[vR bb, vI (2 : Int32)] [(.int (0 : Int32))]))
 refine own_go (fun tgt kst => XS.i2b X0.here hx rfl (hb hby (dB12 6)) rfl kst) ?_
 show OwnWk _ _ _ _ (s₁.setTop (mkF m 8 #[vR bb, vI (2 : Int32)] [(.int ((0 : Int32).toInt8.toInt32))]))
 rw [show ((0 : Int32).toInt8.toInt32) = (0 : Int32) from by decide]
 show OwnWk _ _ _ _ (s₁.setTop (mkF m 8 #[vR bb, vI (2 : Int32)] [(.int (0 : Int32))]))
 exact own_retZ X0 hx hlk hret (by simp) (z' := (0 : Int32)) rfl (hb hby (dB12 7)) (by decide) (by decide) (by rw [e0]; exact ⟨rfl, N0, rfl⟩)
theorem ef_stv2 (m : MethodId) (x0 : Addr) (x1 : Addr) (x2 : Int32) (x3 : Int32) : entryFrame m #[(.ref x0), (.ref x1), (.int x2), (.int x3), .null] 6 = mkF m 0 #[vR x0, vR x1, vI x2, vI x3, .val .null, .unset] [] := by first | (simp [entryFrame, mkF, argsToLocals, Value.category]; done) | rfl
def Q_stv2 (Z : State) (cv : Int32) (x_ cs : Addr) (q0_ q1_ : Int32) (h0 : Heap) (n0 : Nat) (v : Option Value) (h : Heap) (L : List Loc) : Prop := v = none ∧ Fr n0 L ∧ Keep h0 h [x_]
set_option maxRecDepth 65536 in
set_option maxHeartbeats 40000000 in
theorem stv2 (l : Launch) (Z : State) (a0 : Array Value) (hw : ∀ d ∈ tables_1, d.before a0 Z = true) (cv : Int32) (x_ cs : Addr) (q0_ q1_ : Int32) (h0 : Heap) (n0 : Nat) (Z0 : n0 ≤ h0.size) (O0 : Old Z n0 h0) (S_c : Sta Z Z.heap "java/lang/String" "COMPACT_STRINGS" "Z" (.int cv)) (hcv : ¬ cv = 0) (pf0 : Exa Z h0 x_ "java/lang/String") (pf1 : Fld Z h0 x_ "java/lang/String" "value" "[B" .null) (pf2 : Fld Z h0 x_ "java/lang/String" "coder" "B" (.int (0 : Int32))) (pf3 : OAr Z h0 cs .char [(.int q0_), (.int q1_)]) (dn0 : x_ ≠ cs) (gn0 : n0 ≤ x_) (hq0_ : ¬ (255 : Int32) < q0_) (hq1_ : ¬ (255 : Int32) < q1_) :
    OwnMet l yN9 jdk_42_method_149_code 6 none [] ({ frames := 2, cells := 1, slots := 2, locals := 35 } : Room) Z #[(.ref x_), (.ref cs), (.int (0 : Int32)), (.int (2 : Int32)), .null] h0 (Q_stv2 Z cv x_ cs q0_ q1_ h0 n0) := by
 refine own_met pn_9 (fun p e s m below meth c s₁ hx hby hml hown hnm hret hlk hZ X0 e0 => ?_)
 have hown : s.vm.findClass "java/lang/String" = some m.cls := hown
 have N0 := Fr.nil n0
 have K0 := Keep.refl h0 [x_]
 rw [ef_stv2]
 show OwnWk _ _ _ _ (s₁.setTop (mkF m 0 #[vR x_, vR cs, vI (0 : Int32), vI (2 : Int32), .val .null, uX] []))
 refine own_go (fun tgt kst => XS.aloadN X0.here hx rfl (hb hby (dB9 0)) rfl rfl  kst) ?_
 show OwnWk _ _ _ _ (s₁.setTop (mkF m 1 #[vR x_, vR cs, vI (0 : Int32), vI (2 : Int32), .val .null, uX] [(.ref x_)]))
 obtain ⟨T1, X1, e1, st1⟩ := initO X0 hx hZ hown (wq hw 66 rfl) (wq hw 13 rfl) (wq hw 14 rfl) e0 (g := (mkF m 1 #[vR x_, vR cs, vI (0 : Int32), vI (2 : Int32), .val .null, uX] [(.ref x_)])) rfl (by rw [hml]; rfl) rfl (hb hby (dB9 1)) (by decide) (W := 0) (by show 2 * 0 + _ ≤ _; exact Nat.le_of_eq rfl) (by decide)
 refine own_go st1 ?_
 show OwnWk _ _ _ _ (T1.setTop (mkF m 4 #[vR x_, vR cs, vI (0 : Int32), vI (2 : Int32), .val .null, uX] []))
 refine own_go (fun tgt kst => XS.iloadN X1.here hx rfl (hb hby (dB9 2)) rfl  kst) ?_
 refine own_go (fun tgt kst => XS.ifYes X1.here hx rfl (pc0 := 5) (pc' := 27) rfl (hb hby (dB9 3)) rfl ((if0 _ _).trans (feq (by decide : ¬ ((2 : Int32) = (0 : Int32)))).2) (by decide) (by decide) kst) ?_
 show OwnWk _ _ _ _ (T1.setTop (mkF m 27 #[vR x_, vR cs, vI (0 : Int32), vI (2 : Int32), .val .null, uX] []))
 obtain ⟨T2, X2, e2, st2⟩ := getS2 X1 hx hZ hown (host := "") (Or.inl (wq hw 67 rfl)) Via.refl e1 (Sta.ext O0.2 S_c) (g := (mkF m 27 #[vR x_, vR cs, vI (0 : Int32), vI (2 : Int32), .val .null, uX] [])) rfl (hb hby (dB9 13))
 refine own_go st2 ?_
 show OwnWk _ _ _ _ (T2.setTop (mkF m 30 #[vR x_, vR cs, vI (0 : Int32), vI (2 : Int32), .val .null, uX] [(.int cv)]))
 refine own_go (fun tgt kst => XS.ifNo X2.here hx rfl (hb hby (dB9 14)) rfl ((if0 _ _).trans (feq hcv).1) kst) ?_
 show OwnWk _ _ _ _ (T2.setTop (mkF m 33 #[vR x_, vR cs, vI (0 : Int32), vI (2 : Int32), .val .null, uX] []))
 refine own_go (fun tgt kst => XS.aloadN X2.here hx rfl (hb hby (dB9 15)) rfl rfl  kst) ?_
 refine own_go (fun tgt kst => XS.iloadN X2.here hx rfl (hb hby (dB9 16)) rfl  kst) ?_
 refine own_go (fun tgt kst => XS.iloadN X2.here hx rfl (hb hby (dB9 17)) rfl  kst) ?_
 show OwnWk _ _ _ _ (T2.setTop (mkF m 36 #[vR x_, vR cs, vI (0 : Int32), vI (2 : Int32), .val .null, uX] [(.int (2 : Int32)), (.int (0 : Int32)), (.ref cs)]))
 have lt3 : x_ < h0.size := pf0.lt
 have lt4 : cs < h0.size := pf3.lt
 refine own_callS X2 hx hZ (y := yN10) hown (wq hw 68 rfl) (wq hw 69 rfl) (wq hw 70 rfl) (wq hw 71 rfl) (by decide) (argsL := [(.ref cs), (.int (0 : Int32)), (.int (2 : Int32))]) (rest := [])  (h := h0) (cpa2 l Z a0 hw cs q0_ q1_ h0 n0 Z0 pf3 hq0_ hq1_) e2 (W := 0) (by decide) (by decide) (by decide) (by decide) rfl (by rw [hml]; rfl) (lenOf pd_1 rfl) rfl (by show 2 * 0 + _ ≤ _; exact Nat.le_of_eq rfl) (hb hby (dB9 18)) (fun v5 T5 h5 L5 X5 e5 hQ5 => ?_)
 obtain ⟨bb, rfl, Nq5, Kq5, sb5, d0_, d1_, Vb5⟩ := hQ5
 have N5 := Fr.app N0 Nq5
 have F6 := Exa.keep pf0 Kq5
 have F7 := Fld.keep pf1 Kq5 nin0
 have F8 := Fld.keep pf2 Kq5 nin0
 have F9 := OAr.keep pf3 Kq5 nin0
 have F10 := Old.keep O0 Kq5 all0
 have Z11 := Nat.le_trans Z0 Kq5.1
 have K12 := Keep.trans K0 Kq5 all0
 have ne13 := own_nl lt3 sb5
 have ne14 := own_nl lt4 sb5
 have ga15 : n0 ≤ bb := Nat.le_trans Z0 sb5
 have sa16 : h0.size ≤ bb := Nat.le_trans K0.1 sb5
 show OwnWk _ _ _ _ (T5.setTop (mkF m 39 #[vR x_, vR cs, vI (0 : Int32), vI (2 : Int32), .val .null, uX] [(.ref bb)]))
 refine own_go (fun tgt kst => XS.astore X5.here hx rfl (hb hby (dB9 19)) rfl rfl (l' := #[vR x_, vR cs, vI (0 : Int32), vI (2 : Int32), .val .null, vR bb]) rfl kst) ?_
 refine own_go (fun tgt kst => XS.aloadN X5.here hx rfl (hb hby (dB9 20)) rfl rfl  kst) ?_
 refine own_go (fun tgt kst => XS.aload X5.here hx rfl (hb hby (dB9 21)) rfl rfl  kst) ?_
 refine own_go (fun tgt kst => XS.iloadN X5.here hx rfl (hb hby (dB9 22)) rfl  kst) ?_
 show OwnWk _ _ _ _ (T5.setTop (mkF m 45 #[vR x_, vR cs, vI (0 : Int32), vI (2 : Int32), .val .null, vR bb] [(.int (2 : Int32)), (.ref bb), (.ref x_)]))
 refine own_callS X5 hx hZ (y := yN12) hown (wq hw 76 rfl) (wq hw 77 rfl) (wq hw 70 rfl) (wq hw 78 rfl) (by decide) (argsL := [(.ref bb), (.int (2 : Int32))]) (rest := [(.ref x_)])  (h := h5) (cod2 l Z a0 hw bb d0_ d1_ h5 n0 Z11 Vb5) e5 (W := 1) (by decide) (by decide) (by decide) (by decide) rfl (by rw [hml]; rfl) (lenOf pd_2 rfl) rfl (by show 2 * 0 + _ ≤ _; exact Nat.le_of_eq rfl) (hb hby (dB9 23)) (fun v17 T17 h17 L17 X17 e17 hQ17 => ?_)
 obtain ⟨rfl, Nq17, q17⟩ := hQ17
 have N17 := Fr.app N5 Nq17
 rw [q17] at e17
 show OwnWk _ _ _ _ (T17.setTop (mkF m 48 #[vR x_, vR cs, vI (0 : Int32), vI (2 : Int32), .val .null, vR bb] [(.int (0 : Int32)), (.ref x_)]))
 obtain ⟨T18, h18, X18, e18, W18, st18⟩ := putFN X17 hx hZ hown (wq hw 79 rfl) Via.refl e17 F8 F6 (Or.inr ⟨(wq hw 80 rfl), rfl, hnm⟩) (wq hw 56 rfl) (ty := .byte) (v' := (.int (0 : Int32))) (by decide) rfl rfl (g := (mkF m 48 #[vR x_, vR cs, vI (0 : Int32), vI (2 : Int32), .val .null, vR bb] [(.int (0 : Int32)), (.ref x_)])) rfl rfl (hb hby (dB9 24))
 refine own_go st18 ?_
 have N18 := Fr.snoc X18 N17 gn0
 have Fw18 := Fld.same W18 F8
 have F19 := Exa.wr W18 F6
 have F20 := Fld.other W18 F7 (Or.inr (slot_ne (Or.inr (wq hw 82 rfl)) (Or.inr (wq hw 80 rfl)) (by decide) (t := (.array .byte)) (t' := .byte) (by decide) (by decide)))
 have F21 := OAr.other F9 W18 (Ne.symm dn0)
 have F22 := Old.wr F10 W18 gn0
 have F23 := OAr.other Vb5 W18 (Ne.symm ne13)
 have Z24 := Nat.le_trans Z11 (Keep.of_wr W18).1
 have K25 := Keep.wr K12 W18 (Or.inl (List.mem_of_getElem? (i := 0) rfl))
 show OwnWk _ _ _ _ (T18.setTop (mkF m 51 #[vR x_, vR cs, vI (0 : Int32), vI (2 : Int32), .val .null, vR bb] []))
 refine own_go (fun tgt kst => XS.aloadN X18.here hx rfl (hb hby (dB9 25)) rfl rfl  kst) ?_
 refine own_go (fun tgt kst => XS.aload X18.here hx rfl (hb hby (dB9 26)) rfl rfl  kst) ?_
 show OwnWk _ _ _ _ (T18.setTop (mkF m 54 #[vR x_, vR cs, vI (0 : Int32), vI (2 : Int32), .val .null, vR bb] [(.ref bb), (.ref x_)]))
 obtain ⟨T26, h26, X26, e26, W26, st26⟩ := putF X18 hx hZ hown (host := "") (Or.inl (wq hw 81 rfl)) Via.refl e18 F20 F19 (Or.inr ⟨(wq hw 82 rfl), rfl, hnm⟩) (wq hw 56 rfl) (v := (.ref bb)) (ty := (.array .byte)) (by decide) rfl rfl (g := (mkF m 54 #[vR x_, vR cs, vI (0 : Int32), vI (2 : Int32), .val .null, vR bb] [(.ref bb), (.ref x_)])) rfl rfl (hb hby (dB9 27))
 refine own_go st26 ?_
 have N26 := Fr.snoc X26 N18 gn0
 have Fw26 := Fld.same W26 F20
 have F27 := Exa.wr W26 F19
 have F28 := OAr.other F21 W26 (Ne.symm dn0)
 have F29 := Old.wr F22 W26 gn0
 have F30 := OAr.other F23 W26 (Ne.symm ne13)
 have F31 := Fld.other W26 Fw18 (Or.inr (slot_ne (Or.inr (wq hw 80 rfl)) (Or.inr (wq hw 82 rfl)) (by decide) (t := .byte) (t' := (.array .byte)) (by decide) (by decide)))
 have Z32 := Nat.le_trans Z24 (Keep.of_wr W26).1
 have K33 := Keep.wr K25 W26 (Or.inl (List.mem_of_getElem? (i := 0) rfl))
 show OwnWk _ _ _ _ (T26.setTop (mkF m 57 #[vR x_, vR cs, vI (0 : Int32), vI (2 : Int32), .val .null, vR bb] []))
 exact own_retV X26 hx hlk hret (hb hby (dB9 28)) (by decide) (by decide) (by rw [e26]; exact ⟨rfl, N26, K33⟩)
theorem ef_sti2 (m : MethodId) (x0 : Addr) (x1 : Addr) : entryFrame m #[(.ref x0), (.ref x1)] 2 = mkF m 0 #[vR x0, vR x1] [] := by first | (simp [entryFrame, mkF, argsToLocals, Value.category]; done) | rfl
def Q_sti2 (Z : State) (cv : Int32) (x_ cs : Addr) (q0_ q1_ : Int32) (h0 : Heap) (n0 : Nat) (v : Option Value) (h : Heap) (L : List Loc) : Prop := v = none ∧ Fr n0 L ∧ Keep h0 h [x_]
set_option maxRecDepth 65536 in
set_option maxHeartbeats 40000000 in
theorem sti2 (l : Launch) (Z : State) (a0 : Array Value) (hw : ∀ d ∈ tables_1, d.before a0 Z = true) (cv : Int32) (x_ cs : Addr) (q0_ q1_ : Int32) (h0 : Heap) (n0 : Nat) (Z0 : n0 ≤ h0.size) (O0 : Old Z n0 h0) (S_c : Sta Z Z.heap "java/lang/String" "COMPACT_STRINGS" "Z" (.int cv)) (hcv : ¬ cv = 0) (pf0 : Exa Z h0 x_ "java/lang/String") (pf1 : Fld Z h0 x_ "java/lang/String" "value" "[B" .null) (pf2 : Fld Z h0 x_ "java/lang/String" "coder" "B" (.int (0 : Int32))) (pf3 : OAr Z h0 cs .char [(.int q0_), (.int q1_)]) (dn0 : x_ ≠ cs) (gn0 : n0 ≤ x_) (hq0_ : ¬ (255 : Int32) < q0_) (hq1_ : ¬ (255 : Int32) < q1_) :
    OwnMet l yN8 jdk_42_method_3_code 2 none [] ({ frames := 3, cells := 1, slots := 2, locals := 52 } : Room) Z #[(.ref x_), (.ref cs)] h0 (Q_sti2 Z cv x_ cs q0_ q1_ h0 n0) := by
 refine own_met pn_8 (fun p e s m below meth c s₁ hx hby hml hown hnm hret hlk hZ X0 e0 => ?_)
 have hown : s.vm.findClass "java/lang/String" = some m.cls := hown
 have N0 := Fr.nil n0
 have K0 := Keep.refl h0 [x_]
 rw [ef_sti2]
 show OwnWk _ _ _ _ (s₁.setTop (mkF m 0 #[vR x_, vR cs] []))
 refine own_go (fun tgt kst => XS.aloadN X0.here hx rfl (hb hby (dB8 0)) rfl rfl  kst) ?_
 refine own_go (fun tgt kst => XS.aloadN X0.here hx rfl (hb hby (dB8 1)) rfl rfl  kst) ?_
 refine own_go (fun tgt kst => XS.iconst X0.here hx rfl (hb hby (dB8 2)) kst) ?_
 refine own_go (fun tgt kst => XS.aloadN X0.here hx rfl (hb hby (dB8 3)) rfl rfl  kst) ?_
 refine own_len X0 hx hZ e0 pf3 rfl rfl (hb hby (dB8 4)) (N := (2 : Int32)) rfl ?_
 refine own_go (fun tgt kst => XS.aconstNull X0.here hx rfl (hb hby (dB8 5)) kst) ?_
 show OwnWk _ _ _ _ (s₁.setTop (mkF m 6 #[vR x_, vR cs] [.null, (.int (2 : Int32)), (.int (0 : Int32)), (.ref cs), (.ref x_)]))
 refine own_callC X0 hx hZ (y := yN9) hown rfl (wq hw 62 rfl) (wq hw 63 rfl) (wq hw 57 rfl) (wq hw 65 rfl) (by decide) (a := x_) (argsL := [(.ref cs), (.int (0 : Int32)), (.int (2 : Int32)), .null]) (rest := [])  (h := h0) (stv2 l Z a0 hw cv x_ cs q0_ q1_ h0 n0 Z0 O0 S_c hcv pf0 pf1 pf2 pf3 dn0 gn0 hq0_ hq1_) e0 (W := 0) (by decide) (by decide) (by decide) (by decide) rfl (by rw [hml]; rfl) (lenOf pd_3 rfl) rfl (by show 2 * 0 + _ ≤ _; exact Nat.le_of_eq rfl) (hb hby (dB8 6)) (fun v1 T1 h1 L1 X1 e1 hQ1 => ?_)
 obtain ⟨rfl, Nq1, Kq1⟩ := hQ1
 have N1 := Fr.app N0 Nq1
 have F2 := Exa.keep pf0 Kq1
 have F3 := OAr.keep pf3 Kq1 (ninS (Ne.symm dn0) nin0)
 have F4 := Old.keep O0 Kq1 (allS gn0 all0)
 have Z5 := Nat.le_trans Z0 Kq1.1
 have K6 := Keep.trans K0 Kq1 (allS (Or.inl (List.mem_of_getElem? (i := 0) rfl)) all0)
 show OwnWk _ _ _ _ (T1.setTop (mkF m 9 #[vR x_, vR cs] []))
 exact own_retV X1 hx hlk hret (hb hby (dB8 7)) (by decide) (by decide) (by rw [e1]; exact ⟨rfl, N1, K6⟩)
theorem ef_drw2 (m : MethodId) (x0 : Int32) (x1 : Int32) (x2 : Int32) : entryFrame m #[(.int x0), (.int x1), (.int x2)] 5 = mkF m 0 #[vI x0, vI x1, vI x2, .unset, .unset] [] := by first | (simp [entryFrame, mkF, argsToLocals, Value.category]; done) | rfl
def Q_drw2 (Z : State) (cv : Int32) (u0 u1 : Int32) (h0 : Heap) (n0 : Nat) (v : Option Value) (h : Heap) (L : List Loc) : Prop := ∃ x_ : Addr, v = some (.ref x_) ∧ Fr n0 L ∧ Keep h0 h [] ∧ h0.size ≤ x_
set_option maxRecDepth 65536 in
set_option maxHeartbeats 40000000 in
theorem drw2 (l : Launch) (Z : State) (a0 : Array Value) (hw : ∀ d ∈ tables_1, d.before a0 Z = true) (cv : Int32) (u0 u1 : Int32) (h0 : Heap) (n0 : Nat) (Z0 : n0 ≤ h0.size) (O0 : Old Z n0 h0) (S_c : Sta Z Z.heap "java/lang/String" "COMPACT_STRINGS" "Z" (.int cv)) (hcv : ¬ cv = 0)  :
    OwnMet l yN7 method_2_code 5 (some (.object "java/lang/String")) [] ({ frames := 4, cells := 3, slots := 8, locals := 66 } : Room) Z #[(.int (2 : Int32)), (.int u0), (.int u1)] h0 (Q_drw2 Z cv u0 u1 h0 n0) := by
 refine own_met pn_7 (fun p e s m below meth c s₁ hx hby hml hown hnm hret hlk hZ X0 e0 => ?_)
 have hown : s.vm.findClass "com/example/enrichd/enrichd/core/BlockIsHeadingPinLaw" = some m.cls := hown
 have N0 := Fr.nil n0
 have K0 := Keep.refl h0 []
 rw [ef_drw2]
 show OwnWk _ _ _ _ (s₁.setTop (mkF m 0 #[vI (2 : Int32), vI u0, vI u1, uX, uX] []))
 refine own_go (fun tgt kst => XS.iloadN X0.here hx rfl (hb hby (dB7 0)) rfl  kst) ?_
 refine own_go (fun tgt kst => XS.sipush X0.here hx rfl (hb hby (dB7 1)) kst) ?_
 refine own_go (fun tgt kst => XS.iand X0.here hx rfl (hb hby (dB7 2)) rfl kst) ?_
 refine own_go (fun tgt kst => XS.i2c X0.here hx rfl (hb hby (dB7 3)) rfl kst) ?_
 refine own_go (fun tgt kst => XS.istoreN X0.here hx rfl (hb hby (dB7 4)) rfl (l' := #[vI (2 : Int32), vI u0, vI u1, vI ((u0 &&& (255 : Int32)).toUInt32.toUInt16.toUInt32.toInt32), uX]) rfl kst) ?_
 refine own_go (fun tgt kst => XS.iloadN X0.here hx rfl (hb hby (dB7 5)) rfl  kst) ?_
 show OwnWk _ _ _ _ (s₁.setTop (mkF m 8 #[vI (2 : Int32), vI u0, vI u1, vI ((u0 &&& (255 : Int32)).toUInt32.toUInt16.toUInt32.toInt32), uX] [(.int u1)]))
 refine own_go (fun tgt kst => XS.sipush X0.here hx rfl (hb hby (dB7 6)) kst) ?_
 refine own_go (fun tgt kst => XS.iand X0.here hx rfl (hb hby (dB7 7)) rfl kst) ?_
 refine own_go (fun tgt kst => XS.i2c X0.here hx rfl (hb hby (dB7 8)) rfl kst) ?_
 refine own_go (fun tgt kst => XS.istore X0.here hx rfl (hb hby (dB7 9)) rfl (l' := #[vI (2 : Int32), vI u0, vI u1, vI ((u0 &&& (255 : Int32)).toUInt32.toUInt16.toUInt32.toInt32), vI ((u1 &&& (255 : Int32)).toUInt32.toUInt16.toUInt32.toInt32)]) rfl kst) ?_
 refine own_go (fun tgt kst => XS.iloadN X0.here hx rfl (hb hby (dB7 10)) rfl  kst) ?_
 refine own_go (fun tgt kst => XS.ifYes X0.here hx rfl (pc0 := 16) (pc' := 30) rfl (hb hby (dB7 11)) rfl ((if0 _ _).trans (feq (by decide : ¬ ((2 : Int32) = (0 : Int32)))).2) (by decide) (by decide) kst) ?_
 show OwnWk _ _ _ _ (s₁.setTop (mkF m 30 #[vI (2 : Int32), vI u0, vI u1, vI ((u0 &&& (255 : Int32)).toUInt32.toUInt16.toUInt32.toInt32), vI ((u1 &&& (255 : Int32)).toUInt32.toUInt16.toUInt32.toInt32)] []))
 refine own_go (fun tgt kst => XS.iloadN X0.here hx rfl (hb hby (dB7 18)) rfl  kst) ?_
 refine own_go (fun tgt kst => XS.iconst X0.here hx rfl (hb hby (dB7 19)) kst) ?_
 refine own_go (fun tgt kst => XS.icmpYes X0.here hx rfl (pc0 := 32) (pc' := 50) rfl (hb hby (dB7 20)) rfl (feq (by decide : ¬ ((2 : Int32) = (1 : Int32)))).2 (by decide) (by decide) kst) ?_
 show OwnWk _ _ _ _ (s₁.setTop (mkF m 50 #[vI (2 : Int32), vI u0, vI u1, vI ((u0 &&& (255 : Int32)).toUInt32.toUInt16.toUInt32.toInt32), vI ((u1 &&& (255 : Int32)).toUInt32.toUInt16.toUInt32.toInt32)] []))
 obtain ⟨T1, h1, X1, e1, E1, A1, D1, -, st1⟩ := newO X0 hx hZ hown (wq hw 55 rfl) (wq hw 56 rfl) (wq hw 57 rfl) e0 (g := (mkF m 50 #[vI (2 : Int32), vI u0, vI u1, vI ((u0 &&& (255 : Int32)).toUInt32.toUInt16.toUInt32.toInt32), vI ((u1 &&& (255 : Int32)).toUInt32.toUInt16.toUInt32.toInt32)] [])) rfl (hb hby (dB7 31)) (by decide) (by decide)
 obtain ⟨b1, g1⟩ : ∃ z, z = h0.size := ⟨_, rfl⟩
 rw [← g1] at A1 D1 st1
 refine own_go st1 ?_
 have ge2 : n0 ≤ b1 := Nat.le_trans Z0 (Nat.le_of_eq g1.symm)
 have sz3 : h0.size ≤ b1 := Nat.le_trans K0.1 (Nat.le_of_eq g1.symm)
 have F4 := Old.ext O0 E1
 have Z5 := Nat.le_trans Z0 E1.1
 have K6 := Keep.ext K0 E1
 have F7 : Fld Z h1 b1 "java/lang/String" "coder" "B" (.int (0 : Int32)) := D1 (Or.inr (wq hw 80 rfl)) (ty := .byte) (by decide)
 have F8 : Fld Z h1 b1 "java/lang/String" "value" "[B" .null := D1 (Or.inr (wq hw 82 rfl)) (ty := (.array .byte)) (by decide)
 show OwnWk _ _ _ _ (T1.setTop (mkF m 53 #[vI (2 : Int32), vI u0, vI u1, vI ((u0 &&& (255 : Int32)).toUInt32.toUInt16.toUInt32.toInt32), vI ((u1 &&& (255 : Int32)).toUInt32.toUInt16.toUInt32.toInt32)] [(.ref b1)]))
 refine own_go (fun tgt kst => XS.dup X1.here hx rfl (hb hby (dB7 32)) rfl rfl kst) ?_
 refine own_go (fun tgt kst => XS.iconst X1.here hx rfl (hb hby (dB7 33)) kst) ?_
 refine own_newP X1 hx hZ (aty := .char) (wq hw 58 rfl) e1 rfl (hb hby (dB7 34)) rfl (by decide) (cap := 2) (by decide) (by decide) (by decide) (by decide) (fun T9 h9 b9 X9 e9 g9 E9 V9 => ?_)
 have ne10 := own_nl A1.lt (Nat.le_of_eq g9.symm)
 have ge11 : n0 ≤ b9 := Nat.le_trans Z5 (Nat.le_of_eq g9.symm)
 have sz12 : h0.size ≤ b9 := Nat.le_trans K6.1 (Nat.le_of_eq g9.symm)
 have F13 := Old.ext F4 E9
 have F14 := Exa.ext E9 A1
 have F15 := Fld.ext E9 F7
 have F16 := Fld.ext E9 F8
 have Z17 := Nat.le_trans Z5 E9.1
 have K18 := Keep.ext K6 E9
 have V9b : OAr Z h9 b9 .char [(.int (0 : Int32)), (.int (0 : Int32))] := V9
 show OwnWk _ _ _ _ (T9.setTop (mkF m 57 #[vI (2 : Int32), vI u0, vI u1, vI ((u0 &&& (255 : Int32)).toUInt32.toUInt16.toUInt32.toInt32), vI ((u1 &&& (255 : Int32)).toUInt32.toUInt16.toUInt32.toInt32)] [(.ref b9), (.ref b1), (.ref b1)]))
 refine own_go (fun tgt kst => XS.dup X9.here hx rfl (hb hby (dB7 35)) rfl rfl kst) ?_
 refine own_go (fun tgt kst => XS.iconst X9.here hx rfl (hb hby (dB7 36)) kst) ?_
 refine own_go (fun tgt kst => XS.iloadN X9.here hx rfl (hb hby (dB7 37)) rfl  kst) ?_
 refine own_stC X9 hx hZ e9 V9b rfl rfl (hb hby (dB7 38)) (by decide) (Nat.le_of_ble_eq_true rfl) (fun T19 h19 X19 e19 W19 V19 => ?_)
 have N19 := Fr.snoc X19 N0 ge11
 have F20 := Old.wr F13 W19 ge11
 have F21 := Exa.wr W19 F14
 have F22 := Fld.other W19 F15 (Or.inl ne10)
 have F23 := Fld.other W19 F16 (Or.inl ne10)
 have Z24 := Nat.le_trans Z17 (Keep.of_wr W19).1
 have K25 := Keep.wr K18 W19 (Or.inr sz12)
 refine own_go (fun tgt kst => XS.dup X19.here hx rfl (hb hby (dB7 39)) rfl rfl kst) ?_
 refine own_go (fun tgt kst => XS.iconst X19.here hx rfl (hb hby (dB7 40)) kst) ?_
 show OwnWk _ _ _ _ (T19.setTop (mkF m 63 #[vI (2 : Int32), vI u0, vI u1, vI ((u0 &&& (255 : Int32)).toUInt32.toUInt16.toUInt32.toInt32), vI ((u1 &&& (255 : Int32)).toUInt32.toUInt16.toUInt32.toInt32)] [(.int (1 : Int32)), (.ref b9), (.ref b9), (.ref b1), (.ref b1)]))
 refine own_go (fun tgt kst => XS.iload X19.here hx rfl (hb hby (dB7 41)) rfl  kst) ?_
 refine own_stC X19 hx hZ e19 V19 rfl rfl (hb hby (dB7 42)) (by decide) (Nat.le_of_ble_eq_true rfl) (fun T26 h26 X26 e26 W26 V26 => ?_)
 have N26 := Fr.snoc X26 N19 ge11
 have F27 := Old.wr F20 W26 ge11
 have F28 := Exa.wr W26 F21
 have F29 := Fld.other W26 F22 (Or.inl ne10)
 have F30 := Fld.other W26 F23 (Or.inl ne10)
 have Z31 := Nat.le_trans Z24 (Keep.of_wr W26).1
 have K32 := Keep.wr K25 W26 (Or.inr sz12)
 show OwnWk _ _ _ _ (T26.setTop (mkF m 66 #[vI (2 : Int32), vI u0, vI u1, vI ((u0 &&& (255 : Int32)).toUInt32.toUInt16.toUInt32.toInt32), vI ((u1 &&& (255 : Int32)).toUInt32.toUInt16.toUInt32.toInt32)] [(.ref b9), (.ref b1), (.ref b1)]))
 refine own_callC X26 hx hZ (y := yN8) hown rfl (wq hw 59 rfl) (wq hw 60 rfl) (wq hw 57 rfl) (wq hw 61 rfl) (by decide) (a := b1) (argsL := [(.ref b9)]) (rest := [(.ref b1)])  (h := h26) (sti2 l Z a0 hw cv b1 b9 (nar .char ((u0 &&& (255 : Int32)).toUInt32.toUInt16.toUInt32.toInt32)) (nar .char ((u1 &&& (255 : Int32)).toUInt32.toUInt16.toUInt32.toInt32)) h26 n0 Z31 F27 S_c hcv F28 F30 F29 V26 ne10 ge2 (own_c255 u0) (own_c255 u1)) e26 (W := 1) (by decide) (by decide) (by decide) (by decide) rfl (by rw [hml]; rfl) (lenOf pd_4 rfl) rfl (by show 2 * 0 + _ ≤ _; exact Nat.le_of_eq rfl) (hb hby (dB7 43)) (fun v33 T33 h33 L33 X33 e33 hQ33 => ?_)
 obtain ⟨rfl, Nq33, Kq33⟩ := hQ33
 have N33 := Fr.app N26 Nq33
 have F34 := Old.keep F27 Kq33 (allS ge2 all0)
 have F35 := Exa.keep F28 Kq33
 have F36 := OAr.keep V26 Kq33 (ninS (Ne.symm ne10) nin0)
 have Z37 := Nat.le_trans Z31 Kq33.1
 have K38 := Keep.trans K32 Kq33 (allS (Or.inr sz3) all0)
 show OwnWk _ _ _ _ (T33.setTop (mkF m 69 #[vI (2 : Int32), vI u0, vI u1, vI ((u0 &&& (255 : Int32)).toUInt32.toUInt16.toUInt32.toInt32), vI ((u1 &&& (255 : Int32)).toUInt32.toUInt16.toUInt32.toInt32)] [(.ref b1)]))
 exact own_retA X33 hx hlk hret rfl rfl rfl (hb hby (dB7 44)) (by decide) (by decide) (by rw [e33]; exact ⟨b1, rfl, N33, K38, sz3⟩)
theorem ef_stv0 (m : MethodId) (x0 : Addr) (x1 : Addr) (x2 : Int32) (x3 : Int32) : entryFrame m #[(.ref x0), (.ref x1), (.int x2), (.int x3), .null] 6 = mkF m 0 #[vR x0, vR x1, vI x2, vI x3, .val .null, .unset] [] := by first | (simp [entryFrame, mkF, argsToLocals, Value.category]; done) | rfl
def Q_stv0 (Z : State) (cv : Int32) (x_ cs : Addr) (h0 : Heap) (n0 : Nat) (v : Option Value) (h : Heap) (L : List Loc) : Prop := v = none ∧ Fr n0 L ∧ Keep h0 h [x_]
set_option maxRecDepth 65536 in
set_option maxHeartbeats 40000000 in
theorem stv0 (l : Launch) (Z : State) (a0 : Array Value) (hw : ∀ d ∈ tables_1, d.before a0 Z = true) (cv : Int32) (x_ cs : Addr) (h0 : Heap) (n0 : Nat) (Z0 : n0 ≤ h0.size) (O0 : Old Z n0 h0) (S_c : Sta Z Z.heap "java/lang/String" "COMPACT_STRINGS" "Z" (.int cv)) (hcv : ¬ cv = 0) (pf0 : Exa Z h0 x_ "java/lang/String") (pf1 : Fld Z h0 x_ "java/lang/String" "value" "[B" .null) (pf2 : Fld Z h0 x_ "java/lang/String" "coder" "B" (.int (0 : Int32))) (gn0 : n0 ≤ x_) (hh0 : Jvm.Lit.constHeld Z "java/lang/String" 7) (hcw : Jvm.Lit.compactW.before a0 Z = true) :
    OwnMetI l yN9 jdk_42_method_149_code 6 none ({ frames := 1, cells := 2, slots := 4, locals := 12 } : Room) Z #[(.ref x_), (.ref cs), (.int (0 : Int32)), (.int (0 : Int32)), .null] h0 (Q_stv0 Z cv x_ cs h0 n0) := by
 refine own_metI pn_9 (fun p e s m below meth c s₁ hx hby hml hown hnm hret hlk hZ hsh hI X0 e0 => ?_)
 have hown : s.vm.findClass "java/lang/String" = some m.cls := hown
 have N0 := Fr.nil n0
 have K0 := Keep.refl h0 [x_]
 rw [ef_stv0]
 show OwnWk _ _ _ _ (s₁.setTop (mkF m 0 #[vR x_, vR cs, vI (0 : Int32), vI (0 : Int32), .val .null, uX] []))
 refine own_go (fun tgt kst => XS.aloadN X0.here hx rfl (hb hby (dB9 0)) rfl rfl  kst) ?_
 show OwnWk _ _ _ _ (s₁.setTop (mkF m 1 #[vR x_, vR cs, vI (0 : Int32), vI (0 : Int32), .val .null, uX] [(.ref x_)]))
 obtain ⟨T1, X1, e1, st1⟩ := initO X0 hx hZ hown (wq hw 66 rfl) (wq hw 13 rfl) (wq hw 14 rfl) e0 (g := (mkF m 1 #[vR x_, vR cs, vI (0 : Int32), vI (0 : Int32), .val .null, uX] [(.ref x_)])) rfl (by rw [hml]; rfl) rfl (hb hby (dB9 1)) (by decide) (W := 0) (by show 2 * 0 + _ ≤ _; exact Nat.le_of_eq rfl) (by decide)
 refine own_go st1 ?_
 show OwnWk _ _ _ _ (T1.setTop (mkF m 4 #[vR x_, vR cs, vI (0 : Int32), vI (0 : Int32), .val .null, uX] []))
 refine own_go (fun tgt kst => XS.iloadN X1.here hx rfl (hb hby (dB9 2)) rfl  kst) ?_
 refine own_go (fun tgt kst => XS.ifNo X1.here hx rfl (hb hby (dB9 3)) rfl ((if0 _ _).trans (teq (by decide : (0 : Int32) = (0 : Int32))).2) kst) ?_
 refine own_go (fun tgt kst => XS.aloadN X1.here hx rfl (hb hby (dB9 4)) rfl rfl  kst) ?_
 show OwnWk _ _ _ _ (T1.setTop (mkF m 9 #[vR x_, vR cs, vI (0 : Int32), vI (0 : Int32), .val .null, uX] [(.ref x_)]))
 have X2s : Stand _ _ _ _ (s.setVm s.vm) _ _ _ _ _ _ _ _ _ := X1
 have hS : s.Since s.vm 0 := (State.WarmedH.refl s).since 0
 have hSk := Nat.zero_le h0.size
 have wS : ∀ a ∈ Bundle.stringAtoms, a.before a0 Z = true := fun a ha => by
  simp only [Bundle.stringAtoms, List.mem_cons, List.not_mem_nil, or_false] at ha
  rcases ha with rfl | rfl | rfl | rfl | rfl | rfl | rfl
  · exact (wq hw 57 rfl)
  · exact (wq hw 56 rfl)
  · exact (wq hw 72 rfl)
  · exact (wq hw 82 rfl)
  · exact (wq hw 80 rfl)
  · exact (wq hw 84 rfl)
  · exact (wq hw 85 rfl)
 obtain ⟨sa, T2, h2, kk, sb, kc, X2, e2, E2, hS, hSk2, hZ, hown, As, Fc, Fv, Vb, la, lb, I1, Lt, st2⟩ := ldcSVL X2s hx hZ hown (wq hw 83 rfl) wS e1 hS hSk (Fr.nil _) (fun b cl q => by rw [hsh]; exact O0.2.2 b cl q) hI (by simp) hh0 hcw (vs := []) (z := 0) ⟨by simp, rfl⟩ (by decide) rfl (g := (mkF m 9 #[vR x_, vR cs, vI (0 : Int32), vI (0 : Int32), .val .null, uX] [(.ref x_)])) rfl (hb hby (dB9 5)) (n := 0) (by decide) (by decide) (by decide) (by decide)
 refine own_go st2 ?_
 have F3 := Exa.ext E2 pf0
 have F4 := Fld.ext E2 pf1
 have F5 := Fld.ext E2 pf2
 have F6 := Old.ext O0 E2
 have Z7 := Nat.le_trans Z0 E2.1
 have K8 := Keep.ext K0 E2
 show OwnWk _ _ _ _ (T2.setTop (mkF m 11 #[vR x_, vR cs, vI (0 : Int32), vI (0 : Int32), .val .null, uX] [(.ref sa), (.ref x_)]))
 refine own_gF X2 hx hZ hown (wq hw 81 rfl) Via.refl e2 Fv rfl rfl (hb hby (dB9 6)) fun T9 X9 e9 => ?_
 show OwnWk _ _ _ _ (T9.setTop (mkF m 14 #[vR x_, vR cs, vI (0 : Int32), vI (0 : Int32), .val .null, uX] [(.ref sb), (.ref x_)]))
 obtain ⟨T10, h10, X10, e10, W10, st10⟩ := putF X9 hx hZ hown (host := "") (Or.inl (wq hw 81 rfl)) Via.refl e9 F4 F3 (Or.inr ⟨(wq hw 82 rfl), rfl, hnm⟩) (wq hw 56 rfl) (v := (.ref sb)) (ty := (.array .byte)) (by decide) rfl rfl (g := (mkF m 14 #[vR x_, vR cs, vI (0 : Int32), vI (0 : Int32), .val .null, uX] [(.ref sb), (.ref x_)])) rfl rfl (hb hby (dB9 7))
 refine own_go st10 ?_
 have N10 := Fr.snoc X10 N0 gn0
 have Fw10 := Fld.same W10 F4
 have F11 := Exa.wr W10 F3
 have F12 := Fld.other W10 F5 (Or.inr (slot_ne (Or.inr (wq hw 80 rfl)) (Or.inr (wq hw 82 rfl)) (by decide) (t := .byte) (t' := (.array .byte)) (by decide) (by decide)))
 have F13 := Old.wr F6 W10 gn0
 have Z14 := Nat.le_trans Z7 (Keep.of_wr W10).1
 have Z15 := Nat.le_trans hSk2 (Keep.of_wr W10).1
 have K16 := Keep.wr K8 W10 (Or.inl (List.mem_of_getElem? (i := 0) rfl))
 show OwnWk _ _ _ _ (T10.setTop (mkF m 17 #[vR x_, vR cs, vI (0 : Int32), vI (0 : Int32), .val .null, uX] []))
 have Fc2 := Fld.other W10 Fc (Or.inr (slot_ne (Or.inr (wq hw 80 rfl)) (Or.inr (wq hw 82 rfl)) (by decide) (t := .byte) (t' := (.array .byte)) (by decide) (by decide)))
 refine own_go (fun tgt kst => XS.aloadN X10.here hx rfl (hb hby (dB9 8)) rfl rfl  kst) ?_
 show OwnWk _ _ _ _ (T10.setTop (mkF m 18 #[vR x_, vR cs, vI (0 : Int32), vI (0 : Int32), .val .null, uX] [(.ref x_)]))
 refine own_go (ldcAgain X10 hx hZ hown (wq hw 83 rfl) Lt (g := (mkF m 18 #[vR x_, vR cs, vI (0 : Int32), vI (0 : Int32), .val .null, uX] [(.ref x_)])) rfl (hb hby (dB9 9))) ?_
 show OwnWk _ _ _ _ (T10.setTop (mkF m 20 #[vR x_, vR cs, vI (0 : Int32), vI (0 : Int32), .val .null, uX] [(.ref sa), (.ref x_)]))
 refine own_gF X10 hx hZ hown (wq hw 79 rfl) Via.refl e10 Fc2 rfl rfl (hb hby (dB9 10)) fun T17 X17 e17 => ?_
 show OwnWk _ _ _ _ (T17.setTop (mkF m 23 #[vR x_, vR cs, vI (0 : Int32), vI (0 : Int32), .val .null, uX] [(.int (0 : Int32)), (.ref x_)]))
 obtain ⟨T18, h18, X18, e18, W18, st18⟩ := putFN X17 hx hZ hown (wq hw 79 rfl) Via.refl e17 F12 F11 (Or.inr ⟨(wq hw 80 rfl), rfl, hnm⟩) (wq hw 56 rfl) (ty := .byte) (v' := (.int (0 : Int32))) (by decide) rfl rfl (g := (mkF m 23 #[vR x_, vR cs, vI (0 : Int32), vI (0 : Int32), .val .null, uX] [(.int (0 : Int32)), (.ref x_)])) rfl rfl (hb hby (dB9 11))
 refine own_go st18 ?_
 have N18 := Fr.snoc X18 N10 gn0
 have Fw18 := Fld.same W18 F12
 have F19 := Exa.wr W18 F11
 have F20 := Old.wr F13 W18 gn0
 have F21 := Fld.other W18 Fw10 (Or.inr (slot_ne (Or.inr (wq hw 82 rfl)) (Or.inr (wq hw 80 rfl)) (by decide) (t := (.array .byte)) (t' := .byte) (by decide) (by decide)))
 have Z22 := Nat.le_trans Z14 (Keep.of_wr W18).1
 have Z23 := Nat.le_trans Z15 (Keep.of_wr W18).1
 have K24 := Keep.wr K16 W18 (Or.inl (List.mem_of_getElem? (i := 0) rfl))
 show OwnWk _ _ _ _ (T18.setTop (mkF m 26 #[vR x_, vR cs, vI (0 : Int32), vI (0 : Int32), .val .null, uX] []))
 exact own_retVW X18 hx hlk hret hS (by rw [e18]; exact Z23) (hb hby (dB9 12)) (by decide) (by decide) (by rw [e18]; exact ⟨rfl, N18, K24⟩)
theorem ef_sti0 (m : MethodId) (x0 : Addr) (x1 : Addr) : entryFrame m #[(.ref x0), (.ref x1)] 2 = mkF m 0 #[vR x0, vR x1] [] := by first | (simp [entryFrame, mkF, argsToLocals, Value.category]; done) | rfl
def Q_sti0 (Z : State) (cv : Int32) (x_ cs : Addr) (h0 : Heap) (n0 : Nat) (v : Option Value) (h : Heap) (L : List Loc) : Prop := v = none ∧ Fr n0 L ∧ Keep h0 h [x_]
set_option maxRecDepth 65536 in
set_option maxHeartbeats 40000000 in
theorem sti0 (l : Launch) (Z : State) (a0 : Array Value) (hw : ∀ d ∈ tables_1, d.before a0 Z = true) (cv : Int32) (x_ cs : Addr) (h0 : Heap) (n0 : Nat) (Z0 : n0 ≤ h0.size) (O0 : Old Z n0 h0) (S_c : Sta Z Z.heap "java/lang/String" "COMPACT_STRINGS" "Z" (.int cv)) (hcv : ¬ cv = 0) (pf0 : Exa Z h0 x_ "java/lang/String") (pf1 : Fld Z h0 x_ "java/lang/String" "value" "[B" .null) (pf2 : Fld Z h0 x_ "java/lang/String" "coder" "B" (.int (0 : Int32))) (pf3 : OAr Z h0 cs .char []) (dn0 : x_ ≠ cs) (gn0 : n0 ≤ x_) (hh0 : Jvm.Lit.constHeld Z "java/lang/String" 7) (hcw : Jvm.Lit.compactW.before a0 Z = true) :
    OwnMetI l yN8 jdk_42_method_3_code 2 none ({ frames := 2, cells := 2, slots := 4, locals := 29 } : Room) Z #[(.ref x_), (.ref cs)] h0 (Q_sti0 Z cv x_ cs h0 n0) := by
 refine own_metI pn_8 (fun p e s m below meth c s₁ hx hby hml hown hnm hret hlk hZ hsh hI X0 e0 => ?_)
 have hown : s.vm.findClass "java/lang/String" = some m.cls := hown
 have N0 := Fr.nil n0
 have K0 := Keep.refl h0 [x_]
 rw [ef_sti0]
 show OwnWk _ _ _ _ (s₁.setTop (mkF m 0 #[vR x_, vR cs] []))
 refine own_go (fun tgt kst => XS.aloadN X0.here hx rfl (hb hby (dB8 0)) rfl rfl  kst) ?_
 refine own_go (fun tgt kst => XS.aloadN X0.here hx rfl (hb hby (dB8 1)) rfl rfl  kst) ?_
 refine own_go (fun tgt kst => XS.iconst X0.here hx rfl (hb hby (dB8 2)) kst) ?_
 refine own_go (fun tgt kst => XS.aloadN X0.here hx rfl (hb hby (dB8 3)) rfl rfl  kst) ?_
 refine own_len X0 hx hZ e0 pf3 rfl rfl (hb hby (dB8 4)) (N := (0 : Int32)) rfl ?_
 refine own_go (fun tgt kst => XS.aconstNull X0.here hx rfl (hb hby (dB8 5)) kst) ?_
 show OwnWk _ _ _ _ (s₁.setTop (mkF m 6 #[vR x_, vR cs] [.null, (.int (0 : Int32)), (.int (0 : Int32)), (.ref cs), (.ref x_)]))
 refine own_callCI X0 hx hZ hI (y := yN9) hown rfl (wq hw 62 rfl) (wq hw 63 rfl) (wq hw 57 rfl) (wq hw 65 rfl) (by decide) (a := x_) (argsL := [(.ref cs), (.int (0 : Int32)), (.int (0 : Int32)), .null]) (rest := []) (h := h0) (stv0 l Z a0 hw cv x_ cs h0 n0 Z0 O0 S_c hcv pf0 pf1 pf2 gn0 hh0 hcw) e0 (W := 0) (by decide) (by decide) (by decide) (by decide) rfl (by rw [hml]; rfl) (lenOf pd_3 rfl) rfl (by show 2 * 0 + _ ≤ _; exact Nat.le_of_eq rfl) (hb hby (dB8 6)) (fun v1 T1 h1 L1 X1 e1 hS1 hZ1 hown1 gr1 hQ1 => ?_)
 have hS := hS1
 have hZ := hZ1
 have hown := hown1
 obtain ⟨rfl, Nq1, Kq1⟩ := hQ1
 have N1 := Fr.app N0 Nq1
 have F2 := Exa.keep pf0 Kq1
 have F3 := OAr.keep pf3 Kq1 (ninS (Ne.symm dn0) nin0)
 have F4 := Old.keep O0 Kq1 (allS gn0 all0)
 have Z5 := Nat.le_trans Z0 Kq1.1
 have K6 := Keep.trans K0 Kq1 (allS (Or.inl (List.mem_of_getElem? (i := 0) rfl)) all0)
 show OwnWk _ _ _ _ (T1.setTop (mkF m 9 #[vR x_, vR cs] []))
 exact own_retVW X1 hx hlk hret hS (by rw [e1]; exact (Nat.le_refl h1.size)) (hb hby (dB8 7)) (by decide) (by decide) (by rw [e1]; exact ⟨rfl, N1, K6⟩)
theorem ef_drw0 (m : MethodId) (x0 : Int32) (x1 : Int32) (x2 : Int32) : entryFrame m #[(.int x0), (.int x1), (.int x2)] 5 = mkF m 0 #[vI x0, vI x1, vI x2, .unset, .unset] [] := by first | (simp [entryFrame, mkF, argsToLocals, Value.category]; done) | rfl
def Q_drw0 (Z : State) (cv : Int32) (u0 u1 : Int32) (h0 : Heap) (n0 : Nat) (v : Option Value) (h : Heap) (L : List Loc) : Prop := ∃ x_ : Addr, v = some (.ref x_) ∧ Fr n0 L ∧ Keep h0 h [] ∧ h0.size ≤ x_
set_option maxRecDepth 65536 in
set_option maxHeartbeats 40000000 in
theorem drw0 (l : Launch) (Z : State) (a0 : Array Value) (hw : ∀ d ∈ tables_1, d.before a0 Z = true) (cv : Int32) (u0 u1 : Int32) (h0 : Heap) (n0 : Nat) (Z0 : n0 ≤ h0.size) (O0 : Old Z n0 h0) (S_c : Sta Z Z.heap "java/lang/String" "COMPACT_STRINGS" "Z" (.int cv)) (hcv : ¬ cv = 0) (hh0 : Jvm.Lit.constHeld Z "java/lang/String" 7) (hcw : Jvm.Lit.compactW.before a0 Z = true) :
    OwnMetI l yN7 method_2_code 5 (some (.object "java/lang/String")) ({ frames := 3, cells := 4, slots := 8, locals := 43 } : Room) Z #[(.int (0 : Int32)), (.int u0), (.int u1)] h0 (Q_drw0 Z cv u0 u1 h0 n0) := by
 refine own_metI pn_7 (fun p e s m below meth c s₁ hx hby hml hown hnm hret hlk hZ hsh hI X0 e0 => ?_)
 have hown : s.vm.findClass "com/example/enrichd/enrichd/core/BlockIsHeadingPinLaw" = some m.cls := hown
 have N0 := Fr.nil n0
 have K0 := Keep.refl h0 []
 rw [ef_drw0]
 show OwnWk _ _ _ _ (s₁.setTop (mkF m 0 #[vI (0 : Int32), vI u0, vI u1, uX, uX] []))
 refine own_go (fun tgt kst => XS.iloadN X0.here hx rfl (hb hby (dB7 0)) rfl  kst) ?_
 refine own_go (fun tgt kst => XS.sipush X0.here hx rfl (hb hby (dB7 1)) kst) ?_
 refine own_go (fun tgt kst => XS.iand X0.here hx rfl (hb hby (dB7 2)) rfl kst) ?_
 refine own_go (fun tgt kst => XS.i2c X0.here hx rfl (hb hby (dB7 3)) rfl kst) ?_
 refine own_go (fun tgt kst => XS.istoreN X0.here hx rfl (hb hby (dB7 4)) rfl (l' := #[vI (0 : Int32), vI u0, vI u1, vI ((u0 &&& (255 : Int32)).toUInt32.toUInt16.toUInt32.toInt32), uX]) rfl kst) ?_
 refine own_go (fun tgt kst => XS.iloadN X0.here hx rfl (hb hby (dB7 5)) rfl  kst) ?_
 show OwnWk _ _ _ _ (s₁.setTop (mkF m 8 #[vI (0 : Int32), vI u0, vI u1, vI ((u0 &&& (255 : Int32)).toUInt32.toUInt16.toUInt32.toInt32), uX] [(.int u1)]))
 refine own_go (fun tgt kst => XS.sipush X0.here hx rfl (hb hby (dB7 6)) kst) ?_
 refine own_go (fun tgt kst => XS.iand X0.here hx rfl (hb hby (dB7 7)) rfl kst) ?_
 refine own_go (fun tgt kst => XS.i2c X0.here hx rfl (hb hby (dB7 8)) rfl kst) ?_
 refine own_go (fun tgt kst => XS.istore X0.here hx rfl (hb hby (dB7 9)) rfl (l' := #[vI (0 : Int32), vI u0, vI u1, vI ((u0 &&& (255 : Int32)).toUInt32.toUInt16.toUInt32.toInt32), vI ((u1 &&& (255 : Int32)).toUInt32.toUInt16.toUInt32.toInt32)]) rfl kst) ?_
 refine own_go (fun tgt kst => XS.iloadN X0.here hx rfl (hb hby (dB7 10)) rfl  kst) ?_
 refine own_go (fun tgt kst => XS.ifNo X0.here hx rfl (hb hby (dB7 11)) rfl ((if0 _ _).trans (teq (by decide : (0 : Int32) = (0 : Int32))).2) kst) ?_
 show OwnWk _ _ _ _ (s₁.setTop (mkF m 19 #[vI (0 : Int32), vI u0, vI u1, vI ((u0 &&& (255 : Int32)).toUInt32.toUInt16.toUInt32.toInt32), vI ((u1 &&& (255 : Int32)).toUInt32.toUInt16.toUInt32.toInt32)] []))
 obtain ⟨T1, h1, X1, e1, E1, A1, D1, -, st1⟩ := newO X0 hx hZ hown (wq hw 55 rfl) (wq hw 56 rfl) (wq hw 57 rfl) e0 (g := (mkF m 19 #[vI (0 : Int32), vI u0, vI u1, vI ((u0 &&& (255 : Int32)).toUInt32.toUInt16.toUInt32.toInt32), vI ((u1 &&& (255 : Int32)).toUInt32.toUInt16.toUInt32.toInt32)] [])) rfl (hb hby (dB7 12)) (by decide) (by decide)
 obtain ⟨b1, g1⟩ : ∃ z, z = h0.size := ⟨_, rfl⟩
 rw [← g1] at A1 D1 st1
 refine own_go st1 ?_
 have ge2 : n0 ≤ b1 := Nat.le_trans Z0 (Nat.le_of_eq g1.symm)
 have sz3 : h0.size ≤ b1 := Nat.le_trans K0.1 (Nat.le_of_eq g1.symm)
 have F4 := Old.ext O0 E1
 have Z5 := Nat.le_trans Z0 E1.1
 have K6 := Keep.ext K0 E1
 have F7 : Fld Z h1 b1 "java/lang/String" "coder" "B" (.int (0 : Int32)) := D1 (Or.inr (wq hw 80 rfl)) (ty := .byte) (by decide)
 have F8 : Fld Z h1 b1 "java/lang/String" "value" "[B" .null := D1 (Or.inr (wq hw 82 rfl)) (ty := (.array .byte)) (by decide)
 show OwnWk _ _ _ _ (T1.setTop (mkF m 22 #[vI (0 : Int32), vI u0, vI u1, vI ((u0 &&& (255 : Int32)).toUInt32.toUInt16.toUInt32.toInt32), vI ((u1 &&& (255 : Int32)).toUInt32.toUInt16.toUInt32.toInt32)] [(.ref b1)]))
 refine own_go (fun tgt kst => XS.dup X1.here hx rfl (hb hby (dB7 13)) rfl rfl kst) ?_
 refine own_go (fun tgt kst => XS.iconst X1.here hx rfl (hb hby (dB7 14)) kst) ?_
 refine own_newP X1 hx hZ (aty := .char) (wq hw 58 rfl) e1 rfl (hb hby (dB7 15)) rfl (by decide) (cap := 0) (by decide) (by decide) (by decide) (by decide) (fun T9 h9 b9 X9 e9 g9 E9 V9 => ?_)
 have ne10 := own_nl A1.lt (Nat.le_of_eq g9.symm)
 have ge11 : n0 ≤ b9 := Nat.le_trans Z5 (Nat.le_of_eq g9.symm)
 have sz12 : h0.size ≤ b9 := Nat.le_trans K6.1 (Nat.le_of_eq g9.symm)
 have F13 := Old.ext F4 E9
 have F14 := Exa.ext E9 A1
 have F15 := Fld.ext E9 F7
 have F16 := Fld.ext E9 F8
 have Z17 := Nat.le_trans Z5 E9.1
 have K18 := Keep.ext K6 E9
 have V9b : OAr Z h9 b9 .char [] := V9
 show OwnWk _ _ _ _ (T9.setTop (mkF m 26 #[vI (0 : Int32), vI u0, vI u1, vI ((u0 &&& (255 : Int32)).toUInt32.toUInt16.toUInt32.toInt32), vI ((u1 &&& (255 : Int32)).toUInt32.toUInt16.toUInt32.toInt32)] [(.ref b9), (.ref b1), (.ref b1)]))
 refine own_callCI X9 hx hZ hI (y := yN8) hown rfl (wq hw 59 rfl) (wq hw 60 rfl) (wq hw 57 rfl) (wq hw 61 rfl) (by decide) (a := b1) (argsL := [(.ref b9)]) (rest := [(.ref b1)]) (h := h9) (sti0 l Z a0 hw cv b1 b9 h9 n0 Z17 F13 S_c hcv F14 F16 F15 V9b ne10 ge2 hh0 hcw) e9 (W := 1) (by decide) (by decide) (by decide) (by decide) rfl (by rw [hml]; rfl) (lenOf pd_4 rfl) rfl (by show 2 * 0 + _ ≤ _; exact Nat.le_of_eq rfl) (hb hby (dB7 16)) (fun v19 T19 h19 L19 X19 e19 hS19 hZ19 hown19 gr19 hQ19 => ?_)
 have hS := hS19
 have hZ := hZ19
 have hown := hown19
 obtain ⟨rfl, Nq19, Kq19⟩ := hQ19
 have N19 := Fr.app N0 Nq19
 have F20 := Old.keep F13 Kq19 (allS ge2 all0)
 have F21 := Exa.keep F14 Kq19
 have F22 := OAr.keep V9b Kq19 (ninS (Ne.symm ne10) nin0)
 have Z23 := Nat.le_trans Z17 Kq19.1
 have K24 := Keep.trans K18 Kq19 (allS (Or.inr sz3) all0)
 show OwnWk _ _ _ _ (T19.setTop (mkF m 29 #[vI (0 : Int32), vI u0, vI u1, vI ((u0 &&& (255 : Int32)).toUInt32.toUInt16.toUInt32.toInt32), vI ((u1 &&& (255 : Int32)).toUInt32.toUInt16.toUInt32.toInt32)] [(.ref b1)]))
 exact own_retAW X19 hx hlk hret rfl hS (by rw [e19]; exact (Nat.le_refl h19.size)) rfl rfl (hb hby (dB7 17)) (by decide) (by decide) (by rw [e19]; exact ⟨b1, rfl, N19, K24, sz3⟩)
theorem pn_pn_2 : plainName "java/lang/Record" = true := by first | (simp [plainName, overriddenIn]; done) | decide +kernel
theorem pn_2 : plainFor yN2 = true := plainFor_of_name pn_pn_2
abbrev tB2 : List (Nat × Instr × Nat) := [(0, .aload_n 0, 1), (1, .invokespecial 1, 3), (4, .return_, 1)]
theorem dB2 (k : Fin 3) : decode jdk_30_method_1_code (tB2.getD k (0, .nop, 1)).1 = .ok (tB2.getD k (0, .nop, 1)).2 := by revert k; decide +kernel
theorem ef_rec (m : MethodId) (x0 : Addr) : entryFrame m #[(.ref x0)] 1 = mkF m 0 #[vR x0] [] := by first | (simp [entryFrame, mkF, argsToLocals, Value.category]; done) | rfl
def Q_rec (Z : State) (a : Addr) (h0 : Heap) (n0 : Nat) (v : Option Value) (h : Heap) (L : List Loc) : Prop := v = none ∧ Fr n0 L ∧ h = h0
set_option maxRecDepth 65536 in
set_option maxHeartbeats 40000000 in
theorem rec (l : Launch) (Z : State) (a0 : Array Value) (hw : ∀ d ∈ tables_1, d.before a0 Z = true) (a : Addr) (h0 : Heap) (n0 : Nat) (Z0 : n0 ≤ h0.size)  :
    OwnMet l yN2 jdk_30_method_1_code 1 none [] ({ frames := 1, cells := 0, slots := 0, locals := 12 } : Room) Z #[(.ref a)] h0 (Q_rec Z a h0 n0) := by
 refine own_met pn_2 (fun p e s m below meth c s₁ hx hby hml hown hnm hret hlk hZ X0 e0 => ?_)
 have hown : s.vm.findClass "java/lang/Record" = some m.cls := hown
 have N0 := Fr.nil n0
 rw [ef_rec]
 show OwnWk _ _ _ _ (s₁.setTop (mkF m 0 #[vR a] []))
 refine own_go (fun tgt kst => XS.aloadN X0.here hx rfl (hb hby (dB2 0)) rfl rfl  kst) ?_
 show OwnWk _ _ _ _ (s₁.setTop (mkF m 1 #[vR a] [(.ref a)]))
 obtain ⟨T1, X1, e1, st1⟩ := initO X0 hx hZ hown (wq hw 12 rfl) (wq hw 13 rfl) (wq hw 14 rfl) e0 (g := (mkF m 1 #[vR a] [(.ref a)])) rfl (by rw [hml]; rfl) rfl (hb hby (dB2 1)) (by decide) (W := 0) (by show 2 * 0 + _ ≤ _; exact Nat.le_of_eq rfl) (by decide)
 refine own_go st1 ?_
 show OwnWk _ _ _ _ (T1.setTop (mkF m 4 #[vR a] []))
 exact own_retV X1 hx hlk hret (hb hby (dB2 2)) (by decide) (by decide) (by rw [e1]; exact ⟨rfl, N0, rfl⟩)
theorem pn_pn_1 : plainName "com/example/enrichd/enrichd/core/Line" = true := by first | (simp [plainName, overriddenIn]; done) | decide +kernel
theorem pn_1 : plainFor yN1 = true := plainFor_of_name pn_pn_1
abbrev tB1 : List (Nat × Instr × Nat) := [(0, .aload_n 0, 1), (1, .invokespecial 1, 3), (4, .aload_n 0, 1), (5, .iload_n 1, 1), (6, .putfield 7, 3), (9, .aload_n 0, 1), (10, .iload_n 2, 1), (11, .putfield 13, 3), (14, .aload_n 0, 1), (15, .iload_n 3, 1), (16, .putfield 16, 3), (19, .aload_n 0, 1), (20, .iload 4, 2), (22, .putfield 19, 3), (25, .aload_n 0, 1), (26, .iload 5, 2), (28, .putfield 22, 3), (31, .return_, 1)]
theorem dB1 (k : Fin 18) : decode prog_35_method_1_code (tB1.getD k (0, .nop, 1)).1 = .ok (tB1.getD k (0, .nop, 1)).2 := by revert k; decide +kernel
theorem pd_5 : parseMethodDescriptor "()V" = some ⟨[], none⟩ := by decide +kernel
theorem ef_lni (m : MethodId) (x0 : Addr) (x1 : Int32) (x2 : Int32) (x3 : Int32) (x4 : Int32) (x5 : Int32) : entryFrame m #[(.ref x0), (.int x1), (.int x2), (.int x3), (.int x4), (.int x5)] 6 = mkF m 0 #[vR x0, vI x1, vI x2, vI x3, vI x4, vI x5] [] := by first | (simp [entryFrame, mkF, argsToLocals, Value.category]; done) | rfl
def Q_lni (Z : State) (a : Addr) (u0 u1 u2 u3 u4 : Int32) (h0 : Heap) (n0 : Nat) (v : Option Value) (h : Heap) (L : List Loc) : Prop := v = none ∧ Fr n0 L ∧ Keep h0 h [a]
set_option maxRecDepth 65536 in
set_option maxHeartbeats 40000000 in
theorem lni (l : Launch) (Z : State) (a0 : Array Value) (hw : ∀ d ∈ tables_1, d.before a0 Z = true) (a : Addr) (u0 u1 u2 u3 u4 : Int32) (h0 : Heap) (n0 : Nat) (Z0 : n0 ≤ h0.size) (pf0 : Exa Z h0 a "com/example/enrichd/enrichd/core/Line") (pf1 : Fld Z h0 a "com/example/enrichd/enrichd/core/Line" "number" "I" (.int (0 : Int32))) (pf2 : Fld Z h0 a "com/example/enrichd/enrichd/core/Line" "start" "I" (.int (0 : Int32))) (pf3 : Fld Z h0 a "com/example/enrichd/enrichd/core/Line" "end" "I" (.int (0 : Int32))) (pf4 : Fld Z h0 a "com/example/enrichd/enrichd/core/Line" "startOffset" "I" (.int (0 : Int32))) (pf5 : Fld Z h0 a "com/example/enrichd/enrichd/core/Line" "endOffset" "I" (.int (0 : Int32))) (gn0 : n0 ≤ a) :
    OwnMet l yN1 prog_35_method_1_code 6 none [] ({ frames := 2, cells := 0, slots := 0, locals := 24 } : Room) Z #[(.ref a), (.int u0), (.int u1), (.int u2), (.int u3), (.int u4)] h0 (Q_lni Z a u0 u1 u2 u3 u4 h0 n0) := by
 refine own_met pn_1 (fun p e s m below meth c s₁ hx hby hml hown hnm hret hlk hZ X0 e0 => ?_)
 have hown : s.vm.findClass "com/example/enrichd/enrichd/core/Line" = some m.cls := hown
 have N0 := Fr.nil n0
 have K0 := Keep.refl h0 [a]
 rw [ef_lni]
 show OwnWk _ _ _ _ (s₁.setTop (mkF m 0 #[vR a, vI u0, vI u1, vI u2, vI u3, vI u4] []))
 refine own_go (fun tgt kst => XS.aloadN X0.here hx rfl (hb hby (dB1 0)) rfl rfl  kst) ?_
 show OwnWk _ _ _ _ (s₁.setTop (mkF m 1 #[vR a, vI u0, vI u1, vI u2, vI u3, vI u4] [(.ref a)]))
 refine own_callC X0 hx hZ (y := yN2) hown rfl (wq hw 7 rfl) (wq hw 8 rfl) (wq hw 10 rfl) (wq hw 11 rfl) (by decide) (a := a) (argsL := []) (rest := [])  (h := h0) (rec l Z a0 hw a h0 n0 Z0) e0 (W := 0) (by decide) (by decide) (by decide) (by decide) rfl (by rw [hml]; rfl) (lenOf pd_5 rfl) rfl (by show 2 * 0 + _ ≤ _; exact Nat.le_of_eq rfl) (hb hby (dB1 1)) (fun v1 T1 h1 L1 X1 e1 hQ1 => ?_)
 obtain ⟨rfl, Nq1, q1⟩ := hQ1
 have N1 := Fr.app N0 Nq1
 rw [q1] at e1
 show OwnWk _ _ _ _ (T1.setTop (mkF m 4 #[vR a, vI u0, vI u1, vI u2, vI u3, vI u4] []))
 refine own_go (fun tgt kst => XS.aloadN X1.here hx rfl (hb hby (dB1 2)) rfl rfl  kst) ?_
 refine own_go (fun tgt kst => XS.iloadN X1.here hx rfl (hb hby (dB1 3)) rfl  kst) ?_
 show OwnWk _ _ _ _ (T1.setTop (mkF m 6 #[vR a, vI u0, vI u1, vI u2, vI u3, vI u4] [(.int u0), (.ref a)]))
 obtain ⟨T2, h2, X2, e2, W2, st2⟩ := putF X1 hx hZ hown (host := "") (Or.inl (wq hw 15 rfl)) Via.refl e1 pf1 pf0 (Or.inr ⟨(wq hw 16 rfl), rfl, hnm⟩) (wq hw 2 rfl) (v := (.int u0)) (ty := .int) (by decide) rfl rfl (g := (mkF m 6 #[vR a, vI u0, vI u1, vI u2, vI u3, vI u4] [(.int u0), (.ref a)])) rfl rfl (hb hby (dB1 4))
 refine own_go st2 ?_
 have N2 := Fr.snoc X2 N1 gn0
 have Fw2 := Fld.same W2 pf1
 have F3 := Exa.wr W2 pf0
 have F4 := Fld.other W2 pf2 (Or.inr (slot_ne (Or.inr (wq hw 18 rfl)) (Or.inr (wq hw 16 rfl)) (by decide) (t := .int) (t' := .int) (by decide) (by decide)))
 have F5 := Fld.other W2 pf3 (Or.inr (slot_ne (Or.inr (wq hw 20 rfl)) (Or.inr (wq hw 16 rfl)) (by decide) (t := .int) (t' := .int) (by decide) (by decide)))
 have F6 := Fld.other W2 pf4 (Or.inr (slot_ne (Or.inr (wq hw 22 rfl)) (Or.inr (wq hw 16 rfl)) (by decide) (t := .int) (t' := .int) (by decide) (by decide)))
 have F7 := Fld.other W2 pf5 (Or.inr (slot_ne (Or.inr (wq hw 24 rfl)) (Or.inr (wq hw 16 rfl)) (by decide) (t := .int) (t' := .int) (by decide) (by decide)))
 have Z8 := Nat.le_trans Z0 (Keep.of_wr W2).1
 have K9 := Keep.wr K0 W2 (Or.inl (List.mem_of_getElem? (i := 0) rfl))
 show OwnWk _ _ _ _ (T2.setTop (mkF m 9 #[vR a, vI u0, vI u1, vI u2, vI u3, vI u4] []))
 refine own_go (fun tgt kst => XS.aloadN X2.here hx rfl (hb hby (dB1 5)) rfl rfl  kst) ?_
 refine own_go (fun tgt kst => XS.iloadN X2.here hx rfl (hb hby (dB1 6)) rfl  kst) ?_
 show OwnWk _ _ _ _ (T2.setTop (mkF m 11 #[vR a, vI u0, vI u1, vI u2, vI u3, vI u4] [(.int u1), (.ref a)]))
 obtain ⟨T10, h10, X10, e10, W10, st10⟩ := putF X2 hx hZ hown (host := "") (Or.inl (wq hw 17 rfl)) Via.refl e2 F4 F3 (Or.inr ⟨(wq hw 18 rfl), rfl, hnm⟩) (wq hw 2 rfl) (v := (.int u1)) (ty := .int) (by decide) rfl rfl (g := (mkF m 11 #[vR a, vI u0, vI u1, vI u2, vI u3, vI u4] [(.int u1), (.ref a)])) rfl rfl (hb hby (dB1 7))
 refine own_go st10 ?_
 have N10 := Fr.snoc X10 N2 gn0
 have Fw10 := Fld.same W10 F4
 have F11 := Exa.wr W10 F3
 have F12 := Fld.other W10 F5 (Or.inr (slot_ne (Or.inr (wq hw 20 rfl)) (Or.inr (wq hw 18 rfl)) (by decide) (t := .int) (t' := .int) (by decide) (by decide)))
 have F13 := Fld.other W10 F6 (Or.inr (slot_ne (Or.inr (wq hw 22 rfl)) (Or.inr (wq hw 18 rfl)) (by decide) (t := .int) (t' := .int) (by decide) (by decide)))
 have F14 := Fld.other W10 F7 (Or.inr (slot_ne (Or.inr (wq hw 24 rfl)) (Or.inr (wq hw 18 rfl)) (by decide) (t := .int) (t' := .int) (by decide) (by decide)))
 have F15 := Fld.other W10 Fw2 (Or.inr (slot_ne (Or.inr (wq hw 16 rfl)) (Or.inr (wq hw 18 rfl)) (by decide) (t := .int) (t' := .int) (by decide) (by decide)))
 have Z16 := Nat.le_trans Z8 (Keep.of_wr W10).1
 have K17 := Keep.wr K9 W10 (Or.inl (List.mem_of_getElem? (i := 0) rfl))
 show OwnWk _ _ _ _ (T10.setTop (mkF m 14 #[vR a, vI u0, vI u1, vI u2, vI u3, vI u4] []))
 refine own_go (fun tgt kst => XS.aloadN X10.here hx rfl (hb hby (dB1 8)) rfl rfl  kst) ?_
 refine own_go (fun tgt kst => XS.iloadN X10.here hx rfl (hb hby (dB1 9)) rfl  kst) ?_
 show OwnWk _ _ _ _ (T10.setTop (mkF m 16 #[vR a, vI u0, vI u1, vI u2, vI u3, vI u4] [(.int u2), (.ref a)]))
 obtain ⟨T18, h18, X18, e18, W18, st18⟩ := putF X10 hx hZ hown (host := "") (Or.inl (wq hw 19 rfl)) Via.refl e10 F12 F11 (Or.inr ⟨(wq hw 20 rfl), rfl, hnm⟩) (wq hw 2 rfl) (v := (.int u2)) (ty := .int) (by decide) rfl rfl (g := (mkF m 16 #[vR a, vI u0, vI u1, vI u2, vI u3, vI u4] [(.int u2), (.ref a)])) rfl rfl (hb hby (dB1 10))
 refine own_go st18 ?_
 have N18 := Fr.snoc X18 N10 gn0
 have Fw18 := Fld.same W18 F12
 have F19 := Exa.wr W18 F11
 have F20 := Fld.other W18 F13 (Or.inr (slot_ne (Or.inr (wq hw 22 rfl)) (Or.inr (wq hw 20 rfl)) (by decide) (t := .int) (t' := .int) (by decide) (by decide)))
 have F21 := Fld.other W18 F14 (Or.inr (slot_ne (Or.inr (wq hw 24 rfl)) (Or.inr (wq hw 20 rfl)) (by decide) (t := .int) (t' := .int) (by decide) (by decide)))
 have F22 := Fld.other W18 F15 (Or.inr (slot_ne (Or.inr (wq hw 16 rfl)) (Or.inr (wq hw 20 rfl)) (by decide) (t := .int) (t' := .int) (by decide) (by decide)))
 have F23 := Fld.other W18 Fw10 (Or.inr (slot_ne (Or.inr (wq hw 18 rfl)) (Or.inr (wq hw 20 rfl)) (by decide) (t := .int) (t' := .int) (by decide) (by decide)))
 have Z24 := Nat.le_trans Z16 (Keep.of_wr W18).1
 have K25 := Keep.wr K17 W18 (Or.inl (List.mem_of_getElem? (i := 0) rfl))
 show OwnWk _ _ _ _ (T18.setTop (mkF m 19 #[vR a, vI u0, vI u1, vI u2, vI u3, vI u4] []))
 refine own_go (fun tgt kst => XS.aloadN X18.here hx rfl (hb hby (dB1 11)) rfl rfl  kst) ?_
 refine own_go (fun tgt kst => XS.iload X18.here hx rfl (hb hby (dB1 12)) rfl  kst) ?_
 show OwnWk _ _ _ _ (T18.setTop (mkF m 22 #[vR a, vI u0, vI u1, vI u2, vI u3, vI u4] [(.int u3), (.ref a)]))
 obtain ⟨T26, h26, X26, e26, W26, st26⟩ := putF X18 hx hZ hown (host := "") (Or.inl (wq hw 21 rfl)) Via.refl e18 F20 F19 (Or.inr ⟨(wq hw 22 rfl), rfl, hnm⟩) (wq hw 2 rfl) (v := (.int u3)) (ty := .int) (by decide) rfl rfl (g := (mkF m 22 #[vR a, vI u0, vI u1, vI u2, vI u3, vI u4] [(.int u3), (.ref a)])) rfl rfl (hb hby (dB1 13))
 refine own_go st26 ?_
 have N26 := Fr.snoc X26 N18 gn0
 have Fw26 := Fld.same W26 F20
 have F27 := Exa.wr W26 F19
 have F28 := Fld.other W26 F21 (Or.inr (slot_ne (Or.inr (wq hw 24 rfl)) (Or.inr (wq hw 22 rfl)) (by decide) (t := .int) (t' := .int) (by decide) (by decide)))
 have F29 := Fld.other W26 F22 (Or.inr (slot_ne (Or.inr (wq hw 16 rfl)) (Or.inr (wq hw 22 rfl)) (by decide) (t := .int) (t' := .int) (by decide) (by decide)))
 have F30 := Fld.other W26 F23 (Or.inr (slot_ne (Or.inr (wq hw 18 rfl)) (Or.inr (wq hw 22 rfl)) (by decide) (t := .int) (t' := .int) (by decide) (by decide)))
 have F31 := Fld.other W26 Fw18 (Or.inr (slot_ne (Or.inr (wq hw 20 rfl)) (Or.inr (wq hw 22 rfl)) (by decide) (t := .int) (t' := .int) (by decide) (by decide)))
 have Z32 := Nat.le_trans Z24 (Keep.of_wr W26).1
 have K33 := Keep.wr K25 W26 (Or.inl (List.mem_of_getElem? (i := 0) rfl))
 show OwnWk _ _ _ _ (T26.setTop (mkF m 25 #[vR a, vI u0, vI u1, vI u2, vI u3, vI u4] []))
 refine own_go (fun tgt kst => XS.aloadN X26.here hx rfl (hb hby (dB1 14)) rfl rfl  kst) ?_
 refine own_go (fun tgt kst => XS.iload X26.here hx rfl (hb hby (dB1 15)) rfl  kst) ?_
 show OwnWk _ _ _ _ (T26.setTop (mkF m 28 #[vR a, vI u0, vI u1, vI u2, vI u3, vI u4] [(.int u4), (.ref a)]))
 obtain ⟨T34, h34, X34, e34, W34, st34⟩ := putF X26 hx hZ hown (host := "") (Or.inl (wq hw 23 rfl)) Via.refl e26 F28 F27 (Or.inr ⟨(wq hw 24 rfl), rfl, hnm⟩) (wq hw 2 rfl) (v := (.int u4)) (ty := .int) (by decide) rfl rfl (g := (mkF m 28 #[vR a, vI u0, vI u1, vI u2, vI u3, vI u4] [(.int u4), (.ref a)])) rfl rfl (hb hby (dB1 16))
 refine own_go st34 ?_
 have N34 := Fr.snoc X34 N26 gn0
 have Fw34 := Fld.same W34 F28
 have F35 := Exa.wr W34 F27
 have F36 := Fld.other W34 F29 (Or.inr (slot_ne (Or.inr (wq hw 16 rfl)) (Or.inr (wq hw 24 rfl)) (by decide) (t := .int) (t' := .int) (by decide) (by decide)))
 have F37 := Fld.other W34 F30 (Or.inr (slot_ne (Or.inr (wq hw 18 rfl)) (Or.inr (wq hw 24 rfl)) (by decide) (t := .int) (t' := .int) (by decide) (by decide)))
 have F38 := Fld.other W34 F31 (Or.inr (slot_ne (Or.inr (wq hw 20 rfl)) (Or.inr (wq hw 24 rfl)) (by decide) (t := .int) (t' := .int) (by decide) (by decide)))
 have F39 := Fld.other W34 Fw26 (Or.inr (slot_ne (Or.inr (wq hw 22 rfl)) (Or.inr (wq hw 24 rfl)) (by decide) (t := .int) (t' := .int) (by decide) (by decide)))
 have Z40 := Nat.le_trans Z32 (Keep.of_wr W34).1
 have K41 := Keep.wr K33 W34 (Or.inl (List.mem_of_getElem? (i := 0) rfl))
 show OwnWk _ _ _ _ (T34.setTop (mkF m 31 #[vR a, vI u0, vI u1, vI u2, vI u3, vI u4] []))
 exact own_retV X34 hx hlk hret (hb hby (dB1 17)) (by decide) (by decide) (by rw [e34]; exact ⟨rfl, N34, K41⟩)
theorem pn_pn_4 : plainName "com/example/enrichd/enrichd/core/Block" = true := by first | (simp [plainName, overriddenIn]; done) | decide +kernel
theorem pn_4 : plainFor yN4 = true := plainFor_of_name pn_pn_4
abbrev tB4 : List (Nat × Instr × Nat) := [(0, .aload_n 0, 1), (1, .invokespecial 1, 3), (4, .aload_n 0, 1), (5, .aload_n 1, 1), (6, .putfield 7, 3), (9, .aload_n 0, 1), (10, .aload_n 2, 1), (11, .putfield 13, 3), (14, .aload_n 0, 1), (15, .iload_n 3, 1), (16, .putfield 16, 3), (19, .aload_n 0, 1), (20, .aload 4, 2), (22, .putfield 20, 3), (25, .return_, 1)]
theorem dB4 (k : Fin 15) : decode prog_3_method_1_code (tB4.getD k (0, .nop, 1)).1 = .ok (tB4.getD k (0, .nop, 1)).2 := by revert k; decide +kernel
theorem ef_bli0 (m : MethodId) (x0 : Addr) (x1 : Addr) (x2 : Addr) (x3 : Int32) : entryFrame m #[(.ref x0), (.ref x1), (.ref x2), (.int x3), .null] 5 = mkF m 0 #[vR x0, vR x1, vR x2, vI x3, .val .null] [] := by first | (simp [entryFrame, mkF, argsToLocals, Value.category]; done) | rfl
def Q_bli0 (Z : State) (a l1 l2 : Addr) (u0 : Int32) (h0 : Heap) (n0 : Nat) (v : Option Value) (h : Heap) (L : List Loc) : Prop := v = none ∧ Fr n0 L ∧ Keep h0 h [a] ∧ Fld Z h a "com/example/enrichd/enrichd/core/Block" "heading" "Ljava/lang/String;" .null
set_option maxRecDepth 65536 in
set_option maxHeartbeats 40000000 in
theorem bli0 (l : Launch) (Z : State) (a0 : Array Value) (hw : ∀ d ∈ tables_1, d.before a0 Z = true) (a l1 l2 : Addr) (u0 : Int32) (h0 : Heap) (n0 : Nat) (Z0 : n0 ≤ h0.size) (pf0 : Exa Z h0 a "com/example/enrichd/enrichd/core/Block") (pf1 : Fld Z h0 a "com/example/enrichd/enrichd/core/Block" "first" "Lcom/example/enrichd/enrichd/core/Line;" .null) (pf2 : Fld Z h0 a "com/example/enrichd/enrichd/core/Block" "last" "Lcom/example/enrichd/enrichd/core/Line;" .null) (pf3 : Fld Z h0 a "com/example/enrichd/enrichd/core/Block" "headingLevel" "I" (.int (0 : Int32))) (pf4 : Fld Z h0 a "com/example/enrichd/enrichd/core/Block" "heading" "Ljava/lang/String;" .null) (gn0 : n0 ≤ a) :
    OwnMet l yN4 prog_3_method_1_code 5 none [] ({ frames := 2, cells := 0, slots := 0, locals := 24 } : Room) Z #[(.ref a), (.ref l1), (.ref l2), (.int u0), .null] h0 (Q_bli0 Z a l1 l2 u0 h0 n0) := by
 refine own_met pn_4 (fun p e s m below meth c s₁ hx hby hml hown hnm hret hlk hZ X0 e0 => ?_)
 have hown : s.vm.findClass "com/example/enrichd/enrichd/core/Block" = some m.cls := hown
 have N0 := Fr.nil n0
 have K0 := Keep.refl h0 [a]
 rw [ef_bli0]
 show OwnWk _ _ _ _ (s₁.setTop (mkF m 0 #[vR a, vR l1, vR l2, vI u0, .val .null] []))
 refine own_go (fun tgt kst => XS.aloadN X0.here hx rfl (hb hby (dB4 0)) rfl rfl  kst) ?_
 show OwnWk _ _ _ _ (s₁.setTop (mkF m 1 #[vR a, vR l1, vR l2, vI u0, .val .null] [(.ref a)]))
 refine own_callC X0 hx hZ (y := yN2) hown rfl (wq hw 31 rfl) (wq hw 8 rfl) (wq hw 10 rfl) (wq hw 11 rfl) (by decide) (a := a) (argsL := []) (rest := [])  (h := h0) (rec l Z a0 hw a h0 n0 Z0) e0 (W := 0) (by decide) (by decide) (by decide) (by decide) rfl (by rw [hml]; rfl) (lenOf pd_5 rfl) rfl (by show 2 * 0 + _ ≤ _; exact Nat.le_of_eq rfl) (hb hby (dB4 1)) (fun v1 T1 h1 L1 X1 e1 hQ1 => ?_)
 obtain ⟨rfl, Nq1, q1⟩ := hQ1
 have N1 := Fr.app N0 Nq1
 rw [q1] at e1
 show OwnWk _ _ _ _ (T1.setTop (mkF m 4 #[vR a, vR l1, vR l2, vI u0, .val .null] []))
 refine own_go (fun tgt kst => XS.aloadN X1.here hx rfl (hb hby (dB4 2)) rfl rfl  kst) ?_
 refine own_go (fun tgt kst => XS.aloadN X1.here hx rfl (hb hby (dB4 3)) rfl rfl  kst) ?_
 show OwnWk _ _ _ _ (T1.setTop (mkF m 6 #[vR a, vR l1, vR l2, vI u0, .val .null] [(.ref l1), (.ref a)]))
 obtain ⟨T2, h2, X2, e2, W2, st2⟩ := putF X1 hx hZ hown (host := "") (Or.inl (wq hw 32 rfl)) Via.refl e1 pf1 pf0 (Or.inr ⟨(wq hw 33 rfl), rfl, hnm⟩) (wq hw 26 rfl) (v := (.ref l1)) (ty := (.object "com/example/enrichd/enrichd/core/Line")) (by decide) rfl rfl (g := (mkF m 6 #[vR a, vR l1, vR l2, vI u0, .val .null] [(.ref l1), (.ref a)])) rfl rfl (hb hby (dB4 4))
 refine own_go st2 ?_
 have N2 := Fr.snoc X2 N1 gn0
 have Fw2 := Fld.same W2 pf1
 have F3 := Exa.wr W2 pf0
 have F4 := Fld.other W2 pf2 (Or.inr (slot_ne (Or.inr (wq hw 35 rfl)) (Or.inr (wq hw 33 rfl)) (by decide) (t := (.object "com/example/enrichd/enrichd/core/Line")) (t' := (.object "com/example/enrichd/enrichd/core/Line")) (by decide) (by decide)))
 have F5 := Fld.other W2 pf3 (Or.inr (slot_ne (Or.inr (wq hw 37 rfl)) (Or.inr (wq hw 33 rfl)) (by decide) (t := .int) (t' := (.object "com/example/enrichd/enrichd/core/Line")) (by decide) (by decide)))
 have F6 := Fld.other W2 pf4 (Or.inr (slot_ne (Or.inr (wq hw 39 rfl)) (Or.inr (wq hw 33 rfl)) (by decide) (t := (.object "java/lang/String")) (t' := (.object "com/example/enrichd/enrichd/core/Line")) (by decide) (by decide)))
 have Z7 := Nat.le_trans Z0 (Keep.of_wr W2).1
 have K8 := Keep.wr K0 W2 (Or.inl (List.mem_of_getElem? (i := 0) rfl))
 show OwnWk _ _ _ _ (T2.setTop (mkF m 9 #[vR a, vR l1, vR l2, vI u0, .val .null] []))
 refine own_go (fun tgt kst => XS.aloadN X2.here hx rfl (hb hby (dB4 5)) rfl rfl  kst) ?_
 refine own_go (fun tgt kst => XS.aloadN X2.here hx rfl (hb hby (dB4 6)) rfl rfl  kst) ?_
 show OwnWk _ _ _ _ (T2.setTop (mkF m 11 #[vR a, vR l1, vR l2, vI u0, .val .null] [(.ref l2), (.ref a)]))
 obtain ⟨T9, h9, X9, e9, W9, st9⟩ := putF X2 hx hZ hown (host := "") (Or.inl (wq hw 34 rfl)) Via.refl e2 F4 F3 (Or.inr ⟨(wq hw 35 rfl), rfl, hnm⟩) (wq hw 26 rfl) (v := (.ref l2)) (ty := (.object "com/example/enrichd/enrichd/core/Line")) (by decide) rfl rfl (g := (mkF m 11 #[vR a, vR l1, vR l2, vI u0, .val .null] [(.ref l2), (.ref a)])) rfl rfl (hb hby (dB4 7))
 refine own_go st9 ?_
 have N9 := Fr.snoc X9 N2 gn0
 have Fw9 := Fld.same W9 F4
 have F10 := Exa.wr W9 F3
 have F11 := Fld.other W9 F5 (Or.inr (slot_ne (Or.inr (wq hw 37 rfl)) (Or.inr (wq hw 35 rfl)) (by decide) (t := .int) (t' := (.object "com/example/enrichd/enrichd/core/Line")) (by decide) (by decide)))
 have F12 := Fld.other W9 F6 (Or.inr (slot_ne (Or.inr (wq hw 39 rfl)) (Or.inr (wq hw 35 rfl)) (by decide) (t := (.object "java/lang/String")) (t' := (.object "com/example/enrichd/enrichd/core/Line")) (by decide) (by decide)))
 have F13 := Fld.other W9 Fw2 (Or.inr (slot_ne (Or.inr (wq hw 33 rfl)) (Or.inr (wq hw 35 rfl)) (by decide) (t := (.object "com/example/enrichd/enrichd/core/Line")) (t' := (.object "com/example/enrichd/enrichd/core/Line")) (by decide) (by decide)))
 have Z14 := Nat.le_trans Z7 (Keep.of_wr W9).1
 have K15 := Keep.wr K8 W9 (Or.inl (List.mem_of_getElem? (i := 0) rfl))
 show OwnWk _ _ _ _ (T9.setTop (mkF m 14 #[vR a, vR l1, vR l2, vI u0, .val .null] []))
 refine own_go (fun tgt kst => XS.aloadN X9.here hx rfl (hb hby (dB4 8)) rfl rfl  kst) ?_
 refine own_go (fun tgt kst => XS.iloadN X9.here hx rfl (hb hby (dB4 9)) rfl  kst) ?_
 show OwnWk _ _ _ _ (T9.setTop (mkF m 16 #[vR a, vR l1, vR l2, vI u0, .val .null] [(.int u0), (.ref a)]))
 obtain ⟨T16, h16, X16, e16, W16, st16⟩ := putF X9 hx hZ hown (host := "") (Or.inl (wq hw 36 rfl)) Via.refl e9 F11 F10 (Or.inr ⟨(wq hw 37 rfl), rfl, hnm⟩) (wq hw 26 rfl) (v := (.int u0)) (ty := .int) (by decide) rfl rfl (g := (mkF m 16 #[vR a, vR l1, vR l2, vI u0, .val .null] [(.int u0), (.ref a)])) rfl rfl (hb hby (dB4 10))
 refine own_go st16 ?_
 have N16 := Fr.snoc X16 N9 gn0
 have Fw16 := Fld.same W16 F11
 have F17 := Exa.wr W16 F10
 have F18 := Fld.other W16 F12 (Or.inr (slot_ne (Or.inr (wq hw 39 rfl)) (Or.inr (wq hw 37 rfl)) (by decide) (t := (.object "java/lang/String")) (t' := .int) (by decide) (by decide)))
 have F19 := Fld.other W16 F13 (Or.inr (slot_ne (Or.inr (wq hw 33 rfl)) (Or.inr (wq hw 37 rfl)) (by decide) (t := (.object "com/example/enrichd/enrichd/core/Line")) (t' := .int) (by decide) (by decide)))
 have F20 := Fld.other W16 Fw9 (Or.inr (slot_ne (Or.inr (wq hw 35 rfl)) (Or.inr (wq hw 37 rfl)) (by decide) (t := (.object "com/example/enrichd/enrichd/core/Line")) (t' := .int) (by decide) (by decide)))
 have Z21 := Nat.le_trans Z14 (Keep.of_wr W16).1
 have K22 := Keep.wr K15 W16 (Or.inl (List.mem_of_getElem? (i := 0) rfl))
 show OwnWk _ _ _ _ (T16.setTop (mkF m 19 #[vR a, vR l1, vR l2, vI u0, .val .null] []))
 refine own_go (fun tgt kst => XS.aloadN X16.here hx rfl (hb hby (dB4 11)) rfl rfl  kst) ?_
 refine own_go (fun tgt kst => XS.aload X16.here hx rfl (hb hby (dB4 12)) rfl rfl  kst) ?_
 show OwnWk _ _ _ _ (T16.setTop (mkF m 22 #[vR a, vR l1, vR l2, vI u0, .val .null] [.null, (.ref a)]))
 obtain ⟨T23, h23, X23, e23, W23, st23⟩ := putF X16 hx hZ hown (host := "") (Or.inl (wq hw 38 rfl)) Via.refl e16 F18 F17 (Or.inr ⟨(wq hw 39 rfl), rfl, hnm⟩) (wq hw 26 rfl) (v := .null) (ty := (.object "java/lang/String")) (by decide) rfl rfl (g := (mkF m 22 #[vR a, vR l1, vR l2, vI u0, .val .null] [.null, (.ref a)])) rfl rfl (hb hby (dB4 13))
 refine own_go st23 ?_
 have N23 := Fr.snoc X23 N16 gn0
 have Fw23 := Fld.same W23 F18
 have F24 := Exa.wr W23 F17
 have F25 := Fld.other W23 F19 (Or.inr (slot_ne (Or.inr (wq hw 33 rfl)) (Or.inr (wq hw 39 rfl)) (by decide) (t := (.object "com/example/enrichd/enrichd/core/Line")) (t' := (.object "java/lang/String")) (by decide) (by decide)))
 have F26 := Fld.other W23 F20 (Or.inr (slot_ne (Or.inr (wq hw 35 rfl)) (Or.inr (wq hw 39 rfl)) (by decide) (t := (.object "com/example/enrichd/enrichd/core/Line")) (t' := (.object "java/lang/String")) (by decide) (by decide)))
 have F27 := Fld.other W23 Fw16 (Or.inr (slot_ne (Or.inr (wq hw 37 rfl)) (Or.inr (wq hw 39 rfl)) (by decide) (t := .int) (t' := (.object "java/lang/String")) (by decide) (by decide)))
 have Z28 := Nat.le_trans Z21 (Keep.of_wr W23).1
 have K29 := Keep.wr K22 W23 (Or.inl (List.mem_of_getElem? (i := 0) rfl))
 show OwnWk _ _ _ _ (T23.setTop (mkF m 25 #[vR a, vR l1, vR l2, vI u0, .val .null] []))
 exact own_retV X23 hx hlk hret (hb hby (dB4 14)) (by decide) (by decide) (by rw [e23]; exact ⟨rfl, N23, K29, Fw23⟩)
theorem pn_pn_6 : plainName "com/example/enrichd/enrichd/core/Block" = true := by first | (simp [plainName, overriddenIn]; done) | decide +kernel
theorem pn_6 : plainFor yN6 = true := plainFor_of_name pn_pn_6
abbrev tB6 : List (Nat × Instr × Nat) := [(0, .aload_n 0, 1), (1, .getfield 20, 3), (4, .ifnull 7, 3), (7, .iconst 1, 1), (8, .goto 4, 3), (11, .iconst 0, 1), (12, .ireturn, 1)]
theorem dB6 (k : Fin 7) : decode prog_3_method_3_code (tB6.getD k (0, .nop, 1)).1 = .ok (tB6.getD k (0, .nop, 1)).2 := by revert k; decide +kernel
theorem ef_ish0 (m : MethodId) (x0 : Addr) : entryFrame m #[(.ref x0)] 1 = mkF m 0 #[vR x0] [] := by first | (simp [entryFrame, mkF, argsToLocals, Value.category]; done) | rfl
def Q_ish0 (Z : State) (a : Addr) (h0 : Heap) (n0 : Nat) (v : Option Value) (h : Heap) (L : List Loc) : Prop := v = some (.int (0 : Int32)) ∧ Fr n0 L ∧ h = h0
set_option maxRecDepth 65536 in
set_option maxHeartbeats 40000000 in
theorem ish0 (l : Launch) (Z : State) (a0 : Array Value) (hw : ∀ d ∈ tables_1, d.before a0 Z = true) (a : Addr) (h0 : Heap) (n0 : Nat) (Z0 : n0 ≤ h0.size) (pf0 : Fld Z h0 a "com/example/enrichd/enrichd/core/Block" "heading" "Ljava/lang/String;" .null) :
    OwnMet l yN6 prog_3_method_3_code 1 (some .boolean) [] ({ frames := 0, cells := 0, slots := 0, locals := 0 } : Room) Z #[(.ref a)] h0 (Q_ish0 Z a h0 n0) := by
 refine own_met pn_6 (fun p e s m below meth c s₁ hx hby hml hown hnm hret hlk hZ X0 e0 => ?_)
 have hown : s.vm.findClass "com/example/enrichd/enrichd/core/Block" = some m.cls := hown
 have N0 := Fr.nil n0
 rw [ef_ish0]
 show OwnWk _ _ _ _ (s₁.setTop (mkF m 0 #[vR a] []))
 refine own_go (fun tgt kst => XS.aloadN X0.here hx rfl (hb hby (dB6 0)) rfl rfl  kst) ?_
 refine own_gF X0 hx hZ hown (wq hw 38 rfl) Via.refl e0 pf0 rfl rfl (hb hby (dB6 1)) fun T1 X1 e1 => ?_
 refine own_go (fun tgt kst => XS.ifnullYes X1.here hx rfl (pc0 := 4) (pc' := 11) rfl (hb hby (dB6 2)) rfl (by decide) (by decide) kst) ?_
 refine own_go (fun tgt kst => XS.iconst X1.here hx rfl (hb hby (dB6 5)) kst) ?_
 show OwnWk _ _ _ _ (T1.setTop (mkF m 12 #[vR a] [(.int (0 : Int32))]))
 exact own_retZ X1 hx hlk hret (by simp) (z' := (0 : Int32)) rfl (hb hby (dB6 6)) (by decide) (by decide) (by rw [e1]; exact ⟨rfl, N0, rfl⟩)
theorem ef_bli1 (m : MethodId) (x0 : Addr) (x1 : Addr) (x2 : Addr) (x3 : Int32) (x4 : Addr) : entryFrame m #[(.ref x0), (.ref x1), (.ref x2), (.int x3), (.ref x4)] 5 = mkF m 0 #[vR x0, vR x1, vR x2, vI x3, vR x4] [] := by first | (simp [entryFrame, mkF, argsToLocals, Value.category]; done) | rfl
def Q_bli1 (Z : State) (a l1 l2 tx : Addr) (u0 : Int32) (h0 : Heap) (n0 : Nat) (v : Option Value) (h : Heap) (L : List Loc) : Prop := v = none ∧ Fr n0 L ∧ Keep h0 h [a] ∧ Fld Z h a "com/example/enrichd/enrichd/core/Block" "heading" "Ljava/lang/String;" (.ref tx)
set_option maxRecDepth 65536 in
set_option maxHeartbeats 40000000 in
theorem bli1 (l : Launch) (Z : State) (a0 : Array Value) (hw : ∀ d ∈ tables_1, d.before a0 Z = true) (a l1 l2 tx : Addr) (u0 : Int32) (h0 : Heap) (n0 : Nat) (Z0 : n0 ≤ h0.size) (pf0 : Exa Z h0 a "com/example/enrichd/enrichd/core/Block") (pf1 : Fld Z h0 a "com/example/enrichd/enrichd/core/Block" "first" "Lcom/example/enrichd/enrichd/core/Line;" .null) (pf2 : Fld Z h0 a "com/example/enrichd/enrichd/core/Block" "last" "Lcom/example/enrichd/enrichd/core/Line;" .null) (pf3 : Fld Z h0 a "com/example/enrichd/enrichd/core/Block" "headingLevel" "I" (.int (0 : Int32))) (pf4 : Fld Z h0 a "com/example/enrichd/enrichd/core/Block" "heading" "Ljava/lang/String;" .null) (gn0 : n0 ≤ a) :
    OwnMet l yN4 prog_3_method_1_code 5 none [] ({ frames := 2, cells := 0, slots := 0, locals := 24 } : Room) Z #[(.ref a), (.ref l1), (.ref l2), (.int u0), (.ref tx)] h0 (Q_bli1 Z a l1 l2 tx u0 h0 n0) := by
 refine own_met pn_4 (fun p e s m below meth c s₁ hx hby hml hown hnm hret hlk hZ X0 e0 => ?_)
 have hown : s.vm.findClass "com/example/enrichd/enrichd/core/Block" = some m.cls := hown
 have N0 := Fr.nil n0
 have K0 := Keep.refl h0 [a]
 rw [ef_bli1]
 show OwnWk _ _ _ _ (s₁.setTop (mkF m 0 #[vR a, vR l1, vR l2, vI u0, vR tx] []))
 refine own_go (fun tgt kst => XS.aloadN X0.here hx rfl (hb hby (dB4 0)) rfl rfl  kst) ?_
 show OwnWk _ _ _ _ (s₁.setTop (mkF m 1 #[vR a, vR l1, vR l2, vI u0, vR tx] [(.ref a)]))
 refine own_callC X0 hx hZ (y := yN2) hown rfl (wq hw 31 rfl) (wq hw 8 rfl) (wq hw 10 rfl) (wq hw 11 rfl) (by decide) (a := a) (argsL := []) (rest := [])  (h := h0) (rec l Z a0 hw a h0 n0 Z0) e0 (W := 0) (by decide) (by decide) (by decide) (by decide) rfl (by rw [hml]; rfl) (lenOf pd_5 rfl) rfl (by show 2 * 0 + _ ≤ _; exact Nat.le_of_eq rfl) (hb hby (dB4 1)) (fun v1 T1 h1 L1 X1 e1 hQ1 => ?_)
 obtain ⟨rfl, Nq1, q1⟩ := hQ1
 have N1 := Fr.app N0 Nq1
 rw [q1] at e1
 show OwnWk _ _ _ _ (T1.setTop (mkF m 4 #[vR a, vR l1, vR l2, vI u0, vR tx] []))
 refine own_go (fun tgt kst => XS.aloadN X1.here hx rfl (hb hby (dB4 2)) rfl rfl  kst) ?_
 refine own_go (fun tgt kst => XS.aloadN X1.here hx rfl (hb hby (dB4 3)) rfl rfl  kst) ?_
 show OwnWk _ _ _ _ (T1.setTop (mkF m 6 #[vR a, vR l1, vR l2, vI u0, vR tx] [(.ref l1), (.ref a)]))
 obtain ⟨T2, h2, X2, e2, W2, st2⟩ := putF X1 hx hZ hown (host := "") (Or.inl (wq hw 32 rfl)) Via.refl e1 pf1 pf0 (Or.inr ⟨(wq hw 33 rfl), rfl, hnm⟩) (wq hw 26 rfl) (v := (.ref l1)) (ty := (.object "com/example/enrichd/enrichd/core/Line")) (by decide) rfl rfl (g := (mkF m 6 #[vR a, vR l1, vR l2, vI u0, vR tx] [(.ref l1), (.ref a)])) rfl rfl (hb hby (dB4 4))
 refine own_go st2 ?_
 have N2 := Fr.snoc X2 N1 gn0
 have Fw2 := Fld.same W2 pf1
 have F3 := Exa.wr W2 pf0
 have F4 := Fld.other W2 pf2 (Or.inr (slot_ne (Or.inr (wq hw 35 rfl)) (Or.inr (wq hw 33 rfl)) (by decide) (t := (.object "com/example/enrichd/enrichd/core/Line")) (t' := (.object "com/example/enrichd/enrichd/core/Line")) (by decide) (by decide)))
 have F5 := Fld.other W2 pf3 (Or.inr (slot_ne (Or.inr (wq hw 37 rfl)) (Or.inr (wq hw 33 rfl)) (by decide) (t := .int) (t' := (.object "com/example/enrichd/enrichd/core/Line")) (by decide) (by decide)))
 have F6 := Fld.other W2 pf4 (Or.inr (slot_ne (Or.inr (wq hw 39 rfl)) (Or.inr (wq hw 33 rfl)) (by decide) (t := (.object "java/lang/String")) (t' := (.object "com/example/enrichd/enrichd/core/Line")) (by decide) (by decide)))
 have Z7 := Nat.le_trans Z0 (Keep.of_wr W2).1
 have K8 := Keep.wr K0 W2 (Or.inl (List.mem_of_getElem? (i := 0) rfl))
 show OwnWk _ _ _ _ (T2.setTop (mkF m 9 #[vR a, vR l1, vR l2, vI u0, vR tx] []))
 refine own_go (fun tgt kst => XS.aloadN X2.here hx rfl (hb hby (dB4 5)) rfl rfl  kst) ?_
 refine own_go (fun tgt kst => XS.aloadN X2.here hx rfl (hb hby (dB4 6)) rfl rfl  kst) ?_
 show OwnWk _ _ _ _ (T2.setTop (mkF m 11 #[vR a, vR l1, vR l2, vI u0, vR tx] [(.ref l2), (.ref a)]))
 obtain ⟨T9, h9, X9, e9, W9, st9⟩ := putF X2 hx hZ hown (host := "") (Or.inl (wq hw 34 rfl)) Via.refl e2 F4 F3 (Or.inr ⟨(wq hw 35 rfl), rfl, hnm⟩) (wq hw 26 rfl) (v := (.ref l2)) (ty := (.object "com/example/enrichd/enrichd/core/Line")) (by decide) rfl rfl (g := (mkF m 11 #[vR a, vR l1, vR l2, vI u0, vR tx] [(.ref l2), (.ref a)])) rfl rfl (hb hby (dB4 7))
 refine own_go st9 ?_
 have N9 := Fr.snoc X9 N2 gn0
 have Fw9 := Fld.same W9 F4
 have F10 := Exa.wr W9 F3
 have F11 := Fld.other W9 F5 (Or.inr (slot_ne (Or.inr (wq hw 37 rfl)) (Or.inr (wq hw 35 rfl)) (by decide) (t := .int) (t' := (.object "com/example/enrichd/enrichd/core/Line")) (by decide) (by decide)))
 have F12 := Fld.other W9 F6 (Or.inr (slot_ne (Or.inr (wq hw 39 rfl)) (Or.inr (wq hw 35 rfl)) (by decide) (t := (.object "java/lang/String")) (t' := (.object "com/example/enrichd/enrichd/core/Line")) (by decide) (by decide)))
 have F13 := Fld.other W9 Fw2 (Or.inr (slot_ne (Or.inr (wq hw 33 rfl)) (Or.inr (wq hw 35 rfl)) (by decide) (t := (.object "com/example/enrichd/enrichd/core/Line")) (t' := (.object "com/example/enrichd/enrichd/core/Line")) (by decide) (by decide)))
 have Z14 := Nat.le_trans Z7 (Keep.of_wr W9).1
 have K15 := Keep.wr K8 W9 (Or.inl (List.mem_of_getElem? (i := 0) rfl))
 show OwnWk _ _ _ _ (T9.setTop (mkF m 14 #[vR a, vR l1, vR l2, vI u0, vR tx] []))
 refine own_go (fun tgt kst => XS.aloadN X9.here hx rfl (hb hby (dB4 8)) rfl rfl  kst) ?_
 refine own_go (fun tgt kst => XS.iloadN X9.here hx rfl (hb hby (dB4 9)) rfl  kst) ?_
 show OwnWk _ _ _ _ (T9.setTop (mkF m 16 #[vR a, vR l1, vR l2, vI u0, vR tx] [(.int u0), (.ref a)]))
 obtain ⟨T16, h16, X16, e16, W16, st16⟩ := putF X9 hx hZ hown (host := "") (Or.inl (wq hw 36 rfl)) Via.refl e9 F11 F10 (Or.inr ⟨(wq hw 37 rfl), rfl, hnm⟩) (wq hw 26 rfl) (v := (.int u0)) (ty := .int) (by decide) rfl rfl (g := (mkF m 16 #[vR a, vR l1, vR l2, vI u0, vR tx] [(.int u0), (.ref a)])) rfl rfl (hb hby (dB4 10))
 refine own_go st16 ?_
 have N16 := Fr.snoc X16 N9 gn0
 have Fw16 := Fld.same W16 F11
 have F17 := Exa.wr W16 F10
 have F18 := Fld.other W16 F12 (Or.inr (slot_ne (Or.inr (wq hw 39 rfl)) (Or.inr (wq hw 37 rfl)) (by decide) (t := (.object "java/lang/String")) (t' := .int) (by decide) (by decide)))
 have F19 := Fld.other W16 F13 (Or.inr (slot_ne (Or.inr (wq hw 33 rfl)) (Or.inr (wq hw 37 rfl)) (by decide) (t := (.object "com/example/enrichd/enrichd/core/Line")) (t' := .int) (by decide) (by decide)))
 have F20 := Fld.other W16 Fw9 (Or.inr (slot_ne (Or.inr (wq hw 35 rfl)) (Or.inr (wq hw 37 rfl)) (by decide) (t := (.object "com/example/enrichd/enrichd/core/Line")) (t' := .int) (by decide) (by decide)))
 have Z21 := Nat.le_trans Z14 (Keep.of_wr W16).1
 have K22 := Keep.wr K15 W16 (Or.inl (List.mem_of_getElem? (i := 0) rfl))
 show OwnWk _ _ _ _ (T16.setTop (mkF m 19 #[vR a, vR l1, vR l2, vI u0, vR tx] []))
 refine own_go (fun tgt kst => XS.aloadN X16.here hx rfl (hb hby (dB4 11)) rfl rfl  kst) ?_
 refine own_go (fun tgt kst => XS.aload X16.here hx rfl (hb hby (dB4 12)) rfl rfl  kst) ?_
 show OwnWk _ _ _ _ (T16.setTop (mkF m 22 #[vR a, vR l1, vR l2, vI u0, vR tx] [(.ref tx), (.ref a)]))
 obtain ⟨T23, h23, X23, e23, W23, st23⟩ := putF X16 hx hZ hown (host := "") (Or.inl (wq hw 38 rfl)) Via.refl e16 F18 F17 (Or.inr ⟨(wq hw 39 rfl), rfl, hnm⟩) (wq hw 26 rfl) (v := (.ref tx)) (ty := (.object "java/lang/String")) (by decide) rfl rfl (g := (mkF m 22 #[vR a, vR l1, vR l2, vI u0, vR tx] [(.ref tx), (.ref a)])) rfl rfl (hb hby (dB4 13))
 refine own_go st23 ?_
 have N23 := Fr.snoc X23 N16 gn0
 have Fw23 := Fld.same W23 F18
 have F24 := Exa.wr W23 F17
 have F25 := Fld.other W23 F19 (Or.inr (slot_ne (Or.inr (wq hw 33 rfl)) (Or.inr (wq hw 39 rfl)) (by decide) (t := (.object "com/example/enrichd/enrichd/core/Line")) (t' := (.object "java/lang/String")) (by decide) (by decide)))
 have F26 := Fld.other W23 F20 (Or.inr (slot_ne (Or.inr (wq hw 35 rfl)) (Or.inr (wq hw 39 rfl)) (by decide) (t := (.object "com/example/enrichd/enrichd/core/Line")) (t' := (.object "java/lang/String")) (by decide) (by decide)))
 have F27 := Fld.other W23 Fw16 (Or.inr (slot_ne (Or.inr (wq hw 37 rfl)) (Or.inr (wq hw 39 rfl)) (by decide) (t := .int) (t' := (.object "java/lang/String")) (by decide) (by decide)))
 have Z28 := Nat.le_trans Z21 (Keep.of_wr W23).1
 have K29 := Keep.wr K22 W23 (Or.inl (List.mem_of_getElem? (i := 0) rfl))
 show OwnWk _ _ _ _ (T23.setTop (mkF m 25 #[vR a, vR l1, vR l2, vI u0, vR tx] []))
 exact own_retV X23 hx hlk hret (hb hby (dB4 14)) (by decide) (by decide) (by rw [e23]; exact ⟨rfl, N23, K29, Fw23⟩)
theorem ef_ish1 (m : MethodId) (x0 : Addr) : entryFrame m #[(.ref x0)] 1 = mkF m 0 #[vR x0] [] := by first | (simp [entryFrame, mkF, argsToLocals, Value.category]; done) | rfl
def Q_ish1 (Z : State) (a tx : Addr) (h0 : Heap) (n0 : Nat) (v : Option Value) (h : Heap) (L : List Loc) : Prop := v = some (.int (1 : Int32)) ∧ Fr n0 L ∧ h = h0
set_option maxRecDepth 65536 in
set_option maxHeartbeats 40000000 in
theorem ish1 (l : Launch) (Z : State) (a0 : Array Value) (hw : ∀ d ∈ tables_1, d.before a0 Z = true) (a tx : Addr) (h0 : Heap) (n0 : Nat) (Z0 : n0 ≤ h0.size) (pf0 : Fld Z h0 a "com/example/enrichd/enrichd/core/Block" "heading" "Ljava/lang/String;" (.ref tx)) :
    OwnMet l yN6 prog_3_method_3_code 1 (some .boolean) [] ({ frames := 0, cells := 0, slots := 0, locals := 0 } : Room) Z #[(.ref a)] h0 (Q_ish1 Z a tx h0 n0) := by
 refine own_met pn_6 (fun p e s m below meth c s₁ hx hby hml hown hnm hret hlk hZ X0 e0 => ?_)
 have hown : s.vm.findClass "com/example/enrichd/enrichd/core/Block" = some m.cls := hown
 have N0 := Fr.nil n0
 rw [ef_ish1]
 show OwnWk _ _ _ _ (s₁.setTop (mkF m 0 #[vR a] []))
 refine own_go (fun tgt kst => XS.aloadN X0.here hx rfl (hb hby (dB6 0)) rfl rfl  kst) ?_
 refine own_gF X0 hx hZ hown (wq hw 38 rfl) Via.refl e0 pf0 rfl rfl (hb hby (dB6 1)) fun T1 X1 e1 => ?_
 refine own_go (fun tgt kst => XS.ifnullNo X1.here hx rfl (hb hby (dB6 2)) rfl kst) ?_
 refine own_go (fun tgt kst => XS.iconst X1.here hx rfl (hb hby (dB6 3)) kst) ?_
 refine own_go (fun tgt kst => XS.goto X1.here hx rfl (pc0 := 8) (pc' := 12) rfl (hb hby (dB6 4)) (by decide) (by decide) kst) ?_
 show OwnWk _ _ _ _ (T1.setTop (mkF m 12 #[vR a] [(.int (1 : Int32))]))
 exact own_retZ X1 hx hlk hret (by simp) (z' := (1 : Int32)) rfl (hb hby (dB6 6)) (by decide) (by decide) (by rw [e1]; exact ⟨rfl, N0, rfl⟩)
theorem pn_pn_5 : plainName "com/example/enrichd/enrichd/core/Block" = true := by first | (simp [plainName, overriddenIn]; done) | decide +kernel
theorem pn_5 : plainFor yN5 = true := plainFor_of_name pn_pn_5
abbrev tB5 : List (Nat × Instr × Nat) := [(0, .new 8, 3), (3, .dup, 1), (4, .aload_n 0, 1), (5, .aload_n 1, 1), (6, .iconst 0, 1), (7, .aconst_null, 1), (8, .invokespecial 24, 3), (11, .areturn, 1)]
theorem dB5 (k : Fin 8) : decode prog_3_method_2_code (tB5.getD k (0, .nop, 1)).1 = .ok (tB5.getD k (0, .nop, 1)).2 := by revert k; decide +kernel
theorem pd_6 : parseMethodDescriptor "(Lcom/example/enrichd/enrichd/core/Line;Lcom/example/enrichd/enrichd/core/Line;ILjava/lang/String;)V" = some ⟨[(.object "com/example/enrichd/enrichd/core/Line"), (.object "com/example/enrichd/enrichd/core/Line"), .int, (.object "java/lang/String")], none⟩ := by decide +kernel
theorem ef_bof (m : MethodId) (x0 : Addr) (x1 : Addr) : entryFrame m #[(.ref x0), (.ref x1)] 2 = mkF m 0 #[vR x0, vR x1] [] := by first | (simp [entryFrame, mkF, argsToLocals, Value.category]; done) | rfl
def Q_bof (Z : State) (l1 l2 : Addr) (h0 : Heap) (n0 : Nat) (v : Option Value) (h : Heap) (L : List Loc) : Prop := ∃ b : Addr, v = some (.ref b) ∧ Fr n0 L ∧ Keep h0 h [] ∧ h0.size ≤ b ∧ Exa Z h b "com/example/enrichd/enrichd/core/Block" ∧ Fld Z h b "com/example/enrichd/enrichd/core/Block" "heading" "Ljava/lang/String;" .null
set_option maxRecDepth 65536 in
set_option maxHeartbeats 40000000 in
theorem bof (l : Launch) (Z : State) (a0 : Array Value) (hw : ∀ d ∈ tables_1, d.before a0 Z = true) (l1 l2 : Addr) (h0 : Heap) (n0 : Nat) (Z0 : n0 ≤ h0.size)  :
    OwnMet l yN5 prog_3_method_2_code 2 (some (.object "com/example/enrichd/enrichd/core/Block")) [] ({ frames := 3, cells := 1, slots := 4, locals := 41 } : Room) Z #[(.ref l1), (.ref l2)] h0 (Q_bof Z l1 l2 h0 n0) := by
 refine own_met pn_5 (fun p e s m below meth c s₁ hx hby hml hown hnm hret hlk hZ X0 e0 => ?_)
 have hown : s.vm.findClass "com/example/enrichd/enrichd/core/Block" = some m.cls := hown
 have N0 := Fr.nil n0
 have K0 := Keep.refl h0 []
 rw [ef_bof]
 show OwnWk _ _ _ _ (s₁.setTop (mkF m 0 #[vR l1, vR l2] []))
 obtain ⟨T1, h1, X1, e1, E1, A1, D1, -, st1⟩ := newO X0 hx hZ hown (wq hw 43 rfl) (wq hw 26 rfl) (wq hw 27 rfl) e0 (g := (mkF m 0 #[vR l1, vR l2] [])) rfl (hb hby (dB5 0)) (by decide) (by decide)
 obtain ⟨b1, g1⟩ : ∃ z, z = h0.size := ⟨_, rfl⟩
 rw [← g1] at A1 D1 st1
 refine own_go st1 ?_
 have ge2 : n0 ≤ b1 := Nat.le_trans Z0 (Nat.le_of_eq g1.symm)
 have sz3 : h0.size ≤ b1 := Nat.le_trans K0.1 (Nat.le_of_eq g1.symm)
 have Z4 := Nat.le_trans Z0 E1.1
 have K5 := Keep.ext K0 E1
 have F6 : Fld Z h1 b1 "com/example/enrichd/enrichd/core/Block" "first" "Lcom/example/enrichd/enrichd/core/Line;" .null := D1 (Or.inr (wq hw 33 rfl)) (ty := (.object "com/example/enrichd/enrichd/core/Line")) (by decide)
 have F7 : Fld Z h1 b1 "com/example/enrichd/enrichd/core/Block" "last" "Lcom/example/enrichd/enrichd/core/Line;" .null := D1 (Or.inr (wq hw 35 rfl)) (ty := (.object "com/example/enrichd/enrichd/core/Line")) (by decide)
 have F8 : Fld Z h1 b1 "com/example/enrichd/enrichd/core/Block" "headingLevel" "I" (.int (0 : Int32)) := D1 (Or.inr (wq hw 37 rfl)) (ty := .int) (by decide)
 have F9 : Fld Z h1 b1 "com/example/enrichd/enrichd/core/Block" "heading" "Ljava/lang/String;" .null := D1 (Or.inr (wq hw 39 rfl)) (ty := (.object "java/lang/String")) (by decide)
 show OwnWk _ _ _ _ (T1.setTop (mkF m 3 #[vR l1, vR l2] [(.ref b1)]))
 refine own_go (fun tgt kst => XS.dup X1.here hx rfl (hb hby (dB5 1)) rfl rfl kst) ?_
 refine own_go (fun tgt kst => XS.aloadN X1.here hx rfl (hb hby (dB5 2)) rfl rfl  kst) ?_
 refine own_go (fun tgt kst => XS.aloadN X1.here hx rfl (hb hby (dB5 3)) rfl rfl  kst) ?_
 refine own_go (fun tgt kst => XS.iconst X1.here hx rfl (hb hby (dB5 4)) kst) ?_
 refine own_go (fun tgt kst => XS.aconstNull X1.here hx rfl (hb hby (dB5 5)) kst) ?_
 show OwnWk _ _ _ _ (T1.setTop (mkF m 8 #[vR l1, vR l2] [.null, (.int (0 : Int32)), (.ref l2), (.ref l1), (.ref b1), (.ref b1)]))
 refine own_callC X1 hx hZ (y := yN4) hown rfl (wq hw 44 rfl) (wq hw 29 rfl) (wq hw 27 rfl) (wq hw 30 rfl) (by decide) (a := b1) (argsL := [(.ref l1), (.ref l2), (.int (0 : Int32)), .null]) (rest := [(.ref b1)])  (h := h1) (bli0 l Z a0 hw b1 l1 l2 (0 : Int32) h1 n0 Z4 A1 F6 F7 F8 F9 ge2) e1 (W := 1) (by decide) (by decide) (by decide) (by decide) rfl (by rw [hml]; rfl) (lenOf pd_6 rfl) rfl (by show 2 * 0 + _ ≤ _; exact Nat.le_of_eq rfl) (hb hby (dB5 6)) (fun v10 T10 h10 L10 X10 e10 hQ10 => ?_)
 obtain ⟨rfl, Nq10, Kq10, Fh10⟩ := hQ10
 have N10 := Fr.app N0 Nq10
 have F11 := Exa.keep A1 Kq10
 have Z12 := Nat.le_trans Z4 Kq10.1
 have K13 := Keep.trans K5 Kq10 (allS (Or.inr sz3) all0)
 show OwnWk _ _ _ _ (T10.setTop (mkF m 11 #[vR l1, vR l2] [(.ref b1)]))
 exact own_retA X10 hx hlk hret rfl rfl rfl (hb hby (dB5 7)) (by decide) (by decide) (by rw [e10]; exact ⟨b1, rfl, N10, K13, sz3, F11, Fh10⟩)
theorem pn_pn_0 : plainName "com/example/enrichd/enrichd/core/BlockIsHeadingPinLaw" = true := by first | (simp [plainName, overriddenIn]; done) | decide +kernel
theorem pn_0 : plainFor x = true := plainFor_of_name pn_pn_0
theorem pd_7 : parseMethodDescriptor "(IIIII)V" = some ⟨[.int, .int, .int, .int, .int], none⟩ := by decide +kernel
theorem pd_8 : parseMethodDescriptor "(Lcom/example/enrichd/enrichd/core/Line;Lcom/example/enrichd/enrichd/core/Line;)Lcom/example/enrichd/enrichd/core/Block;" = some ⟨[(.object "com/example/enrichd/enrichd/core/Line"), (.object "com/example/enrichd/enrichd/core/Line")], some (.object "com/example/enrichd/enrichd/core/Block")⟩ := by decide +kernel
theorem pd_9 : parseMethodDescriptor "()Z" = some ⟨[], some .boolean⟩ := by decide +kernel
theorem pd_10 : parseMethodDescriptor "(III)Ljava/lang/String;" = some ⟨[.int, .int, .int], some (.object "java/lang/String")⟩ := by decide +kernel
theorem ef_rm0 (m : MethodId) (x0 : Int32) (x1 : Int32) (x2 : Int32) (x3 : Int32) (x4 : Int32) (x5 : Int32) : entryFrame m #[(.int x0), (.int x1), (.int x2), (.int x3), (.int x4), (.int x5)] maxLocals = mkF m 0 #[vI x0, vI x1, vI x2, vI x3, vI x4, vI x5, .unset, .unset, .unset, .unset, .unset, .unset, .unset] [] := by first | (simp [entryFrame, mkF, argsToLocals, Value.category, maxLocals]; done) | rfl
def Q_rm0 (Z : State) (z0 z1 z2 z3 z4 z5 : Int32) (cv : Int32) (h0 : Heap) (n0 : Nat) (v : Option Value) (h : Heap) (L : List Loc) : Prop := v = some (.int 1) ∧ Fr n0 L
set_option maxRecDepth 65536 in
set_option maxHeartbeats 40000000 in
theorem rm0 (l : Launch) (Z : State) (a0 : Array Value) (hw : ∀ d ∈ tables_1, d.before a0 Z = true) (z0 z1 z2 z3 z4 z5 : Int32) (cv : Int32) (h0 : Heap) (n0 : Nat) (Z0 : n0 ≤ h0.size) (O0 : Old Z n0 h0) (S_c : Sta Z Z.heap "java/lang/String" "COMPACT_STRINGS" "Z" (.int cv)) (hcv : ¬ cv = 0) (hh0 : Jvm.Lit.constHeld Z "java/lang/String" 7) (hcw : Jvm.Lit.compactW.before a0 Z = true) :
    OwnMetIL l x code maxLocals ret tables_1 room_1 Z #[(.int z0), (.int z1), (.int z2), (.int z3), (.int z4), (.int z5)] h0 (Q_rm0 Z z0 z1 z2 z3 z4 z5 cv h0 n0) := by
 refine own_metIL pn_0 (fun p e s m below meth c s₁ hx hby hml hown hnm hret hlk hZ hsh hI X0 e0 => ?_)
 have hml : c.maxLocals = 13 := hml
 have hret : meth.sig.returnType = some .boolean := hret
 have hown : s.vm.findClass "com/example/enrichd/enrichd/core/BlockIsHeadingPinLaw" = some m.cls := hown
 have N0 := Fr.nil n0
 rw [ef_rm0]
 show OwnWk _ _ _ _ (s₁.setTop (mkF m 0 #[vI z0, vI z1, vI z2, vI z3, vI z4, vI z5, uX, uX, uX, uX, uX, uX, uX] []))
 refine own_go (fun tgt kst => XS.iloadN X0.here hx rfl (hb hby at_0) rfl  kst) ?_
 refine own_go (fun tgt kst => XS.iconst X0.here hx rfl (hb hby at_1) kst) ?_
 refine own_go (fun tgt kst => XS.iand X0.here hx rfl (hb hby at_2) rfl kst) ?_
 show OwnWk _ _ _ _ (s₁.setTop (mkF m 3 #[vI z0, vI z1, vI z2, vI z3, vI z4, vI z5, uX, uX, uX, uX, uX, uX, uX] [(.int (z0 &&& (1 : Int32)))]))
 by_cases hc1 : (z0 &&& (1 : Int32)) = (0 : Int32)
 ·
  refine own_go (fun tgt kst => XS.ifYes X0.here hx rfl (pc0 := 3) (pc' := 10) rfl (hb hby at_3) rfl ((if0 _ _).trans (teq hc1).1) (by decide) (by decide) kst) ?_
  show OwnWk _ _ _ _ (s₁.setTop (mkF m 10 #[vI z0, vI z1, vI z2, vI z3, vI z4, vI z5, uX, uX, uX, uX, uX, uX, uX] []))
  refine own_go (fun tgt kst => XS.iconst X0.here hx rfl (hb hby at_10) kst) ?_
  refine own_go (fun tgt kst => XS.istore X0.here hx rfl (hb hby at_11) rfl (l' := #[vI z0, vI z1, vI z2, vI z3, vI z4, vI z5, vI (0 : Int32), uX, uX, uX, uX, uX, uX]) rfl kst) ?_
  refine own_go (fun tgt kst => XS.iload X0.here hx rfl (hb hby at_13) rfl  kst) ?_
  refine own_go (X0.ldcInt hx hown (mvT hZ (wq hw 0 rfl)) (g := (mkF m 15 #[vI z0, vI z1, vI z2, vI z3, vI z4, vI z5, vI (0 : Int32), uX, uX, uX, uX, uX, uX] [(.int z5)])) rfl (hb hby at_15)) ?_
  refine own_go (fun tgt kst => XS.iand X0.here hx rfl (hb hby at_17) rfl kst) ?_
  refine own_go (fun tgt kst => XS.istore X0.here hx rfl (hb hby at_18) rfl (l' := #[vI z0, vI z1, vI z2, vI z3, vI z4, vI z5, vI (0 : Int32), vI (z5 &&& (65535 : Int32)), uX, uX, uX, uX, uX]) rfl kst) ?_
  show OwnWk _ _ _ _ (s₁.setTop (mkF m 20 #[vI z0, vI z1, vI z2, vI z3, vI z4, vI z5, vI (0 : Int32), vI (z5 &&& (65535 : Int32)), uX, uX, uX, uX, uX] []))
  obtain ⟨T2, h2, X2, e2, E2, A2, D2, -, st2⟩ := newO X0 hx hZ hown (wq hw 1 rfl) (wq hw 2 rfl) (wq hw 3 rfl) e0 (g := (mkF m 20 #[vI z0, vI z1, vI z2, vI z3, vI z4, vI z5, vI (0 : Int32), vI (z5 &&& (65535 : Int32)), uX, uX, uX, uX, uX] [])) rfl (hb hby at_20) (by decide) (by decide)
  obtain ⟨b2, g2⟩ : ∃ z, z = h0.size := ⟨_, rfl⟩
  rw [← g2] at A2 D2 st2
  refine own_go st2 ?_
  have ge3 : n0 ≤ b2 := Nat.le_trans Z0 (Nat.le_of_eq g2.symm)
  have F4 := Old.ext O0 E2
  have Z5 := Nat.le_trans Z0 E2.1
  have F6 : Fld Z h2 b2 "com/example/enrichd/enrichd/core/Line" "number" "I" (.int (0 : Int32)) := D2 (Or.inr (wq hw 16 rfl)) (ty := .int) (by decide)
  have F7 : Fld Z h2 b2 "com/example/enrichd/enrichd/core/Line" "start" "I" (.int (0 : Int32)) := D2 (Or.inr (wq hw 18 rfl)) (ty := .int) (by decide)
  have F8 : Fld Z h2 b2 "com/example/enrichd/enrichd/core/Line" "end" "I" (.int (0 : Int32)) := D2 (Or.inr (wq hw 20 rfl)) (ty := .int) (by decide)
  have F9 : Fld Z h2 b2 "com/example/enrichd/enrichd/core/Line" "startOffset" "I" (.int (0 : Int32)) := D2 (Or.inr (wq hw 22 rfl)) (ty := .int) (by decide)
  have F10 : Fld Z h2 b2 "com/example/enrichd/enrichd/core/Line" "endOffset" "I" (.int (0 : Int32)) := D2 (Or.inr (wq hw 24 rfl)) (ty := .int) (by decide)
  show OwnWk _ _ _ _ (T2.setTop (mkF m 23 #[vI z0, vI z1, vI z2, vI z3, vI z4, vI z5, vI (0 : Int32), vI (z5 &&& (65535 : Int32)), uX, uX, uX, uX, uX] [(.ref b2)]))
  refine own_go (fun tgt kst => XS.dup X2.here hx rfl (hb hby at_23) rfl rfl kst) ?_
  refine own_go (fun tgt kst => XS.iconst X2.here hx rfl (hb hby at_24) kst) ?_
  refine own_go (fun tgt kst => XS.iload X2.here hx rfl (hb hby at_25) rfl  kst) ?_
  refine own_go (fun tgt kst => XS.iload X2.here hx rfl (hb hby at_27) rfl  kst) ?_
  refine own_go (fun tgt kst => XS.iload X2.here hx rfl (hb hby at_29) rfl  kst) ?_
  refine own_go (fun tgt kst => XS.iload X2.here hx rfl (hb hby at_31) rfl  kst) ?_
  show OwnWk _ _ _ _ (T2.setTop (mkF m 33 #[vI z0, vI z1, vI z2, vI z3, vI z4, vI z5, vI (0 : Int32), vI (z5 &&& (65535 : Int32)), uX, uX, uX, uX, uX] [(.int (z5 &&& (65535 : Int32))), (.int (z5 &&& (65535 : Int32))), (.int (z5 &&& (65535 : Int32))), (.int (z5 &&& (65535 : Int32))), (.int (0 : Int32)), (.ref b2), (.ref b2)]))
  refine own_callC X2 hx hZ (y := yN1) hown rfl (wq hw 4 rfl) (wq hw 5 rfl) (wq hw 3 rfl) (wq hw 6 rfl) (by decide) (a := b2) (argsL := [(.int (0 : Int32)), (.int (z5 &&& (65535 : Int32))), (.int (z5 &&& (65535 : Int32))), (.int (z5 &&& (65535 : Int32))), (.int (z5 &&& (65535 : Int32)))]) (rest := [(.ref b2)])  (h := h2) (lni l Z a0 hw b2 (0 : Int32) (z5 &&& (65535 : Int32)) (z5 &&& (65535 : Int32)) (z5 &&& (65535 : Int32)) (z5 &&& (65535 : Int32)) h2 n0 Z5 A2 F6 F7 F8 F9 F10 ge3) e2 (W := 1) (by decide) (by decide) (by decide) (by decide) rfl (by rw [hml]; rfl) (lenOf pd_7 rfl) rfl (by show 2 * 0 + _ ≤ _; exact Nat.le_of_eq rfl) (hb hby at_33) (fun v11 T11 h11 L11 X11 e11 hQ11 => ?_)
  obtain ⟨rfl, Nq11, Kq11⟩ := hQ11
  have N11 := Fr.app N0 Nq11
  have F12 := Old.keep F4 Kq11 (allS ge3 all0)
  have F13 := Exa.keep A2 Kq11
  have Z14 := Nat.le_trans Z5 Kq11.1
  show OwnWk _ _ _ _ (T11.setTop (mkF m 36 #[vI z0, vI z1, vI z2, vI z3, vI z4, vI z5, vI (0 : Int32), vI (z5 &&& (65535 : Int32)), uX, uX, uX, uX, uX] [(.ref b2)]))
  refine own_go (fun tgt kst => XS.astore X11.here hx rfl (hb hby at_36) rfl rfl (l' := #[vI z0, vI z1, vI z2, vI z3, vI z4, vI z5, vI (0 : Int32), vI (z5 &&& (65535 : Int32)), vR b2, uX, uX, uX, uX]) rfl kst) ?_
  refine own_go (fun tgt kst => XS.iload X11.here hx rfl (hb hby at_38) rfl  kst) ?_
  refine own_go (fun tgt kst => XS.ifYes X11.here hx rfl (pc0 := 40) (pc' := 55) rfl (hb hby at_40) rfl ((if0 _ _).trans (teq (by decide : (0 : Int32) = (0 : Int32))).1) (by decide) (by decide) kst) ?_
  refine own_go (fun tgt kst => XS.iconst X11.here hx rfl (hb hby at_55) kst) ?_
  refine own_go (fun tgt kst => XS.istore X11.here hx rfl (hb hby at_56) rfl (l' := #[vI z0, vI z1, vI z2, vI z3, vI z4, vI z5, vI (0 : Int32), vI (z5 &&& (65535 : Int32)), vR b2, vI (0 : Int32), uX, uX, uX]) rfl kst) ?_
  refine own_go (fun tgt kst => XS.iload X11.here hx rfl (hb hby at_58) rfl  kst) ?_
  show OwnWk _ _ _ _ (T11.setTop (mkF m 60 #[vI z0, vI z1, vI z2, vI z3, vI z4, vI z5, vI (0 : Int32), vI (z5 &&& (65535 : Int32)), vR b2, vI (0 : Int32), uX, uX, uX] [(.int (0 : Int32))]))
  refine own_go (fun tgt kst => XS.ifYes X11.here hx rfl (pc0 := 60) (pc' := 78) rfl (hb hby at_60) rfl ((if0 _ _).trans (teq (by decide : (0 : Int32) = (0 : Int32))).1) (by decide) (by decide) kst) ?_
  refine own_go (fun tgt kst => XS.aconstNull X11.here hx rfl (hb hby at_78) kst) ?_
  refine own_go (fun tgt kst => XS.astore X11.here hx rfl (hb hby at_79) rfl rfl (l' := #[vI z0, vI z1, vI z2, vI z3, vI z4, vI z5, vI (0 : Int32), vI (z5 &&& (65535 : Int32)), vR b2, vI (0 : Int32), .val .null, uX, uX]) rfl kst) ?_
  show OwnWk _ _ _ _ (T11.setTop (mkF m 81 #[vI z0, vI z1, vI z2, vI z3, vI z4, vI z5, vI (0 : Int32), vI (z5 &&& (65535 : Int32)), vR b2, vI (0 : Int32), .val .null, uX, uX] []))
  obtain ⟨T15, h15, X15, e15, E15, A15, D15, -, st15⟩ := newO X11 hx hZ hown (wq hw 25 rfl) (wq hw 26 rfl) (wq hw 27 rfl) e11 (g := (mkF m 81 #[vI z0, vI z1, vI z2, vI z3, vI z4, vI z5, vI (0 : Int32), vI (z5 &&& (65535 : Int32)), vR b2, vI (0 : Int32), .val .null, uX, uX] [])) rfl (hb hby at_81) (by decide) (by decide)
  obtain ⟨b15, g15⟩ : ∃ z, z = h11.size := ⟨_, rfl⟩
  rw [← g15] at A15 D15 st15
  refine own_go st15 ?_
  have ne16 := own_nl F13.lt (Nat.le_of_eq g15.symm)
  have ge17 : n0 ≤ b15 := Nat.le_trans Z14 (Nat.le_of_eq g15.symm)
  have F18 := Old.ext F12 E15
  have F19 := Exa.ext E15 F13
  have Z20 := Nat.le_trans Z14 E15.1
  have F21 : Fld Z h15 b15 "com/example/enrichd/enrichd/core/Block" "first" "Lcom/example/enrichd/enrichd/core/Line;" .null := D15 (Or.inr (wq hw 33 rfl)) (ty := (.object "com/example/enrichd/enrichd/core/Line")) (by decide)
  have F22 : Fld Z h15 b15 "com/example/enrichd/enrichd/core/Block" "last" "Lcom/example/enrichd/enrichd/core/Line;" .null := D15 (Or.inr (wq hw 35 rfl)) (ty := (.object "com/example/enrichd/enrichd/core/Line")) (by decide)
  have F23 : Fld Z h15 b15 "com/example/enrichd/enrichd/core/Block" "headingLevel" "I" (.int (0 : Int32)) := D15 (Or.inr (wq hw 37 rfl)) (ty := .int) (by decide)
  have F24 : Fld Z h15 b15 "com/example/enrichd/enrichd/core/Block" "heading" "Ljava/lang/String;" .null := D15 (Or.inr (wq hw 39 rfl)) (ty := (.object "java/lang/String")) (by decide)
  show OwnWk _ _ _ _ (T15.setTop (mkF m 84 #[vI z0, vI z1, vI z2, vI z3, vI z4, vI z5, vI (0 : Int32), vI (z5 &&& (65535 : Int32)), vR b2, vI (0 : Int32), .val .null, uX, uX] [(.ref b15)]))
  refine own_go (fun tgt kst => XS.dup X15.here hx rfl (hb hby at_84) rfl rfl kst) ?_
  refine own_go (fun tgt kst => XS.aload X15.here hx rfl (hb hby at_85) rfl rfl  kst) ?_
  refine own_go (fun tgt kst => XS.aload X15.here hx rfl (hb hby at_87) rfl rfl  kst) ?_
  refine own_go (fun tgt kst => XS.iload X15.here hx rfl (hb hby at_89) rfl  kst) ?_
  refine own_go (fun tgt kst => XS.aload X15.here hx rfl (hb hby at_91) rfl rfl  kst) ?_
  show OwnWk _ _ _ _ (T15.setTop (mkF m 93 #[vI z0, vI z1, vI z2, vI z3, vI z4, vI z5, vI (0 : Int32), vI (z5 &&& (65535 : Int32)), vR b2, vI (0 : Int32), .val .null, uX, uX] [.null, (.int (0 : Int32)), (.ref b2), (.ref b2), (.ref b15), (.ref b15)]))
  refine own_callC X15 hx hZ (y := yN4) hown rfl (wq hw 28 rfl) (wq hw 29 rfl) (wq hw 27 rfl) (wq hw 30 rfl) (by decide) (a := b15) (argsL := [(.ref b2), (.ref b2), (.int (0 : Int32)), .null]) (rest := [(.ref b15)])  (h := h15) (bli0 l Z a0 hw b15 b2 b2 (0 : Int32) h15 n0 Z20 A15 F21 F22 F23 F24 ge17) e15 (W := 1) (by decide) (by decide) (by decide) (by decide) rfl (by rw [hml]; rfl) (lenOf pd_6 rfl) rfl (by show 2 * 0 + _ ≤ _; exact Nat.le_of_eq rfl) (hb hby at_93) (fun v25 T25 h25 L25 X25 e25 hQ25 => ?_)
  obtain ⟨rfl, Nq25, Kq25, Fh25⟩ := hQ25
  have N25 := Fr.app N11 Nq25
  have F26 := Old.keep F18 Kq25 (allS ge17 all0)
  have F27 := Exa.keep F19 Kq25
  have F28 := Exa.keep A15 Kq25
  have Z29 := Nat.le_trans Z20 Kq25.1
  show OwnWk _ _ _ _ (T25.setTop (mkF m 96 #[vI z0, vI z1, vI z2, vI z3, vI z4, vI z5, vI (0 : Int32), vI (z5 &&& (65535 : Int32)), vR b2, vI (0 : Int32), .val .null, uX, uX] [(.ref b15)]))
  refine own_go (fun tgt kst => XS.astore X25.here hx rfl (hb hby at_96) rfl rfl (l' := #[vI z0, vI z1, vI z2, vI z3, vI z4, vI z5, vI (0 : Int32), vI (z5 &&& (65535 : Int32)), vR b2, vI (0 : Int32), .val .null, vR b15, uX]) rfl kst) ?_
  refine own_go (fun tgt kst => XS.aload X25.here hx rfl (hb hby at_98) rfl rfl  kst) ?_
  refine own_go (fun tgt kst => XS.aload X25.here hx rfl (hb hby at_100) rfl rfl  kst) ?_
  show OwnWk _ _ _ _ (T25.setTop (mkF m 102 #[vI z0, vI z1, vI z2, vI z3, vI z4, vI z5, vI (0 : Int32), vI (z5 &&& (65535 : Int32)), vR b2, vI (0 : Int32), .val .null, vR b15, uX] [(.ref b2), (.ref b2)]))
  have lt30 : b2 < h25.size := F27.lt
  have lt31 : b15 < h25.size := F28.lt
  refine own_callS X25 hx hZ (y := yN5) hown (wq hw 40 rfl) (wq hw 41 rfl) (wq hw 27 rfl) (wq hw 42 rfl) (by decide) (argsL := [(.ref b2), (.ref b2)]) (rest := [])  (h := h25) (bof l Z a0 hw b2 b2 h25 n0 Z29 ) e25 (W := 0) (by decide) (by decide) (by decide) (by decide) rfl (by rw [hml]; rfl) (lenOf pd_8 rfl) rfl (by show 2 * 0 + _ ≤ _; exact Nat.le_of_eq rfl) (hb hby at_102) (fun v32 T32 h32 L32 X32 e32 hQ32 => ?_)
  obtain ⟨pb, rfl, Nq32, Kq32, sp32, Eb32, Fb32⟩ := hQ32
  have N32 := Fr.app N25 Nq32
  have F33 := Old.keep F26 Kq32 all0
  have F34 := Exa.keep F27 Kq32
  have F35 := Exa.keep F28 Kq32
  have F36 := Fld.keep Fh25 Kq32 nin0
  have Z37 := Nat.le_trans Z29 Kq32.1
  have ne38 := own_nl lt30 sp32
  have ne39 := own_nl lt31 sp32
  have ga40 : n0 ≤ pb := Nat.le_trans Z29 sp32
  show OwnWk _ _ _ _ (T32.setTop (mkF m 105 #[vI z0, vI z1, vI z2, vI z3, vI z4, vI z5, vI (0 : Int32), vI (z5 &&& (65535 : Int32)), vR b2, vI (0 : Int32), .val .null, vR b15, uX] [(.ref pb)]))
  refine own_go (fun tgt kst => XS.astore X32.here hx rfl (hb hby at_105) rfl rfl (l' := #[vI z0, vI z1, vI z2, vI z3, vI z4, vI z5, vI (0 : Int32), vI (z5 &&& (65535 : Int32)), vR b2, vI (0 : Int32), .val .null, vR b15, vR pb]) rfl kst) ?_
  refine own_go (fun tgt kst => XS.aload X32.here hx rfl (hb hby at_107) rfl rfl  kst) ?_
  show OwnWk _ _ _ _ (T32.setTop (mkF m 109 #[vI z0, vI z1, vI z2, vI z3, vI z4, vI z5, vI (0 : Int32), vI (z5 &&& (65535 : Int32)), vR b2, vI (0 : Int32), .val .null, vR b15, vR pb] [(.ref b15)]))
  refine own_callV X32 hx hZ (y := yN6) (z := yN6) hown (wq hw 45 rfl) (wq hw 46 rfl) (notFace_of_selects (args := #[]) (mvT hZ (wq hw 48 rfl))) (wq hw 48 rfl) (wq hw 47 rfl) (wq hw 27 rfl) (wq hw 49 rfl) (by decide) (a := b15) F35 (argsL := []) (rest := [])  (h := h32) (ish0 l Z a0 hw b15 h32 n0 Z37 F36) e32 (W := 0) (by decide) (by decide) (by decide) (by decide) rfl (by rw [hml]; rfl) (lenOf pd_9 rfl) rfl (by show 2 * 0 + _ ≤ _; exact Nat.le_of_eq rfl) (hb hby at_109) (fun v41 T41 h41 L41 X41 e41 hQ41 => ?_)
  obtain ⟨rfl, Nq41, q41⟩ := hQ41
  have N41 := Fr.app N32 Nq41
  rw [q41] at e41
  show OwnWk _ _ _ _ (T41.setTop (mkF m 112 #[vI z0, vI z1, vI z2, vI z3, vI z4, vI z5, vI (0 : Int32), vI (z5 &&& (65535 : Int32)), vR b2, vI (0 : Int32), .val .null, vR b15, vR pb] [(.int (0 : Int32))]))
  refine own_go (fun tgt kst => XS.iload X41.here hx rfl (hb hby at_112) rfl  kst) ?_
  refine own_go (fun tgt kst => XS.icmpNo X41.here hx rfl (hb hby at_114) rfl (teq (by decide : (0 : Int32) = (0 : Int32))).2 kst) ?_
  refine own_go (fun tgt kst => XS.aload X41.here hx rfl (hb hby at_117) rfl rfl  kst) ?_
  show OwnWk _ _ _ _ (T41.setTop (mkF m 119 #[vI z0, vI z1, vI z2, vI z3, vI z4, vI z5, vI (0 : Int32), vI (z5 &&& (65535 : Int32)), vR b2, vI (0 : Int32), .val .null, vR b15, vR pb] [(.ref pb)]))
  refine own_callV X41 hx hZ (y := yN6) (z := yN6) hown (wq hw 45 rfl) (wq hw 46 rfl) (notFace_of_selects (args := #[]) (mvT hZ (wq hw 48 rfl))) (wq hw 48 rfl) (wq hw 47 rfl) (wq hw 27 rfl) (wq hw 49 rfl) (by decide) (a := pb) Eb32 (argsL := []) (rest := [])  (h := h32) (ish0 l Z a0 hw pb h32 n0 Z37 Fb32) e41 (W := 0) (by decide) (by decide) (by decide) (by decide) rfl (by rw [hml]; rfl) (lenOf pd_9 rfl) rfl (by show 2 * 0 + _ ≤ _; exact Nat.le_of_eq rfl) (hb hby at_119) (fun v42 T42 h42 L42 X42 e42 hQ42 => ?_)
  obtain ⟨rfl, Nq42, q42⟩ := hQ42
  have N42 := Fr.app N41 Nq42
  rw [q42] at e42
  show OwnWk _ _ _ _ (T42.setTop (mkF m 122 #[vI z0, vI z1, vI z2, vI z3, vI z4, vI z5, vI (0 : Int32), vI (z5 &&& (65535 : Int32)), vR b2, vI (0 : Int32), .val .null, vR b15, vR pb] [(.int (0 : Int32))]))
  refine own_go (fun tgt kst => XS.ifNo X42.here hx rfl (hb hby at_122) rfl ((if0 _ _).trans (teq (by decide : (0 : Int32) = (0 : Int32))).2) kst) ?_
  refine own_go (fun tgt kst => XS.iconst X42.here hx rfl (hb hby at_125) kst) ?_
  refine own_go (fun tgt kst => XS.goto X42.here hx rfl (pc0 := 126) (pc' := 130) rfl (hb hby at_126) (by decide) (by decide) kst) ?_
  show OwnWk _ _ _ _ (T42.setTop (mkF m 130 #[vI z0, vI z1, vI z2, vI z3, vI z4, vI z5, vI (0 : Int32), vI (z5 &&& (65535 : Int32)), vR b2, vI (0 : Int32), .val .null, vR b15, vR pb] [(.int (1 : Int32))]))
  have X43s : Stand _ _ _ _ (s.setVm s.vm) _ _ _ _ _ _ _ _ _ := X42
  have hS : s.Since s.vm 0 := (State.WarmedH.refl s).since 0
  have hSk := Nat.zero_le h32.size
  exact own_retZW X43s hx hlk hret hS (by rw [e42]; exact hSk) (z' := (1 : Int32)) rfl (hb hby at_130) (by decide) (by decide) (by rw [e42]; exact ⟨rfl, N42⟩)
 ·
  refine own_go (fun tgt kst => XS.ifNo X0.here hx rfl (hb hby at_3) rfl ((if0 _ _).trans (feq hc1).1) kst) ?_
  show OwnWk _ _ _ _ (s₁.setTop (mkF m 6 #[vI z0, vI z1, vI z2, vI z3, vI z4, vI z5, uX, uX, uX, uX, uX, uX, uX] []))
  refine own_go (fun tgt kst => XS.iconst X0.here hx rfl (hb hby at_6) kst) ?_
  refine own_go (fun tgt kst => XS.goto X0.here hx rfl (pc0 := 7) (pc' := 11) rfl (hb hby at_7) (by decide) (by decide) kst) ?_
  refine own_go (fun tgt kst => XS.istore X0.here hx rfl (hb hby at_11) rfl (l' := #[vI z0, vI z1, vI z2, vI z3, vI z4, vI z5, vI (1 : Int32), uX, uX, uX, uX, uX, uX]) rfl kst) ?_
  refine own_go (fun tgt kst => XS.iload X0.here hx rfl (hb hby at_13) rfl  kst) ?_
  refine own_go (X0.ldcInt hx hown (mvT hZ (wq hw 0 rfl)) (g := (mkF m 15 #[vI z0, vI z1, vI z2, vI z3, vI z4, vI z5, vI (1 : Int32), uX, uX, uX, uX, uX, uX] [(.int z5)])) rfl (hb hby at_15)) ?_
  refine own_go (fun tgt kst => XS.iand X0.here hx rfl (hb hby at_17) rfl kst) ?_
  show OwnWk _ _ _ _ (s₁.setTop (mkF m 18 #[vI z0, vI z1, vI z2, vI z3, vI z4, vI z5, vI (1 : Int32), uX, uX, uX, uX, uX, uX] [(.int (z5 &&& (65535 : Int32)))]))
  refine own_go (fun tgt kst => XS.istore X0.here hx rfl (hb hby at_18) rfl (l' := #[vI z0, vI z1, vI z2, vI z3, vI z4, vI z5, vI (1 : Int32), vI (z5 &&& (65535 : Int32)), uX, uX, uX, uX, uX]) rfl kst) ?_
  show OwnWk _ _ _ _ (s₁.setTop (mkF m 20 #[vI z0, vI z1, vI z2, vI z3, vI z4, vI z5, vI (1 : Int32), vI (z5 &&& (65535 : Int32)), uX, uX, uX, uX, uX] []))
  obtain ⟨T44, h44, X44, e44, E44, A44, D44, -, st44⟩ := newO X0 hx hZ hown (wq hw 1 rfl) (wq hw 2 rfl) (wq hw 3 rfl) e0 (g := (mkF m 20 #[vI z0, vI z1, vI z2, vI z3, vI z4, vI z5, vI (1 : Int32), vI (z5 &&& (65535 : Int32)), uX, uX, uX, uX, uX] [])) rfl (hb hby at_20) (by decide) (by decide)
  obtain ⟨b44, g44⟩ : ∃ z, z = h0.size := ⟨_, rfl⟩
  rw [← g44] at A44 D44 st44
  refine own_go st44 ?_
  have ge45 : n0 ≤ b44 := Nat.le_trans Z0 (Nat.le_of_eq g44.symm)
  have F46 := Old.ext O0 E44
  have Z47 := Nat.le_trans Z0 E44.1
  have F48 : Fld Z h44 b44 "com/example/enrichd/enrichd/core/Line" "number" "I" (.int (0 : Int32)) := D44 (Or.inr (wq hw 16 rfl)) (ty := .int) (by decide)
  have F49 : Fld Z h44 b44 "com/example/enrichd/enrichd/core/Line" "start" "I" (.int (0 : Int32)) := D44 (Or.inr (wq hw 18 rfl)) (ty := .int) (by decide)
  have F50 : Fld Z h44 b44 "com/example/enrichd/enrichd/core/Line" "end" "I" (.int (0 : Int32)) := D44 (Or.inr (wq hw 20 rfl)) (ty := .int) (by decide)
  have F51 : Fld Z h44 b44 "com/example/enrichd/enrichd/core/Line" "startOffset" "I" (.int (0 : Int32)) := D44 (Or.inr (wq hw 22 rfl)) (ty := .int) (by decide)
  have F52 : Fld Z h44 b44 "com/example/enrichd/enrichd/core/Line" "endOffset" "I" (.int (0 : Int32)) := D44 (Or.inr (wq hw 24 rfl)) (ty := .int) (by decide)
  show OwnWk _ _ _ _ (T44.setTop (mkF m 23 #[vI z0, vI z1, vI z2, vI z3, vI z4, vI z5, vI (1 : Int32), vI (z5 &&& (65535 : Int32)), uX, uX, uX, uX, uX] [(.ref b44)]))
  refine own_go (fun tgt kst => XS.dup X44.here hx rfl (hb hby at_23) rfl rfl kst) ?_
  refine own_go (fun tgt kst => XS.iconst X44.here hx rfl (hb hby at_24) kst) ?_
  refine own_go (fun tgt kst => XS.iload X44.here hx rfl (hb hby at_25) rfl  kst) ?_
  refine own_go (fun tgt kst => XS.iload X44.here hx rfl (hb hby at_27) rfl  kst) ?_
  refine own_go (fun tgt kst => XS.iload X44.here hx rfl (hb hby at_29) rfl  kst) ?_
  refine own_go (fun tgt kst => XS.iload X44.here hx rfl (hb hby at_31) rfl  kst) ?_
  show OwnWk _ _ _ _ (T44.setTop (mkF m 33 #[vI z0, vI z1, vI z2, vI z3, vI z4, vI z5, vI (1 : Int32), vI (z5 &&& (65535 : Int32)), uX, uX, uX, uX, uX] [(.int (z5 &&& (65535 : Int32))), (.int (z5 &&& (65535 : Int32))), (.int (z5 &&& (65535 : Int32))), (.int (z5 &&& (65535 : Int32))), (.int (0 : Int32)), (.ref b44), (.ref b44)]))
  refine own_callC X44 hx hZ (y := yN1) hown rfl (wq hw 4 rfl) (wq hw 5 rfl) (wq hw 3 rfl) (wq hw 6 rfl) (by decide) (a := b44) (argsL := [(.int (0 : Int32)), (.int (z5 &&& (65535 : Int32))), (.int (z5 &&& (65535 : Int32))), (.int (z5 &&& (65535 : Int32))), (.int (z5 &&& (65535 : Int32)))]) (rest := [(.ref b44)])  (h := h44) (lni l Z a0 hw b44 (0 : Int32) (z5 &&& (65535 : Int32)) (z5 &&& (65535 : Int32)) (z5 &&& (65535 : Int32)) (z5 &&& (65535 : Int32)) h44 n0 Z47 A44 F48 F49 F50 F51 F52 ge45) e44 (W := 1) (by decide) (by decide) (by decide) (by decide) rfl (by rw [hml]; rfl) (lenOf pd_7 rfl) rfl (by show 2 * 0 + _ ≤ _; exact Nat.le_of_eq rfl) (hb hby at_33) (fun v53 T53 h53 L53 X53 e53 hQ53 => ?_)
  obtain ⟨rfl, Nq53, Kq53⟩ := hQ53
  have N53 := Fr.app N0 Nq53
  have F54 := Old.keep F46 Kq53 (allS ge45 all0)
  have F55 := Exa.keep A44 Kq53
  have Z56 := Nat.le_trans Z47 Kq53.1
  show OwnWk _ _ _ _ (T53.setTop (mkF m 36 #[vI z0, vI z1, vI z2, vI z3, vI z4, vI z5, vI (1 : Int32), vI (z5 &&& (65535 : Int32)), uX, uX, uX, uX, uX] [(.ref b44)]))
  refine own_go (fun tgt kst => XS.astore X53.here hx rfl (hb hby at_36) rfl rfl (l' := #[vI z0, vI z1, vI z2, vI z3, vI z4, vI z5, vI (1 : Int32), vI (z5 &&& (65535 : Int32)), vR b44, uX, uX, uX, uX]) rfl kst) ?_
  refine own_go (fun tgt kst => XS.iload X53.here hx rfl (hb hby at_38) rfl  kst) ?_
  refine own_go (fun tgt kst => XS.ifNo X53.here hx rfl (hb hby at_40) rfl ((if0 _ _).trans (feq (by decide : ¬ ((1 : Int32) = (0 : Int32)))).1) kst) ?_
  refine own_go (fun tgt kst => XS.iconst X53.here hx rfl (hb hby at_43) kst) ?_
  refine own_go (fun tgt kst => XS.iloadN X53.here hx rfl (hb hby at_44) rfl  kst) ?_
  refine own_go (X53.ldcInt hx hown (mvT hZ (wq hw 50 rfl)) (g := (mkF m 45 #[vI z0, vI z1, vI z2, vI z3, vI z4, vI z5, vI (1 : Int32), vI (z5 &&& (65535 : Int32)), vR b44, uX, uX, uX, uX] [(.int z1), (.int (1 : Int32))])) rfl (hb hby at_45)) ?_
  show OwnWk _ _ _ _ (T53.setTop (mkF m 47 #[vI z0, vI z1, vI z2, vI z3, vI z4, vI z5, vI (1 : Int32), vI (z5 &&& (65535 : Int32)), vR b44, uX, uX, uX, uX] [(.int (2147483647 : Int32)), (.int z1), (.int (1 : Int32))]))
  refine own_go (fun tgt kst => XS.iand X53.here hx rfl (hb hby at_47) rfl kst) ?_
  refine own_go (fun tgt kst => XS.bipush X53.here hx rfl (hb hby at_48) kst) ?_
  refine own_go (fun tgt kst => Jvm.RoadKit.iremM X53 hx rfl (hb hby at_50) rfl (by decide) kst) ?_
  show OwnWk _ _ _ _ (T53.setTop (mkF m 51 #[vI z0, vI z1, vI z2, vI z3, vI z4, vI z5, vI (1 : Int32), vI (z5 &&& (65535 : Int32)), vR b44, uX, uX, uX, uX] [(.int ((z1 &&& (2147483647 : Int32)) % (6 : Int32))), (.int (1 : Int32))]))
  obtain ⟨lv, h_lv⟩ : ∃ z : Int32, z = ((z1 &&& (2147483647 : Int32)) % (6 : Int32)) := ⟨_, rfl⟩
  rw [← h_lv]
  refine own_go (fun tgt kst => XS.iadd X53.here hx rfl (hb hby at_51) rfl kst) ?_
  refine own_go (fun tgt kst => XS.goto X53.here hx rfl (pc0 := 52) (pc' := 56) rfl (hb hby at_52) (by decide) (by decide) kst) ?_
  refine own_go (fun tgt kst => XS.istore X53.here hx rfl (hb hby at_56) rfl (l' := #[vI z0, vI z1, vI z2, vI z3, vI z4, vI z5, vI (1 : Int32), vI (z5 &&& (65535 : Int32)), vR b44, vI ((1 : Int32) + lv), uX, uX, uX]) rfl kst) ?_
  refine own_go (fun tgt kst => XS.iload X53.here hx rfl (hb hby at_58) rfl  kst) ?_
  refine own_go (fun tgt kst => XS.ifNo X53.here hx rfl (hb hby at_60) rfl ((if0 _ _).trans (feq (by decide : ¬ ((1 : Int32) = (0 : Int32)))).1) kst) ?_
  refine own_go (fun tgt kst => XS.iloadN X53.here hx rfl (hb hby at_63) rfl  kst) ?_
  show OwnWk _ _ _ _ (T53.setTop (mkF m 64 #[vI z0, vI z1, vI z2, vI z3, vI z4, vI z5, vI (1 : Int32), vI (z5 &&& (65535 : Int32)), vR b44, vI ((1 : Int32) + lv), uX, uX, uX] [(.int z2)]))
  refine own_go (X53.ldcInt hx hown (mvT hZ (wq hw 50 rfl)) (g := (mkF m 64 #[vI z0, vI z1, vI z2, vI z3, vI z4, vI z5, vI (1 : Int32), vI (z5 &&& (65535 : Int32)), vR b44, vI ((1 : Int32) + lv), uX, uX, uX] [(.int z2)])) rfl (hb hby at_64)) ?_
  refine own_go (fun tgt kst => XS.iand X53.here hx rfl (hb hby at_66) rfl kst) ?_
  refine own_go (fun tgt kst => XS.iconst X53.here hx rfl (hb hby at_67) kst) ?_
  refine own_go (fun tgt kst => Jvm.RoadKit.iremM X53 hx rfl (hb hby at_68) rfl (by decide) kst) ?_
  show OwnWk _ _ _ _ (T53.setTop (mkF m 69 #[vI z0, vI z1, vI z2, vI z3, vI z4, vI z5, vI (1 : Int32), vI (z5 &&& (65535 : Int32)), vR b44, vI ((1 : Int32) + lv), uX, uX, uX] [(.int ((z2 &&& (2147483647 : Int32)) % (3 : Int32)))]))
  obtain ⟨nN, hnN, enN⟩ := own_draw z2 2147483647 3 (by decide) (by decide) (by decide)
  rw [show ((z2 &&& (2147483647 : Int32)) % (3 : Int32)) = Int32.ofNat nN from enN]
  show OwnWk _ _ _ _ (T53.setTop (mkF m 69 #[vI z0, vI z1, vI z2, vI z3, vI z4, vI z5, vI (1 : Int32), vI (z5 &&& (65535 : Int32)), vR b44, vI ((1 : Int32) + lv), uX, uX, uX] [(.int (Int32.ofNat nN))]))
  rcases (by omega : nN = 0 ∨ nN = 1 ∨ nN = 2) with rfl | rfl | rfl
  ·
   show OwnWk _ _ _ _ (T53.setTop (mkF m 69 #[vI z0, vI z1, vI z2, vI z3, vI z4, vI z5, vI (1 : Int32), vI (z5 &&& (65535 : Int32)), vR b44, vI ((1 : Int32) + lv), uX, uX, uX] [(.int (0 : Int32))]))
   refine own_go (fun tgt kst => XS.iloadN X53.here hx rfl (hb hby at_69) rfl  kst) ?_
   refine own_go (fun tgt kst => XS.iload X53.here hx rfl (hb hby at_70) rfl  kst) ?_
   show OwnWk _ _ _ _ (T53.setTop (mkF m 72 #[vI z0, vI z1, vI z2, vI z3, vI z4, vI z5, vI (1 : Int32), vI (z5 &&& (65535 : Int32)), vR b44, vI ((1 : Int32) + lv), uX, uX, uX] [(.int z4), (.int z3), (.int (0 : Int32))]))
   have lt57 : b44 < h53.size := F55.lt
   refine own_callSI X53 hx hZ hI (y := yN7) hown (wq hw 51 rfl) (wq hw 52 rfl) (wq hw 53 rfl) (wq hw 54 rfl) (by decide) (argsL := [(.int (0 : Int32)), (.int z3), (.int z4)]) (rest := []) (h := h53) (drw0 l Z a0 hw cv z3 z4 h53 n0 Z56 F54 S_c hcv hh0 hcw) e53 (W := 0) (by decide) (by decide) (by decide) (by decide) rfl (by rw [hml]; rfl) (lenOf pd_10 rfl) rfl (by show 2 * 0 + _ ≤ _; exact Nat.le_of_eq rfl) (hb hby at_72) (fun v58 T58 h58 L58 X58 e58 hS58 hZ58 hown58 gr58 hQ58 => ?_)
   have hS := hS58
   have hZ := hZ58
   have hown := hown58
   obtain ⟨xt, rfl, Nq58, Kq58, sx58⟩ := hQ58
   have N58 := Fr.app N53 Nq58
   have F59 := Old.keep F54 Kq58 all0
   have F60 := Exa.keep F55 Kq58
   have Z61 := Nat.le_trans Z56 Kq58.1
   have ne62 := own_nl lt57 sx58
   have ga63 : n0 ≤ xt := Nat.le_trans Z56 sx58
   show OwnWk _ _ _ _ (T58.setTop (mkF m 75 #[vI z0, vI z1, vI z2, vI z3, vI z4, vI z5, vI (1 : Int32), vI (z5 &&& (65535 : Int32)), vR b44, vI ((1 : Int32) + lv), uX, uX, uX] [(.ref xt)]))
   refine own_go (fun tgt kst => XS.goto X58.here hx rfl (pc0 := 75) (pc' := 79) rfl (hb hby at_75) (by decide) (by decide) kst) ?_
   refine own_go (fun tgt kst => XS.astore X58.here hx rfl (hb hby at_79) rfl rfl (l' := #[vI z0, vI z1, vI z2, vI z3, vI z4, vI z5, vI (1 : Int32), vI (z5 &&& (65535 : Int32)), vR b44, vI ((1 : Int32) + lv), vR xt, uX, uX]) rfl kst) ?_
   show OwnWk _ _ _ _ (T58.setTop (mkF m 81 #[vI z0, vI z1, vI z2, vI z3, vI z4, vI z5, vI (1 : Int32), vI (z5 &&& (65535 : Int32)), vR b44, vI ((1 : Int32) + lv), vR xt, uX, uX] []))
   obtain ⟨T64, h64, X64, e64, E64, A64, D64, -, st64⟩ := newO X58 hx hZ hown (wq hw 25 rfl) (wq hw 26 rfl) (wq hw 27 rfl) e58 (g := (mkF m 81 #[vI z0, vI z1, vI z2, vI z3, vI z4, vI z5, vI (1 : Int32), vI (z5 &&& (65535 : Int32)), vR b44, vI ((1 : Int32) + lv), vR xt, uX, uX] [])) rfl (hb hby at_81) (by decide) (by decide)
   obtain ⟨b64, g64⟩ : ∃ z, z = h58.size := ⟨_, rfl⟩
   rw [← g64] at A64 D64 st64
   refine own_go st64 ?_
   have ne65 := own_nl F60.lt (Nat.le_of_eq g64.symm)
   have ge66 : n0 ≤ b64 := Nat.le_trans Z61 (Nat.le_of_eq g64.symm)
   have F67 := Old.ext F59 E64
   have F68 := Exa.ext E64 F60
   have Z69 := Nat.le_trans Z61 E64.1
   have Z70 := Nat.le_trans (Nat.le_refl h58.size) E64.1
   have F71 : Fld Z h64 b64 "com/example/enrichd/enrichd/core/Block" "first" "Lcom/example/enrichd/enrichd/core/Line;" .null := D64 (Or.inr (wq hw 33 rfl)) (ty := (.object "com/example/enrichd/enrichd/core/Line")) (by decide)
   have F72 : Fld Z h64 b64 "com/example/enrichd/enrichd/core/Block" "last" "Lcom/example/enrichd/enrichd/core/Line;" .null := D64 (Or.inr (wq hw 35 rfl)) (ty := (.object "com/example/enrichd/enrichd/core/Line")) (by decide)
   have F73 : Fld Z h64 b64 "com/example/enrichd/enrichd/core/Block" "headingLevel" "I" (.int (0 : Int32)) := D64 (Or.inr (wq hw 37 rfl)) (ty := .int) (by decide)
   have F74 : Fld Z h64 b64 "com/example/enrichd/enrichd/core/Block" "heading" "Ljava/lang/String;" .null := D64 (Or.inr (wq hw 39 rfl)) (ty := (.object "java/lang/String")) (by decide)
   show OwnWk _ _ _ _ (T64.setTop (mkF m 84 #[vI z0, vI z1, vI z2, vI z3, vI z4, vI z5, vI (1 : Int32), vI (z5 &&& (65535 : Int32)), vR b44, vI ((1 : Int32) + lv), vR xt, uX, uX] [(.ref b64)]))
   refine own_go (fun tgt kst => XS.dup X64.here hx rfl (hb hby at_84) rfl rfl kst) ?_
   refine own_go (fun tgt kst => XS.aload X64.here hx rfl (hb hby at_85) rfl rfl  kst) ?_
   refine own_go (fun tgt kst => XS.aload X64.here hx rfl (hb hby at_87) rfl rfl  kst) ?_
   refine own_go (fun tgt kst => XS.iload X64.here hx rfl (hb hby at_89) rfl  kst) ?_
   refine own_go (fun tgt kst => XS.aload X64.here hx rfl (hb hby at_91) rfl rfl  kst) ?_
   show OwnWk _ _ _ _ (T64.setTop (mkF m 93 #[vI z0, vI z1, vI z2, vI z3, vI z4, vI z5, vI (1 : Int32), vI (z5 &&& (65535 : Int32)), vR b44, vI ((1 : Int32) + lv), vR xt, uX, uX] [(.ref xt), (.int ((1 : Int32) + lv)), (.ref b44), (.ref b44), (.ref b64), (.ref b64)]))
   refine own_callC X64 hx hZ (y := yN4) hown rfl (wq hw 28 rfl) (wq hw 29 rfl) (wq hw 27 rfl) (wq hw 30 rfl) (by decide) (a := b64) (argsL := [(.ref b44), (.ref b44), (.int ((1 : Int32) + lv)), (.ref xt)]) (rest := [(.ref b64)])  (h := h64) (bli1 l Z a0 hw b64 b44 b44 xt ((1 : Int32) + lv) h64 n0 Z69 A64 F71 F72 F73 F74 ge66) e64 (W := 1) (by decide) (by decide) (by decide) (by decide) rfl (by rw [hml]; rfl) (lenOf pd_6 rfl) rfl (by show 2 * 0 + _ ≤ _; exact Nat.le_of_eq rfl) (hb hby at_93) (fun v75 T75 h75 L75 X75 e75 hQ75 => ?_)
   obtain ⟨rfl, Nq75, Kq75, Fh75⟩ := hQ75
   have N75 := Fr.app N58 Nq75
   have F76 := Old.keep F67 Kq75 (allS ge66 all0)
   have F77 := Exa.keep F68 Kq75
   have F78 := Exa.keep A64 Kq75
   have Z79 := Nat.le_trans Z69 Kq75.1
   have Z80 := Nat.le_trans Z70 Kq75.1
   show OwnWk _ _ _ _ (T75.setTop (mkF m 96 #[vI z0, vI z1, vI z2, vI z3, vI z4, vI z5, vI (1 : Int32), vI (z5 &&& (65535 : Int32)), vR b44, vI ((1 : Int32) + lv), vR xt, uX, uX] [(.ref b64)]))
   refine own_go (fun tgt kst => XS.astore X75.here hx rfl (hb hby at_96) rfl rfl (l' := #[vI z0, vI z1, vI z2, vI z3, vI z4, vI z5, vI (1 : Int32), vI (z5 &&& (65535 : Int32)), vR b44, vI ((1 : Int32) + lv), vR xt, vR b64, uX]) rfl kst) ?_
   refine own_go (fun tgt kst => XS.aload X75.here hx rfl (hb hby at_98) rfl rfl  kst) ?_
   refine own_go (fun tgt kst => XS.aload X75.here hx rfl (hb hby at_100) rfl rfl  kst) ?_
   show OwnWk _ _ _ _ (T75.setTop (mkF m 102 #[vI z0, vI z1, vI z2, vI z3, vI z4, vI z5, vI (1 : Int32), vI (z5 &&& (65535 : Int32)), vR b44, vI ((1 : Int32) + lv), vR xt, vR b64, uX] [(.ref b44), (.ref b44)]))
   have lt81 : b44 < h75.size := F77.lt
   have lt82 : b64 < h75.size := F78.lt
   refine own_callS X75 hx hZ (y := yN5) hown (wq hw 40 rfl) (wq hw 41 rfl) (wq hw 27 rfl) (wq hw 42 rfl) (by decide) (argsL := [(.ref b44), (.ref b44)]) (rest := [])  (h := h75) (bof l Z a0 hw b44 b44 h75 n0 Z79 ) e75 (W := 0) (by decide) (by decide) (by decide) (by decide) rfl (by rw [hml]; rfl) (lenOf pd_8 rfl) rfl (by show 2 * 0 + _ ≤ _; exact Nat.le_of_eq rfl) (hb hby at_102) (fun v83 T83 h83 L83 X83 e83 hQ83 => ?_)
   obtain ⟨pb, rfl, Nq83, Kq83, sp83, Eb83, Fb83⟩ := hQ83
   have N83 := Fr.app N75 Nq83
   have F84 := Old.keep F76 Kq83 all0
   have F85 := Exa.keep F77 Kq83
   have F86 := Exa.keep F78 Kq83
   have F87 := Fld.keep Fh75 Kq83 nin0
   have Z88 := Nat.le_trans Z79 Kq83.1
   have Z89 := Nat.le_trans Z80 Kq83.1
   have ne90 := own_nl lt81 sp83
   have ne91 := own_nl lt82 sp83
   have ga92 : n0 ≤ pb := Nat.le_trans Z79 sp83
   show OwnWk _ _ _ _ (T83.setTop (mkF m 105 #[vI z0, vI z1, vI z2, vI z3, vI z4, vI z5, vI (1 : Int32), vI (z5 &&& (65535 : Int32)), vR b44, vI ((1 : Int32) + lv), vR xt, vR b64, uX] [(.ref pb)]))
   refine own_go (fun tgt kst => XS.astore X83.here hx rfl (hb hby at_105) rfl rfl (l' := #[vI z0, vI z1, vI z2, vI z3, vI z4, vI z5, vI (1 : Int32), vI (z5 &&& (65535 : Int32)), vR b44, vI ((1 : Int32) + lv), vR xt, vR b64, vR pb]) rfl kst) ?_
   refine own_go (fun tgt kst => XS.aload X83.here hx rfl (hb hby at_107) rfl rfl  kst) ?_
   show OwnWk _ _ _ _ (T83.setTop (mkF m 109 #[vI z0, vI z1, vI z2, vI z3, vI z4, vI z5, vI (1 : Int32), vI (z5 &&& (65535 : Int32)), vR b44, vI ((1 : Int32) + lv), vR xt, vR b64, vR pb] [(.ref b64)]))
   refine own_callV X83 hx hZ (y := yN6) (z := yN6) hown (wq hw 45 rfl) (wq hw 46 rfl) (notFace_of_selects (args := #[]) (mvT hZ (wq hw 48 rfl))) (wq hw 48 rfl) (wq hw 47 rfl) (wq hw 27 rfl) (wq hw 49 rfl) (by decide) (a := b64) F86 (argsL := []) (rest := [])  (h := h83) (ish1 l Z a0 hw b64 xt h83 n0 Z88 F87) e83 (W := 0) (by decide) (by decide) (by decide) (by decide) rfl (by rw [hml]; rfl) (lenOf pd_9 rfl) rfl (by show 2 * 0 + _ ≤ _; exact Nat.le_of_eq rfl) (hb hby at_109) (fun v93 T93 h93 L93 X93 e93 hQ93 => ?_)
   obtain ⟨rfl, Nq93, q93⟩ := hQ93
   have N93 := Fr.app N83 Nq93
   rw [q93] at e93
   show OwnWk _ _ _ _ (T93.setTop (mkF m 112 #[vI z0, vI z1, vI z2, vI z3, vI z4, vI z5, vI (1 : Int32), vI (z5 &&& (65535 : Int32)), vR b44, vI ((1 : Int32) + lv), vR xt, vR b64, vR pb] [(.int (1 : Int32))]))
   refine own_go (fun tgt kst => XS.iload X93.here hx rfl (hb hby at_112) rfl  kst) ?_
   refine own_go (fun tgt kst => XS.icmpNo X93.here hx rfl (hb hby at_114) rfl (teq (by decide : (1 : Int32) = (1 : Int32))).2 kst) ?_
   refine own_go (fun tgt kst => XS.aload X93.here hx rfl (hb hby at_117) rfl rfl  kst) ?_
   show OwnWk _ _ _ _ (T93.setTop (mkF m 119 #[vI z0, vI z1, vI z2, vI z3, vI z4, vI z5, vI (1 : Int32), vI (z5 &&& (65535 : Int32)), vR b44, vI ((1 : Int32) + lv), vR xt, vR b64, vR pb] [(.ref pb)]))
   refine own_callV X93 hx hZ (y := yN6) (z := yN6) hown (wq hw 45 rfl) (wq hw 46 rfl) (notFace_of_selects (args := #[]) (mvT hZ (wq hw 48 rfl))) (wq hw 48 rfl) (wq hw 47 rfl) (wq hw 27 rfl) (wq hw 49 rfl) (by decide) (a := pb) Eb83 (argsL := []) (rest := [])  (h := h83) (ish0 l Z a0 hw pb h83 n0 Z88 Fb83) e93 (W := 0) (by decide) (by decide) (by decide) (by decide) rfl (by rw [hml]; rfl) (lenOf pd_9 rfl) rfl (by show 2 * 0 + _ ≤ _; exact Nat.le_of_eq rfl) (hb hby at_119) (fun v94 T94 h94 L94 X94 e94 hQ94 => ?_)
   obtain ⟨rfl, Nq94, q94⟩ := hQ94
   have N94 := Fr.app N93 Nq94
   rw [q94] at e94
   show OwnWk _ _ _ _ (T94.setTop (mkF m 122 #[vI z0, vI z1, vI z2, vI z3, vI z4, vI z5, vI (1 : Int32), vI (z5 &&& (65535 : Int32)), vR b44, vI ((1 : Int32) + lv), vR xt, vR b64, vR pb] [(.int (0 : Int32))]))
   refine own_go (fun tgt kst => XS.ifNo X94.here hx rfl (hb hby at_122) rfl ((if0 _ _).trans (teq (by decide : (0 : Int32) = (0 : Int32))).2) kst) ?_
   refine own_go (fun tgt kst => XS.iconst X94.here hx rfl (hb hby at_125) kst) ?_
   refine own_go (fun tgt kst => XS.goto X94.here hx rfl (pc0 := 126) (pc' := 130) rfl (hb hby at_126) (by decide) (by decide) kst) ?_
   show OwnWk _ _ _ _ (T94.setTop (mkF m 130 #[vI z0, vI z1, vI z2, vI z3, vI z4, vI z5, vI (1 : Int32), vI (z5 &&& (65535 : Int32)), vR b44, vI ((1 : Int32) + lv), vR xt, vR b64, vR pb] [(.int (1 : Int32))]))
   exact own_retZW X94 hx hlk hret hS (by rw [e94]; exact Z89) (z' := (1 : Int32)) rfl (hb hby at_130) (by decide) (by decide) (by rw [e94]; exact ⟨rfl, N94⟩)
  ·
   show OwnWk _ _ _ _ (T53.setTop (mkF m 69 #[vI z0, vI z1, vI z2, vI z3, vI z4, vI z5, vI (1 : Int32), vI (z5 &&& (65535 : Int32)), vR b44, vI ((1 : Int32) + lv), uX, uX, uX] [(.int (1 : Int32))]))
   refine own_go (fun tgt kst => XS.iloadN X53.here hx rfl (hb hby at_69) rfl  kst) ?_
   refine own_go (fun tgt kst => XS.iload X53.here hx rfl (hb hby at_70) rfl  kst) ?_
   show OwnWk _ _ _ _ (T53.setTop (mkF m 72 #[vI z0, vI z1, vI z2, vI z3, vI z4, vI z5, vI (1 : Int32), vI (z5 &&& (65535 : Int32)), vR b44, vI ((1 : Int32) + lv), uX, uX, uX] [(.int z4), (.int z3), (.int (1 : Int32))]))
   have lt95 : b44 < h53.size := F55.lt
   refine own_callS X53 hx hZ (y := yN7) hown (wq hw 51 rfl) (wq hw 52 rfl) (wq hw 53 rfl) (wq hw 54 rfl) (by decide) (argsL := [(.int (1 : Int32)), (.int z3), (.int z4)]) (rest := [])  (h := h53) (drw1 l Z a0 hw cv z3 z4 h53 n0 Z56 F54 S_c hcv) e53 (W := 0) (by decide) (by decide) (by decide) (by decide) rfl (by rw [hml]; rfl) (lenOf pd_10 rfl) rfl (by show 2 * 0 + _ ≤ _; exact Nat.le_of_eq rfl) (hb hby at_72) (fun v96 T96 h96 L96 X96 e96 hQ96 => ?_)
   obtain ⟨xt, rfl, Nq96, Kq96, sx96⟩ := hQ96
   have N96 := Fr.app N53 Nq96
   have F97 := Old.keep F54 Kq96 all0
   have F98 := Exa.keep F55 Kq96
   have Z99 := Nat.le_trans Z56 Kq96.1
   have ne100 := own_nl lt95 sx96
   have ga101 : n0 ≤ xt := Nat.le_trans Z56 sx96
   show OwnWk _ _ _ _ (T96.setTop (mkF m 75 #[vI z0, vI z1, vI z2, vI z3, vI z4, vI z5, vI (1 : Int32), vI (z5 &&& (65535 : Int32)), vR b44, vI ((1 : Int32) + lv), uX, uX, uX] [(.ref xt)]))
   refine own_go (fun tgt kst => XS.goto X96.here hx rfl (pc0 := 75) (pc' := 79) rfl (hb hby at_75) (by decide) (by decide) kst) ?_
   refine own_go (fun tgt kst => XS.astore X96.here hx rfl (hb hby at_79) rfl rfl (l' := #[vI z0, vI z1, vI z2, vI z3, vI z4, vI z5, vI (1 : Int32), vI (z5 &&& (65535 : Int32)), vR b44, vI ((1 : Int32) + lv), vR xt, uX, uX]) rfl kst) ?_
   show OwnWk _ _ _ _ (T96.setTop (mkF m 81 #[vI z0, vI z1, vI z2, vI z3, vI z4, vI z5, vI (1 : Int32), vI (z5 &&& (65535 : Int32)), vR b44, vI ((1 : Int32) + lv), vR xt, uX, uX] []))
   obtain ⟨T102, h102, X102, e102, E102, A102, D102, -, st102⟩ := newO X96 hx hZ hown (wq hw 25 rfl) (wq hw 26 rfl) (wq hw 27 rfl) e96 (g := (mkF m 81 #[vI z0, vI z1, vI z2, vI z3, vI z4, vI z5, vI (1 : Int32), vI (z5 &&& (65535 : Int32)), vR b44, vI ((1 : Int32) + lv), vR xt, uX, uX] [])) rfl (hb hby at_81) (by decide) (by decide)
   obtain ⟨b102, g102⟩ : ∃ z, z = h96.size := ⟨_, rfl⟩
   rw [← g102] at A102 D102 st102
   refine own_go st102 ?_
   have ne103 := own_nl F98.lt (Nat.le_of_eq g102.symm)
   have ge104 : n0 ≤ b102 := Nat.le_trans Z99 (Nat.le_of_eq g102.symm)
   have F105 := Old.ext F97 E102
   have F106 := Exa.ext E102 F98
   have Z107 := Nat.le_trans Z99 E102.1
   have F108 : Fld Z h102 b102 "com/example/enrichd/enrichd/core/Block" "first" "Lcom/example/enrichd/enrichd/core/Line;" .null := D102 (Or.inr (wq hw 33 rfl)) (ty := (.object "com/example/enrichd/enrichd/core/Line")) (by decide)
   have F109 : Fld Z h102 b102 "com/example/enrichd/enrichd/core/Block" "last" "Lcom/example/enrichd/enrichd/core/Line;" .null := D102 (Or.inr (wq hw 35 rfl)) (ty := (.object "com/example/enrichd/enrichd/core/Line")) (by decide)
   have F110 : Fld Z h102 b102 "com/example/enrichd/enrichd/core/Block" "headingLevel" "I" (.int (0 : Int32)) := D102 (Or.inr (wq hw 37 rfl)) (ty := .int) (by decide)
   have F111 : Fld Z h102 b102 "com/example/enrichd/enrichd/core/Block" "heading" "Ljava/lang/String;" .null := D102 (Or.inr (wq hw 39 rfl)) (ty := (.object "java/lang/String")) (by decide)
   show OwnWk _ _ _ _ (T102.setTop (mkF m 84 #[vI z0, vI z1, vI z2, vI z3, vI z4, vI z5, vI (1 : Int32), vI (z5 &&& (65535 : Int32)), vR b44, vI ((1 : Int32) + lv), vR xt, uX, uX] [(.ref b102)]))
   refine own_go (fun tgt kst => XS.dup X102.here hx rfl (hb hby at_84) rfl rfl kst) ?_
   refine own_go (fun tgt kst => XS.aload X102.here hx rfl (hb hby at_85) rfl rfl  kst) ?_
   refine own_go (fun tgt kst => XS.aload X102.here hx rfl (hb hby at_87) rfl rfl  kst) ?_
   refine own_go (fun tgt kst => XS.iload X102.here hx rfl (hb hby at_89) rfl  kst) ?_
   refine own_go (fun tgt kst => XS.aload X102.here hx rfl (hb hby at_91) rfl rfl  kst) ?_
   show OwnWk _ _ _ _ (T102.setTop (mkF m 93 #[vI z0, vI z1, vI z2, vI z3, vI z4, vI z5, vI (1 : Int32), vI (z5 &&& (65535 : Int32)), vR b44, vI ((1 : Int32) + lv), vR xt, uX, uX] [(.ref xt), (.int ((1 : Int32) + lv)), (.ref b44), (.ref b44), (.ref b102), (.ref b102)]))
   refine own_callC X102 hx hZ (y := yN4) hown rfl (wq hw 28 rfl) (wq hw 29 rfl) (wq hw 27 rfl) (wq hw 30 rfl) (by decide) (a := b102) (argsL := [(.ref b44), (.ref b44), (.int ((1 : Int32) + lv)), (.ref xt)]) (rest := [(.ref b102)])  (h := h102) (bli1 l Z a0 hw b102 b44 b44 xt ((1 : Int32) + lv) h102 n0 Z107 A102 F108 F109 F110 F111 ge104) e102 (W := 1) (by decide) (by decide) (by decide) (by decide) rfl (by rw [hml]; rfl) (lenOf pd_6 rfl) rfl (by show 2 * 0 + _ ≤ _; exact Nat.le_of_eq rfl) (hb hby at_93) (fun v112 T112 h112 L112 X112 e112 hQ112 => ?_)
   obtain ⟨rfl, Nq112, Kq112, Fh112⟩ := hQ112
   have N112 := Fr.app N96 Nq112
   have F113 := Old.keep F105 Kq112 (allS ge104 all0)
   have F114 := Exa.keep F106 Kq112
   have F115 := Exa.keep A102 Kq112
   have Z116 := Nat.le_trans Z107 Kq112.1
   show OwnWk _ _ _ _ (T112.setTop (mkF m 96 #[vI z0, vI z1, vI z2, vI z3, vI z4, vI z5, vI (1 : Int32), vI (z5 &&& (65535 : Int32)), vR b44, vI ((1 : Int32) + lv), vR xt, uX, uX] [(.ref b102)]))
   refine own_go (fun tgt kst => XS.astore X112.here hx rfl (hb hby at_96) rfl rfl (l' := #[vI z0, vI z1, vI z2, vI z3, vI z4, vI z5, vI (1 : Int32), vI (z5 &&& (65535 : Int32)), vR b44, vI ((1 : Int32) + lv), vR xt, vR b102, uX]) rfl kst) ?_
   refine own_go (fun tgt kst => XS.aload X112.here hx rfl (hb hby at_98) rfl rfl  kst) ?_
   refine own_go (fun tgt kst => XS.aload X112.here hx rfl (hb hby at_100) rfl rfl  kst) ?_
   show OwnWk _ _ _ _ (T112.setTop (mkF m 102 #[vI z0, vI z1, vI z2, vI z3, vI z4, vI z5, vI (1 : Int32), vI (z5 &&& (65535 : Int32)), vR b44, vI ((1 : Int32) + lv), vR xt, vR b102, uX] [(.ref b44), (.ref b44)]))
   have lt117 : b44 < h112.size := F114.lt
   have lt118 : b102 < h112.size := F115.lt
   refine own_callS X112 hx hZ (y := yN5) hown (wq hw 40 rfl) (wq hw 41 rfl) (wq hw 27 rfl) (wq hw 42 rfl) (by decide) (argsL := [(.ref b44), (.ref b44)]) (rest := [])  (h := h112) (bof l Z a0 hw b44 b44 h112 n0 Z116 ) e112 (W := 0) (by decide) (by decide) (by decide) (by decide) rfl (by rw [hml]; rfl) (lenOf pd_8 rfl) rfl (by show 2 * 0 + _ ≤ _; exact Nat.le_of_eq rfl) (hb hby at_102) (fun v119 T119 h119 L119 X119 e119 hQ119 => ?_)
   obtain ⟨pb, rfl, Nq119, Kq119, sp119, Eb119, Fb119⟩ := hQ119
   have N119 := Fr.app N112 Nq119
   have F120 := Old.keep F113 Kq119 all0
   have F121 := Exa.keep F114 Kq119
   have F122 := Exa.keep F115 Kq119
   have F123 := Fld.keep Fh112 Kq119 nin0
   have Z124 := Nat.le_trans Z116 Kq119.1
   have ne125 := own_nl lt117 sp119
   have ne126 := own_nl lt118 sp119
   have ga127 : n0 ≤ pb := Nat.le_trans Z116 sp119
   show OwnWk _ _ _ _ (T119.setTop (mkF m 105 #[vI z0, vI z1, vI z2, vI z3, vI z4, vI z5, vI (1 : Int32), vI (z5 &&& (65535 : Int32)), vR b44, vI ((1 : Int32) + lv), vR xt, vR b102, uX] [(.ref pb)]))
   refine own_go (fun tgt kst => XS.astore X119.here hx rfl (hb hby at_105) rfl rfl (l' := #[vI z0, vI z1, vI z2, vI z3, vI z4, vI z5, vI (1 : Int32), vI (z5 &&& (65535 : Int32)), vR b44, vI ((1 : Int32) + lv), vR xt, vR b102, vR pb]) rfl kst) ?_
   refine own_go (fun tgt kst => XS.aload X119.here hx rfl (hb hby at_107) rfl rfl  kst) ?_
   show OwnWk _ _ _ _ (T119.setTop (mkF m 109 #[vI z0, vI z1, vI z2, vI z3, vI z4, vI z5, vI (1 : Int32), vI (z5 &&& (65535 : Int32)), vR b44, vI ((1 : Int32) + lv), vR xt, vR b102, vR pb] [(.ref b102)]))
   refine own_callV X119 hx hZ (y := yN6) (z := yN6) hown (wq hw 45 rfl) (wq hw 46 rfl) (notFace_of_selects (args := #[]) (mvT hZ (wq hw 48 rfl))) (wq hw 48 rfl) (wq hw 47 rfl) (wq hw 27 rfl) (wq hw 49 rfl) (by decide) (a := b102) F122 (argsL := []) (rest := [])  (h := h119) (ish1 l Z a0 hw b102 xt h119 n0 Z124 F123) e119 (W := 0) (by decide) (by decide) (by decide) (by decide) rfl (by rw [hml]; rfl) (lenOf pd_9 rfl) rfl (by show 2 * 0 + _ ≤ _; exact Nat.le_of_eq rfl) (hb hby at_109) (fun v128 T128 h128 L128 X128 e128 hQ128 => ?_)
   obtain ⟨rfl, Nq128, q128⟩ := hQ128
   have N128 := Fr.app N119 Nq128
   rw [q128] at e128
   show OwnWk _ _ _ _ (T128.setTop (mkF m 112 #[vI z0, vI z1, vI z2, vI z3, vI z4, vI z5, vI (1 : Int32), vI (z5 &&& (65535 : Int32)), vR b44, vI ((1 : Int32) + lv), vR xt, vR b102, vR pb] [(.int (1 : Int32))]))
   refine own_go (fun tgt kst => XS.iload X128.here hx rfl (hb hby at_112) rfl  kst) ?_
   refine own_go (fun tgt kst => XS.icmpNo X128.here hx rfl (hb hby at_114) rfl (teq (by decide : (1 : Int32) = (1 : Int32))).2 kst) ?_
   refine own_go (fun tgt kst => XS.aload X128.here hx rfl (hb hby at_117) rfl rfl  kst) ?_
   show OwnWk _ _ _ _ (T128.setTop (mkF m 119 #[vI z0, vI z1, vI z2, vI z3, vI z4, vI z5, vI (1 : Int32), vI (z5 &&& (65535 : Int32)), vR b44, vI ((1 : Int32) + lv), vR xt, vR b102, vR pb] [(.ref pb)]))
   refine own_callV X128 hx hZ (y := yN6) (z := yN6) hown (wq hw 45 rfl) (wq hw 46 rfl) (notFace_of_selects (args := #[]) (mvT hZ (wq hw 48 rfl))) (wq hw 48 rfl) (wq hw 47 rfl) (wq hw 27 rfl) (wq hw 49 rfl) (by decide) (a := pb) Eb119 (argsL := []) (rest := [])  (h := h119) (ish0 l Z a0 hw pb h119 n0 Z124 Fb119) e128 (W := 0) (by decide) (by decide) (by decide) (by decide) rfl (by rw [hml]; rfl) (lenOf pd_9 rfl) rfl (by show 2 * 0 + _ ≤ _; exact Nat.le_of_eq rfl) (hb hby at_119) (fun v129 T129 h129 L129 X129 e129 hQ129 => ?_)
   obtain ⟨rfl, Nq129, q129⟩ := hQ129
   have N129 := Fr.app N128 Nq129
   rw [q129] at e129
   show OwnWk _ _ _ _ (T129.setTop (mkF m 122 #[vI z0, vI z1, vI z2, vI z3, vI z4, vI z5, vI (1 : Int32), vI (z5 &&& (65535 : Int32)), vR b44, vI ((1 : Int32) + lv), vR xt, vR b102, vR pb] [(.int (0 : Int32))]))
   refine own_go (fun tgt kst => XS.ifNo X129.here hx rfl (hb hby at_122) rfl ((if0 _ _).trans (teq (by decide : (0 : Int32) = (0 : Int32))).2) kst) ?_
   refine own_go (fun tgt kst => XS.iconst X129.here hx rfl (hb hby at_125) kst) ?_
   refine own_go (fun tgt kst => XS.goto X129.here hx rfl (pc0 := 126) (pc' := 130) rfl (hb hby at_126) (by decide) (by decide) kst) ?_
   show OwnWk _ _ _ _ (T129.setTop (mkF m 130 #[vI z0, vI z1, vI z2, vI z3, vI z4, vI z5, vI (1 : Int32), vI (z5 &&& (65535 : Int32)), vR b44, vI ((1 : Int32) + lv), vR xt, vR b102, vR pb] [(.int (1 : Int32))]))
   have X130s : Stand _ _ _ _ (s.setVm s.vm) _ _ _ _ _ _ _ _ _ := X129
   have hS : s.Since s.vm 0 := (State.WarmedH.refl s).since 0
   have hSk := Nat.zero_le h119.size
   exact own_retZW X130s hx hlk hret hS (by rw [e129]; exact hSk) (z' := (1 : Int32)) rfl (hb hby at_130) (by decide) (by decide) (by rw [e129]; exact ⟨rfl, N129⟩)
  ·
   show OwnWk _ _ _ _ (T53.setTop (mkF m 69 #[vI z0, vI z1, vI z2, vI z3, vI z4, vI z5, vI (1 : Int32), vI (z5 &&& (65535 : Int32)), vR b44, vI ((1 : Int32) + lv), uX, uX, uX] [(.int (2 : Int32))]))
   refine own_go (fun tgt kst => XS.iloadN X53.here hx rfl (hb hby at_69) rfl  kst) ?_
   refine own_go (fun tgt kst => XS.iload X53.here hx rfl (hb hby at_70) rfl  kst) ?_
   show OwnWk _ _ _ _ (T53.setTop (mkF m 72 #[vI z0, vI z1, vI z2, vI z3, vI z4, vI z5, vI (1 : Int32), vI (z5 &&& (65535 : Int32)), vR b44, vI ((1 : Int32) + lv), uX, uX, uX] [(.int z4), (.int z3), (.int (2 : Int32))]))
   have lt131 : b44 < h53.size := F55.lt
   refine own_callS X53 hx hZ (y := yN7) hown (wq hw 51 rfl) (wq hw 52 rfl) (wq hw 53 rfl) (wq hw 54 rfl) (by decide) (argsL := [(.int (2 : Int32)), (.int z3), (.int z4)]) (rest := [])  (h := h53) (drw2 l Z a0 hw cv z3 z4 h53 n0 Z56 F54 S_c hcv) e53 (W := 0) (by decide) (by decide) (by decide) (by decide) rfl (by rw [hml]; rfl) (lenOf pd_10 rfl) rfl (by show 2 * 0 + _ ≤ _; exact Nat.le_of_eq rfl) (hb hby at_72) (fun v132 T132 h132 L132 X132 e132 hQ132 => ?_)
   obtain ⟨xt, rfl, Nq132, Kq132, sx132⟩ := hQ132
   have N132 := Fr.app N53 Nq132
   have F133 := Old.keep F54 Kq132 all0
   have F134 := Exa.keep F55 Kq132
   have Z135 := Nat.le_trans Z56 Kq132.1
   have ne136 := own_nl lt131 sx132
   have ga137 : n0 ≤ xt := Nat.le_trans Z56 sx132
   show OwnWk _ _ _ _ (T132.setTop (mkF m 75 #[vI z0, vI z1, vI z2, vI z3, vI z4, vI z5, vI (1 : Int32), vI (z5 &&& (65535 : Int32)), vR b44, vI ((1 : Int32) + lv), uX, uX, uX] [(.ref xt)]))
   refine own_go (fun tgt kst => XS.goto X132.here hx rfl (pc0 := 75) (pc' := 79) rfl (hb hby at_75) (by decide) (by decide) kst) ?_
   refine own_go (fun tgt kst => XS.astore X132.here hx rfl (hb hby at_79) rfl rfl (l' := #[vI z0, vI z1, vI z2, vI z3, vI z4, vI z5, vI (1 : Int32), vI (z5 &&& (65535 : Int32)), vR b44, vI ((1 : Int32) + lv), vR xt, uX, uX]) rfl kst) ?_
   show OwnWk _ _ _ _ (T132.setTop (mkF m 81 #[vI z0, vI z1, vI z2, vI z3, vI z4, vI z5, vI (1 : Int32), vI (z5 &&& (65535 : Int32)), vR b44, vI ((1 : Int32) + lv), vR xt, uX, uX] []))
   obtain ⟨T138, h138, X138, e138, E138, A138, D138, -, st138⟩ := newO X132 hx hZ hown (wq hw 25 rfl) (wq hw 26 rfl) (wq hw 27 rfl) e132 (g := (mkF m 81 #[vI z0, vI z1, vI z2, vI z3, vI z4, vI z5, vI (1 : Int32), vI (z5 &&& (65535 : Int32)), vR b44, vI ((1 : Int32) + lv), vR xt, uX, uX] [])) rfl (hb hby at_81) (by decide) (by decide)
   obtain ⟨b138, g138⟩ : ∃ z, z = h132.size := ⟨_, rfl⟩
   rw [← g138] at A138 D138 st138
   refine own_go st138 ?_
   have ne139 := own_nl F134.lt (Nat.le_of_eq g138.symm)
   have ge140 : n0 ≤ b138 := Nat.le_trans Z135 (Nat.le_of_eq g138.symm)
   have F141 := Old.ext F133 E138
   have F142 := Exa.ext E138 F134
   have Z143 := Nat.le_trans Z135 E138.1
   have F144 : Fld Z h138 b138 "com/example/enrichd/enrichd/core/Block" "first" "Lcom/example/enrichd/enrichd/core/Line;" .null := D138 (Or.inr (wq hw 33 rfl)) (ty := (.object "com/example/enrichd/enrichd/core/Line")) (by decide)
   have F145 : Fld Z h138 b138 "com/example/enrichd/enrichd/core/Block" "last" "Lcom/example/enrichd/enrichd/core/Line;" .null := D138 (Or.inr (wq hw 35 rfl)) (ty := (.object "com/example/enrichd/enrichd/core/Line")) (by decide)
   have F146 : Fld Z h138 b138 "com/example/enrichd/enrichd/core/Block" "headingLevel" "I" (.int (0 : Int32)) := D138 (Or.inr (wq hw 37 rfl)) (ty := .int) (by decide)
   have F147 : Fld Z h138 b138 "com/example/enrichd/enrichd/core/Block" "heading" "Ljava/lang/String;" .null := D138 (Or.inr (wq hw 39 rfl)) (ty := (.object "java/lang/String")) (by decide)
   show OwnWk _ _ _ _ (T138.setTop (mkF m 84 #[vI z0, vI z1, vI z2, vI z3, vI z4, vI z5, vI (1 : Int32), vI (z5 &&& (65535 : Int32)), vR b44, vI ((1 : Int32) + lv), vR xt, uX, uX] [(.ref b138)]))
   refine own_go (fun tgt kst => XS.dup X138.here hx rfl (hb hby at_84) rfl rfl kst) ?_
   refine own_go (fun tgt kst => XS.aload X138.here hx rfl (hb hby at_85) rfl rfl  kst) ?_
   refine own_go (fun tgt kst => XS.aload X138.here hx rfl (hb hby at_87) rfl rfl  kst) ?_
   refine own_go (fun tgt kst => XS.iload X138.here hx rfl (hb hby at_89) rfl  kst) ?_
   refine own_go (fun tgt kst => XS.aload X138.here hx rfl (hb hby at_91) rfl rfl  kst) ?_
   show OwnWk _ _ _ _ (T138.setTop (mkF m 93 #[vI z0, vI z1, vI z2, vI z3, vI z4, vI z5, vI (1 : Int32), vI (z5 &&& (65535 : Int32)), vR b44, vI ((1 : Int32) + lv), vR xt, uX, uX] [(.ref xt), (.int ((1 : Int32) + lv)), (.ref b44), (.ref b44), (.ref b138), (.ref b138)]))
   refine own_callC X138 hx hZ (y := yN4) hown rfl (wq hw 28 rfl) (wq hw 29 rfl) (wq hw 27 rfl) (wq hw 30 rfl) (by decide) (a := b138) (argsL := [(.ref b44), (.ref b44), (.int ((1 : Int32) + lv)), (.ref xt)]) (rest := [(.ref b138)])  (h := h138) (bli1 l Z a0 hw b138 b44 b44 xt ((1 : Int32) + lv) h138 n0 Z143 A138 F144 F145 F146 F147 ge140) e138 (W := 1) (by decide) (by decide) (by decide) (by decide) rfl (by rw [hml]; rfl) (lenOf pd_6 rfl) rfl (by show 2 * 0 + _ ≤ _; exact Nat.le_of_eq rfl) (hb hby at_93) (fun v148 T148 h148 L148 X148 e148 hQ148 => ?_)
   obtain ⟨rfl, Nq148, Kq148, Fh148⟩ := hQ148
   have N148 := Fr.app N132 Nq148
   have F149 := Old.keep F141 Kq148 (allS ge140 all0)
   have F150 := Exa.keep F142 Kq148
   have F151 := Exa.keep A138 Kq148
   have Z152 := Nat.le_trans Z143 Kq148.1
   show OwnWk _ _ _ _ (T148.setTop (mkF m 96 #[vI z0, vI z1, vI z2, vI z3, vI z4, vI z5, vI (1 : Int32), vI (z5 &&& (65535 : Int32)), vR b44, vI ((1 : Int32) + lv), vR xt, uX, uX] [(.ref b138)]))
   refine own_go (fun tgt kst => XS.astore X148.here hx rfl (hb hby at_96) rfl rfl (l' := #[vI z0, vI z1, vI z2, vI z3, vI z4, vI z5, vI (1 : Int32), vI (z5 &&& (65535 : Int32)), vR b44, vI ((1 : Int32) + lv), vR xt, vR b138, uX]) rfl kst) ?_
   refine own_go (fun tgt kst => XS.aload X148.here hx rfl (hb hby at_98) rfl rfl  kst) ?_
   refine own_go (fun tgt kst => XS.aload X148.here hx rfl (hb hby at_100) rfl rfl  kst) ?_
   show OwnWk _ _ _ _ (T148.setTop (mkF m 102 #[vI z0, vI z1, vI z2, vI z3, vI z4, vI z5, vI (1 : Int32), vI (z5 &&& (65535 : Int32)), vR b44, vI ((1 : Int32) + lv), vR xt, vR b138, uX] [(.ref b44), (.ref b44)]))
   have lt153 : b44 < h148.size := F150.lt
   have lt154 : b138 < h148.size := F151.lt
   refine own_callS X148 hx hZ (y := yN5) hown (wq hw 40 rfl) (wq hw 41 rfl) (wq hw 27 rfl) (wq hw 42 rfl) (by decide) (argsL := [(.ref b44), (.ref b44)]) (rest := [])  (h := h148) (bof l Z a0 hw b44 b44 h148 n0 Z152 ) e148 (W := 0) (by decide) (by decide) (by decide) (by decide) rfl (by rw [hml]; rfl) (lenOf pd_8 rfl) rfl (by show 2 * 0 + _ ≤ _; exact Nat.le_of_eq rfl) (hb hby at_102) (fun v155 T155 h155 L155 X155 e155 hQ155 => ?_)
   obtain ⟨pb, rfl, Nq155, Kq155, sp155, Eb155, Fb155⟩ := hQ155
   have N155 := Fr.app N148 Nq155
   have F156 := Old.keep F149 Kq155 all0
   have F157 := Exa.keep F150 Kq155
   have F158 := Exa.keep F151 Kq155
   have F159 := Fld.keep Fh148 Kq155 nin0
   have Z160 := Nat.le_trans Z152 Kq155.1
   have ne161 := own_nl lt153 sp155
   have ne162 := own_nl lt154 sp155
   have ga163 : n0 ≤ pb := Nat.le_trans Z152 sp155
   show OwnWk _ _ _ _ (T155.setTop (mkF m 105 #[vI z0, vI z1, vI z2, vI z3, vI z4, vI z5, vI (1 : Int32), vI (z5 &&& (65535 : Int32)), vR b44, vI ((1 : Int32) + lv), vR xt, vR b138, uX] [(.ref pb)]))
   refine own_go (fun tgt kst => XS.astore X155.here hx rfl (hb hby at_105) rfl rfl (l' := #[vI z0, vI z1, vI z2, vI z3, vI z4, vI z5, vI (1 : Int32), vI (z5 &&& (65535 : Int32)), vR b44, vI ((1 : Int32) + lv), vR xt, vR b138, vR pb]) rfl kst) ?_
   refine own_go (fun tgt kst => XS.aload X155.here hx rfl (hb hby at_107) rfl rfl  kst) ?_
   show OwnWk _ _ _ _ (T155.setTop (mkF m 109 #[vI z0, vI z1, vI z2, vI z3, vI z4, vI z5, vI (1 : Int32), vI (z5 &&& (65535 : Int32)), vR b44, vI ((1 : Int32) + lv), vR xt, vR b138, vR pb] [(.ref b138)]))
   refine own_callV X155 hx hZ (y := yN6) (z := yN6) hown (wq hw 45 rfl) (wq hw 46 rfl) (notFace_of_selects (args := #[]) (mvT hZ (wq hw 48 rfl))) (wq hw 48 rfl) (wq hw 47 rfl) (wq hw 27 rfl) (wq hw 49 rfl) (by decide) (a := b138) F158 (argsL := []) (rest := [])  (h := h155) (ish1 l Z a0 hw b138 xt h155 n0 Z160 F159) e155 (W := 0) (by decide) (by decide) (by decide) (by decide) rfl (by rw [hml]; rfl) (lenOf pd_9 rfl) rfl (by show 2 * 0 + _ ≤ _; exact Nat.le_of_eq rfl) (hb hby at_109) (fun v164 T164 h164 L164 X164 e164 hQ164 => ?_)
   obtain ⟨rfl, Nq164, q164⟩ := hQ164
   have N164 := Fr.app N155 Nq164
   rw [q164] at e164
   show OwnWk _ _ _ _ (T164.setTop (mkF m 112 #[vI z0, vI z1, vI z2, vI z3, vI z4, vI z5, vI (1 : Int32), vI (z5 &&& (65535 : Int32)), vR b44, vI ((1 : Int32) + lv), vR xt, vR b138, vR pb] [(.int (1 : Int32))]))
   refine own_go (fun tgt kst => XS.iload X164.here hx rfl (hb hby at_112) rfl  kst) ?_
   refine own_go (fun tgt kst => XS.icmpNo X164.here hx rfl (hb hby at_114) rfl (teq (by decide : (1 : Int32) = (1 : Int32))).2 kst) ?_
   refine own_go (fun tgt kst => XS.aload X164.here hx rfl (hb hby at_117) rfl rfl  kst) ?_
   show OwnWk _ _ _ _ (T164.setTop (mkF m 119 #[vI z0, vI z1, vI z2, vI z3, vI z4, vI z5, vI (1 : Int32), vI (z5 &&& (65535 : Int32)), vR b44, vI ((1 : Int32) + lv), vR xt, vR b138, vR pb] [(.ref pb)]))
   refine own_callV X164 hx hZ (y := yN6) (z := yN6) hown (wq hw 45 rfl) (wq hw 46 rfl) (notFace_of_selects (args := #[]) (mvT hZ (wq hw 48 rfl))) (wq hw 48 rfl) (wq hw 47 rfl) (wq hw 27 rfl) (wq hw 49 rfl) (by decide) (a := pb) Eb155 (argsL := []) (rest := [])  (h := h155) (ish0 l Z a0 hw pb h155 n0 Z160 Fb155) e164 (W := 0) (by decide) (by decide) (by decide) (by decide) rfl (by rw [hml]; rfl) (lenOf pd_9 rfl) rfl (by show 2 * 0 + _ ≤ _; exact Nat.le_of_eq rfl) (hb hby at_119) (fun v165 T165 h165 L165 X165 e165 hQ165 => ?_)
   obtain ⟨rfl, Nq165, q165⟩ := hQ165
   have N165 := Fr.app N164 Nq165
   rw [q165] at e165
   show OwnWk _ _ _ _ (T165.setTop (mkF m 122 #[vI z0, vI z1, vI z2, vI z3, vI z4, vI z5, vI (1 : Int32), vI (z5 &&& (65535 : Int32)), vR b44, vI ((1 : Int32) + lv), vR xt, vR b138, vR pb] [(.int (0 : Int32))]))
   refine own_go (fun tgt kst => XS.ifNo X165.here hx rfl (hb hby at_122) rfl ((if0 _ _).trans (teq (by decide : (0 : Int32) = (0 : Int32))).2) kst) ?_
   refine own_go (fun tgt kst => XS.iconst X165.here hx rfl (hb hby at_125) kst) ?_
   refine own_go (fun tgt kst => XS.goto X165.here hx rfl (pc0 := 126) (pc' := 130) rfl (hb hby at_126) (by decide) (by decide) kst) ?_
   show OwnWk _ _ _ _ (T165.setTop (mkF m 130 #[vI z0, vI z1, vI z2, vI z3, vI z4, vI z5, vI (1 : Int32), vI (z5 &&& (65535 : Int32)), vR b44, vI ((1 : Int32) + lv), vR xt, vR b138, vR pb] [(.int (1 : Int32))]))
   have X166s : Stand _ _ _ _ (s.setVm s.vm) _ _ _ _ _ _ _ _ _ := X165
   have hS : s.Since s.vm 0 := (State.WarmedH.refl s).since 0
   have hSk := Nat.zero_le h155.size
   exact own_retZW X166s hx hlk hret hS (by rw [e165]; exact hSk) (z' := (1 : Int32)) rfl (hb hby at_130) (by decide) (by decide) (by rw [e165]; exact ⟨rfl, N165⟩)
set_option maxRecDepth 65536 in
set_option maxHeartbeats 40000000 in
theorem comes_1 {Post : Tables → Env → Array Value → State → Outcome → State → Prop} (hpost : ∀ tb e args s v u, (limb_1_1.after args s (.returned v) u = true ∧ limb_1_2.after args s (.returned v) u = true) → ReturnedEndW s (.returned v) u (Jvm.fieldLocs frame_1_writes args s ++ Jvm.arrayLocs frame_1_arrays args s ++ Jvm.staticLocs frame_1_statics s) 24 1152 → Post tb e args s (.returned v) u) :
    ArmFor flags0 classFile x code maxLocals ret World_1 tables_1 room_1 Calls_1 rest_1 Pre_1 Post := by
  intro l hfl _ _ p e ha hc hk s m args below hf hA hF happ hP
  obtain ⟨hcalls, hrest, hpre⟩ := hP
  obtain ⟨-, -, -, hnamed, -, -, -, hat⟩ := (Spec.applies_iff hf).mp happ
  obtain ⟨hg, hn⟩ := and_e (Cond.before_iff.mp (show (Jvm.Cond.and given_1 narrow_1).before args s = true from hpre))
  obtain ⟨g0, r0⟩ := and_e hg
  obtain ⟨g1, r1⟩ := and_e r0
  obtain ⟨g2, r2⟩ := and_e r1
  obtain ⟨g3, r3⟩ := and_e r2
  obtain ⟨g4, r4⟩ := and_e r3
  obtain ⟨g5, r5⟩ := and_e r4
  obtain ⟨w0, w1, w2, w3, w4, w5, rfl⟩ : ∃ w0 w1 w2 w3 w4 w5 : Value, args = #[w0, w1, w2, w3, w4, w5] := by
    have hs : args.size = 6 := by simpa [Cond.value, given_1] using g0
    obtain ⟨L⟩ := args
    match L, hs with
    | [w0, w1, w2, w3, w4, w5], _ => exact ⟨w0, w1, w2, w3, w4, w5, rfl⟩
  have hw := fun d (hd : d ∈ tables_1) => atoms_spec (ws := Jvm.Cond.code x code maxLocals ret :: tables_1) hat d (List.mem_cons_of_mem _ hd)
  have hfit : Fit s := fun {y c} hc i hi => by
    obtain ⟨ha, rfl⟩ := Array.getElem?_eq_some_iff.mp hc
    have q := List.all_eq_true.mp ((Array.all_eq_true_iff_forall_mem.mp hF) _ (Array.getElem_mem ha)) i (List.mem_range.mpr hi)
    simpa [Array.getElem?_eq_getElem hi] using q
  obtain ⟨i0, ei0⟩ := is_v g1
  obtain rfl : w0 = (.int i0) := Option.some.inj ei0
  obtain ⟨i1, ei1⟩ := is_v g2
  obtain rfl : w1 = (.int i1) := Option.some.inj ei1
  obtain ⟨i2, ei2⟩ := is_v g3
  obtain rfl : w2 = (.int i2) := Option.some.inj ei2
  obtain ⟨i3, ei3⟩ := is_v g4
  obtain rfl : w3 = (.int i3) := Option.some.inj ei3
  obtain ⟨i4, ei4⟩ := is_v g5
  obtain rfl : w4 = (.int i4) := Option.some.inj ei4
  obtain ⟨i5, ei5⟩ := is_v r5
  obtain rfl : w5 = (.int i5) := Option.some.inj ei5
  obtain ⟨hsets, hown0⟩ := atoms_of _ (rest_1_c_eq ▸ (show rest_1_c.before _ s = true from hrest))
  obtain ⟨cv, ecv⟩ := is_v (Cond.before_iff.mp (hsets _ (List.mem_of_getElem? (i := 1) rfl)))
  have S_c := Sta.start ecv (Or.inl (hsets _ (List.mem_of_getElem? (i := 0) rfl)))
  have hcw : Jvm.Lit.compactW.before _ s = true := hsets _ (List.mem_of_getElem? (i := 2) rfl)
  have hcv : ¬ cv = 0 := fun q => by
    have q2 := Cond.before_iff.mp hcw
    rw [q] at ecv
    first
    | (simp [Jvm.Lit.compactW, Cond.value, ecv, Term.int_eval] at q2; done)
    | (simp only [Jvm.Lit.compactW, Cond.value, ecv, Term.int_eval] at q2; simp at q2; done)
  have hh0 : Jvm.Lit.constHeld s "java/lang/String" 7 := hcalls.1 ("java/lang/String", 7) (by simp [consts_1])
  obtain ⟨n, o, h1, h2, h3, _, L, rfl, ⟨rfl, N⟩, hq⟩ := rm0 l s _ hw i0 i1 i2 i3 i4 i5 cv s.heap s.heap.size (Nat.le_refl _) (Old.start s) S_c hcv hh0 hcw p e ha hc hk s m _ below hf ((Spec.applies_iff_loose hf).mp happ).1 ⟨rfl, State.Warmed39.refl s, rfl, IB.start⟩ trivial
  refine ⟨n, _, h1, h2, h3, hpost _ _ _ _ _ _ ⟨Cond.after_iff.mpr rfl, Cond.after_iff.mpr (eq_i res_at (Term.int_eval (1)) rfl)⟩ ⟨hq.1, hq.2.1, hq.2.2.1, (hq.2.2.2.sift fun y hy => Or.inr (N y hy)).mono (by decide) (by decide)⟩⟩
theorem main_1_1 : Claimed_1_1 := comes_1 fun _ _ _ _ _ _ h hF => ⟨h.1, hF⟩
theorem main_1_2 : Claimed_1_2 := comes_1 fun _ _ _ _ _ _ h hF => ⟨h.2, hF⟩
end Jvm.Pilot.@@N@@
namespace Jvm.Pilot.@@N@@
open Jvm Jvm.ClassFile Sem Op Lib Jvm.Free Jvm.Stand Jvm.Pilot.@@N@@.Jvm.D
/-! MADE BY PROGRAM (witnessworld.py) out of the Statement's table words and the real class files: 22 classes; the members and pool entries that the words name. The judged class is class 1, her method 2. -/
namespace start1
open Jvm.ClassFile
def u (s : String) : CpInfo := .utf8 (stringToUtf16 s)
/-- a pool by its gaps: so many unusable entries, then the entry; so many at the end -/
def gap : Nat → List CpInfo → List CpInfo
  | 0, r => r
  | n + 1, r => .unusable :: gap n r
def poolList (es : List (Nat × CpInfo)) (last : Nat) : List CpInfo := es.foldr (fun e r => gap e.1 (e.2 :: r)) (gap last [])
def pool (es : List (Nat × CpInfo)) (last : Nat) : Array CpInfo := ⟨poolList es last⟩
def fileOf (pool : Array CpInfo) (this : Nat) (attrs : Array Attribute := #[]) (ms : Array MethodInfo := #[]) (fl : Nat := 33) (sup : Nat := 0) (ifs : Array Nat := #[]) (fds : Array FieldInfo := #[]) : ClassFile where
  minorVersion := 0
  majorVersion := 65
  constantPool := pool
  accessFlags := fl
  thisClass := this
  superClass := sup
  interfaces := ifs
  fields := fds
  methods := ms
  attributes := attrs
def plain (name : String) (sup : Option ClassId) : Class where
  name := name
  kind := .ordinary
  loader := none
  accessFlags := 33
  super := sup
  interfaces := #[]
  cf := none
  fields := #[]
  methods := #[]
  instanceTypes := #[]
  staticTypes := #[]
  resolved := #[]
  callSites := []
  init := .initialized
  statics := none
  mirror := none

def pool0 : Array CpInfo := pool [(5, u "<init>"), (0, u "()V"), (1, .class_ 10), (1, u "java/lang/Object")] 113

def k0c0 : Code := { maxStack := 0, maxLocals := 1, code := object_method_1_code, exceptionTable := #[], attributes := #[] }
def k0m0 : Method := { name := "<init>", desc := "()V", sig := { parameters := [], returnType := none }, accessFlags := 1, code := some k0c0 }
/-- java/lang/Object -/
def k0 : Class := { plain "java/lang/Object" none with
  accessFlags := 33
  interfaces := #[]
  cf := some (fileOf pool0 8 #[] #[{ accessFlags := 1, nameIndex := 5, descriptorIndex := 6, attributes := #[] }] 33 0 #[] #[])
  fields := #[]
  methods := #[k0m0]
  instanceTypes := #[]
  staticTypes := #[]
  resolved := Array.replicate 124 none
  statics := none }

def pool1 : Array CpInfo := pool [(2, .class_ 4), (1, u "java/lang/Object"), (0, u "<init>"), (0, u "()V"), (0, .class_ 8), (0, u "java/lang/String"), (0, .methodref 7 10), (0, .nameAndType 5 11), (0, u "([C)V"), (0, .integer 65535), (0, .class_ 14), (0, u "com/example/enrichd/enrichd/core/Line"), (0, .methodref 13 16), (0, .nameAndType 5 17), (0, u "(IIIII)V"), (0, .integer 2147483647), (0, .methodref 20 21), (0, .class_ 22), (0, .nameAndType 23 24), (0, u "com/example/enrichd/enrichd/core/BlockIsHeadingPinLaw"), (0, u "drawn"), (0, u "(III)Ljava/lang/String;"), (0, .class_ 26), (0, u "com/example/enrichd/enrichd/core/Block"), (0, .methodref 25 28), (0, .nameAndType 5 29), (0, u "(Lcom/example/enrichd/enrichd/core/Line;Lcom/example/enrichd/enrichd/core/Line;ILjava/lang/String;)V"), (0, .methodref 25 31), (0, .nameAndType 32 33), (0, u "of"), (0, u "(Lcom/example/enrichd/enrichd/core/Line;Lcom/example/enrichd/enrichd/core/Line;)Lcom/example/enrichd/enrichd/core/Block;"), (0, .methodref 25 35), (0, .nameAndType 36 37), (0, u "isHeading"), (0, u "()Z"), (3, u "law"), (0, u "(IIIIII)Z")] 2

def k1m0 : Method := { name := "<init>", desc := "()V", sig := { parameters := [], returnType := none }, accessFlags := 1, code := none }
def k1c1 : Code := { maxStack := 6, maxLocals := 5, code := method_2_code, exceptionTable := #[], attributes := #[] }
def k1m1 : Method := { name := "drawn", desc := "(III)Ljava/lang/String;", sig := { parameters := [.int, .int, .int], returnType := some (.object "java/lang/String") }, accessFlags := 10, code := some k1c1 }
def k1c2 : Code := { maxStack := 7, maxLocals := 13, code := code, exceptionTable := #[], attributes := #[] }
def k1m2 : Method := { name := "law", desc := "(IIIIII)Z", sig := { parameters := [.int, .int, .int, .int, .int, .int], returnType := some .boolean }, accessFlags := 9, code := some k1c2 }
/-- com/example/enrichd/enrichd/core/BlockIsHeadingPinLaw -/
def k1 : Class := { plain "com/example/enrichd/enrichd/core/BlockIsHeadingPinLaw" (some 0) with
  accessFlags := 49
  interfaces := #[]
  cf := some (fileOf pool1 20 #[] #[{ accessFlags := 1, nameIndex := 5, descriptorIndex := 6, attributes := #[] }, { accessFlags := 10, nameIndex := 23, descriptorIndex := 24, attributes := #[] }, { accessFlags := 9, nameIndex := 41, descriptorIndex := 42, attributes := #[] }] 49 2 #[] #[])
  fields := #[]
  methods := #[k1m0, k1m1, k1m2]
  instanceTypes := #[]
  staticTypes := #[]
  resolved := Array.replicate 45 none
  statics := none }

def pool2 : Array CpInfo := pool [(1, .methodref 2 3), (0, .class_ 4), (0, .nameAndType 5 6), (0, u "java/lang/Object"), (0, u "<init>"), (0, u "()V"), (0, .class_ 8), (0, u "java/lang/Record")] 13

def k2c0 : Code := { maxStack := 1, maxLocals := 1, code := jdk_30_method_1_code, exceptionTable := #[], attributes := #[] }
def k2m0 : Method := { name := "<init>", desc := "()V", sig := { parameters := [], returnType := none }, accessFlags := 4, code := some k2c0 }
/-- java/lang/Record -/
def k2 : Class := { plain "java/lang/Record" (some 0) with
  accessFlags := 1057
  interfaces := #[]
  cf := some (fileOf pool2 7 #[] #[{ accessFlags := 4, nameIndex := 5, descriptorIndex := 6, attributes := #[] }] 1057 2 #[] #[])
  fields := #[]
  methods := #[k2m0]
  instanceTypes := #[]
  staticTypes := #[]
  resolved := Array.replicate 22 none
  statics := none }

def pool3 : Array CpInfo := pool [(1, .methodref 2 3), (0, .class_ 4), (0, .nameAndType 5 6), (0, u "java/lang/Record"), (0, u "<init>"), (0, u "()V"), (0, .fieldref 8 9), (0, .class_ 10), (0, .nameAndType 11 12), (0, u "com/example/enrichd/enrichd/core/Line"), (0, u "number"), (0, u "I"), (0, .fieldref 8 14), (0, .nameAndType 15 12), (0, u "start"), (0, .fieldref 8 17), (0, .nameAndType 18 12), (0, u "end"), (0, .fieldref 8 20), (0, .nameAndType 21 12), (0, u "startOffset"), (0, .fieldref 8 23), (0, .nameAndType 24 12), (0, u "endOffset"), (12, u "(IIIII)V")] 30

def k3c0 : Code := { maxStack := 2, maxLocals := 6, code := prog_35_method_1_code, exceptionTable := #[], attributes := #[] }
def k3m0 : Method := { name := "<init>", desc := "(IIIII)V", sig := { parameters := [.int, .int, .int, .int, .int], returnType := none }, accessFlags := 0, code := some k3c0 }
/-- com/example/enrichd/enrichd/core/Line -/
def k3 : Class := { plain "com/example/enrichd/enrichd/core/Line" (some 2) with
  accessFlags := 48
  interfaces := #[]
  cf := some (fileOf pool3 8 #[] #[{ accessFlags := 0, nameIndex := 5, descriptorIndex := 37, attributes := #[] }] 48 2 #[] #[{ accessFlags := 18, nameIndex := 11, descriptorIndex := 12, attributes := #[] }, { accessFlags := 18, nameIndex := 15, descriptorIndex := 12, attributes := #[] }, { accessFlags := 18, nameIndex := 18, descriptorIndex := 12, attributes := #[] }, { accessFlags := 18, nameIndex := 21, descriptorIndex := 12, attributes := #[] }, { accessFlags := 18, nameIndex := 24, descriptorIndex := 12, attributes := #[] }])
  fields := #[{ name := "number", type := .int, accessFlags := 18, slot := 0, constantValue := 0 }, { name := "start", type := .int, accessFlags := 18, slot := 1, constantValue := 0 }, { name := "end", type := .int, accessFlags := 18, slot := 2, constantValue := 0 }, { name := "startOffset", type := .int, accessFlags := 18, slot := 3, constantValue := 0 }, { name := "endOffset", type := .int, accessFlags := 18, slot := 4, constantValue := 0 }]
  methods := #[k3m0]
  instanceTypes := #[.int, .int, .int, .int, .int]
  staticTypes := #[]
  resolved := Array.replicate 68 none
  statics := none }

def pool4 : Array CpInfo := pool [(1, .methodref 2 3), (0, .class_ 4), (0, .nameAndType 5 6), (0, u "java/lang/Record"), (0, u "<init>"), (0, u "()V"), (0, .fieldref 8 9), (0, .class_ 10), (0, .nameAndType 11 12), (0, u "com/example/enrichd/enrichd/core/Block"), (0, u "first"), (0, u "Lcom/example/enrichd/enrichd/core/Line;"), (0, .fieldref 8 14), (0, .nameAndType 15 12), (0, u "last"), (0, .fieldref 8 17), (0, .nameAndType 18 19), (0, u "headingLevel"), (0, u "I"), (0, .fieldref 8 21), (0, .nameAndType 22 23), (0, u "heading"), (0, u "Ljava/lang/String;"), (0, .methodref 8 25), (0, .nameAndType 5 26), (0, u "(Lcom/example/enrichd/enrichd/core/Line;Lcom/example/enrichd/enrichd/core/Line;ILjava/lang/String;)V"), (15, u "of"), (0, u "(Lcom/example/enrichd/enrichd/core/Line;Lcom/example/enrichd/enrichd/core/Line;)Lcom/example/enrichd/enrichd/core/Block;"), (0, u "isHeading"), (0, u "()Z")] 28

def k4c0 : Code := { maxStack := 2, maxLocals := 5, code := prog_3_method_1_code, exceptionTable := #[], attributes := #[] }
def k4m0 : Method := { name := "<init>", desc := "(Lcom/example/enrichd/enrichd/core/Line;Lcom/example/enrichd/enrichd/core/Line;ILjava/lang/String;)V", sig := { parameters := [(.object "com/example/enrichd/enrichd/core/Line"), (.object "com/example/enrichd/enrichd/core/Line"), .int, (.object "java/lang/String")], returnType := none }, accessFlags := 0, code := some k4c0 }
def k4c1 : Code := { maxStack := 6, maxLocals := 2, code := prog_3_method_2_code, exceptionTable := #[], attributes := #[] }
def k4m1 : Method := { name := "of", desc := "(Lcom/example/enrichd/enrichd/core/Line;Lcom/example/enrichd/enrichd/core/Line;)Lcom/example/enrichd/enrichd/core/Block;", sig := { parameters := [(.object "com/example/enrichd/enrichd/core/Line"), (.object "com/example/enrichd/enrichd/core/Line")], returnType := some (.object "com/example/enrichd/enrichd/core/Block") }, accessFlags := 8, code := some k4c1 }
def k4c2 : Code := { maxStack := 1, maxLocals := 1, code := prog_3_method_3_code, exceptionTable := #[], attributes := #[] }
def k4m2 : Method := { name := "isHeading", desc := "()Z", sig := { parameters := [], returnType := some .boolean }, accessFlags := 0, code := some k4c2 }
/-- com/example/enrichd/enrichd/core/Block -/
def k4 : Class := { plain "com/example/enrichd/enrichd/core/Block" (some 2) with
  accessFlags := 48
  interfaces := #[]
  cf := some (fileOf pool4 8 #[] #[{ accessFlags := 0, nameIndex := 5, descriptorIndex := 26, attributes := #[] }, { accessFlags := 8, nameIndex := 42, descriptorIndex := 43, attributes := #[] }, { accessFlags := 0, nameIndex := 44, descriptorIndex := 45, attributes := #[] }] 48 2 #[] #[{ accessFlags := 18, nameIndex := 11, descriptorIndex := 12, attributes := #[] }, { accessFlags := 18, nameIndex := 15, descriptorIndex := 12, attributes := #[] }, { accessFlags := 18, nameIndex := 18, descriptorIndex := 19, attributes := #[] }, { accessFlags := 18, nameIndex := 22, descriptorIndex := 23, attributes := #[] }])
  fields := #[{ name := "first", type := (.object "com/example/enrichd/enrichd/core/Line"), accessFlags := 18, slot := 0, constantValue := 0 }, { name := "last", type := (.object "com/example/enrichd/enrichd/core/Line"), accessFlags := 18, slot := 1, constantValue := 0 }, { name := "headingLevel", type := .int, accessFlags := 18, slot := 2, constantValue := 0 }, { name := "heading", type := (.object "java/lang/String"), accessFlags := 18, slot := 3, constantValue := 0 }]
  methods := #[k4m0, k4m1, k4m2]
  instanceTypes := #[(.object "com/example/enrichd/enrichd/core/Line"), (.object "com/example/enrichd/enrichd/core/Line"), .int, (.object "java/lang/String")]
  staticTypes := #[]
  resolved := Array.replicate 74 none
  statics := none }

def pool5 : Array CpInfo := pool [(1, .class_ 2), (0, u "java/io/Serializable"), (0, .class_ 4), (0, u "java/lang/Object")] 2

/-- java/io/Serializable -/
def k5 : Class := { plain "java/io/Serializable" (some 0) with
  accessFlags := 1537
  interfaces := #[]
  cf := some (fileOf pool5 1 #[] #[] 1537 3 #[] #[])
  fields := #[]
  methods := #[]
  instanceTypes := #[]
  staticTypes := #[]
  resolved := Array.replicate 7 none
  statics := none }

def pool6 : Array CpInfo := pool [(1, .class_ 2), (0, u "java/lang/Comparable"), (0, .class_ 4), (0, u "java/lang/Object")] 7

/-- java/lang/Comparable -/
def k6 : Class := { plain "java/lang/Comparable" (some 0) with
  accessFlags := 1537
  interfaces := #[]
  cf := some (fileOf pool6 1 #[] #[] 1537 3 #[] #[])
  fields := #[]
  methods := #[]
  instanceTypes := #[]
  staticTypes := #[]
  resolved := Array.replicate 12 none
  statics := none }

def pool7 : Array CpInfo := pool [(2, .class_ 4), (1, u "java/lang/CharSequence"), (42, .class_ 48), (0, u "java/lang/CharSequence$1CodePointIterator"), (10, .class_ 60), (0, u "java/lang/CharSequence$1CharIterator"), (5, .class_ 67), (0, u "java/lang/Object")] 63

/-- java/lang/CharSequence -/
def k7 : Class := { plain "java/lang/CharSequence" (some 0) with
  accessFlags := 1537
  interfaces := #[]
  cf := some (fileOf pool7 2 #[.nestMembers #[47, 59]] #[] 1537 66 #[] #[])
  fields := #[]
  methods := #[]
  instanceTypes := #[]
  staticTypes := #[]
  resolved := Array.replicate 131 none
  statics := none }

def pool8 : Array CpInfo := pool [(1, .class_ 2), (0, u "java/lang/constant/Constable"), (0, .class_ 4), (0, u "java/lang/Object")] 6

/-- java/lang/constant/Constable -/
def k8 : Class := { plain "java/lang/constant/Constable" (some 0) with
  accessFlags := 1537
  interfaces := #[]
  cf := some (fileOf pool8 1 #[] #[] 1537 3 #[] #[])
  fields := #[]
  methods := #[]
  instanceTypes := #[]
  staticTypes := #[]
  resolved := Array.replicate 11 none
  statics := none }

def pool9 : Array CpInfo := pool [(1, .class_ 2), (0, u "java/lang/constant/ConstantDesc"), (0, .class_ 4), (0, u "java/lang/Object")] 32

/-- java/lang/constant/ConstantDesc -/
def k9 : Class := { plain "java/lang/constant/ConstantDesc" (some 0) with
  accessFlags := 1537
  interfaces := #[]
  cf := some (fileOf pool9 1 #[] #[] 1537 3 #[] #[])
  fields := #[]
  methods := #[]
  instanceTypes := #[]
  staticTypes := #[]
  resolved := Array.replicate 37 none
  statics := none }

def pool10 : Array CpInfo := pool [(1, .methodref 2 3), (0, .class_ 4), (0, .nameAndType 5 6), (0, u "java/lang/Object"), (0, u "<init>"), (0, u "()V"), (0, .string 8), (0, u ""), (0, .fieldref 10 11), (0, .class_ 12), (0, .nameAndType 13 14), (0, u "java/lang/String"), (0, u "value"), (0, u "[B"), (0, .fieldref 10 16), (0, .nameAndType 17 18), (0, u "coder"), (0, u "B"), (2, u "hash"), (0, u "I"), (2, u "hashIsZero"), (0, u "Z"), (0, .methodref 10 28), (0, .nameAndType 5 29), (0, u "([CIILjava/lang/Void;)V"), (8, .fieldref 10 39), (0, .nameAndType 40 26), (0, u "COMPACT_STRINGS"), (1, .class_ 44), (1, u "java/lang/StringUTF16"), (0, u "compress"), (1, .methodref 42 48), (0, .nameAndType 49 50), (0, u "coderFromArrayLen"), (0, u "([BI)B"), (126, .methodref 42 178), (0, .nameAndType 45 179), (0, u "([CII)[B"), (395, .class_ 576), (0, u "java/lang/CharSequence"), (22, u "CASE_INSENSITIVE_ORDER"), (0, u "Ljava/util/Comparator;"), (409, u "([C)V"), (90, u "serialPersistentFields"), (0, u "[Ljava/io/ObjectStreamField;"), (0, .class_ 1104), (0, u "java/lang/String$CaseInsensitiveComparator"), (1, .class_ 1107), (0, u "java/io/Serializable"), (0, .class_ 1109), (0, u "java/lang/Comparable"), (0, .class_ 1111), (0, u "java/lang/constant/Constable"), (0, .class_ 1113), (0, u "java/lang/constant/ConstantDesc"), (2, u "serialVersionUID"), (0, u "J"), (3, u "REPL"), (0, u "C"), (2, u "LATIN1"), (1, u "UTF16")] 323

def k10m0 : Method := { name := "<init>", desc := "()V", sig := { parameters := [], returnType := none }, accessFlags := 1, code := none }
def k10c1 : Code := { maxStack := 5, maxLocals := 2, code := jdk_42_method_3_code, exceptionTable := #[], attributes := #[] }
def k10m1 : Method := { name := "<init>", desc := "([C)V", sig := { parameters := [(.array .char)], returnType := none }, accessFlags := 1, code := some k10c1 }
def k10c2 : Code := { maxStack := 4, maxLocals := 6, code := jdk_42_method_149_code, exceptionTable := #[], attributes := #[] }
def k10m2 : Method := { name := "<init>", desc := "([CIILjava/lang/Void;)V", sig := { parameters := [(.array .char), .int, .int, (.object "java/lang/Void")], returnType := none }, accessFlags := 2, code := some k10c2 }
/-- java/lang/String -/
def k10 : Class := { plain "java/lang/String" (some 0) with
  accessFlags := 49
  interfaces := #[5, 6, 7, 8, 9]
  cf := some (fileOf pool10 10 #[.nestMembers #[1103]] #[{ accessFlags := 1, nameIndex := 5, descriptorIndex := 6, attributes := #[] }, { accessFlags := 1, nameIndex := 5, descriptorIndex := 1010, attributes := #[] }, { accessFlags := 2, nameIndex := 5, descriptorIndex := 29, attributes := #[] }] 49 2 #[1106, 1108, 575, 1110, 1112] #[{ accessFlags := 18, nameIndex := 13, descriptorIndex := 14, attributes := #[] }, { accessFlags := 18, nameIndex := 17, descriptorIndex := 18, attributes := #[] }, { accessFlags := 2, nameIndex := 21, descriptorIndex := 22, attributes := #[] }, { accessFlags := 2, nameIndex := 25, descriptorIndex := 26, attributes := #[] }, { accessFlags := 26, nameIndex := 1116, descriptorIndex := 1117, attributes := #[] }, { accessFlags := 24, nameIndex := 40, descriptorIndex := 26, attributes := #[] }, { accessFlags := 26, nameIndex := 1101, descriptorIndex := 1102, attributes := #[] }, { accessFlags := 26, nameIndex := 1121, descriptorIndex := 1122, attributes := #[] }, { accessFlags := 25, nameIndex := 599, descriptorIndex := 600, attributes := #[] }, { accessFlags := 24, nameIndex := 1125, descriptorIndex := 18, attributes := #[] }, { accessFlags := 24, nameIndex := 1127, descriptorIndex := 18, attributes := #[] }])
  fields := #[{ name := "value", type := (.array .byte), accessFlags := 18, slot := 0, constantValue := 0 }, { name := "coder", type := .byte, accessFlags := 18, slot := 1, constantValue := 0 }, { name := "hash", type := .int, accessFlags := 2, slot := 2, constantValue := 0 }, { name := "hashIsZero", type := .boolean, accessFlags := 2, slot := 3, constantValue := 0 }, { name := "serialVersionUID", type := .long, accessFlags := 26, slot := 0, constantValue := 0 }, { name := "COMPACT_STRINGS", type := .boolean, accessFlags := 24, slot := 1, constantValue := 0 }, { name := "serialPersistentFields", type := (.array (.object "java/io/ObjectStreamField")), accessFlags := 26, slot := 2, constantValue := 0 }, { name := "REPL", type := .char, accessFlags := 26, slot := 3, constantValue := 0 }, { name := "CASE_INSENSITIVE_ORDER", type := (.object "java/util/Comparator"), accessFlags := 25, slot := 4, constantValue := 0 }, { name := "LATIN1", type := .byte, accessFlags := 24, slot := 5, constantValue := 0 }, { name := "UTF16", type := .byte, accessFlags := 24, slot := 6, constantValue := 0 }]
  methods := #[k10m0, k10m1, k10m2]
  instanceTypes := #[(.array .byte), .byte, .int, .boolean]
  staticTypes := #[.long, .boolean, (.array (.object "java/io/ObjectStreamField")), .char, (.object "java/util/Comparator"), .byte, .byte]
  resolved := Array.replicate 1451 none
  statics := some 0 }

def pool11 : Array CpInfo := pool [(6, .class_ 8), (1, u "java/lang/Object"), (0, u "<init>"), (0, u "()V"), (1, .class_ 14), (1, u "java/lang/StringUTF16"), (31, u "$assertionsDisabled"), (0, u "Z"), (13, u "HI_BYTE_SHIFT"), (0, u "I"), (2, u "LO_BYTE_SHIFT"), (49, .methodref 12 116), (0, .nameAndType 117 118), (0, u "compress"), (0, u "([CI[BII)I"), (3, u "([CII)[B"), (138, u "coderFromArrayLen"), (0, u "([BI)B"), (106, .class_ 371), (1, u "java/lang/StringUTF16$LinesSpliterator"), (58, u "MAX_LENGTH"), (196, .class_ 628), (0, u "java/lang/StringUTF16$CodePointsSpliterator"), (0, .class_ 630), (0, u "java/lang/StringUTF16$CharsSpliterator")] 4

def k11m0 : Method := { name := "<init>", desc := "()V", sig := { parameters := [], returnType := none }, accessFlags := 0, code := none }
def k11c1 : Code := { maxStack := 2, maxLocals := 2, code := jdk_52_method_15_code, exceptionTable := #[], attributes := #[] }
def k11m1 : Method := { name := "coderFromArrayLen", desc := "([BI)B", sig := { parameters := [(.array .byte), .int], returnType := some .byte }, accessFlags := 8, code := some k11c1 }
def k11c2 : Code := { maxStack := 5, maxLocals := 6, code := jdk_52_method_16_code, exceptionTable := #[], attributes := #[] }
def k11m2 : Method := { name := "compress", desc := "([CII)[B", sig := { parameters := [(.array .char), .int, .int], returnType := some (.array .byte) }, accessFlags := 9, code := some k11c2 }
def k11c3 : Code := { maxStack := 3, maxLocals := 7, code := jdk_52_method_21_code, exceptionTable := #[], attributes := #[] }
def k11m3 : Method := { name := "compress", desc := "([CI[BII)I", sig := { parameters := [(.array .char), .int, (.array .byte), .int, .int], returnType := some .int }, accessFlags := 9, code := some k11c3 }
/-- java/lang/StringUTF16 -/
def k11 : Class := { plain "java/lang/StringUTF16" (some 0) with
  accessFlags := 48
  interfaces := #[]
  cf := some (fileOf pool11 12 #[.nestMembers #[627, 629, 369]] #[{ accessFlags := 0, nameIndex := 9, descriptorIndex := 10, attributes := #[] }, { accessFlags := 8, nameIndex := 261, descriptorIndex := 262, attributes := #[] }, { accessFlags := 9, nameIndex := 117, descriptorIndex := 122, attributes := #[] }, { accessFlags := 9, nameIndex := 117, descriptorIndex := 118, attributes := #[] }] 48 6 #[] #[{ accessFlags := 26, nameIndex := 61, descriptorIndex := 62, attributes := #[] }, { accessFlags := 26, nameIndex := 65, descriptorIndex := 62, attributes := #[] }, { accessFlags := 24, nameIndex := 430, descriptorIndex := 62, attributes := #[] }, { accessFlags := 4120, nameIndex := 46, descriptorIndex := 47, attributes := #[] }])
  fields := #[{ name := "HI_BYTE_SHIFT", type := .int, accessFlags := 26, slot := 0, constantValue := 0 }, { name := "LO_BYTE_SHIFT", type := .int, accessFlags := 26, slot := 1, constantValue := 0 }, { name := "MAX_LENGTH", type := .int, accessFlags := 24, slot := 2, constantValue := 0 }, { name := "$assertionsDisabled", type := .boolean, accessFlags := 4120, slot := 3, constantValue := 0 }]
  methods := #[k11m0, k11m1, k11m2, k11m3]
  instanceTypes := #[]
  staticTypes := #[.int, .int, .int, .boolean]
  resolved := Array.replicate 635 none
  statics := none }

def pool12 : Array CpInfo := pool [(4, .class_ 6), (1, u "java/lang/Object"), (0, u "<init>"), (0, u "()V"), (5, .class_ 16), (1, u "java/lang/StringLatin1"), (104, u "$assertionsDisabled"), (0, u "Z"), (98, .class_ 223), (1, u "java/lang/StringLatin1$LinesSpliterator"), (166, .class_ 391), (0, u "java/lang/StringLatin1$CharsSpliterator")] 3

def k12m0 : Method := { name := "<init>", desc := "()V", sig := { parameters := [], returnType := none }, accessFlags := 0, code := none }
/-- java/lang/StringLatin1 -/
def k12 : Class := { plain "java/lang/StringLatin1" (some 0) with
  accessFlags := 48
  interfaces := #[]
  cf := some (fileOf pool12 14 #[.nestMembers #[390, 221]] #[{ accessFlags := 0, nameIndex := 7, descriptorIndex := 8, attributes := #[] }] 48 4 #[] #[{ accessFlags := 4120, nameIndex := 121, descriptorIndex := 122, attributes := #[] }])
  fields := #[{ name := "$assertionsDisabled", type := .boolean, accessFlags := 4120, slot := 0, constantValue := 0 }]
  methods := #[k12m0]
  instanceTypes := #[]
  staticTypes := #[.boolean]
  resolved := Array.replicate 395 none
  statics := none }

def pool13 : Array CpInfo := pool [(2, .class_ 4), (1, u "java/lang/Object"), (0, u "<init>"), (0, u "()V"), (17, .class_ 26), (1, u "jdk/internal/util/Preconditions"), (28, .class_ 56), (0, u "jdk/internal/util/Preconditions$4"), (57, .class_ 115), (0, u "jdk/internal/util/Preconditions$1"), (7, u "SIOOBE_FORMATTER"), (0, u "Ljava/util/function/BiFunction;"), (0, .class_ 126), (0, u "jdk/internal/util/Preconditions$2"), (3, u "AIOOBE_FORMATTER"), (0, .class_ 132), (0, u "jdk/internal/util/Preconditions$3"), (3, u "IOOBE_FORMATTER")] 57

def k13m0 : Method := { name := "<init>", desc := "()V", sig := { parameters := [], returnType := none }, accessFlags := 1, code := none }
/-- jdk/internal/util/Preconditions -/
def k13 : Class := { plain "jdk/internal/util/Preconditions" (some 0) with
  accessFlags := 33
  interfaces := #[]
  cf := some (fileOf pool13 24 #[.nestMembers #[55, 131, 125, 114]] #[{ accessFlags := 1, nameIndex := 5, descriptorIndex := 6, attributes := #[] }] 33 2 #[] #[{ accessFlags := 25, nameIndex := 123, descriptorIndex := 124, attributes := #[] }, { accessFlags := 25, nameIndex := 130, descriptorIndex := 124, attributes := #[] }, { accessFlags := 25, nameIndex := 136, descriptorIndex := 124, attributes := #[] }])
  fields := #[{ name := "SIOOBE_FORMATTER", type := (.object "java/util/function/BiFunction"), accessFlags := 25, slot := 0, constantValue := 0 }, { name := "AIOOBE_FORMATTER", type := (.object "java/util/function/BiFunction"), accessFlags := 25, slot := 1, constantValue := 0 }, { name := "IOOBE_FORMATTER", type := (.object "java/util/function/BiFunction"), accessFlags := 25, slot := 2, constantValue := 0 }]
  methods := #[k13m0]
  instanceTypes := #[]
  staticTypes := #[(.object "java/util/function/BiFunction"), (.object "java/util/function/BiFunction"), (.object "java/util/function/BiFunction")]
  resolved := Array.replicate 194 none
  statics := some 1 }

def pool14 : Array CpInfo := pool [(9, u "<init>"), (6, .class_ 18), (1, u "java/lang/Object"), (0, u "()V"), (1, .class_ 23), (1, u "jdk/internal/util/ArraysSupport"), (0, u "LOG2_ARRAY_LONG_INDEX_SCALE"), (0, u "I"), (2, u "U"), (0, u "Ljdk/internal/misc/Unsafe;"), (8, u "BIG_ENDIAN"), (0, u "Z"), (8, u "LOG2_BYTE_BIT_SIZE"), (4, u "LOG2_ARRAY_INT_INDEX_SCALE"), (54, u "JLA"), (0, u "Ljdk/internal/access/JavaLangAccess;"), (11, u "LOG2_ARRAY_BOOLEAN_INDEX_SCALE"), (9, u "LOG2_ARRAY_BYTE_INDEX_SCALE"), (5, u "LOG2_ARRAY_CHAR_INDEX_SCALE"), (5, u "LOG2_ARRAY_SHORT_INDEX_SCALE"), (18, u "LOG2_ARRAY_FLOAT_INDEX_SCALE"), (24, u "LOG2_ARRAY_DOUBLE_INDEX_SCALE"), (89, u "T_BOOLEAN"), (2, u "T_CHAR"), (1, u "T_FLOAT"), (1, u "T_DOUBLE"), (1, u "T_BYTE"), (1, u "T_SHORT"), (1, u "T_INT"), (1, u "T_LONG"), (1, u "SOFT_MAX_ARRAY_LENGTH")] 83

def k14m0 : Method := { name := "<init>", desc := "()V", sig := { parameters := [], returnType := none }, accessFlags := 2, code := none }
/-- jdk/internal/util/ArraysSupport -/
def k14 : Class := { plain "jdk/internal/util/ArraysSupport" (some 0) with
  accessFlags := 33
  interfaces := #[]
  cf := some (fileOf pool14 21 #[] #[{ accessFlags := 2, nameIndex := 9, descriptorIndex := 19, attributes := #[] }] 33 16 #[] #[{ accessFlags := 24, nameIndex := 28, descriptorIndex := 29, attributes := #[] }, { accessFlags := 26, nameIndex := 38, descriptorIndex := 39, attributes := #[] }, { accessFlags := 25, nameIndex := 121, descriptorIndex := 25, attributes := #[] }, { accessFlags := 25, nameIndex := 131, descriptorIndex := 25, attributes := #[] }, { accessFlags := 25, nameIndex := 137, descriptorIndex := 25, attributes := #[] }, { accessFlags := 25, nameIndex := 143, descriptorIndex := 25, attributes := #[] }, { accessFlags := 25, nameIndex := 53, descriptorIndex := 25, attributes := #[] }, { accessFlags := 25, nameIndex := 24, descriptorIndex := 25, attributes := #[] }, { accessFlags := 25, nameIndex := 162, descriptorIndex := 25, attributes := #[] }, { accessFlags := 25, nameIndex := 187, descriptorIndex := 25, attributes := #[] }, { accessFlags := 26, nameIndex := 48, descriptorIndex := 25, attributes := #[] }, { accessFlags := 25, nameIndex := 277, descriptorIndex := 25, attributes := #[] }, { accessFlags := 25, nameIndex := 280, descriptorIndex := 25, attributes := #[] }, { accessFlags := 25, nameIndex := 282, descriptorIndex := 25, attributes := #[] }, { accessFlags := 25, nameIndex := 284, descriptorIndex := 25, attributes := #[] }, { accessFlags := 25, nameIndex := 286, descriptorIndex := 25, attributes := #[] }, { accessFlags := 25, nameIndex := 288, descriptorIndex := 25, attributes := #[] }, { accessFlags := 25, nameIndex := 290, descriptorIndex := 25, attributes := #[] }, { accessFlags := 25, nameIndex := 292, descriptorIndex := 25, attributes := #[] }, { accessFlags := 26, nameIndex := 108, descriptorIndex := 109, attributes := #[] }, { accessFlags := 25, nameIndex := 294, descriptorIndex := 25, attributes := #[] }])
  fields := #[{ name := "U", type := (.object "jdk/internal/misc/Unsafe"), accessFlags := 24, slot := 0, constantValue := 0 }, { name := "BIG_ENDIAN", type := .boolean, accessFlags := 26, slot := 1, constantValue := 0 }, { name := "LOG2_ARRAY_BOOLEAN_INDEX_SCALE", type := .int, accessFlags := 25, slot := 2, constantValue := 0 }, { name := "LOG2_ARRAY_BYTE_INDEX_SCALE", type := .int, accessFlags := 25, slot := 3, constantValue := 0 }, { name := "LOG2_ARRAY_CHAR_INDEX_SCALE", type := .int, accessFlags := 25, slot := 4, constantValue := 0 }, { name := "LOG2_ARRAY_SHORT_INDEX_SCALE", type := .int, accessFlags := 25, slot := 5, constantValue := 0 }, { name := "LOG2_ARRAY_INT_INDEX_SCALE", type := .int, accessFlags := 25, slot := 6, constantValue := 0 }, { name := "LOG2_ARRAY_LONG_INDEX_SCALE", type := .int, accessFlags := 25, slot := 7, constantValue := 0 }, { name := "LOG2_ARRAY_FLOAT_INDEX_SCALE", type := .int, accessFlags := 25, slot := 8, constantValue := 0 }, { name := "LOG2_ARRAY_DOUBLE_INDEX_SCALE", type := .int, accessFlags := 25, slot := 9, constantValue := 0 }, { name := "LOG2_BYTE_BIT_SIZE", type := .int, accessFlags := 26, slot := 10, constantValue := 0 }, { name := "T_BOOLEAN", type := .int, accessFlags := 25, slot := 11, constantValue := 0 }, { name := "T_CHAR", type := .int, accessFlags := 25, slot := 12, constantValue := 0 }, { name := "T_FLOAT", type := .int, accessFlags := 25, slot := 13, constantValue := 0 }, { name := "T_DOUBLE", type := .int, accessFlags := 25, slot := 14, constantValue := 0 }, { name := "T_BYTE", type := .int, accessFlags := 25, slot := 15, constantValue := 0 }, { name := "T_SHORT", type := .int, accessFlags := 25, slot := 16, constantValue := 0 }, { name := "T_INT", type := .int, accessFlags := 25, slot := 17, constantValue := 0 }, { name := "T_LONG", type := .int, accessFlags := 25, slot := 18, constantValue := 0 }, { name := "JLA", type := (.object "jdk/internal/access/JavaLangAccess"), accessFlags := 26, slot := 19, constantValue := 0 }, { name := "SOFT_MAX_ARRAY_LENGTH", type := .int, accessFlags := 25, slot := 20, constantValue := 0 }]
  methods := #[k14m0]
  instanceTypes := #[]
  staticTypes := #[(.object "jdk/internal/misc/Unsafe"), .boolean, .int, .int, .int, .int, .int, .int, .int, .int, .int, .int, .int, .int, .int, .int, .int, .int, .int, (.object "jdk/internal/access/JavaLangAccess"), .int]
  resolved := Array.replicate 378 none
  statics := none }

def pool15 : Array CpInfo := pool [(1, u "java/lang/Cloneable"), (0, .class_ 1), (0, u "java/lang/Object"), (0, .class_ 3)] 3

/-- java/lang/Cloneable -/
def k15 : Class := { plain "java/lang/Cloneable" (some 0) with
  accessFlags := 1537
  interfaces := #[]
  cf := some (fileOf pool15 2 #[] #[] 1537 4 #[] #[])
  fields := #[]
  methods := #[]
  instanceTypes := #[]
  staticTypes := #[]
  resolved := Array.replicate 8 none
  statics := none }

/-- the primitive byte -/
def k16 : Class := { plain "byte" none with kind := .primitive 'B', accessFlags := 0x411 }
/-- [B -/
def k17 : Class := { plain "[B" (some 0) with kind := .array 16 .byte, interfaces := #[15, 5], accessFlags := 1041 }

/-- the primitive char -/
def k18 : Class := { plain "char" none with kind := .primitive 'C', accessFlags := 0x411 }
/-- [C -/
def k19 : Class := { plain "[C" (some 0) with kind := .array 18 .char, interfaces := #[15, 5], accessFlags := 1041 }

/-- the primitive int -/
def k20 : Class := { plain "int" none with kind := .primitive 'I', accessFlags := 0x411 }
/-- [I -/
def k21 : Class := { plain "[I" (some 0) with kind := .array 20 .int, interfaces := #[15, 5], accessFlags := 1041 }

def heap : Heap := #[{ cls := 10, slots := #[.long 0, .int 1, .null, .int 0, .null, .int 0, .int 0], vm := .statics 10 },
  { cls := 13, slots := #[.null, .null, .null], vm := .statics 13 }]
def classes : Array Class := #[k0, k1, k2, k3, k4, k5, k6, k7, k8, k9, k10, k11, k12, k13, k14, k15, k16, k17, k18, k19, k20, k21]
def interned : List (Array UInt16 × Addr) := []
def slotsUsed : Nat := 10
def theMethod : MethodId := ⟨1, 2⟩
def args0 : Array Value := #[.int 1, .int 3, .int 3, .int 65, .int 66, .int 7]
def aboutOver (below : List Frame) : State where
  vm := { classes := classes, interned := interned.toArray }
  heap := heap
  slotsUsed := slotsUsed
  threads := #[{ frames := .invoking theMethod args0 :: below }]
def below0 : List Frame := [.native { method := ⟨0, 0⟩, args := #[] }]
def about1 : State := aboutOver below0
def p0 : Program := .bare "" "" ""
def e0 : Env := launch0.env 0 0 0
theorem w_frames : about1.frames = Frame.invoking theMethod args0 :: below0 := rfl
set_option maxRecDepth 65536 in
theorem w_args : argsFit about1.vm theMethod args0 = true := by decide +kernel
set_option maxRecDepth 65536 in
theorem w_heap : heapFits about1 = true := by decide +kernel
set_option maxRecDepth 65536 in
theorem w_runnable : about1.curStatus? = some .runnable := by decide +kernel
set_option maxRecDepth 65536 in
theorem w_alone : about1.alone = true := by decide +kernel
set_option maxRecDepth 65536 in
theorem w_named : about1.methodNamed? x = some theMethod := by decide +kernel
set_option maxRecDepth 65536 in
theorem w_hears : about1.hears theMethod below0 = true := by decide +kernel
set_option maxRecDepth 65536 in
theorem w_ripe : about1.ripe theMethod args0 below0 = true := by decide +kernel
theorem w_running : about1.status = .running := rfl
set_option maxRecDepth 65536 in
theorem w_room : about1.hasRoom e0.platform room_1 = true :=
  launch0.hasRoom_least _ room_1 (by decide +kernel) (by decide +kernel) (by decide +kernel) (by decide +kernel) (by decide +kernel) (by decide +kernel)
theorem allAtoms_all (ts : List Jvm.Cond) (a : Array Jvm.Value) (st : Jvm.State) : (allAtoms ts).before a st = ts.all (fun c => c.before a st) := by
  induction ts with
  | nil => rfl
  | cons c t ih =>
    show (Jvm.Cond.and c (allAtoms t)).before a st = _
    rw [Jvm.Cond.before_and, ih, List.all_cons]
def words1 : List Jvm.Cond := Jvm.Cond.code x code maxLocals ret :: tables_1
/-- a 'code' word, met by the world's own term for the bytes: nothing is compared byte by byte -/
theorem code_word {y : MethodName} {bytes : ByteArray} {mx : Nat} {rt : Option FieldType} {a : Array Value} {s : State} {m : MethodId} {meth : Method} {c : Code} (h1 : s.methodNamed? y = some m) (h2 : s.vm.method? m = some meth) (h3 : meth.code = some c) (h4 : c.code = bytes)
    (h5 : (c.maxLocals == mx && c.exceptionTable.isEmpty && decide (c.maxStack ≤ mostOperands) && decide (meth.sig.returnType = rt) && !meth.locks && decide (parseMethodDescriptor y.desc = some meth.sig)) = true) : (Jvm.Cond.code y bytes mx rt).before a s = true := by
  simp only [Bool.and_eq_true, beq_iff_eq, Bool.not_eq_true', decide_eq_true_eq] at h5
  obtain ⟨⟨⟨⟨⟨g1, g2⟩, g3⟩, g4⟩, g5⟩, g6⟩ := h5
  simp [Cond.before, Cond.holds, Cond.value, h1, h2, h3, h4, g1, g2, g3, g4, g5, g6]
def isCode : Jvm.Cond → Bool
  | .code _ _ _ _ => true
  | _ => false
theorem all_split {L : List Jvm.Cond} {P : Jvm.Cond → Bool} (h1 : L.all (fun c => isCode c || P c) = true) (h2 : ∀ c ∈ L.filter isCode, P c = true) : L.all P = true := by
  refine List.all_eq_true.mpr fun c hc => ?_
  have h := List.all_eq_true.mp h1 c hc
  rcases Bool.eq_false_or_eq_true (isCode c) with hi | hi
  · exact h2 c (List.mem_filter.mpr ⟨hc, hi⟩)
  · simpa [hi] using h
set_option maxRecDepth 65536 in
theorem w_c0 : (Jvm.Cond.code x code maxLocals ret).before args0 about1 = true := code_word (m := ⟨1, 2⟩) (meth := k1m2) (c := k1c2) (by decide +kernel) rfl rfl rfl (by decide +kernel)
set_option maxRecDepth 65536 in
theorem w_c1 : (Jvm.Cond.code ({ cls := "com/example/enrichd/enrichd/core/Line", name := "<init>", desc := "(IIIII)V" } : Jvm.MethodName) prog_35_method_1_code (6 : Nat) (Option.none : Option Jvm.ClassFile.FieldType)).before args0 about1 = true := code_word (m := ⟨3, 0⟩) (meth := k3m0) (c := k3c0) (by decide +kernel) rfl rfl rfl (by decide +kernel)
set_option maxRecDepth 65536 in
theorem w_c2 : (Jvm.Cond.code ({ cls := "java/lang/Record", name := "<init>", desc := "()V" } : Jvm.MethodName) jdk_30_method_1_code (1 : Nat) (Option.none : Option Jvm.ClassFile.FieldType)).before args0 about1 = true := code_word (m := ⟨2, 0⟩) (meth := k2m0) (c := k2c0) (by decide +kernel) rfl rfl rfl (by decide +kernel)
set_option maxRecDepth 65536 in
theorem w_c3 : (Jvm.Cond.code ({ cls := "java/lang/Object", name := "<init>", desc := "()V" } : Jvm.MethodName) object_method_1_code (1 : Nat) (Option.none : Option Jvm.ClassFile.FieldType)).before args0 about1 = true := code_word (m := ⟨0, 0⟩) (meth := k0m0) (c := k0c0) (by decide +kernel) rfl rfl rfl (by decide +kernel)
set_option maxRecDepth 65536 in
theorem w_c4 : (Jvm.Cond.code ({ cls := "com/example/enrichd/enrichd/core/Block", name := "<init>", desc := "(Lcom/example/enrichd/enrichd/core/Line;Lcom/example/enrichd/enrichd/core/Line;ILjava/lang/String;)V" } : Jvm.MethodName) prog_3_method_1_code (5 : Nat) (Option.none : Option Jvm.ClassFile.FieldType)).before args0 about1 = true := code_word (m := ⟨4, 0⟩) (meth := k4m0) (c := k4c0) (by decide +kernel) rfl rfl rfl (by decide +kernel)
set_option maxRecDepth 65536 in
theorem w_c5 : (Jvm.Cond.code ({ cls := "com/example/enrichd/enrichd/core/Block", name := "of", desc := "(Lcom/example/enrichd/enrichd/core/Line;Lcom/example/enrichd/enrichd/core/Line;)Lcom/example/enrichd/enrichd/core/Block;" } : Jvm.MethodName) prog_3_method_2_code (2 : Nat) (Option.some (Jvm.ClassFile.FieldType.object "com/example/enrichd/enrichd/core/Block"))).before args0 about1 = true := code_word (m := ⟨4, 1⟩) (meth := k4m1) (c := k4c1) (by decide +kernel) rfl rfl rfl (by decide +kernel)
set_option maxRecDepth 65536 in
theorem w_c6 : (Jvm.Cond.code ({ cls := "com/example/enrichd/enrichd/core/Block", name := "isHeading", desc := "()Z" } : Jvm.MethodName) prog_3_method_3_code (1 : Nat) (Option.some Jvm.ClassFile.FieldType.boolean)).before args0 about1 = true := code_word (m := ⟨4, 2⟩) (meth := k4m2) (c := k4c2) (by decide +kernel) rfl rfl rfl (by decide +kernel)
set_option maxRecDepth 65536 in
theorem w_c7 : (Jvm.Cond.code ({ cls := "com/example/enrichd/enrichd/core/BlockIsHeadingPinLaw", name := "drawn", desc := "(III)Ljava/lang/String;" } : Jvm.MethodName) method_2_code (5 : Nat) (Option.some (Jvm.ClassFile.FieldType.object "java/lang/String"))).before args0 about1 = true := code_word (m := ⟨1, 1⟩) (meth := k1m1) (c := k1c1) (by decide +kernel) rfl rfl rfl (by decide +kernel)
set_option maxRecDepth 65536 in
theorem w_c8 : (Jvm.Cond.code ({ cls := "java/lang/String", name := "<init>", desc := "([C)V" } : Jvm.MethodName) jdk_42_method_3_code (2 : Nat) (Option.none : Option Jvm.ClassFile.FieldType)).before args0 about1 = true := code_word (m := ⟨10, 1⟩) (meth := k10m1) (c := k10c1) (by decide +kernel) rfl rfl rfl (by decide +kernel)
set_option maxRecDepth 65536 in
theorem w_c9 : (Jvm.Cond.code ({ cls := "java/lang/String", name := "<init>", desc := "([CIILjava/lang/Void;)V" } : Jvm.MethodName) jdk_42_method_149_code (6 : Nat) (Option.none : Option Jvm.ClassFile.FieldType)).before args0 about1 = true := code_word (m := ⟨10, 2⟩) (meth := k10m2) (c := k10c2) (by decide +kernel) rfl rfl rfl (by decide +kernel)
set_option maxRecDepth 65536 in
theorem w_c10 : (Jvm.Cond.code ({ cls := "java/lang/StringUTF16", name := "compress", desc := "([CII)[B" } : Jvm.MethodName) jdk_52_method_16_code (6 : Nat) (Option.some (Jvm.ClassFile.FieldType.array Jvm.ClassFile.FieldType.byte))).before args0 about1 = true := code_word (m := ⟨11, 2⟩) (meth := k11m2) (c := k11c2) (by decide +kernel) rfl rfl rfl (by decide +kernel)
set_option maxRecDepth 65536 in
theorem w_c11 : (Jvm.Cond.code ({ cls := "java/lang/StringUTF16", name := "compress", desc := "([CI[BII)I" } : Jvm.MethodName) jdk_52_method_21_code (7 : Nat) (Option.some Jvm.ClassFile.FieldType.int)).before args0 about1 = true := code_word (m := ⟨11, 3⟩) (meth := k11m3) (c := k11c3) (by decide +kernel) rfl rfl rfl (by decide +kernel)
set_option maxRecDepth 65536 in
theorem w_c12 : (Jvm.Cond.code ({ cls := "java/lang/StringUTF16", name := "coderFromArrayLen", desc := "([BI)B" } : Jvm.MethodName) jdk_52_method_15_code (2 : Nat) (Option.some Jvm.ClassFile.FieldType.byte)).before args0 about1 = true := code_word (m := ⟨11, 1⟩) (meth := k11m1) (c := k11c1) (by decide +kernel) rfl rfl rfl (by decide +kernel)
def codes1 : List Jvm.Cond := [Jvm.Cond.code x code maxLocals ret, Jvm.Cond.code ({ cls := "com/example/enrichd/enrichd/core/Line", name := "<init>", desc := "(IIIII)V" } : Jvm.MethodName) prog_35_method_1_code (6 : Nat) (Option.none : Option Jvm.ClassFile.FieldType), Jvm.Cond.code ({ cls := "java/lang/Record", name := "<init>", desc := "()V" } : Jvm.MethodName) jdk_30_method_1_code (1 : Nat) (Option.none : Option Jvm.ClassFile.FieldType), Jvm.Cond.code ({ cls := "java/lang/Object", name := "<init>", desc := "()V" } : Jvm.MethodName) object_method_1_code (1 : Nat) (Option.none : Option Jvm.ClassFile.FieldType), Jvm.Cond.code ({ cls := "com/example/enrichd/enrichd/core/Block", name := "<init>", desc := "(Lcom/example/enrichd/enrichd/core/Line;Lcom/example/enrichd/enrichd/core/Line;ILjava/lang/String;)V" } : Jvm.MethodName) prog_3_method_1_code (5 : Nat) (Option.none : Option Jvm.ClassFile.FieldType), Jvm.Cond.code ({ cls := "com/example/enrichd/enrichd/core/Block", name := "of", desc := "(Lcom/example/enrichd/enrichd/core/Line;Lcom/example/enrichd/enrichd/core/Line;)Lcom/example/enrichd/enrichd/core/Block;" } : Jvm.MethodName) prog_3_method_2_code (2 : Nat) (Option.some (Jvm.ClassFile.FieldType.object "com/example/enrichd/enrichd/core/Block")), Jvm.Cond.code ({ cls := "com/example/enrichd/enrichd/core/Block", name := "isHeading", desc := "()Z" } : Jvm.MethodName) prog_3_method_3_code (1 : Nat) (Option.some Jvm.ClassFile.FieldType.boolean), Jvm.Cond.code ({ cls := "com/example/enrichd/enrichd/core/BlockIsHeadingPinLaw", name := "drawn", desc := "(III)Ljava/lang/String;" } : Jvm.MethodName) method_2_code (5 : Nat) (Option.some (Jvm.ClassFile.FieldType.object "java/lang/String")), Jvm.Cond.code ({ cls := "java/lang/String", name := "<init>", desc := "([C)V" } : Jvm.MethodName) jdk_42_method_3_code (2 : Nat) (Option.none : Option Jvm.ClassFile.FieldType), Jvm.Cond.code ({ cls := "java/lang/String", name := "<init>", desc := "([CIILjava/lang/Void;)V" } : Jvm.MethodName) jdk_42_method_149_code (6 : Nat) (Option.none : Option Jvm.ClassFile.FieldType), Jvm.Cond.code ({ cls := "java/lang/StringUTF16", name := "compress", desc := "([CII)[B" } : Jvm.MethodName) jdk_52_method_16_code (6 : Nat) (Option.some (Jvm.ClassFile.FieldType.array Jvm.ClassFile.FieldType.byte)), Jvm.Cond.code ({ cls := "java/lang/StringUTF16", name := "compress", desc := "([CI[BII)I" } : Jvm.MethodName) jdk_52_method_21_code (7 : Nat) (Option.some Jvm.ClassFile.FieldType.int), Jvm.Cond.code ({ cls := "java/lang/StringUTF16", name := "coderFromArrayLen", desc := "([BI)B" } : Jvm.MethodName) jdk_52_method_15_code (2 : Nat) (Option.some Jvm.ClassFile.FieldType.byte)]
set_option maxRecDepth 65536 in
theorem codes_eq : words1.filter isCode = codes1 := rfl
theorem w_codes : ∀ c ∈ words1.filter isCode, c.before args0 about1 = true := by
  rw [codes_eq]
  intro c hc
  simp only [codes1, List.mem_cons, List.not_mem_nil, or_false] at hc
  rcases hc with rfl | rfl | rfl | rfl | rfl | rfl | rfl | rfl | rfl | rfl | rfl | rfl | rfl
  · exact w_c0
  · exact w_c1
  · exact w_c2
  · exact w_c3
  · exact w_c4
  · exact w_c5
  · exact w_c6
  · exact w_c7
  · exact w_c8
  · exact w_c9
  · exact w_c10
  · exact w_c11
  · exact w_c12
set_option maxRecDepth 65536 in
theorem w_t1 : (words1.take 24).all (fun c => isCode c || c.before args0 about1) = true := by decide +kernel
set_option maxRecDepth 65536 in
theorem w_t2 : ((words1.drop 24).take 24).all (fun c => isCode c || c.before args0 about1) = true := by decide +kernel
set_option maxRecDepth 65536 in
theorem w_t3 : (((words1.drop 24).drop 24).take 24).all (fun c => isCode c || c.before args0 about1) = true := by decide +kernel
set_option maxRecDepth 65536 in
theorem w_t4 : (((words1.drop 24).drop 24).drop 24).all (fun c => isCode c || c.before args0 about1) = true := by decide +kernel
theorem w_tables : (allAtoms (Jvm.Cond.code x code maxLocals ret :: tables_1)).before args0 about1 = true := by
  rw [allAtoms_all]
  show words1.all (fun c => c.before args0 about1) = true
  refine all_split ?_ w_codes
  rw [← List.take_append_drop 24 words1, List.all_append, w_t1, ← List.take_append_drop 24 (words1.drop 24), List.all_append, w_t2, ← List.take_append_drop 24 ((words1.drop 24).drop 24), List.all_append, w_t3, w_t4]
  rfl
set_option maxRecDepth 65536 in
theorem w_rest : rest_1_c.before args0 about1 = true := by decide +kernel
set_option maxRecDepth 65536 in
theorem w_case : (Jvm.Cond.and given_1 narrow_1).before args0 about1 = true := by decide +kernel
set_option maxRecDepth 65536 in
theorem w_consts : constsHeld consts_1 about1 := Jvm.Lit.constsHeldB_iff.mp (by decide +kernel)
theorem w_applies : (headSpec (Jvm.Cond.code x code maxLocals ret :: tables_1) room_1).applies x e0.platform about1 = true :=
  (Spec.applies_iff w_frames).mpr ⟨w_running, w_runnable, w_alone, w_named, w_hears, w_ripe, w_room, w_tables⟩
theorem atStart : AtStart classFile x code maxLocals ret World_1 tables_1 room_1 Calls_1 rest_1 Pre_1 launch0 p0 e0 about1 theMethod args0 below0 :=
  ⟨lists_1, trivial, launch0.admits_env _ _ _, launch0.least_env, fairChoices_fair.cas, fairChoices_fair.clock, w_frames, w_args, w_heap, w_applies, ⟨w_consts, trivial⟩, w_rest, w_case⟩
end start1
theorem witness_1 : WitnessClaimed_1 := ⟨start1.p0, start1.e0, start1.about1, start1.theMethod, start1.args0, start1.below0, start1.atStart⟩
end Jvm.Pilot.@@N@@
