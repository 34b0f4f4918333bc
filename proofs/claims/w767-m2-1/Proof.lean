import JvmDerived
import JvmDerived.Pilot.@@N@@Statement
import JvmDerived.Pilot.@@N@@Code
set_option linter.unusedVariables false
set_option linter.unusedSimpArgs false
namespace Jvm.Pilot.@@N@@
open Jvm Jvm.ClassFile Sem Op Lib Jvm.Free Jvm.Stand Jvm.LawKit Jvm.RoadKit Bundle Jvm.Pilot.@@N@@.Jvm.D
/-! own: the walk in continuation form: 'from the state A the body ends, and then Q' -/
def OwnWk (p : Program) (e : Env) (below : List Frame) (P : Option Value → State → List Loc → Prop) (A : State) : Prop :=
  ∃ s₂ v L, Steps p.tables e below A s₂ ∧ s₂.status = .running ∧ Ended s₂ below (.returned v) ∧ P v s₂ L
abbrev OwnP (s : State) (Q : Option Value → Heap → List Loc → Prop) (k n : Nat) : Option Value → State → List Loc → Prop := fun v t L => Q v t.heap L ∧ FrameEnd s (.returned v) t L k n
def OwnMet (l : Launch) (y : MethodName) (bytes : ByteArray) (maxL : Nat) (ret : Option FieldType) (ws : List Jvm.Cond) (rm : Room) (Z : State) (as' : Array Value) (h0 : Heap) (Q : Option Value → Heap → List Loc → Prop) : Prop :=
  MetFree l y (head1 (Jvm.Cond.code y bytes maxL ret :: ws) rm) (fun a U => a = as' ∧ Z.Warmed39 U.vm ∧ U.heap = h0) (fun _ _ _ _ _ => True)
    (fun _ U o U' => ∃ v L, o = .returned v ∧ Q v U'.heap L ∧ FrameEnd U o U' L rm.cells rm.slots)
def OAr (Z : State) (h : Heap) (a : Addr) (ty : FieldType) (vs : List Value) : Prop := ∃ c : Cell, Arr Z h a c ty ∧ c.slots = vs.toArray
theorem OAr.ext {Z : State} {h h' : Heap} {a : Addr} {ty : FieldType} {vs : List Value} (A : OAr Z h a ty vs) (E : Ext h h') : OAr Z h' a ty vs := by
  obtain ⟨c, A, e⟩ := A; exact ⟨c, A.ext E, e⟩
theorem OAr.other {Z : State} {h h' : Heap} {a b : Addr} {ty : FieldType} {vs : List Value} {sl : Nat} {v : Value} (A : OAr Z h b ty vs) (W : Wr h h' a sl v) (q : b ≠ a) : OAr Z h' b ty vs := by
  obtain ⟨c, A, e⟩ := A; exact ⟨c, A.other W q, e⟩
theorem OAr.keep {Z : State} {h h' : Heap} {a : Addr} {ty : FieldType} {vs : List Value} {ws : List Addr} (A : OAr Z h a ty vs) (K : Keep h h' ws) (q : a ∉ ws) : OAr Z h' a ty vs := by
  obtain ⟨c, A, e⟩ := A; exact ⟨c, ⟨K.2.1 a c A.1 q, A.2⟩, e⟩
theorem OAr.lt {Z : State} {h : Heap} {a : Addr} {ty : FieldType} {vs : List Value} (A : OAr Z h a ty vs) : a < h.size := by
  obtain ⟨c, A, e⟩ := A; exact A.lt
theorem OAr.set {Z : State} {h h' : Heap} {a : Addr} {ty : FieldType} {vs : List Value} {sl : Nat} {v : Value} (A : OAr Z h a ty vs) (W : Wr h h' a sl v) : OAr Z h' a ty (vs.set sl v) := by
  obtain ⟨c, A, e⟩ := A
  refine ⟨_, A.same W, ?_⟩
  show c.slots.setIfInBounds sl v = _
  rw [e]; simp
theorem own_plE {Z : State} {h : Heap} {a : Addr} {C : String} (E : Exa Z h a C) : ∀ c : Cell, h[a]? = some c → c.vm.isStatics = false := fun c hc => by
  obtain ⟨c', k, h1, -, -, h4, -⟩ := E; cases h1.symm.trans hc; exact h4
theorem own_plV {Z : State} {h : Heap} {a : Addr} {ty : FieldType} {vs : List Value} (A : OAr Z h a ty vs) : ∀ c : Cell, h[a]? = some c → c.vm.isStatics = false := fun c hc => by
  obtain ⟨c', A, -⟩ := A; cases A.1.symm.trans hc; exact A.plain
theorem own_sta_keep {Z : State} {h h' : Heap} {ws : List Addr} {O f d : String} {v : Value} (F : Sta Z h O f d v) (K : Keep h h' ws) (q : ∀ x ∈ ws, ∀ c : Cell, h[x]? = some c → c.vm.isStatics = false) : Sta Z h' O f d v := by
  obtain ⟨cf, i, k, f, st, cell, h1, h2, h3, h4, h5, h6, h7⟩ := F
  refine ⟨cf, i, k, f, st, cell, h1, h2, h3, h4, K.2.1 st cell h5 (fun m => ?_), h6, h7⟩
  have := q st m cell h5
  rw [h6] at this; cases this
theorem own_ins_keep {Z : State} {h h' : Heap} {ws : List Addr} {a : Addr} {C : String} {b : Bool} (F : Ins Z h a C b) (K : Keep h h' ws) : Ins Z h' a C b := by
  obtain ⟨cell, cT, h1, h2, h3⟩ := F
  obtain ⟨c', q, r1, r2, -⟩ := K.2.2 a cell h1
  exact ⟨c', cT, q, h2, by rw [r1, r2]; exact h3⟩
section Own
variable {p : Program} {l : Launch} {e : Env} {R : Room} {s : State} {m : MethodId} {args : Array Value} {below : List Frame} {meth : Method} {c : Code} {T : State} {locs : List Loc} {cells slots : Nat}
  {P : Option Value → State → List Loc → Prop} {Q : Option Value → Heap → List Loc → Prop} {k n : Nat} {Z : State} {a0 : Array Value} {h : Heap} {g : JFrame} {rest : List Value}
theorem own_go {A B : State} (st : ∀ t, Steps p.tables e below B t → Steps p.tables e below A t) (h : OwnWk p e below P B) : OwnWk p e below P A := by
  obtain ⟨s₂, v, L, h1, r⟩ := h; exact ⟨s₂, v, L, st _ h1, r⟩
theorem own_met {y : MethodName} {bytes : ByteArray} {maxL : Nat} {ret : Option FieldType} {ws : List Jvm.Cond} {rm : Room} {as' : Array Value} {h0 : Heap} (hpl : plainFor y = true)
    (body : ∀ (p : Program) (e : Env) (s : State) (m : MethodId) (below : List Frame) (meth : Method) (c : Code) (s₁ : State), p.tables.exec = Jvm.exec → c.code = bytes → c.maxLocals = maxL → s.vm.findClass y.cls = some m.cls → meth.name = y.name → meth.sig.returnType = ret → meth.locks = false → Z.Warmed39 s.vm →
      Stand p l e rm s m as' below meth c s₁ [] 0 0 → s₁.heap = h0 → OwnWk p e below (OwnP s Q rm.cells rm.slots) (s₁.setTop (entryFrame m as' maxL))) : OwnMet l y bytes maxL ret ws rm Z as' h0 Q := by
  refine MetFree.of_bodySF hpl hisR ?_
  intro p e s m args below meth c s₁ Bd hml0 hP hK
  obtain ⟨rfl, hZ, hh⟩ := hP
  obtain ⟨s₂, v, L, h1, h2, h3, h4, h5⟩ := body p e s m below meth c s₁ Bd.exec Bd.bytes hml0 (findClass_of_methodNamed Bd.named) (name_of_methodNamed Bd.named Bd.method).1 Bd.returns (BodyLoose.notSynchronized Bd) hZ (Stand.of_body Bd) (by rw [← hh, Bd.state]; rfl)
  exact ⟨s₂, _, h1, h2, h3, v, L, rfl, h4, h5⟩
theorem own_out0 {A : State} {v : Option Value} (X : Stand p l e R s m args below meth c T locs cells slots) (hlk : meth.locks = false) (hv : meth.sig.returnType = none → v = none)
    (st : ∀ fs, (∀ (f : JFrame) (acts : List Action), f.method = m → f.locked = none → f.entered = [] → (doReturn e (T.setTop f) acts v).1 = T.setFrames fs) → Steps p.tables e below A (T.setFrames fs))
    (hq : ∀ t : State, t.heap = T.heap → FrameEnd s (.returned v) t locs cells slots → P v t locs) : OwnWk p e below P A := by
  obtain ⟨fs, hr, hrun, hended, hW, hsame⟩ := X.leave (v := v) hv hlk
  exact ⟨_, v, locs, st fs hr, hrun, hended, hq _ rfl ⟨⟨v, rfl⟩, hW, hsame⟩⟩
theorem own_out {A : State} {v : Option Value} (X : Stand p l e R s m args below meth c T locs cells slots) (hlk : meth.locks = false) (hv : meth.sig.returnType = none → v = none)
    (st : ∀ fs, (∀ (f : JFrame) (acts : List Action), f.method = m → f.locked = none → f.entered = [] → (doReturn e (T.setTop f) acts v).1 = T.setFrames fs) → Steps p.tables e below A (T.setFrames fs))
    (hc : cells ≤ k) (hs : slots ≤ n) (hq : Q v T.heap locs) : OwnWk p e below (OwnP s Q k n) A :=
  own_out0 X hlk hv st fun t ht hF => ⟨by rw [ht]; exact hq, hF.1, hF.2.1, hF.2.2.mono hc hs⟩
theorem own_retI (X : Stand p l e R s m args below meth c T locs cells slots) (hx : p.tables.exec = Jvm.exec) (hlk : meth.locks = false) (hret : meth.sig.returnType = some .int) {pc : Nat} {Ls : Array Slot} {z : Int32} (hd : decode c.code pc = .ok (.ireturn, 1)) (hc : cells ≤ k) (hs : slots ≤ n)
    (hq : Q (some (.int z)) T.heap locs) : OwnWk p e below (OwnP s Q k n) (T.setTop (mkF m pc Ls (.int z :: rest))) :=
  own_out X hlk (fun q => by rw [hret] at q; cases q) (fun fs hr => retOut X hx hret rfl (Or.inl ⟨rfl, Or.inl rfl, z, rfl⟩) hd hr) hc hs hq
theorem own_retZ (X : Stand p l e R s m args below meth c T locs cells slots) (hx : p.tables.exec = Jvm.exec) (hlk : meth.locks = false) {t : FieldType} (hret : meth.sig.returnType = some t) (ht : t = .boolean ∨ t = .byte ∨ t = .char ∨ t = .short) {pc : Nat} {Ls : Array Slot} {z z' : Int32} (hz : nar t z = z') (hd : decode c.code pc = .ok (.ireturn, 1)) (hc : cells ≤ k) (hs : slots ≤ n)
    (hq : Q (some (.int z')) T.heap locs) : OwnWk p e below (OwnP s Q k n) (T.setTop (mkF m pc Ls (.int z :: rest))) := by
  subst hz
  exact own_out X hlk (fun q => by rw [hret] at q; cases q) (fun fs hr => retN X hx hret ht hd hr) hc hs hq
theorem own_retJ (X : Stand p l e R s m args below meth c T locs cells slots) (hx : p.tables.exec = Jvm.exec) (hlk : meth.locks = false) (hret : meth.sig.returnType = some .long) {pc : Nat} {Ls : Array Slot} {z : Int64} (hd : decode c.code pc = .ok (.lreturn, 1)) (hc : cells ≤ k) (hs : slots ≤ n)
    (hq : Q (some (.long z)) T.heap locs) : OwnWk p e below (OwnP s Q k n) (T.setTop (mkF m pc Ls (.long z :: rest))) :=
  own_out X hlk (fun q => by rw [hret] at q; cases q) (fun fs hr => retOut X hx hret rfl (Or.inr (Or.inl ⟨rfl, rfl, z, rfl⟩)) hd hr) hc hs hq
theorem own_retA (X : Stand p l e R s m args below meth c T locs cells slots) (hx : p.tables.exec = Jvm.exec) (hlk : meth.locks = false) {t : FieldType} (hret : meth.sig.returnType = some t) (ht : t.isReference = true) {pc : Nat} {Ls : Array Slot} {v : Value} (hv : v.isRef = true) (hn : narrow t v = v) (hd : decode c.code pc = .ok (.areturn, 1)) (hc : cells ≤ k) (hs : slots ≤ n)
    (hq : Q (some v) T.heap locs) : OwnWk p e below (OwnP s Q k n) (T.setTop (mkF m pc Ls (v :: rest))) :=
  own_out X hlk (fun q => by rw [hret] at q; cases q) (fun fs hr => retOut X hx hret hn (Or.inr (Or.inr (Or.inr (Or.inr ⟨rfl, ht, hv⟩)))) hd hr) hc hs hq
theorem own_retV (X : Stand p l e R s m args below meth c T locs cells slots) (hx : p.tables.exec = Jvm.exec) (hlk : meth.locks = false) (hret : meth.sig.returnType = none) {pc : Nat} {Ls : Array Slot} (hd : decode c.code pc = .ok (.return_, 1)) (hc : cells ≤ k) (hs : slots ≤ n)
    (hq : Q none T.heap locs) : OwnWk p e below (OwnP s Q k n) (T.setTop (mkF m pc Ls [])) :=
  own_out X hlk (fun _ => rfl) (fun fs hr => X.returnOut hx hret hd hr) hc hs hq
/-! calls by a contract -/
variable {own C : String} {idx cnt : Nat} {y z : MethodName} {bytes : ByteArray} {maxL : Nat} {ret : Option FieldType} {rm : Room} {Q' : Option Value → Heap → List Loc → Prop} {W : Nat} {argsL : List Value} {a b : Addr}
theorem OwnMet.back {len : Nat} {as' : Array Value} (hM : OwnMet l y bytes maxL ret [] rm Z as' h Q') (hZ : Z.Warmed39 s.vm) (wc : (Jvm.Cond.code y bytes maxL ret).before a0 Z = true) (wz : (Jvm.Cond.initialized y.cls).before a0 Z = true) (hf : rm.frames + 1 ≤ R.frames) (hl : W + (maxL + 11) + rm.locals ≤ R.locals) :
    Back l R p e below s args y len W (fun A a => a = as' ∧ A.U.heap = h ∧ A.cells + rm.cells ≤ R.cells ∧ A.slots + rm.slots ≤ R.slots)
      (fun A _ v B => ∃ L, Q' v B.U.heap L ∧ B.locs = A.locs ++ L ∧ B.cells = A.cells + rm.cells ∧ B.slots = A.slots + rm.slots) := backOf (Q := Q') hM hZ wc wz hf hl
theorem own_callS (X : Stand p l e R s m args below meth c T locs cells slots) (hx : p.tables.exec = Jvm.exec) (hZ : Z.Warmed39 s.vm) (hown : s.vm.findClass own = some m.cls)
    (w1 : (Jvm.Cond.methodLink own idx y).before a0 Z = true) (w2 : (Jvm.Cond.static y).before a0 Z = true) (w3 : (Jvm.Cond.initialized y.cls).before a0 Z = true) (w4 : (Jvm.Cond.code y bytes maxL ret).before a0 Z = true)
    (hy : y.cls ≠ "java/lang/invoke/MethodHandle" ∧ y.cls ≠ "java/lang/invoke/VarHandle") (hM : OwnMet l y bytes maxL ret [] rm Z argsL.toArray h Q') (eT : T.heap = h)
    (hf : rm.frames + 1 ≤ R.frames) (hl : W + (maxL + 11) + rm.locals ≤ R.locals) (hc : cells + rm.cells ≤ R.cells) (hs : slots + rm.slots ≤ R.slots)
    (hg : g.method = m) (hsize : g.locals.size = c.maxLocals) (hlen : ∀ sig, parseMethodDescriptor y.desc = some sig → argsL.length = sig.parameters.length) (hstack : g.stack = argsL.reverse ++ rest)
    (hW : 2 * g.monitorRoom + (rest.map fun v => v.category).sum ≤ W) (hd : decode c.code g.pc = .ok (.invokestatic idx, 3))
    (K : ∀ v T' h' L, Stand p l e R s m args below meth c T' (locs ++ L) (cells + rm.cells) (slots + rm.slots) → T'.heap = h' → Q' v h' L → OwnWk p e below P (T'.setTop { g with pc := g.pc + 3, stack := v.toList ++ rest })) :
    OwnWk p e below P (T.setTop g) := by
  obtain ⟨v, vm₁, ⟨T', L', k', n'⟩, -, X', ⟨L, hQ, e1, e2, e3⟩, st⟩ := Jvm.LawKit.callS X hx hown (mvT hZ w1) (mvT hZ w2) (mvT hZ w3) (mvT hZ w4) hy (hM.back hZ w4 w3 hf hl) hg hsize hlen hstack hW hd (fun _ _ => ⟨rfl, eT, hc, hs⟩)
  dsimp only [Pt.U, Pt.locs, Pt.cells, Pt.slots] at X' e1 e2 e3 st hQ
  subst e1 e2 e3
  exact own_go st (K v T' _ L X' rfl hQ)
theorem own_callC (X : Stand p l e R s m args below meth c T locs cells slots) (hx : p.tables.exec = Jvm.exec) (hZ : Z.Warmed39 s.vm) (hown : s.vm.findClass own = some m.cls) (hy1 : y.name = "<init>")
    (w1 : (Jvm.Cond.methodLink own idx y).before a0 Z = true) (w2 : (Jvm.Cond.instanceMethod y).before a0 Z = true) (w3 : (Jvm.Cond.initialized y.cls).before a0 Z = true) (w4 : (Jvm.Cond.code y bytes maxL none).before a0 Z = true)
    (hy : y.cls ≠ "java/lang/invoke/MethodHandle" ∧ y.cls ≠ "java/lang/invoke/VarHandle") (hM : OwnMet l y bytes maxL none [] rm Z (.ref a :: argsL).toArray h Q') (eT : T.heap = h)
    (hf : rm.frames + 1 ≤ R.frames) (hl : W + (maxL + 11) + rm.locals ≤ R.locals) (hc : cells + rm.cells ≤ R.cells) (hs : slots + rm.slots ≤ R.slots)
    (hg : g.method = m) (hsize : g.locals.size = c.maxLocals) (hlen : ∀ sig, parseMethodDescriptor y.desc = some sig → argsL.length = sig.parameters.length) (hstack : g.stack = argsL.reverse ++ .ref a :: rest)
    (hW : 2 * g.monitorRoom + (rest.map fun v => v.category).sum ≤ W) (hd : decode c.code g.pc = .ok (.invokespecial idx, 3))
    (K : ∀ v T' h' L, Stand p l e R s m args below meth c T' (locs ++ L) (cells + rm.cells) (slots + rm.slots) → T'.heap = h' → Q' v h' L → OwnWk p e below P (T'.setTop { g with pc := g.pc + 3, stack := v.toList ++ rest })) :
    OwnWk p e below P (T.setTop g) := by
  obtain ⟨v, vm₁, ⟨T', L', k', n'⟩, -, X', ⟨L, hQ, e1, e2, e3⟩, st⟩ := X.specialBack hx hy1 hown (mvT hZ w1) (mvT hZ w2) (mvT hZ w4) hy (hM.back hZ w4 w3 hf hl) hg hsize (Steps.refl _) hlen hstack hW hd (fun _ _ => ⟨rfl, eT, hc, hs⟩)
  dsimp only [Pt.U, Pt.locs, Pt.cells, Pt.slots] at X' e1 e2 e3 st hQ
  subst e1 e2 e3
  exact own_go (fun t q => st.trans q) (K v T' _ L X' rfl hQ)
theorem own_callV (X : Stand p l e R s m args below meth c T locs cells slots) (hx : p.tables.exec = Jvm.exec) (hZ : Z.Warmed39 s.vm) (hown : s.vm.findClass own = some m.cls)
    (w1 : (Jvm.Cond.methodLink own idx y).before a0 Z = true) (w2 : (Jvm.Cond.declares y).before a0 Z = true) (nf : NotFace s y) (w5 : (Jvm.Cond.selects C y z).before a0 Z = true) (w6 : (Jvm.Cond.instanceMethod z).before a0 Z = true) (w3 : (Jvm.Cond.initialized z.cls).before a0 Z = true) (w4 : (Jvm.Cond.code z bytes maxL ret).before a0 Z = true)
    (hy : y.cls ≠ "java/lang/invoke/MethodHandle" ∧ y.cls ≠ "java/lang/invoke/VarHandle") (E : Exa Z h a C) (hM : OwnMet l z bytes maxL ret [] rm Z (.ref a :: argsL).toArray h Q') (eT : T.heap = h)
    (hf : rm.frames + 1 ≤ R.frames) (hl : W + (maxL + 11) + rm.locals ≤ R.locals) (hc : cells + rm.cells ≤ R.cells) (hs : slots + rm.slots ≤ R.slots)
    (hg : g.method = m) (hsize : g.locals.size = c.maxLocals) (hlen : ∀ sig, parseMethodDescriptor y.desc = some sig → argsL.length = sig.parameters.length) (hstack : g.stack = argsL.reverse ++ .ref a :: rest)
    (hW : 2 * g.monitorRoom + (rest.map fun v => v.category).sum ≤ W) (hd : decode c.code g.pc = .ok (.invokevirtual idx, 3))
    (K : ∀ v T' h' L, Stand p l e R s m args below meth c T' (locs ++ L) (cells + rm.cells) (slots + rm.slots) → T'.heap = h' → Q' v h' L → OwnWk p e below P (T'.setTop { g with pc := g.pc + 3, stack := v.toList ++ rest })) :
    OwnWk p e below P (T.setTop g) := by
  obtain ⟨cq, kq, q1, q2, q3⟩ := isOf hZ eT E
  obtain ⟨v, vm₁, ⟨T', L', k', n'⟩, -, X', ⟨L, hQ, e1, e2, e3⟩, st⟩ := X.virtualBack hx hown (mvT hZ w1) (mvT hZ w2) nf (mvT hZ w5) (mvT hZ w6) hy (hM.back hZ w4 w3 hf hl) q1 q3 hg hsize (Steps.refl _) hlen hstack hW hd (fun _ _ => ⟨rfl, eT, hc, hs⟩)
  dsimp only [Pt.U, Pt.locs, Pt.cells, Pt.slots] at X' e1 e2 e3 st hQ
  subst e1 e2 e3
  exact own_go (fun t q => st.trans q) (K v T' _ L X' rfl hQ)
theorem own_callI (X : Stand p l e R s m args below meth c T locs cells slots) (hx : p.tables.exec = Jvm.exec) (hZ : Z.Warmed39 s.vm) (hown : s.vm.findClass own = some m.cls)
    (w1 : (Jvm.Cond.methodLink own idx y).before a0 Z = true) (w2 : (Jvm.Cond.declares y).before a0 Z = true) (w7 : (Jvm.Cond.interfaceMethod y.cls y.cls y.name y.desc).before args s = true) (w5 : (Jvm.Cond.selects C y z).before a0 Z = true) (w6 : (Jvm.Cond.instanceMethod z).before a0 Z = true)
    (w8 : (Jvm.Cond.publicMethod z).before a0 Z = true) (w9 : (Jvm.Cond.unhidden C y.name y.desc).before a0 Z = true) (w10 : (Jvm.Cond.castable C y.cls).before a0 Z = true) (w3 : (Jvm.Cond.initialized z.cls).before a0 Z = true) (w4 : (Jvm.Cond.code z bytes maxL ret).before a0 Z = true)
    (hy : y.cls ≠ "java/lang/invoke/MethodHandle" ∧ y.cls ≠ "java/lang/invoke/VarHandle") (E : Exa Z h a C) (hM : OwnMet l z bytes maxL ret [] rm Z (.ref a :: argsL).toArray h Q') (eT : T.heap = h)
    (hf : rm.frames + 1 ≤ R.frames) (hl : W + (maxL + 11) + rm.locals ≤ R.locals) (hc : cells + rm.cells ≤ R.cells) (hs : slots + rm.slots ≤ R.slots)
    (hg : g.method = m) (hsize : g.locals.size = c.maxLocals) (hlen : ∀ sig, parseMethodDescriptor y.desc = some sig → argsL.length = sig.parameters.length) (hstack : g.stack = argsL.reverse ++ .ref a :: rest)
    (hW : 2 * g.monitorRoom + (rest.map fun v => v.category).sum ≤ W) (hd : decode c.code g.pc = .ok (.invokeinterface idx cnt, 5))
    (K : ∀ v T' h' L, Stand p l e R s m args below meth c T' (locs ++ L) (cells + rm.cells) (slots + rm.slots) → T'.heap = h' → Q' v h' L → OwnWk p e below P (T'.setTop { g with pc := g.pc + 5, stack := v.toList ++ rest })) :
    OwnWk p e below P (T.setTop g) := by
  obtain ⟨cq, kq, q1, q2, q3⟩ := isOf hZ eT E
  obtain ⟨v, vm₁, ⟨T', L', k', n'⟩, -, X', ⟨L, hQ, e1, e2, e3⟩, st⟩ := X.interfaceBack hx hown (mvT hZ w1) (mvT hZ w2) w7 (mvT hZ w5) (mvT hZ w6) (mvT hZ w8) (mvT hZ w9) (mvT hZ w10) hy (hM.back hZ w4 w3 hf hl) q1 q2 q3 hg hsize (Steps.refl _) hlen hstack hW hd (fun _ _ => ⟨rfl, eT, hc, hs⟩)
  dsimp only [Pt.U, Pt.locs, Pt.cells, Pt.slots] at X' e1 e2 e3 st hQ
  subst e1 e2 e3
  exact own_go (fun t q => st.trans q) (K v T' _ L X' rfl hQ)
theorem own_callP (X : Stand p l e R s m args below meth c T locs cells slots) (hx : p.tables.exec = Jvm.exec) (hZ : Z.Warmed39 s.vm) (hown : s.vm.findClass own = some m.cls)
    (w1 : (Jvm.Cond.methodLink own idx y).before a0 Z = true) (w2 : (Jvm.Cond.instanceMethod y).before a0 Z = true) (w5 : (Jvm.Cond.selects y.cls y y).before a0 Z = true) (w6 : (Jvm.Cond.privateMethod y).before a0 Z = true) (w3 : (Jvm.Cond.initialized y.cls).before a0 Z = true) (w4 : (Jvm.Cond.code y bytes maxL ret).before a0 Z = true)
    (hy : y.cls ≠ "java/lang/invoke/MethodHandle" ∧ y.cls ≠ "java/lang/invoke/VarHandle") (E : Exa Z h a C) (hM : OwnMet l y bytes maxL ret [] rm Z (.ref a :: argsL).toArray h Q') (eT : T.heap = h)
    (hf : rm.frames + 1 ≤ R.frames) (hl : W + (maxL + 11) + rm.locals ≤ R.locals) (hc : cells + rm.cells ≤ R.cells) (hs : slots + rm.slots ≤ R.slots)
    (hg : g.method = m) (hsize : g.locals.size = c.maxLocals) (hlen : ∀ sig, parseMethodDescriptor y.desc = some sig → argsL.length = sig.parameters.length) (hstack : g.stack = argsL.reverse ++ .ref a :: rest)
    (hW : 2 * g.monitorRoom + (rest.map fun v => v.category).sum ≤ W) (hd : decode c.code g.pc = .ok (.invokevirtual idx, 3))
    (K : ∀ v T' h' L, Stand p l e R s m args below meth c T' (locs ++ L) (cells + rm.cells) (slots + rm.slots) → T'.heap = h' → Q' v h' L → OwnWk p e below P (T'.setTop { g with pc := g.pc + 3, stack := v.toList ++ rest })) :
    OwnWk p e below P (T.setTop g) := by
  obtain ⟨cq, q, q'⟩ := E.cell
  obtain ⟨v, vm₁, ⟨T', L', k', n'⟩, -, X', ⟨L, hQ, e1, e2, e3⟩, st⟩ := X.privateBack hx hown (mvT hZ w1) (mvT hZ w2) (mvT hZ w5) (Cond.privateMethod_at (mvP hZ w6 (args := #[]))) (mvT hZ w4) hy (hM.back hZ w4 w3 hf hl) hg hsize (Steps.refl _) (by rw [eT]; exact q) q' hlen hstack hW hd (fun _ _ => ⟨rfl, eT, hc, hs⟩)
  dsimp only [Pt.U, Pt.locs, Pt.cells, Pt.slots] at X' e1 e2 e3 st hQ
  subst e1 e2 e3
  exact own_go (fun t q => st.trans q) (K v T' _ L X' rfl hQ)
/-! arrays by their lists -/
variable {vs : List Value} {ty : FieldType} {j : Int32} {v : Value}
theorem own_in (c : Cell) (e : c.slots = vs.toArray) (h0 : ¬ j < 0) (hj : j.toNatClampNeg < vs.length) : ¬ (j < 0 ∨ c.slots.size ≤ j.toNatClampNeg) := by
  rw [e]; simp only [List.size_toArray]
  rintro (q | q)
  · exact h0 q
  · omega
theorem own_len (X : Stand p l e R s m args below meth c T locs cells slots) (hx : p.tables.exec = Jvm.exec) (hZ : Z.Warmed39 s.vm) (eT : T.heap = h) (A : OAr Z h a ty vs) (hg : g.method = m) (hs : g.stack = .ref a :: rest) (hd : decode c.code g.pc = .ok (.arraylength, 1)) {N : Int32} (hN : vs.length.toInt32 = N)
    (K : OwnWk p e below P (T.setTop { g with pc := g.pc + 1, stack := .int N :: rest })) : OwnWk p e below P (T.setTop g) := by
  obtain ⟨cl, A, ec⟩ := A
  refine own_go (fun t q => X.arraylength hx (by rw [eT]; exact A.1) (State.isArrayOf_alike hZ.alike A.2.1) hg hs hd _ q) ?_
  rw [ec, List.size_toArray, hN]; exact K
theorem own_ldI (X : Stand p l e R s m args below meth c T locs cells slots) (hx : p.tables.exec = Jvm.exec) (hZ : Z.Warmed39 s.vm) (eT : T.heap = h) (A : OAr Z h a .int vs) (hg : g.method = m) (hs : g.stack = .int j :: .ref a :: rest) (hd : decode c.code g.pc = .ok (.iaload, 1)) (h0 : ¬ j < 0) (hj : vs[j.toNatClampNeg]? = some v)
    (K : OwnWk p e below P (T.setTop { g with pc := g.pc + 1, stack := v :: rest })) : OwnWk p e below P (T.setTop g) := by
  obtain ⟨cl, A, ec⟩ := A
  exact own_go (fun t q => X.iaload hx (by rw [eT]; exact A.1) (State.isArrayOf_alike hZ.alike A.2.1) A.2.2 (own_in cl ec h0 (List.getElem?_eq_some_iff.mp hj).1) (by rw [ec]; simpa using hj) hg hs hd _ q) K
theorem own_ldJ (X : Stand p l e R s m args below meth c T locs cells slots) (hx : p.tables.exec = Jvm.exec) (hZ : Z.Warmed39 s.vm) (eT : T.heap = h) (A : OAr Z h a .long vs) (hg : g.method = m) (hs : g.stack = .int j :: .ref a :: rest) (hd : decode c.code g.pc = .ok (.laload, 1)) (h0 : ¬ j < 0) (hj : vs[j.toNatClampNeg]? = some v)
    (K : OwnWk p e below P (T.setTop { g with pc := g.pc + 1, stack := v :: rest })) : OwnWk p e below P (T.setTop g) := by
  obtain ⟨cl, A, ec⟩ := A
  exact own_go (fun t q => X.laload hx (by rw [eT]; exact A.1) (State.isArrayOf_alike hZ.alike A.2.1) A.2.2 (own_in cl ec h0 (List.getElem?_eq_some_iff.mp hj).1) (by rw [ec]; simpa using hj) hg hs hd _ q) K
theorem own_ldA (X : Stand p l e R s m args below meth c T locs cells slots) (hx : p.tables.exec = Jvm.exec) (hZ : Z.Warmed39 s.vm) (eT : T.heap = h) (A : OAr Z h a ty vs) (hty : ty.isReference = true) (hg : g.method = m) (hs : g.stack = .int j :: .ref a :: rest) (hd : decode c.code g.pc = .ok (.aaload, 1)) (h0 : ¬ j < 0) (hj : vs[j.toNatClampNeg]? = some v)
    (K : OwnWk p e below P (T.setTop { g with pc := g.pc + 1, stack := v :: rest })) : OwnWk p e below P (T.setTop g) := by
  obtain ⟨cl, A, ec⟩ := A
  exact own_go (fun t q => X.aaload hx (by rw [eT]; exact A.1) (State.isArrayOf_alike hZ.alike A.2.1) hty A.2.2 (own_in cl ec h0 (List.getElem?_eq_some_iff.mp hj).1) (by rw [ec]; simpa using hj) hg hs hd _ q) K
theorem own_stI (X : Stand p l e R s m args below meth c T locs cells slots) (hx : p.tables.exec = Jvm.exec) (hZ : Z.Warmed39 s.vm) (eT : T.heap = h) (A : OAr Z h a .int vs) {x : Int32} (hg : g.method = m) (hs : g.stack = .int x :: .int j :: .ref a :: rest) (hd : decode c.code g.pc = .ok (.iastore, 1)) (h0 : ¬ j < 0) (hj : j.toNatClampNeg < vs.length)
    (K : ∀ T' h', Stand p l e R s m args below meth c T' (locs ++ [⟨a, j.toNatClampNeg⟩]) cells slots → T'.heap = h' → Wr h h' a j.toNatClampNeg (.int x) → OAr Z h' a .int (vs.set j.toNatClampNeg (.int x)) → OwnWk p e below P (T'.setTop { g with pc := g.pc + 1, stack := rest })) : OwnWk p e below P (T.setTop g) := by
  obtain ⟨cl, A', ec⟩ := A
  obtain ⟨T', h', X', e', W', st⟩ := stI X hx hZ eT A' (j := j) (own_in cl ec h0 hj) hg hs hd
  exact own_go st (K T' h' X' e' W' (OAr.set ⟨cl, A', ec⟩ W'))
theorem own_stJ (X : Stand p l e R s m args below meth c T locs cells slots) (hx : p.tables.exec = Jvm.exec) (hZ : Z.Warmed39 s.vm) (eT : T.heap = h) (A : OAr Z h a .long vs) {x : Int64} (hg : g.method = m) (hs : g.stack = .long x :: .int j :: .ref a :: rest) (hd : decode c.code g.pc = .ok (.lastore, 1)) (h0 : ¬ j < 0) (hj : j.toNatClampNeg < vs.length)
    (K : ∀ T' h', Stand p l e R s m args below meth c T' (locs ++ [⟨a, j.toNatClampNeg⟩]) cells slots → T'.heap = h' → Wr h h' a j.toNatClampNeg (.long x) → OAr Z h' a .long (vs.set j.toNatClampNeg (.long x)) → OwnWk p e below P (T'.setTop { g with pc := g.pc + 1, stack := rest })) : OwnWk p e below P (T.setTop g) := by
  obtain ⟨cl, A', ec⟩ := A
  obtain ⟨T', h', X', e', W', st⟩ := stJ X hx hZ eT A' (j := j) (own_in cl ec h0 hj) hg hs hd
  exact own_go st (K T' h' X' e' W' (OAr.set ⟨cl, A', ec⟩ W'))
theorem own_newP {aty : ArrayType} (X : Stand p l e R s m args below meth c T locs cells slots) (hx : p.tables.exec = Jvm.exec) (hZ : Z.Warmed39 s.vm) (w : (Jvm.Cond.arrayClass (newarray.typeOf aty)).before a0 Z = true) (eT : T.heap = h) (hg : g.method = m) (hd : decode c.code g.pc = .ok (.newarray aty, 2)) {N : Int32} (hs : g.stack = .int N :: rest)
    (hn : ¬ N < 0) {cap : Nat} (hcap : N.toNatClampNeg ≤ cap) (hb : cap * 8 ≤ 536870912) (hc : cells + 1 ≤ R.cells) (hl : slots + cap ≤ R.slots)
    (K : ∀ T' h' b, Stand p l e R s m args below meth c T' locs (cells + 1) (slots + cap) → T'.heap = h' → b = h.size → Ext h h' → OAr Z h' b (newarray.typeOf aty) (List.replicate N.toNatClampNeg (defaultValue (newarray.typeOf aty))) → OwnWk p e below P (T'.setTop { g with pc := g.pc + 2, stack := .ref b :: rest })) : OwnWk p e below P (T.setTop g) := by
  obtain ⟨T', h', cA, X', e', E', A', st⟩ := newP X hx hZ w eT hg hd hs hn hcap hb hc hl
  exact own_go st (K T' h' _ X' e' rfl E' ⟨_, A', by simp [newA]⟩)
theorem own_newPE {aty : ArrayType} {ad : String} (X : Stand p l e R s m args below meth c T locs cells slots) (hx : p.tables.exec = Jvm.exec) (hZ : Z.Warmed39 s.vm) (w : (Jvm.Cond.arrayClass (newarray.typeOf aty)).before a0 Z = true) (eT : T.heap = h) (hg : g.method = m) (hd : decode c.code g.pc = .ok (.newarray aty, 2)) {N : Int32} (hs : g.stack = .int N :: rest)
    (hn : ¬ N < 0) {cap : Nat} (hcap : N.toNatClampNeg ≤ cap) (hb : cap * 8 ≤ 536870912) (hc : cells + 1 ≤ R.cells) (hl : slots + cap ≤ R.slots) (had : "[" ++ (newarray.typeOf aty).toString = ad)
    (K : ∀ T' h' b, Stand p l e R s m args below meth c T' locs (cells + 1) (slots + cap) → T'.heap = h' → b = h.size → Ext h h' → OAr Z h' b (newarray.typeOf aty) (List.replicate N.toNatClampNeg (defaultValue (newarray.typeOf aty))) → Exa Z h' b ad → OwnWk p e below P (T'.setTop { g with pc := g.pc + 2, stack := .ref b :: rest })) : OwnWk p e below P (T.setTop g) := by
  obtain ⟨T', h', cA, X', e', E', A', Ex, st⟩ := newPE X hx hZ w eT hg hd hs hn hcap hb hc hl had
  exact own_go st (K T' h' _ X' e' rfl E' ⟨_, A', by simp [newA]⟩ Ex)
theorem own_clone {ad : String} (X : Stand p l e R s m args below meth c T locs cells slots) (hx : p.tables.exec = Jvm.exec) (hZ : Z.Warmed39 s.vm) (hown : s.vm.findClass own = some m.cls)
    (w1 : (Jvm.Cond.methodLink own idx ⟨ad, "clone", "()Ljava/lang/Object;"⟩).before a0 Z = true) (w2 : (Jvm.Cond.sameMethod ad "java/lang/Object" "clone" "()Ljava/lang/Object;").before a0 Z = true) (w3 : (Jvm.Cond.native ⟨"java/lang/Object", "clone", "()Ljava/lang/Object;"⟩).before a0 Z = true)
    (w4 : (Jvm.Cond.instanceMethod ⟨"java/lang/Object", "clone", "()Ljava/lang/Object;"⟩).before a0 Z = true) (w5 : (Jvm.Cond.selects ad ⟨ad, "clone", "()Ljava/lang/Object;"⟩ ⟨"java/lang/Object", "clone", "()Ljava/lang/Object;"⟩).before a0 Z = true) (w6 : (Jvm.Cond.castable ad "java/lang/Cloneable").before a0 Z = true)
    (eT : T.heap = h) (A : OAr Z h a ty vs) (E : Exa Z h a ad) (F : ∀ v ∈ vs, fits ty v = true) (hg : g.method = m) (hsize : g.locals.size = c.maxLocals) (hs : g.stack = .ref a :: rest) (hd : decode c.code g.pc = .ok (.invokevirtual idx, 3))
    (hf : 1 ≤ R.frames) {cap : Nat} (hW : 2 * g.monitorRoom + (rest.map fun v => v.category).sum ≤ W) (hl : W + 14 ≤ R.locals) (hcap : vs.length ≤ cap) (hc : cells + 1 ≤ R.cells) (hsl : slots + cap ≤ R.slots)
    (K : ∀ T' h' b, Stand p l e R s m args below meth c T' locs (cells + 1) (slots + cap) → T'.heap = h' → b = h.size → Ext h h' → OAr Z h' b ty vs → Exa Z h' b ad → OwnWk p e below P (T'.setTop { g with pc := g.pc + 3, stack := .ref b :: rest })) : OwnWk p e below P (T.setTop g) := by
  obtain ⟨cl, A, ec⟩ := A
  have FC : FitC Z cl := fitC_of A fun i hi v hv => by
    rw [ec] at hv
    exact F v (List.mem_of_getElem? (by simpa using hv))
  obtain ⟨T', h', X', e', E', A', Ex, st⟩ := cloneA X hx hZ hown w1 w2 w3 w4 w5 w6 eT A E FC hg hsize hs hd hf hW hl (by rw [ec]; simpa using hcap) hc hsl
  exact own_go st (K T' h' _ X' e' rfl E' ⟨_, A', ec⟩ Ex)
end Own
/-! comparisons of longs -/
theorem own_tri (x y : Int64) : x < y ∨ x = y ∨ y < x := by
  rcases Int.lt_trichotomy x.toInt y.toInt with h | h | h
  · exact Or.inl (Int64.lt_iff_toInt_lt.mpr h)
  · exact Or.inr (Or.inl (Int64.toInt_inj.mp h))
  · exact Or.inr (Or.inr (Int64.lt_iff_toInt_lt.mpr h))
theorem own_lc_lt {x y : Int64} : (lcmpW x y < 0) ↔ x < y := by
  unfold lcmpW
  rcases own_tri x y with h | h | h
  · have h1 : ¬ x > y := Int64.lt_asymm h
    have h2 : ¬ x = y := Int64.ne_of_lt h
    simp [h1, h2, h]
  · subst h; simp
  · have h1 : ¬ x < y := Int64.lt_asymm h
    simp [h, h1]
theorem own_lc_gt {x y : Int64} : (0 < lcmpW x y) ↔ y < x := by
  unfold lcmpW
  rcases own_tri x y with h | h | h
  · have h1 : ¬ x > y := Int64.lt_asymm h
    have h2 : ¬ x = y := Int64.ne_of_lt h
    have h3 : ¬ y < x := h1
    simp [h1, h2, h3]
  · subst h; simp
  · simp [h]
theorem own_lc_eq {x y : Int64} : (lcmpW x y = 0) ↔ x = y := by
  unfold lcmpW
  rcases own_tri x y with h | h | h
  · have h1 : ¬ x > y := Int64.lt_asymm h
    have h2 : ¬ x = y := Int64.ne_of_lt h
    simp [h1, h2]
  · subst h; simp
  · have h2 : ¬ x = y := (Int64.ne_of_lt h).symm
    simp [h, h2]
theorem own_n_int {i : Nat} (h : i < 2 ^ 31) : (Int32.ofNat i).toInt = (i : Int) := by
  rw [Int32.toInt_ofNat']
  simp only [Int32.size, Int.bmod]
  omega
theorem own_n_nat {i : Nat} (h : i < 2 ^ 31) : (Int32.ofNat i).toNatClampNeg = i := by
  simp only [Int32.toNatClampNeg, own_n_int h]; omega
theorem own_n_nn {i : Nat} (h : i < 2 ^ 31) : ¬ Int32.ofNat i < 0 := by
  rw [Int32.lt_iff_toInt_lt, own_n_int h]; have : (0 : Int32).toInt = 0 := rfl
  omega
theorem own_n_lt {i j : Nat} (hi : i < 2 ^ 31) (hj : j < 2 ^ 31) : Int32.ofNat i < Int32.ofNat j ↔ i < j := by
  rw [Int32.lt_iff_toInt_lt, own_n_int hi, own_n_int hj]; omega
theorem own_n_succ {i : Nat} : Int32.ofNat i + (1 : Int32) = Int32.ofNat (i + 1) := by
  rw [Int32.ofNat_add]; rfl
theorem own_n_len (xs : List Int32) : (xs.map Value.int).length.toInt32 = Int32.ofNat xs.length := by rw [List.length_map]
theorem own_n_at {xs : List Int32} {i : Nat} {x : Int32} (h : i < 2 ^ 31) (hx : xs[i]? = some x) : (xs.map Value.int)[(Int32.ofNat i).toNatClampNeg]? = some (.int x) := by
  rw [own_n_nat h, List.getElem?_map, hx]; rfl
theorem own_drop {α : Type} {xs : List α} {i : Nat} {x : α} (h : xs[i]? = some x) : xs.drop i = x :: xs.drop (i + 1) := by
  obtain ⟨hi, rfl⟩ := List.getElem?_eq_some_iff.mp h
  exact List.drop_eq_getElem_cons hi
theorem own_get {α : Type} {xs : List α} {i : Nat} (h : i < xs.length) : ∃ x, xs[i]? = some x := ⟨xs[i], List.getElem?_eq_getElem h⟩
def own_iv (ns : List Nat) : List Value := ns.map fun n => .int (Int32.ofNat n)
def own_jv (ks : List Int64) : List Value := ks.map .long
def own_exch (ns : List Nat) (i j : Nat) : List Nat := (ns.set i (ns.getD j 0)).set j (ns.getD i 0)
def own_swpp (ns ps : List Nat) (lv : Nat) : List Nat := (ps.set (ns.getD lv 0) (lv - 1)).set (ns.getD (lv - 1) 0) lv
def own_places (ns : List Nat) : List Nat := ((((([0, 0, 0, 0, 0] : List Nat).set (ns.getD 0 0) 0).set (ns.getD 1 0) 1).set (ns.getD 2 0) 2).set (ns.getD 3 0) 3).set (ns.getD 4 0) 4
def own_perm (i4 i3 i2 i1 : Nat) : List Nat := own_exch (own_exch (own_exch (own_exch [0, 1, 2, 3, 4] 4 i4) 3 i3) 2 i2) 1 i1
def own_okv (os es ps : List Nat) (i : Nat) : Int32 := if Int32.ofNat (os.getD i 0) = Int32.ofNat (es.getD i 0) ∧ Int32.ofNat (ps.getD (es.getD i 0) 0) = Int32.ofNat i then 1 else 0
theorem own_elen (ns : List Nat) (i j : Nat) : (own_exch ns i j).length = ns.length := by simp [own_exch]
theorem own_n5 {J : Nat} (hJ : J < 5) : (Int32.ofNat J).toNatClampNeg = J := own_n_nat (by omega)
theorem own_n9 {J : Nat} (hJ : J < 9) : (Int32.ofNat J).toNatClampNeg = J := own_n_nat (by omega)
theorem own_i5 {J : Nat} (hJ : J < 5) : ¬ Int32.ofNat J < 0 := own_n_nn (by omega)
theorem own_getD {α : Type} {xs : List α} {i : Nat} {d : α} (h : i < xs.length) : xs[i]? = some (xs.getD i d) := by
  rw [List.getD_eq_getElem?_getD, List.getElem?_eq_getElem h]; rfl
theorem own_iv_at {NS : List Nat} {J : Nat} (hl : NS.length = 5) (hJ : J < 5) : (own_iv NS)[(Int32.ofNat J).toNatClampNeg]? = some (.int (Int32.ofNat (NS.getD J 0))) := by
  rw [own_n5 hJ]; unfold own_iv; rw [List.getElem?_map, own_getD (d := 0) (by omega)]; rfl
theorem own_iv_in {NS : List Nat} {J : Nat} (hl : NS.length = 5) (hJ : J < 5) : (Int32.ofNat J).toNatClampNeg < (own_iv NS).length := by
  rw [own_n5 hJ]; unfold own_iv; rw [List.length_map, hl]; exact hJ
theorem own_iv_set {NS : List Nat} {J X : Nat} (hJ : J < 5) : (own_iv NS).set (Int32.ofNat J).toNatClampNeg (.int (Int32.ofNat X)) = own_iv (NS.set J X) := by
  rw [own_n5 hJ]; unfold own_iv; rw [List.map_set]
theorem own_jv_at {KS : List Int64} {J n : Nat} (hl : KS.length = n) (hJ : J < n) (hn : n < 9) : (own_jv KS)[(Int32.ofNat J).toNatClampNeg]? = some (.long (KS.getD J 0)) := by
  rw [own_n9 (by omega)]; unfold own_jv; rw [List.getElem?_map, own_getD (d := 0) (by omega)]; rfl
theorem own_jv_in {KS : List Int64} {J n : Nat} (hl : KS.length = n) (hJ : J < n) (hn : n < 9) : (Int32.ofNat J).toNatClampNeg < (own_jv KS).length := by
  rw [own_n9 (by omega)]; unfold own_jv; rw [List.length_map, hl]; exact hJ
theorem own_jv_set {KS : List Int64} {J : Nat} {x : Int64} (hJ : J < 9) : (own_jv KS).set (Int32.ofNat J).toNatClampNeg (.long x) = own_jv (KS.set J x) := by
  rw [own_n9 hJ]; unfold own_jv; rw [List.map_set]
theorem own_n_pred {i : Nat} (h : 1 ≤ i) (h2 : i < 5) : Int32.ofNat i - (1 : Int32) = Int32.ofNat (i - 1) := by
  obtain ⟨j, rfl⟩ : ∃ j, i = j + 1 := ⟨i - 1, by omega⟩
  rw [Int32.ofNat_add]
  show Int32.ofNat j + 1 - 1 = _
  rw [Int32.add_sub_cancel]; rfl
theorem own_and_nat (u : Int32) (k : Nat) (hk : k < 2 ^ 31) : ∃ n, n ≤ k ∧ (u &&& Int32.ofNat k) = Int32.ofNat n := by
  obtain ⟨n, hn⟩ : ∃ n, n = (u &&& Int32.ofNat k).toBitVec.toNat := ⟨_, rfl⟩
  have h0 : n ≤ k := by
    rw [hn, Int32.toBitVec_and, BitVec.toNat_and]
    refine Nat.le_trans Nat.and_le_right ?_
    show (BitVec.ofNat 32 k).toNat ≤ k
    simp; omega
  refine ⟨n, h0, ?_⟩
  apply Int32.toBitVec_inj.mp; apply BitVec.eq_of_toNat_eq; rw [← hn]
  show n = (BitVec.ofNat 32 n).toNat
  simp; omega
theorem own_rem_nat {n k : Nat} (hn : n < 2 ^ 31) (hk : 0 < k) (hk2 : k < 2 ^ 31) : Int32.ofNat n % Int32.ofNat k = Int32.ofNat (n % k) := by
  apply Int32.toInt_inj.mp
  have := Nat.mod_lt n hk
  rw [Int32.toInt_mod, own_n_int hn, own_n_int hk2, own_n_int (by omega), Int.tmod_eq_emod_of_nonneg (by omega)]
  norm_cast
theorem own_draw (u : Int32) (k m : Nat) (hk : k < 2 ^ 31) (hm : 0 < m) (hm2 : m < 2 ^ 31) : ∃ n, n < m ∧ (u &&& Int32.ofNat k) % Int32.ofNat m = Int32.ofNat n := by
  obtain ⟨n, h1, h2⟩ := own_and_nat u k hk
  exact ⟨n % m, Nat.mod_lt n hm, by rw [h2, own_rem_nat (by omega) hm hm2]⟩
theorem own_fin : ∀ i4 < 5, ∀ i3 < 4, ∀ i2 < 3, ∀ i1 < 2, ∀ lv < 4, ∀ i < 5,
    own_okv (own_exch (own_perm i4 i3 i2 i1) lv (lv + 1)) (own_exch (own_perm i4 i3 i2 i1) lv (lv + 1)) (own_swpp (own_perm i4 i3 i2 i1) (own_places (own_perm i4 i3 i2 i1)) (lv + 1)) i = 1 := by decide +kernel
theorem own_perm_lt : ∀ i4 < 5, ∀ i3 < 4, ∀ i2 < 3, ∀ i1 < 2, ∀ i < 5, (own_perm i4 i3 i2 i1).getD i 0 < 5 := by decide +kernel
theorem own_perm_len (i4 i3 i2 i1 : Nat) : (own_perm i4 i3 i2 i1).length = 5 := by simp [own_perm, own_elen]
theorem own_five {ns : List Nat} (h : ns.length = 5) : ns = [ns.getD 0 0, ns.getD 1 0, ns.getD 2 0, ns.getD 3 0, ns.getD 4 0] := by
  match ns, h with
  | [a, b, c, d, e], _ => rfl
def own_max (u r : Int32) : Int32 := if u < r then r else u
theorem own_perm_lt2 : ∀ i4 < 5, ∀ i3 < 4, ∀ i2 < 3, ∀ i1 < 2, ∀ lv < 4, ∀ i < 5, (own_exch (own_perm i4 i3 i2 i1) lv (lv + 1)).getD i 0 < 5 := by decide +kernel
theorem own_cast {Z : State} {h : Heap} {a : Addr} {ty : FieldType} {vs ws : List Value} (e : vs = ws) (V : OAr Z h a ty vs) : OAr Z h a ty ws := e ▸ V
theorem pn_pn_1 : plainName "com/example/encircle/encircle/layout/PrefixesSwapPinLaw" = true := by first | (simp [plainName, overriddenIn]; done) | decide +kernel
theorem pn_1 : plainFor (⟨"com/example/encircle/encircle/layout/PrefixesSwapPinLaw", "exch", "([III)V"⟩ : MethodName) = true := plainFor_of_name pn_pn_1
theorem d1_0 : decode method_2_code 0 = .ok (.aload_n 0, 1) := by decide +kernel
theorem d1_1 : decode method_2_code 1 = .ok (.iload_n 1, 1) := by decide +kernel
theorem d1_2 : decode method_2_code 2 = .ok (.iaload, 1) := by decide +kernel
theorem d1_3 : decode method_2_code 3 = .ok (.istore_n 3, 1) := by decide +kernel
theorem d1_4 : decode method_2_code 4 = .ok (.aload_n 0, 1) := by decide +kernel
theorem d1_5 : decode method_2_code 5 = .ok (.iload_n 1, 1) := by decide +kernel
theorem d1_6 : decode method_2_code 6 = .ok (.aload_n 0, 1) := by decide +kernel
theorem d1_7 : decode method_2_code 7 = .ok (.iload_n 2, 1) := by decide +kernel
theorem d1_8 : decode method_2_code 8 = .ok (.iaload, 1) := by decide +kernel
theorem d1_9 : decode method_2_code 9 = .ok (.iastore, 1) := by decide +kernel
theorem d1_10 : decode method_2_code 10 = .ok (.aload_n 0, 1) := by decide +kernel
theorem d1_11 : decode method_2_code 11 = .ok (.iload_n 2, 1) := by decide +kernel
theorem d1_12 : decode method_2_code 12 = .ok (.iload_n 3, 1) := by decide +kernel
theorem d1_13 : decode method_2_code 13 = .ok (.iastore, 1) := by decide +kernel
theorem d1_14 : decode method_2_code 14 = .ok (.return_, 1) := by decide +kernel
theorem ef_rm1 (m : MethodId) (x0 : Addr) (x1 : Int32) (x2 : Int32) : entryFrame m #[(.ref x0), (.int x1), (.int x2)] 4 = mkF m 0 #[.val (.ref x0), .val (.int x1), .val (.int x2), .unset] [] := by first | (simp [entryFrame, mkF, argsToLocals, Value.category]; done) | rfl
def Q_rm1 (Z : State) (t : Addr) (ns : List Nat) (I J : Nat) (h0 : Heap) (n0 : Nat) (v : Option Value) (h : Heap) (L : List Loc) : Prop := v = none ∧ Fr n0 L ∧ Keep h0 h [t] ∧ OAr Z h t .int (own_iv (own_exch ns I J))
set_option maxRecDepth 65536 in
set_option maxHeartbeats 40000000 in
theorem rm1 (l : Launch) (Z : State) (a0 : Array Value) (hw : ∀ d ∈ tables_1, d.before a0 Z = true) (t : Addr) (ns : List Nat) (I J : Nat) (h0 : Heap) (n0 : Nat) (Z0 : n0 ≤ h0.size) (V_t : OAr Z h0 t .int (own_iv ns)) (g_t : n0 ≤ t) (hlen : ns.length = 5) (hI : I < 5) (hJ : J < 5) :
    OwnMet l (⟨"com/example/encircle/encircle/layout/PrefixesSwapPinLaw", "exch", "([III)V"⟩ : MethodName) method_2_code 4 none [] ({ frames := 0, cells := 0, slots := 0, locals := 0 } : Room) Z #[(.ref t), (.int (Int32.ofNat I)), (.int (Int32.ofNat J))] h0 (Q_rm1 Z t ns I J h0 n0) := by
  refine own_met pn_1 (fun p e s m below meth c s₁ hx hby hml hown hnm hret hlk hZ X0 e0 => ?_)
  have hown : s.vm.findClass "com/example/encircle/encircle/layout/PrefixesSwapPinLaw" = some m.cls := hown
  have N0 := Fr.nil n0
  have K0 := Keep.refl h0 [t]
  rw [ef_rm1]
  show OwnWk _ _ _ _ (s₁.setTop (mkF m 0 #[.val (.ref t), .val (.int (Int32.ofNat I)), .val (.int (Int32.ofNat J)), .unset] []))
  refine own_go (fun tgt kst => XS.aloadN X0.here hx rfl (hb hby d1_0) rfl rfl  kst) ?_
  show OwnWk _ _ _ _ (s₁.setTop (mkF m 1 #[.val (.ref t), .val (.int (Int32.ofNat I)), .val (.int (Int32.ofNat J)), .unset] [(.ref t)]))
  refine own_go (fun tgt kst => XS.iloadN X0.here hx rfl (hb hby d1_1) rfl  kst) ?_
  show OwnWk _ _ _ _ (s₁.setTop (mkF m 2 #[.val (.ref t), .val (.int (Int32.ofNat I)), .val (.int (Int32.ofNat J)), .unset] [(.int (Int32.ofNat I)), (.ref t)]))
  refine own_ldI X0 hx hZ e0 V_t (g := (mkF m 2 #[.val (.ref t), .val (.int (Int32.ofNat I)), .val (.int (Int32.ofNat J)), .unset] [(.int (Int32.ofNat I)), (.ref t)])) rfl rfl (hb hby d1_2) (v := (.int (Int32.ofNat (ns.getD I 0)))) (own_i5 hI) (own_iv_at (NS := ns) (J := I) (by simp [own_exch, own_swpp, own_places, own_perm, own_elen, hlen]) hI) ?_
  show OwnWk _ _ _ _ (s₁.setTop (mkF m 3 #[.val (.ref t), .val (.int (Int32.ofNat I)), .val (.int (Int32.ofNat J)), .unset] [(.int (Int32.ofNat (ns.getD I 0)))]))
  refine own_go (fun tgt kst => XS.istoreN X0.here hx rfl (hb hby d1_3) rfl (l' := #[.val (.ref t), .val (.int (Int32.ofNat I)), .val (.int (Int32.ofNat J)), .val (.int (Int32.ofNat (ns.getD I 0)))]) rfl kst) ?_
  show OwnWk _ _ _ _ (s₁.setTop (mkF m 4 #[.val (.ref t), .val (.int (Int32.ofNat I)), .val (.int (Int32.ofNat J)), .val (.int (Int32.ofNat (ns.getD I 0)))] []))
  refine own_go (fun tgt kst => XS.aloadN X0.here hx rfl (hb hby d1_4) rfl rfl  kst) ?_
  show OwnWk _ _ _ _ (s₁.setTop (mkF m 5 #[.val (.ref t), .val (.int (Int32.ofNat I)), .val (.int (Int32.ofNat J)), .val (.int (Int32.ofNat (ns.getD I 0)))] [(.ref t)]))
  refine own_go (fun tgt kst => XS.iloadN X0.here hx rfl (hb hby d1_5) rfl  kst) ?_
  show OwnWk _ _ _ _ (s₁.setTop (mkF m 6 #[.val (.ref t), .val (.int (Int32.ofNat I)), .val (.int (Int32.ofNat J)), .val (.int (Int32.ofNat (ns.getD I 0)))] [(.int (Int32.ofNat I)), (.ref t)]))
  refine own_go (fun tgt kst => XS.aloadN X0.here hx rfl (hb hby d1_6) rfl rfl  kst) ?_
  show OwnWk _ _ _ _ (s₁.setTop (mkF m 7 #[.val (.ref t), .val (.int (Int32.ofNat I)), .val (.int (Int32.ofNat J)), .val (.int (Int32.ofNat (ns.getD I 0)))] [(.ref t), (.int (Int32.ofNat I)), (.ref t)]))
  refine own_go (fun tgt kst => XS.iloadN X0.here hx rfl (hb hby d1_7) rfl  kst) ?_
  show OwnWk _ _ _ _ (s₁.setTop (mkF m 8 #[.val (.ref t), .val (.int (Int32.ofNat I)), .val (.int (Int32.ofNat J)), .val (.int (Int32.ofNat (ns.getD I 0)))] [(.int (Int32.ofNat J)), (.ref t), (.int (Int32.ofNat I)), (.ref t)]))
  refine own_ldI X0 hx hZ e0 V_t (g := (mkF m 8 #[.val (.ref t), .val (.int (Int32.ofNat I)), .val (.int (Int32.ofNat J)), .val (.int (Int32.ofNat (ns.getD I 0)))] [(.int (Int32.ofNat J)), (.ref t), (.int (Int32.ofNat I)), (.ref t)])) rfl rfl (hb hby d1_8) (v := (.int (Int32.ofNat (ns.getD J 0)))) (own_i5 hJ) (own_iv_at (NS := ns) (J := J) (by simp [own_exch, own_swpp, own_places, own_perm, own_elen, hlen]) hJ) ?_
  show OwnWk _ _ _ _ (s₁.setTop (mkF m 9 #[.val (.ref t), .val (.int (Int32.ofNat I)), .val (.int (Int32.ofNat J)), .val (.int (Int32.ofNat (ns.getD I 0)))] [(.int (Int32.ofNat (ns.getD J 0))), (.int (Int32.ofNat I)), (.ref t)]))
  refine own_stI X0 hx hZ e0 V_t (g := (mkF m 9 #[.val (.ref t), .val (.int (Int32.ofNat I)), .val (.int (Int32.ofNat J)), .val (.int (Int32.ofNat (ns.getD I 0)))] [(.int (Int32.ofNat (ns.getD J 0))), (.int (Int32.ofNat I)), (.ref t)])) rfl rfl (hb hby d1_9) (own_i5 hI) (own_iv_in (NS := ns) (J := I) (by simp [own_exch, own_swpp, own_places, own_perm, own_elen, hlen]) hI) (fun T1 h1 X1 e1 W1 V1 => ?_)
  have V1b : OAr Z h1 t .int (own_iv (ns.set I (ns.getD J 0))) := by exact own_cast (own_iv_set (NS := ns) (J := I) (X := (ns.getD J 0)) hI) V1
  have N1 := Fr.snoc X1 N0 g_t
  have Z2 := Nat.le_trans Z0 (Keep.of_wr W1).1
  have K3 := Keep.wr K0 W1 (Or.inl (List.mem_of_getElem? (i := 0) rfl))
  show OwnWk _ _ _ _ (T1.setTop (mkF m 10 #[.val (.ref t), .val (.int (Int32.ofNat I)), .val (.int (Int32.ofNat J)), .val (.int (Int32.ofNat (ns.getD I 0)))] []))
  refine own_go (fun tgt kst => XS.aloadN X1.here hx rfl (hb hby d1_10) rfl rfl  kst) ?_
  show OwnWk _ _ _ _ (T1.setTop (mkF m 11 #[.val (.ref t), .val (.int (Int32.ofNat I)), .val (.int (Int32.ofNat J)), .val (.int (Int32.ofNat (ns.getD I 0)))] [(.ref t)]))
  refine own_go (fun tgt kst => XS.iloadN X1.here hx rfl (hb hby d1_11) rfl  kst) ?_
  show OwnWk _ _ _ _ (T1.setTop (mkF m 12 #[.val (.ref t), .val (.int (Int32.ofNat I)), .val (.int (Int32.ofNat J)), .val (.int (Int32.ofNat (ns.getD I 0)))] [(.int (Int32.ofNat J)), (.ref t)]))
  refine own_go (fun tgt kst => XS.iloadN X1.here hx rfl (hb hby d1_12) rfl  kst) ?_
  show OwnWk _ _ _ _ (T1.setTop (mkF m 13 #[.val (.ref t), .val (.int (Int32.ofNat I)), .val (.int (Int32.ofNat J)), .val (.int (Int32.ofNat (ns.getD I 0)))] [(.int (Int32.ofNat (ns.getD I 0))), (.int (Int32.ofNat J)), (.ref t)]))
  refine own_stI X1 hx hZ e1 V1b (g := (mkF m 13 #[.val (.ref t), .val (.int (Int32.ofNat I)), .val (.int (Int32.ofNat J)), .val (.int (Int32.ofNat (ns.getD I 0)))] [(.int (Int32.ofNat (ns.getD I 0))), (.int (Int32.ofNat J)), (.ref t)])) rfl rfl (hb hby d1_13) (own_i5 hJ) (own_iv_in (NS := (ns.set I (ns.getD J 0))) (J := J) (by simp [own_exch, own_swpp, own_places, own_perm, own_elen, hlen]) hJ) (fun T4 h4 X4 e4 W4 V4 => ?_)
  have V4b : OAr Z h4 t .int (own_iv ((ns.set I (ns.getD J 0)).set J (ns.getD I 0))) := by exact own_cast (own_iv_set (NS := (ns.set I (ns.getD J 0))) (J := J) (X := (ns.getD I 0)) hJ) V4
  have N4 := Fr.snoc X4 N1 g_t
  have Z5 := Nat.le_trans Z2 (Keep.of_wr W4).1
  have K6 := Keep.wr K3 W4 (Or.inl (List.mem_of_getElem? (i := 0) rfl))
  show OwnWk _ _ _ _ (T4.setTop (mkF m 14 #[.val (.ref t), .val (.int (Int32.ofNat I)), .val (.int (Int32.ofNat J)), .val (.int (Int32.ofNat (ns.getD I 0)))] []))
  exact own_retV X4 hx hlk hret (hb hby d1_14) (by decide) (by decide) (by rw [e4]; exact ⟨rfl, N4, K6, V4b⟩)
theorem pn_pn_4 : plainName "java/util/AbstractCollection" = true := by first | (simp [plainName, overriddenIn]; done) | decide +kernel
theorem pn_4 : plainFor (⟨"java/util/AbstractCollection", "<init>", "()V"⟩ : MethodName) = true := plainFor_of_name pn_pn_4
theorem d4_0 : decode jdk_22_method_1_code 0 = .ok (.aload_n 0, 1) := by decide +kernel
theorem d4_1 : decode jdk_22_method_1_code 1 = .ok (.invokespecial 1, 3) := by decide +kernel
theorem d4_4 : decode jdk_22_method_1_code 4 = .ok (.return_, 1) := by decide +kernel
theorem ef_rm4 (m : MethodId) (x0 : Addr) : entryFrame m #[(.ref x0)] 1 = mkF m 0 #[.val (.ref x0)] [] := by first | (simp [entryFrame, mkF, argsToLocals, Value.category]; done) | rfl
def Q_rm4 (Z : State) (a : Addr) (h0 : Heap) (n0 : Nat) (v : Option Value) (h : Heap) (L : List Loc) : Prop := v = none ∧ Fr n0 L ∧ h = h0
set_option maxRecDepth 65536 in
set_option maxHeartbeats 40000000 in
theorem rm4 (l : Launch) (Z : State) (a0 : Array Value) (hw : ∀ d ∈ tables_1, d.before a0 Z = true) (a : Addr) (h0 : Heap) (n0 : Nat) (Z0 : n0 ≤ h0.size)  :
    OwnMet l (⟨"java/util/AbstractCollection", "<init>", "()V"⟩ : MethodName) jdk_22_method_1_code 1 none [] ({ frames := 1, cells := 0, slots := 0, locals := 12 } : Room) Z #[(.ref a)] h0 (Q_rm4 Z a h0 n0) := by
  refine own_met pn_4 (fun p e s m below meth c s₁ hx hby hml hown hnm hret hlk hZ X0 e0 => ?_)
  have hown : s.vm.findClass "java/util/AbstractCollection" = some m.cls := hown
  have N0 := Fr.nil n0
  rw [ef_rm4]
  show OwnWk _ _ _ _ (s₁.setTop (mkF m 0 #[.val (.ref a)] []))
  refine own_go (fun tgt kst => XS.aloadN X0.here hx rfl (hb hby d4_0) rfl rfl  kst) ?_
  show OwnWk _ _ _ _ (s₁.setTop (mkF m 1 #[.val (.ref a)] [(.ref a)]))
  obtain ⟨T1, X1, e1, st1⟩ := initO X0 hx hZ hown (hw _ (List.mem_of_getElem? (i := 26) rfl)) (hw _ (List.mem_of_getElem? (i := 27) rfl)) (hw _ (List.mem_of_getElem? (i := 28) rfl)) e0 (g := (mkF m 1 #[.val (.ref a)] [(.ref a)])) rfl (by rw [hml]; rfl) rfl (hb hby d4_1) (by decide) (W := 0) (by show 2 * 0 + _ ≤ _; exact Nat.le_of_eq rfl) (by decide)
  refine own_go st1 ?_
  show OwnWk _ _ _ _ (T1.setTop (mkF m 4 #[.val (.ref a)] []))
  exact own_retV X1 hx hlk hret (hb hby d4_4) (by decide) (by decide) (by rw [e1]; exact ⟨rfl, N0, rfl⟩)
theorem pn_pn_3 : plainName "java/util/AbstractList" = true := by first | (simp [plainName, overriddenIn]; done) | decide +kernel
theorem pn_3 : plainFor (⟨"java/util/AbstractList", "<init>", "()V"⟩ : MethodName) = true := plainFor_of_name pn_pn_3
theorem d3_0 : decode jdk_39_method_1_code 0 = .ok (.aload_n 0, 1) := by decide +kernel
theorem d3_1 : decode jdk_39_method_1_code 1 = .ok (.invokespecial 1, 3) := by decide +kernel
theorem pd_0 : parseMethodDescriptor "()V" = some ⟨[], none⟩ := by decide +kernel
theorem d3_4 : decode jdk_39_method_1_code 4 = .ok (.aload_n 0, 1) := by decide +kernel
theorem d3_5 : decode jdk_39_method_1_code 5 = .ok (.iconst 0, 1) := by decide +kernel
theorem d3_6 : decode jdk_39_method_1_code 6 = .ok (.putfield 7, 3) := by decide +kernel
theorem d3_9 : decode jdk_39_method_1_code 9 = .ok (.return_, 1) := by decide +kernel
theorem ef_rm3 (m : MethodId) (x0 : Addr) : entryFrame m #[(.ref x0)] 1 = mkF m 0 #[.val (.ref x0)] [] := by first | (simp [entryFrame, mkF, argsToLocals, Value.category]; done) | rfl
def Q_rm3 (Z : State) (a : Addr) (h0 : Heap) (n0 : Nat) (v : Option Value) (h : Heap) (L : List Loc) : Prop := v = none ∧ Fr n0 L ∧ Keep h0 h [a] ∧ Fld Z h a "java/util/AbstractList" "modCount" "I" (.int (0 : Int32)) ∧ Fld Z h a "java/util/ArrayList" "elementData" "[Ljava/lang/Object;" .null ∧ Fld Z h a "java/util/ArrayList" "size" "I" (.int (0 : Int32))
set_option maxRecDepth 65536 in
set_option maxHeartbeats 40000000 in
theorem rm3 (l : Launch) (Z : State) (a0 : Array Value) (hw : ∀ d ∈ tables_1, d.before a0 Z = true) (a : Addr) (h0 : Heap) (n0 : Nat) (Z0 : n0 ≤ h0.size) (E_a : Exa Z h0 a "java/util/ArrayList") (g_a : n0 ≤ a) (F_m : Fld Z h0 a "java/util/AbstractList" "modCount" "I" (.int (0 : Int32))) (F_e : Fld Z h0 a "java/util/ArrayList" "elementData" "[Ljava/lang/Object;" .null) (F_s : Fld Z h0 a "java/util/ArrayList" "size" "I" (.int (0 : Int32))) :
    OwnMet l (⟨"java/util/AbstractList", "<init>", "()V"⟩ : MethodName) jdk_39_method_1_code 1 none [] ({ frames := 2, cells := 0, slots := 0, locals := 24 } : Room) Z #[(.ref a)] h0 (Q_rm3 Z a h0 n0) := by
  refine own_met pn_3 (fun p e s m below meth c s₁ hx hby hml hown hnm hret hlk hZ X0 e0 => ?_)
  have hown : s.vm.findClass "java/util/AbstractList" = some m.cls := hown
  have N0 := Fr.nil n0
  have K0 := Keep.refl h0 [a]
  rw [ef_rm3]
  show OwnWk _ _ _ _ (s₁.setTop (mkF m 0 #[.val (.ref a)] []))
  refine own_go (fun tgt kst => XS.aloadN X0.here hx rfl (hb hby d3_0) rfl rfl  kst) ?_
  show OwnWk _ _ _ _ (s₁.setTop (mkF m 1 #[.val (.ref a)] [(.ref a)]))
  refine own_callC X0 hx hZ (y := (⟨"java/util/AbstractCollection", "<init>", "()V"⟩ : MethodName)) hown rfl (hw _ (List.mem_of_getElem? (i := 20) rfl)) (hw _ (List.mem_of_getElem? (i := 21) rfl)) (hw _ (List.mem_of_getElem? (i := 24) rfl)) (hw _ (List.mem_of_getElem? (i := 25) rfl)) (by decide) (a := a) (argsL := []) (rest := []) (rm := ({ frames := 1, cells := 0, slots := 0, locals := 12 } : Room)) (h := h0) (rm4 l Z a0 hw a h0 n0 Z0) e0 (W := 0) (by decide) (by decide) (by decide) (by decide) (g := (mkF m 1 #[.val (.ref a)] [(.ref a)])) rfl (by rw [hml]; rfl) (lenOf pd_0 rfl) rfl (by show 2 * 0 + _ ≤ _; exact Nat.le_of_eq rfl) (hb hby d3_1) (fun v1 T1 h1 L1 X1 e1 hQ1 => ?_)
  obtain ⟨rfl, Nq1, q1⟩ := hQ1
  have N1 := Fr.app N0 Nq1
  rw [q1] at e1
  show OwnWk _ _ _ _ (T1.setTop (mkF m 4 #[.val (.ref a)] []))
  refine own_go (fun tgt kst => XS.aloadN X1.here hx rfl (hb hby d3_4) rfl rfl  kst) ?_
  show OwnWk _ _ _ _ (T1.setTop (mkF m 5 #[.val (.ref a)] [(.ref a)]))
  refine own_go (fun tgt kst => XS.iconst X1.here hx rfl (hb hby d3_5) kst) ?_
  show OwnWk _ _ _ _ (T1.setTop (mkF m 6 #[.val (.ref a)] [(.int (0 : Int32)), (.ref a)]))
  obtain ⟨T2, h2, X2, e2, W2, st2⟩ := putF X1 hx hZ hown (host := "") (Or.inl (hw _ (List.mem_of_getElem? (i := 29) rfl))) Via.refl e1 F_m E_a (Or.inl (hw _ (List.mem_of_getElem? (i := 30) rfl))) (hw _ (List.mem_of_getElem? (i := 9) rfl)) (v := (.int (0 : Int32))) (ty := .int) (by decide) rfl rfl (g := (mkF m 6 #[.val (.ref a)] [(.int (0 : Int32)), (.ref a)])) rfl rfl (hb hby d3_6)
  refine own_go st2 ?_
  have N2 := Fr.snoc X2 N1 g_a
  have Fw2 := Fld.same W2 F_m
  have F3 := Exa.wr W2 E_a
  have F4 := Fld.other W2 F_e (Or.inr (slot_ne (Or.inl (hw _ (List.mem_of_getElem? (i := 33) rfl))) (Or.inl (hw _ (List.mem_of_getElem? (i := 30) rfl))) (by decide) (t := (.array (.object "java/lang/Object"))) (t' := .int) (by decide) (by decide)))
  have F5 := Fld.other W2 F_s (Or.inr (slot_ne (Or.inl (hw _ (List.mem_of_getElem? (i := 64) rfl))) (Or.inl (hw _ (List.mem_of_getElem? (i := 30) rfl))) (by decide) (t := .int) (t' := .int) (by decide) (by decide)))
  have Z6 := Nat.le_trans Z0 (Keep.of_wr W2).1
  have K7 := Keep.wr K0 W2 (Or.inl (List.mem_of_getElem? (i := 0) rfl))
  show OwnWk _ _ _ _ (T2.setTop (mkF m 9 #[.val (.ref a)] []))
  exact own_retV X2 hx hlk hret (hb hby d3_9) (by decide) (by decide) (by rw [e2]; exact ⟨rfl, N2, K7, Fw2, F4, F5⟩)
theorem pn_pn_2 : plainName "java/util/ArrayList" = true := by first | (simp [plainName, overriddenIn]; done) | decide +kernel
theorem pn_2 : plainFor (⟨"java/util/ArrayList", "<init>", "()V"⟩ : MethodName) = true := plainFor_of_name pn_pn_2
theorem d2_0 : decode jdk_38_method_2_code 0 = .ok (.aload_n 0, 1) := by decide +kernel
theorem d2_1 : decode jdk_38_method_2_code 1 = .ok (.invokespecial 1, 3) := by decide +kernel
theorem d2_4 : decode jdk_38_method_2_code 4 = .ok (.aload_n 0, 1) := by decide +kernel
theorem d2_5 : decode jdk_38_method_2_code 5 = .ok (.getstatic 39, 3) := by decide +kernel
theorem d2_8 : decode jdk_38_method_2_code 8 = .ok (.putfield 9, 3) := by decide +kernel
theorem d2_11 : decode jdk_38_method_2_code 11 = .ok (.return_, 1) := by decide +kernel
theorem ef_rm2 (m : MethodId) (x0 : Addr) : entryFrame m #[(.ref x0)] 1 = mkF m 0 #[.val (.ref x0)] [] := by first | (simp [entryFrame, mkF, argsToLocals, Value.category]; done) | rfl
def Q_rm2 (Z : State) (a dce : Addr) (h0 : Heap) (n0 : Nat) (v : Option Value) (h : Heap) (L : List Loc) : Prop := v = none ∧ Fr n0 L ∧ Keep h0 h [a] ∧ Fld Z h a "java/util/AbstractList" "modCount" "I" (.int (0 : Int32)) ∧ Fld Z h a "java/util/ArrayList" "elementData" "[Ljava/lang/Object;" (.ref dce) ∧ Fld Z h a "java/util/ArrayList" "size" "I" (.int (0 : Int32))
set_option maxRecDepth 65536 in
set_option maxHeartbeats 40000000 in
theorem rm2 (l : Launch) (Z : State) (a0 : Array Value) (hw : ∀ d ∈ tables_1, d.before a0 Z = true) (a dce : Addr) (h0 : Heap) (n0 : Nat) (Z0 : n0 ≤ h0.size) (E_a : Exa Z h0 a "java/util/ArrayList") (g_a : n0 ≤ a) (F_m : Fld Z h0 a "java/util/AbstractList" "modCount" "I" (.int (0 : Int32))) (F_e : Fld Z h0 a "java/util/ArrayList" "elementData" "[Ljava/lang/Object;" .null) (F_s : Fld Z h0 a "java/util/ArrayList" "size" "I" (.int (0 : Int32))) (S_d : Sta Z h0 "java/util/ArrayList" "DEFAULTCAPACITY_EMPTY_ELEMENTDATA" "[Ljava/lang/Object;" (.ref dce)) :
    OwnMet l (⟨"java/util/ArrayList", "<init>", "()V"⟩ : MethodName) jdk_38_method_2_code 1 none [] ({ frames := 3, cells := 0, slots := 0, locals := 36 } : Room) Z #[(.ref a)] h0 (Q_rm2 Z a dce h0 n0) := by
  refine own_met pn_2 (fun p e s m below meth c s₁ hx hby hml hown hnm hret hlk hZ X0 e0 => ?_)
  have hown : s.vm.findClass "java/util/ArrayList" = some m.cls := hown
  have N0 := Fr.nil n0
  have K0 := Keep.refl h0 [a]
  rw [ef_rm2]
  show OwnWk _ _ _ _ (s₁.setTop (mkF m 0 #[.val (.ref a)] []))
  refine own_go (fun tgt kst => XS.aloadN X0.here hx rfl (hb hby d2_0) rfl rfl  kst) ?_
  show OwnWk _ _ _ _ (s₁.setTop (mkF m 1 #[.val (.ref a)] [(.ref a)]))
  refine own_callC X0 hx hZ (y := (⟨"java/util/AbstractList", "<init>", "()V"⟩ : MethodName)) hown rfl (hw _ (List.mem_of_getElem? (i := 14) rfl)) (hw _ (List.mem_of_getElem? (i := 15) rfl)) (hw _ (List.mem_of_getElem? (i := 18) rfl)) (hw _ (List.mem_of_getElem? (i := 19) rfl)) (by decide) (a := a) (argsL := []) (rest := []) (rm := ({ frames := 2, cells := 0, slots := 0, locals := 24 } : Room)) (h := h0) (rm3 l Z a0 hw a h0 n0 Z0 E_a g_a F_m F_e F_s) e0 (W := 0) (by decide) (by decide) (by decide) (by decide) (g := (mkF m 1 #[.val (.ref a)] [(.ref a)])) rfl (by rw [hml]; rfl) (lenOf pd_0 rfl) rfl (by show 2 * 0 + _ ≤ _; exact Nat.le_of_eq rfl) (hb hby d2_1) (fun v1 T1 h1 L1 X1 e1 hQ1 => ?_)
  obtain ⟨rfl, Nq1, Kq1, Fm1, Fe1, Fs1⟩ := hQ1
  have N1 := Fr.app N0 Nq1
  have F2 := Exa.keep E_a Kq1
  have F3 := own_sta_keep S_d Kq1 (allS (own_plE E_a) all0)
  have Z4 := Nat.le_trans Z0 Kq1.1
  have K5 := Keep.trans K0 Kq1 (allS (Or.inl (List.mem_of_getElem? (i := 0) rfl)) all0)
  show OwnWk _ _ _ _ (T1.setTop (mkF m 4 #[.val (.ref a)] []))
  refine own_go (fun tgt kst => XS.aloadN X1.here hx rfl (hb hby d2_4) rfl rfl  kst) ?_
  show OwnWk _ _ _ _ (T1.setTop (mkF m 5 #[.val (.ref a)] [(.ref a)]))
  obtain ⟨T6, X6, e6, st6⟩ := getS2 X1 hx hZ hown (host := "") (Or.inl (hw _ (List.mem_of_getElem? (i := 31) rfl))) Via.refl e1 F3 (g := (mkF m 5 #[.val (.ref a)] [(.ref a)])) rfl (hb hby d2_5)
  refine own_go st6 ?_
  show OwnWk _ _ _ _ (T6.setTop (mkF m 8 #[.val (.ref a)] [(.ref dce), (.ref a)]))
  obtain ⟨T7, h7, X7, e7, W7, st7⟩ := putF X6 hx hZ hown (host := "") (Or.inl (hw _ (List.mem_of_getElem? (i := 32) rfl))) Via.refl e6 Fe1 F2 (Or.inl (hw _ (List.mem_of_getElem? (i := 33) rfl))) (hw _ (List.mem_of_getElem? (i := 9) rfl)) (v := (.ref dce)) (ty := (.array (.object "java/lang/Object"))) (by decide) rfl rfl (g := (mkF m 8 #[.val (.ref a)] [(.ref dce), (.ref a)])) rfl rfl (hb hby d2_8)
  refine own_go st7 ?_
  have N7 := Fr.snoc X7 N1 g_a
  have Fw7 := Fld.same W7 Fe1
  have F8 := Exa.wr W7 F2
  have F9 := Sta.wr W7 F3
  have F10 := Fld.other W7 Fm1 (Or.inr (slot_ne (Or.inl (hw _ (List.mem_of_getElem? (i := 30) rfl))) (Or.inl (hw _ (List.mem_of_getElem? (i := 33) rfl))) (by decide) (t := .int) (t' := (.array (.object "java/lang/Object"))) (by decide) (by decide)))
  have F11 := Fld.other W7 Fs1 (Or.inr (slot_ne (Or.inl (hw _ (List.mem_of_getElem? (i := 64) rfl))) (Or.inl (hw _ (List.mem_of_getElem? (i := 33) rfl))) (by decide) (t := .int) (t' := (.array (.object "java/lang/Object"))) (by decide) (by decide)))
  have Z12 := Nat.le_trans Z4 (Keep.of_wr W7).1
  have K13 := Keep.wr K5 W7 (Or.inl (List.mem_of_getElem? (i := 0) rfl))
  show OwnWk _ _ _ _ (T7.setTop (mkF m 11 #[.val (.ref a)] []))
  exact own_retV X7 hx hlk hret (hb hby d2_11) (by decide) (by decide) (by rw [e7]; exact ⟨rfl, N7, K13, F10, Fw7, F11⟩)
theorem pn_pn_8 : plainName "java/util/ArrayList" = true := by first | (simp [plainName, overriddenIn]; done) | decide +kernel
theorem pn_8 : plainFor (⟨"java/util/ArrayList", "size", "()I"⟩ : MethodName) = true := plainFor_of_name pn_pn_8
theorem d8_0 : decode jdk_38_method_8_code 0 = .ok (.aload_n 0, 1) := by decide +kernel
theorem d8_1 : decode jdk_38_method_8_code 1 = .ok (.getfield 48, 3) := by decide +kernel
theorem d8_4 : decode jdk_38_method_8_code 4 = .ok (.ireturn, 1) := by decide +kernel
theorem ef_rm8 (m : MethodId) (x0 : Addr) : entryFrame m #[(.ref x0)] 1 = mkF m 0 #[.val (.ref x0)] [] := by first | (simp [entryFrame, mkF, argsToLocals, Value.category]; done) | rfl
def Q_rm8 (Z : State) (a : Addr) (u : Int32) (h0 : Heap) (n0 : Nat) (v : Option Value) (h : Heap) (L : List Loc) : Prop := v = some (.int u) ∧ Fr n0 L ∧ h = h0
set_option maxRecDepth 65536 in
set_option maxHeartbeats 40000000 in
theorem rm8 (l : Launch) (Z : State) (a0 : Array Value) (hw : ∀ d ∈ tables_1, d.before a0 Z = true) (a : Addr) (u : Int32) (h0 : Heap) (n0 : Nat) (Z0 : n0 ≤ h0.size) (F_s : Fld Z h0 a "java/util/ArrayList" "size" "I" (.int u)) :
    OwnMet l (⟨"java/util/ArrayList", "size", "()I"⟩ : MethodName) jdk_38_method_8_code 1 (some .int) [] ({ frames := 0, cells := 0, slots := 0, locals := 0 } : Room) Z #[(.ref a)] h0 (Q_rm8 Z a u h0 n0) := by
  refine own_met pn_8 (fun p e s m below meth c s₁ hx hby hml hown hnm hret hlk hZ X0 e0 => ?_)
  have hown : s.vm.findClass "java/util/ArrayList" = some m.cls := hown
  have N0 := Fr.nil n0
  rw [ef_rm8]
  show OwnWk _ _ _ _ (s₁.setTop (mkF m 0 #[.val (.ref a)] []))
  refine own_go (fun tgt kst => XS.aloadN X0.here hx rfl (hb hby d8_0) rfl rfl  kst) ?_
  show OwnWk _ _ _ _ (s₁.setTop (mkF m 1 #[.val (.ref a)] [(.ref a)]))
  obtain ⟨T1, X1, e1, st1⟩ := getF X0 hx hZ hown (host := "") (Or.inl (hw _ (List.mem_of_getElem? (i := 63) rfl))) Via.refl e0 F_s (g := (mkF m 1 #[.val (.ref a)] [(.ref a)])) rfl rfl (hb hby d8_1)
  refine own_go st1 ?_
  show OwnWk _ _ _ _ (T1.setTop (mkF m 4 #[.val (.ref a)] [(.int u)]))
  exact own_retI X1 hx hlk hret (hb hby d8_4) (by decide) (by decide) (by rw [e1]; exact ⟨rfl, N0, rfl⟩)
theorem pn_9 : plainFor (⟨"java/lang/Math", "max", "(II)I"⟩ : MethodName) = true := Jvm.Free.JP.mathPlain rfl (by decide +kernel)
theorem d9_0 : decode jdk_29_method_65_code 0 = .ok (.iload_n 0, 1) := by decide +kernel
theorem d9_1 : decode jdk_29_method_65_code 1 = .ok (.iload_n 1, 1) := by decide +kernel
theorem d9_2 : decode jdk_29_method_65_code 2 = .ok (.if_icmp .lt 7, 3) := by decide +kernel
theorem d9_9 : decode jdk_29_method_65_code 9 = .ok (.iload_n 1, 1) := by decide +kernel
theorem d9_10 : decode jdk_29_method_65_code 10 = .ok (.ireturn, 1) := by decide +kernel
theorem d9_5 : decode jdk_29_method_65_code 5 = .ok (.iload_n 0, 1) := by decide +kernel
theorem d9_6 : decode jdk_29_method_65_code 6 = .ok (.goto 4, 3) := by decide +kernel
theorem ef_rm9 (m : MethodId) (x0 : Int32) (x1 : Int32) : entryFrame m #[(.int x0), (.int x1)] 2 = mkF m 0 #[.val (.int x0), .val (.int x1)] [] := by first | (simp [entryFrame, mkF, argsToLocals, Value.category]; done) | rfl
def Q_rm9 (Z : State) (u r : Int32) (h0 : Heap) (n0 : Nat) (v : Option Value) (h : Heap) (L : List Loc) : Prop := v = some (.int (own_max u r)) ∧ Fr n0 L ∧ h = h0
set_option maxRecDepth 65536 in
set_option maxHeartbeats 40000000 in
theorem rm9 (l : Launch) (Z : State) (a0 : Array Value) (hw : ∀ d ∈ tables_1, d.before a0 Z = true) (u r : Int32) (h0 : Heap) (n0 : Nat) (Z0 : n0 ≤ h0.size)  :
    OwnMet l (⟨"java/lang/Math", "max", "(II)I"⟩ : MethodName) jdk_29_method_65_code 2 (some .int) [] ({ frames := 0, cells := 0, slots := 0, locals := 0 } : Room) Z #[(.int u), (.int r)] h0 (Q_rm9 Z u r h0 n0) := by
  refine own_met pn_9 (fun p e s m below meth c s₁ hx hby hml hown hnm hret hlk hZ X0 e0 => ?_)
  have hown : s.vm.findClass "java/lang/Math" = some m.cls := hown
  have N0 := Fr.nil n0
  rw [ef_rm9]
  show OwnWk _ _ _ _ (s₁.setTop (mkF m 0 #[.val (.int u), .val (.int r)] []))
  refine own_go (fun tgt kst => XS.iloadN X0.here hx rfl (hb hby d9_0) rfl  kst) ?_
  show OwnWk _ _ _ _ (s₁.setTop (mkF m 1 #[.val (.int u), .val (.int r)] [(.int u)]))
  refine own_go (fun tgt kst => XS.iloadN X0.here hx rfl (hb hby d9_1) rfl  kst) ?_
  show OwnWk _ _ _ _ (s₁.setTop (mkF m 2 #[.val (.int u), .val (.int r)] [(.int r), (.int u)]))
  by_cases hc1 : u < r
  ·
    refine own_go (fun tgt kst => XS.icmpYes X0.here hx rfl (pc0 := 2) (pc' := 9) rfl (hb hby d9_2) rfl (tlt hc1).1 (by decide) (by decide) kst) ?_
    show OwnWk _ _ _ _ (s₁.setTop (mkF m 9 #[.val (.int u), .val (.int r)] []))
    refine own_go (fun tgt kst => XS.iloadN X0.here hx rfl (hb hby d9_9) rfl  kst) ?_
    show OwnWk _ _ _ _ (s₁.setTop (mkF m 10 #[.val (.int u), .val (.int r)] [(.int r)]))
    exact own_retI X0 hx hlk hret (hb hby d9_10) (by decide) (by decide) (by rw [e0]; exact ⟨by simp [own_max, hc1], N0, rfl⟩)
  ·
    refine own_go (fun tgt kst => XS.icmpNo X0.here hx rfl (hb hby d9_2) rfl (flt hc1).1 kst) ?_
    show OwnWk _ _ _ _ (s₁.setTop (mkF m 5 #[.val (.int u), .val (.int r)] []))
    refine own_go (fun tgt kst => XS.iloadN X0.here hx rfl (hb hby d9_5) rfl  kst) ?_
    show OwnWk _ _ _ _ (s₁.setTop (mkF m 6 #[.val (.int u), .val (.int r)] [(.int u)]))
    refine own_go (fun tgt kst => XS.goto X0.here hx rfl (pc0 := 6) (pc' := 10) rfl (hb hby d9_6) (by decide) (by decide) kst) ?_
    show OwnWk _ _ _ _ (s₁.setTop (mkF m 10 #[.val (.int u), .val (.int r)] [(.int u)]))
    exact own_retI X0 hx hlk hret (hb hby d9_10) (by decide) (by decide) (by rw [e0]; exact ⟨by simp [own_max, hc1], N0, rfl⟩)
theorem pn_pn_11 : plainName "java/lang/Integer" = true := by first | (simp [plainName, overriddenIn]; done) | decide +kernel
theorem pn_11 : plainFor (⟨"java/lang/Integer", "numberOfLeadingZeros", "(I)I"⟩ : MethodName) = true := plainFor_of_name pn_pn_11
theorem d11_0 : decode jdk_33_method_47_code 0 = .ok (.iload_n 0, 1) := by decide +kernel
theorem d11_1 : decode jdk_33_method_47_code 1 = .ok (.ifCond .gt 14, 3) := by decide +kernel
theorem d11_15 : decode jdk_33_method_47_code 15 = .ok (.bipush 31, 2) := by decide +kernel
theorem d11_17 : decode jdk_33_method_47_code 17 = .ok (.istore_n 1, 1) := by decide +kernel
theorem d11_18 : decode jdk_33_method_47_code 18 = .ok (.iload_n 0, 1) := by decide +kernel
theorem d11_19 : decode jdk_33_method_47_code 19 = .ok (.ldc_w 264, 3) := by decide +kernel
theorem d11_22 : decode jdk_33_method_47_code 22 = .ok (.if_icmp .lt 11, 3) := by decide +kernel
theorem d11_33 : decode jdk_33_method_47_code 33 = .ok (.iload_n 0, 1) := by decide +kernel
theorem d11_34 : decode jdk_33_method_47_code 34 = .ok (.sipush 256, 3) := by decide +kernel
theorem d11_37 : decode jdk_33_method_47_code 37 = .ok (.if_icmp .lt 11, 3) := by decide +kernel
theorem d11_48 : decode jdk_33_method_47_code 48 = .ok (.iload_n 0, 1) := by decide +kernel
theorem d11_49 : decode jdk_33_method_47_code 49 = .ok (.bipush 16, 2) := by decide +kernel
theorem d11_51 : decode jdk_33_method_47_code 51 = .ok (.if_icmp .lt 10, 3) := by decide +kernel
theorem d11_61 : decode jdk_33_method_47_code 61 = .ok (.iload_n 0, 1) := by decide +kernel
theorem d11_62 : decode jdk_33_method_47_code 62 = .ok (.iconst 4, 1) := by decide +kernel
theorem d11_63 : decode jdk_33_method_47_code 63 = .ok (.if_icmp .lt 10, 3) := by decide +kernel
theorem d11_73 : decode jdk_33_method_47_code 73 = .ok (.iload_n 1, 1) := by decide +kernel
theorem d11_74 : decode jdk_33_method_47_code 74 = .ok (.iload_n 0, 1) := by decide +kernel
theorem d11_75 : decode jdk_33_method_47_code 75 = .ok (.iconst 1, 1) := by decide +kernel
theorem d11_76 : decode jdk_33_method_47_code 76 = .ok (.iushr, 1) := by decide +kernel
theorem d11_77 : decode jdk_33_method_47_code 77 = .ok (.isub, 1) := by decide +kernel
theorem d11_78 : decode jdk_33_method_47_code 78 = .ok (.ireturn, 1) := by decide +kernel
theorem ef_rm11 (m : MethodId) (x0 : Int32) : entryFrame m #[(.int x0)] 2 = mkF m 0 #[.val (.int x0), .unset] [] := by first | (simp [entryFrame, mkF, argsToLocals, Value.category]; done) | rfl
def Q_rm11 (Z : State)  (h0 : Heap) (n0 : Nat) (v : Option Value) (h : Heap) (L : List Loc) : Prop := v = some (.int 30) ∧ Fr n0 L ∧ h = h0
set_option maxRecDepth 65536 in
set_option maxHeartbeats 40000000 in
theorem rm11 (l : Launch) (Z : State) (a0 : Array Value) (hw : ∀ d ∈ tables_1, d.before a0 Z = true)  (h0 : Heap) (n0 : Nat) (Z0 : n0 ≤ h0.size)  :
    OwnMet l (⟨"java/lang/Integer", "numberOfLeadingZeros", "(I)I"⟩ : MethodName) jdk_33_method_47_code 2 (some .int) [] ({ frames := 0, cells := 0, slots := 0, locals := 0 } : Room) Z #[(.int (3 : Int32))] h0 (Q_rm11 Z  h0 n0) := by
  refine own_met pn_11 (fun p e s m below meth c s₁ hx hby hml hown hnm hret hlk hZ X0 e0 => ?_)
  have hown : s.vm.findClass "java/lang/Integer" = some m.cls := hown
  have N0 := Fr.nil n0
  rw [ef_rm11]
  show OwnWk _ _ _ _ (s₁.setTop (mkF m 0 #[.val (.int (3 : Int32)), .unset] []))
  refine own_go (fun tgt kst => XS.iloadN X0.here hx rfl (hb hby d11_0) rfl  kst) ?_
  show OwnWk _ _ _ _ (s₁.setTop (mkF m 1 #[.val (.int (3 : Int32)), .unset] [(.int (3 : Int32))]))
  refine own_go (fun tgt kst => XS.ifYes X0.here hx rfl (pc0 := 1) (pc' := 15) rfl (hb hby d11_1) rfl ((if0 _ _).trans (tlt (by decide : (0 : Int32) < (3 : Int32))).2.2.1) (by decide) (by decide) kst) ?_
  show OwnWk _ _ _ _ (s₁.setTop (mkF m 15 #[.val (.int (3 : Int32)), .unset] []))
  refine own_go (fun tgt kst => XS.bipush X0.here hx rfl (hb hby d11_15) kst) ?_
  show OwnWk _ _ _ _ (s₁.setTop (mkF m 17 #[.val (.int (3 : Int32)), .unset] [(.int (31 : Int32))]))
  refine own_go (fun tgt kst => XS.istoreN X0.here hx rfl (hb hby d11_17) rfl (l' := #[.val (.int (3 : Int32)), .val (.int (31 : Int32))]) rfl kst) ?_
  show OwnWk _ _ _ _ (s₁.setTop (mkF m 18 #[.val (.int (3 : Int32)), .val (.int (31 : Int32))] []))
  refine own_go (fun tgt kst => XS.iloadN X0.here hx rfl (hb hby d11_18) rfl  kst) ?_
  show OwnWk _ _ _ _ (s₁.setTop (mkF m 19 #[.val (.int (3 : Int32)), .val (.int (31 : Int32))] [(.int (3 : Int32))]))
  refine own_go (X0.ldcwInt hx hown (mvT hZ (hw _ (List.mem_of_getElem? (i := 81) rfl))) (g := (mkF m 19 #[.val (.int (3 : Int32)), .val (.int (31 : Int32))] [(.int (3 : Int32))])) rfl (hb hby d11_19)) ?_
  show OwnWk _ _ _ _ (s₁.setTop (mkF m 22 #[.val (.int (3 : Int32)), .val (.int (31 : Int32))] [(.int (65536 : Int32)), (.int (3 : Int32))]))
  refine own_go (fun tgt kst => XS.icmpYes X0.here hx rfl (pc0 := 22) (pc' := 33) rfl (hb hby d11_22) rfl (tlt (by decide : (3 : Int32) < (65536 : Int32))).1 (by decide) (by decide) kst) ?_
  show OwnWk _ _ _ _ (s₁.setTop (mkF m 33 #[.val (.int (3 : Int32)), .val (.int (31 : Int32))] []))
  refine own_go (fun tgt kst => XS.iloadN X0.here hx rfl (hb hby d11_33) rfl  kst) ?_
  show OwnWk _ _ _ _ (s₁.setTop (mkF m 34 #[.val (.int (3 : Int32)), .val (.int (31 : Int32))] [(.int (3 : Int32))]))
  refine own_go (fun tgt kst => XS.sipush X0.here hx rfl (hb hby d11_34) kst) ?_
  show OwnWk _ _ _ _ (s₁.setTop (mkF m 37 #[.val (.int (3 : Int32)), .val (.int (31 : Int32))] [(.int (256 : Int32)), (.int (3 : Int32))]))
  refine own_go (fun tgt kst => XS.icmpYes X0.here hx rfl (pc0 := 37) (pc' := 48) rfl (hb hby d11_37) rfl (tlt (by decide : (3 : Int32) < (256 : Int32))).1 (by decide) (by decide) kst) ?_
  show OwnWk _ _ _ _ (s₁.setTop (mkF m 48 #[.val (.int (3 : Int32)), .val (.int (31 : Int32))] []))
  refine own_go (fun tgt kst => XS.iloadN X0.here hx rfl (hb hby d11_48) rfl  kst) ?_
  show OwnWk _ _ _ _ (s₁.setTop (mkF m 49 #[.val (.int (3 : Int32)), .val (.int (31 : Int32))] [(.int (3 : Int32))]))
  refine own_go (fun tgt kst => XS.bipush X0.here hx rfl (hb hby d11_49) kst) ?_
  show OwnWk _ _ _ _ (s₁.setTop (mkF m 51 #[.val (.int (3 : Int32)), .val (.int (31 : Int32))] [(.int (16 : Int32)), (.int (3 : Int32))]))
  refine own_go (fun tgt kst => XS.icmpYes X0.here hx rfl (pc0 := 51) (pc' := 61) rfl (hb hby d11_51) rfl (tlt (by decide : (3 : Int32) < (16 : Int32))).1 (by decide) (by decide) kst) ?_
  show OwnWk _ _ _ _ (s₁.setTop (mkF m 61 #[.val (.int (3 : Int32)), .val (.int (31 : Int32))] []))
  refine own_go (fun tgt kst => XS.iloadN X0.here hx rfl (hb hby d11_61) rfl  kst) ?_
  show OwnWk _ _ _ _ (s₁.setTop (mkF m 62 #[.val (.int (3 : Int32)), .val (.int (31 : Int32))] [(.int (3 : Int32))]))
  refine own_go (fun tgt kst => XS.iconst X0.here hx rfl (hb hby d11_62) kst) ?_
  show OwnWk _ _ _ _ (s₁.setTop (mkF m 63 #[.val (.int (3 : Int32)), .val (.int (31 : Int32))] [(.int (4 : Int32)), (.int (3 : Int32))]))
  refine own_go (fun tgt kst => XS.icmpYes X0.here hx rfl (pc0 := 63) (pc' := 73) rfl (hb hby d11_63) rfl (tlt (by decide : (3 : Int32) < (4 : Int32))).1 (by decide) (by decide) kst) ?_
  show OwnWk _ _ _ _ (s₁.setTop (mkF m 73 #[.val (.int (3 : Int32)), .val (.int (31 : Int32))] []))
  refine own_go (fun tgt kst => XS.iloadN X0.here hx rfl (hb hby d11_73) rfl  kst) ?_
  show OwnWk _ _ _ _ (s₁.setTop (mkF m 74 #[.val (.int (3 : Int32)), .val (.int (31 : Int32))] [(.int (31 : Int32))]))
  refine own_go (fun tgt kst => XS.iloadN X0.here hx rfl (hb hby d11_74) rfl  kst) ?_
  show OwnWk _ _ _ _ (s₁.setTop (mkF m 75 #[.val (.int (3 : Int32)), .val (.int (31 : Int32))] [(.int (3 : Int32)), (.int (31 : Int32))]))
  refine own_go (fun tgt kst => XS.iconst X0.here hx rfl (hb hby d11_75) kst) ?_
  show OwnWk _ _ _ _ (s₁.setTop (mkF m 76 #[.val (.int (3 : Int32)), .val (.int (31 : Int32))] [(.int (1 : Int32)), (.int (3 : Int32)), (.int (31 : Int32))]))
  refine own_go (fun tgt kst => XS.iushr X0.here hx rfl (hb hby d11_76) rfl kst) ?_
  show OwnWk _ _ _ _ (s₁.setTop (mkF m 77 #[.val (.int (3 : Int32)), .val (.int (31 : Int32))] [(.int (((3 : Int32).toUInt32 >>> ((1 : Int32) &&& 31).toUInt32).toInt32)), (.int (31 : Int32))]))
  refine own_go (fun tgt kst => XS.isub X0.here hx rfl (hb hby d11_77) rfl kst) ?_
  show OwnWk _ _ _ _ (s₁.setTop (mkF m 78 #[.val (.int (3 : Int32)), .val (.int (31 : Int32))] [(.int ((31 : Int32) - (((3 : Int32).toUInt32 >>> ((1 : Int32) &&& 31).toUInt32).toInt32)))]))
  exact own_retI X0 hx hlk hret (hb hby d11_78) (by decide) (by decide) (by rw [e0]; exact ⟨rfl, N0, rfl⟩)
theorem pn_pn_10 : plainName "java/lang/Integer" = true := by first | (simp [plainName, overriddenIn]; done) | decide +kernel
theorem pn_10 : plainFor (⟨"java/lang/Integer", "highestOneBit", "(I)I"⟩ : MethodName) = true := plainFor_of_name pn_pn_10
theorem d10_0 : decode jdk_33_method_45_code 0 = .ok (.iload_n 0, 1) := by decide +kernel
theorem d10_1 : decode jdk_33_method_45_code 1 = .ok (.ldc 127, 2) := by decide +kernel
theorem d10_3 : decode jdk_33_method_45_code 3 = .ok (.iload_n 0, 1) := by decide +kernel
theorem d10_4 : decode jdk_33_method_45_code 4 = .ok (.invokestatic 51, 3) := by decide +kernel
theorem pd_1 : parseMethodDescriptor "(I)I" = some ⟨[.int], some .int⟩ := by decide +kernel
theorem d10_7 : decode jdk_33_method_45_code 7 = .ok (.iushr, 1) := by decide +kernel
theorem d10_8 : decode jdk_33_method_45_code 8 = .ok (.iand, 1) := by decide +kernel
theorem d10_9 : decode jdk_33_method_45_code 9 = .ok (.ireturn, 1) := by decide +kernel
theorem ef_rm10 (m : MethodId) (x0 : Int32) : entryFrame m #[(.int x0)] 1 = mkF m 0 #[.val (.int x0)] [] := by first | (simp [entryFrame, mkF, argsToLocals, Value.category]; done) | rfl
def Q_rm10 (Z : State)  (h0 : Heap) (n0 : Nat) (v : Option Value) (h : Heap) (L : List Loc) : Prop := v = some (.int 2) ∧ Fr n0 L ∧ h = h0
set_option maxRecDepth 65536 in
set_option maxHeartbeats 40000000 in
theorem rm10 (l : Launch) (Z : State) (a0 : Array Value) (hw : ∀ d ∈ tables_1, d.before a0 Z = true)  (h0 : Heap) (n0 : Nat) (Z0 : n0 ≤ h0.size)  :
    OwnMet l (⟨"java/lang/Integer", "highestOneBit", "(I)I"⟩ : MethodName) jdk_33_method_45_code 1 (some .int) [] ({ frames := 1, cells := 0, slots := 0, locals := 15 } : Room) Z #[(.int (3 : Int32))] h0 (Q_rm10 Z  h0 n0) := by
  refine own_met pn_10 (fun p e s m below meth c s₁ hx hby hml hown hnm hret hlk hZ X0 e0 => ?_)
  have hown : s.vm.findClass "java/lang/Integer" = some m.cls := hown
  have N0 := Fr.nil n0
  rw [ef_rm10]
  show OwnWk _ _ _ _ (s₁.setTop (mkF m 0 #[.val (.int (3 : Int32))] []))
  refine own_go (fun tgt kst => XS.iloadN X0.here hx rfl (hb hby d10_0) rfl  kst) ?_
  show OwnWk _ _ _ _ (s₁.setTop (mkF m 1 #[.val (.int (3 : Int32))] [(.int (3 : Int32))]))
  refine own_go (X0.ldcInt hx hown (mvT hZ (hw _ (List.mem_of_getElem? (i := 77) rfl))) (g := (mkF m 1 #[.val (.int (3 : Int32))] [(.int (3 : Int32))])) rfl (hb hby d10_1)) ?_
  show OwnWk _ _ _ _ (s₁.setTop (mkF m 3 #[.val (.int (3 : Int32))] [(.int (-2147483648 : Int32)), (.int (3 : Int32))]))
  refine own_go (fun tgt kst => XS.iloadN X0.here hx rfl (hb hby d10_3) rfl  kst) ?_
  show OwnWk _ _ _ _ (s₁.setTop (mkF m 4 #[.val (.int (3 : Int32))] [(.int (3 : Int32)), (.int (-2147483648 : Int32)), (.int (3 : Int32))]))
  refine own_callS X0 hx hZ (y := (⟨"java/lang/Integer", "numberOfLeadingZeros", "(I)I"⟩ : MethodName)) hown (hw _ (List.mem_of_getElem? (i := 78) rfl)) (hw _ (List.mem_of_getElem? (i := 79) rfl)) (hw _ (List.mem_of_getElem? (i := 75) rfl)) (hw _ (List.mem_of_getElem? (i := 80) rfl)) (by decide) (argsL := [(.int (3 : Int32))]) (rest := [(.int (-2147483648 : Int32)), (.int (3 : Int32))]) (rm := ({ frames := 0, cells := 0, slots := 0, locals := 0 } : Room)) (h := h0) (rm11 l Z a0 hw h0 n0 Z0) e0 (W := 2) (by decide) (by decide) (by decide) (by decide) (g := (mkF m 4 #[.val (.int (3 : Int32))] [(.int (3 : Int32)), (.int (-2147483648 : Int32)), (.int (3 : Int32))])) rfl (by rw [hml]; rfl) (lenOf pd_1 rfl) rfl (by show 2 * 0 + _ ≤ _; exact Nat.le_of_eq rfl) (hb hby d10_4) (fun v1 T1 h1 L1 X1 e1 hQ1 => ?_)
  obtain ⟨rfl, Nq1, q1⟩ := hQ1
  have N1 := Fr.app N0 Nq1
  rw [q1] at e1
  show OwnWk _ _ _ _ (T1.setTop (mkF m 7 #[.val (.int (3 : Int32))] [(.int (30 : Int32)), (.int (-2147483648 : Int32)), (.int (3 : Int32))]))
  refine own_go (fun tgt kst => XS.iushr X1.here hx rfl (hb hby d10_7) rfl kst) ?_
  show OwnWk _ _ _ _ (T1.setTop (mkF m 8 #[.val (.int (3 : Int32))] [(.int (((-2147483648 : Int32).toUInt32 >>> ((30 : Int32) &&& 31).toUInt32).toInt32)), (.int (3 : Int32))]))
  refine own_go (fun tgt kst => XS.iand X1.here hx rfl (hb hby d10_8) rfl kst) ?_
  show OwnWk _ _ _ _ (T1.setTop (mkF m 9 #[.val (.int (3 : Int32))] [(.int ((3 : Int32) &&& (((-2147483648 : Int32).toUInt32 >>> ((30 : Int32) &&& 31).toUInt32).toInt32)))]))
  exact own_retI X1 hx hlk hret (hb hby d10_9) (by decide) (by decide) (by rw [e1]; exact ⟨rfl, N1, rfl⟩)
theorem pn_pn_12 : plainName "java/util/Arrays" = true := by first | (simp [plainName, overriddenIn]; done) | decide +kernel
theorem pn_12 : plainFor (⟨"java/util/Arrays", "fill", "([II)V"⟩ : MethodName) = true := plainFor_of_name pn_pn_12
theorem d12_0 : decode jdk_65_method_103_code 0 = .ok (.iconst 0, 1) := by decide +kernel
theorem d12_1 : decode jdk_65_method_103_code 1 = .ok (.istore_n 2, 1) := by decide +kernel
theorem d12_2 : decode jdk_65_method_103_code 2 = .ok (.aload_n 0, 1) := by decide +kernel
theorem d12_3 : decode jdk_65_method_103_code 3 = .ok (.arraylength, 1) := by decide +kernel
theorem d12_4 : decode jdk_65_method_103_code 4 = .ok (.istore_n 3, 1) := by decide +kernel
theorem d12_5 : decode jdk_65_method_103_code 5 = .ok (.iload_n 2, 1) := by decide +kernel
theorem d12_6 : decode jdk_65_method_103_code 6 = .ok (.iload_n 3, 1) := by decide +kernel
theorem d12_7 : decode jdk_65_method_103_code 7 = .ok (.if_icmp .ge 13, 3) := by decide +kernel
theorem d12_20 : decode jdk_65_method_103_code 20 = .ok (.return_, 1) := by decide +kernel
theorem ef_rm12 (m : MethodId) (x0 : Addr) (x1 : Int32) : entryFrame m #[(.ref x0), (.int x1)] 4 = mkF m 0 #[.val (.ref x0), .val (.int x1), .unset, .unset] [] := by first | (simp [entryFrame, mkF, argsToLocals, Value.category]; done) | rfl
def Q_rm12 (Z : State) (t : Addr) (u : Int32) (h0 : Heap) (n0 : Nat) (v : Option Value) (h : Heap) (L : List Loc) : Prop := v = none ∧ Fr n0 L ∧ h = h0
set_option maxRecDepth 65536 in
set_option maxHeartbeats 40000000 in
theorem rm12 (l : Launch) (Z : State) (a0 : Array Value) (hw : ∀ d ∈ tables_1, d.before a0 Z = true) (t : Addr) (u : Int32) (h0 : Heap) (n0 : Nat) (Z0 : n0 ≤ h0.size) (V_t : OAr Z h0 t .int []) :
    OwnMet l (⟨"java/util/Arrays", "fill", "([II)V"⟩ : MethodName) jdk_65_method_103_code 4 none [] ({ frames := 0, cells := 0, slots := 0, locals := 0 } : Room) Z #[(.ref t), (.int u)] h0 (Q_rm12 Z t u h0 n0) := by
  refine own_met pn_12 (fun p e s m below meth c s₁ hx hby hml hown hnm hret hlk hZ X0 e0 => ?_)
  have hown : s.vm.findClass "java/util/Arrays" = some m.cls := hown
  have N0 := Fr.nil n0
  rw [ef_rm12]
  show OwnWk _ _ _ _ (s₁.setTop (mkF m 0 #[.val (.ref t), .val (.int u), .unset, .unset] []))
  refine own_go (fun tgt kst => XS.iconst X0.here hx rfl (hb hby d12_0) kst) ?_
  show OwnWk _ _ _ _ (s₁.setTop (mkF m 1 #[.val (.ref t), .val (.int u), .unset, .unset] [(.int (0 : Int32))]))
  refine own_go (fun tgt kst => XS.istoreN X0.here hx rfl (hb hby d12_1) rfl (l' := #[.val (.ref t), .val (.int u), .val (.int (0 : Int32)), .unset]) rfl kst) ?_
  show OwnWk _ _ _ _ (s₁.setTop (mkF m 2 #[.val (.ref t), .val (.int u), .val (.int (0 : Int32)), .unset] []))
  refine own_go (fun tgt kst => XS.aloadN X0.here hx rfl (hb hby d12_2) rfl rfl  kst) ?_
  show OwnWk _ _ _ _ (s₁.setTop (mkF m 3 #[.val (.ref t), .val (.int u), .val (.int (0 : Int32)), .unset] [(.ref t)]))
  refine own_len X0 hx hZ e0 V_t (g := (mkF m 3 #[.val (.ref t), .val (.int u), .val (.int (0 : Int32)), .unset] [(.ref t)])) rfl rfl (hb hby d12_3) (N := (0 : Int32)) rfl ?_
  show OwnWk _ _ _ _ (s₁.setTop (mkF m 4 #[.val (.ref t), .val (.int u), .val (.int (0 : Int32)), .unset] [(.int (0 : Int32))]))
  refine own_go (fun tgt kst => XS.istoreN X0.here hx rfl (hb hby d12_4) rfl (l' := #[.val (.ref t), .val (.int u), .val (.int (0 : Int32)), .val (.int (0 : Int32))]) rfl kst) ?_
  show OwnWk _ _ _ _ (s₁.setTop (mkF m 5 #[.val (.ref t), .val (.int u), .val (.int (0 : Int32)), .val (.int (0 : Int32))] []))
  refine own_go (fun tgt kst => XS.iloadN X0.here hx rfl (hb hby d12_5) rfl  kst) ?_
  show OwnWk _ _ _ _ (s₁.setTop (mkF m 6 #[.val (.ref t), .val (.int u), .val (.int (0 : Int32)), .val (.int (0 : Int32))] [(.int (0 : Int32))]))
  refine own_go (fun tgt kst => XS.iloadN X0.here hx rfl (hb hby d12_6) rfl  kst) ?_
  show OwnWk _ _ _ _ (s₁.setTop (mkF m 7 #[.val (.ref t), .val (.int u), .val (.int (0 : Int32)), .val (.int (0 : Int32))] [(.int (0 : Int32)), (.int (0 : Int32))]))
  refine own_go (fun tgt kst => XS.icmpYes X0.here hx rfl (pc0 := 7) (pc' := 20) rfl (hb hby d12_7) rfl (flt (by decide : ¬ ((0 : Int32) < (0 : Int32)))).2.1 (by decide) (by decide) kst) ?_
  show OwnWk _ _ _ _ (s₁.setTop (mkF m 20 #[.val (.ref t), .val (.int u), .val (.int (0 : Int32)), .val (.int (0 : Int32))] []))
  exact own_retV X0 hx hlk hret (hb hby d12_20) (by decide) (by decide) (by rw [e0]; exact ⟨rfl, N0, rfl⟩)
theorem pn_pn_7 : plainName "com/example/encircle/encircle/layout/ZoneKeys" = true := by first | (simp [plainName, overriddenIn]; done) | decide +kernel
theorem pn_7 : plainFor (⟨"com/example/encircle/encircle/layout/ZoneKeys", "<init>", "(ILjava/util/List;)V"⟩ : MethodName) = true := plainFor_of_name pn_pn_7
theorem d7_0 : decode prog_36_method_1_code 0 = .ok (.aload_n 0, 1) := by decide +kernel
theorem d7_1 : decode prog_36_method_1_code 1 = .ok (.invokespecial 1, 3) := by decide +kernel
theorem d7_4 : decode prog_36_method_1_code 4 = .ok (.aload_n 0, 1) := by decide +kernel
theorem d7_5 : decode prog_36_method_1_code 5 = .ok (.iload_n 1, 1) := by decide +kernel
theorem d7_6 : decode prog_36_method_1_code 6 = .ok (.newarray .long, 2) := by decide +kernel
theorem d7_8 : decode prog_36_method_1_code 8 = .ok (.putfield 7, 3) := by decide +kernel
theorem d7_11 : decode prog_36_method_1_code 11 = .ok (.ldc2_w 13, 3) := by decide +kernel
theorem d7_14 : decode prog_36_method_1_code 14 = .ok (.lstore_n 3, 1) := by decide +kernel
theorem d7_15 : decode prog_36_method_1_code 15 = .ok (.iconst 0, 1) := by decide +kernel
theorem d7_16 : decode prog_36_method_1_code 16 = .ok (.istore 5, 2) := by decide +kernel
theorem d7_18 : decode prog_36_method_1_code 18 = .ok (.iload 5, 2) := by decide +kernel
theorem d7_20 : decode prog_36_method_1_code 20 = .ok (.iload_n 1, 1) := by decide +kernel
theorem d7_21 : decode prog_36_method_1_code 21 = .ok (.if_icmp .ge 56, 3) := by decide +kernel
theorem d7_24 : decode prog_36_method_1_code 24 = .ok (.lload_n 3, 1) := by decide +kernel
theorem d7_25 : decode prog_36_method_1_code 25 = .ok (.ldc2_w 15, 3) := by decide +kernel
theorem d7_28 : decode prog_36_method_1_code 28 = .ok (.ladd, 1) := by decide +kernel
theorem d7_29 : decode prog_36_method_1_code 29 = .ok (.lstore_n 3, 1) := by decide +kernel
theorem d7_30 : decode prog_36_method_1_code 30 = .ok (.lload_n 3, 1) := by decide +kernel
theorem d7_31 : decode prog_36_method_1_code 31 = .ok (.lload_n 3, 1) := by decide +kernel
theorem d7_32 : decode prog_36_method_1_code 32 = .ok (.bipush 30, 2) := by decide +kernel
theorem d7_34 : decode prog_36_method_1_code 34 = .ok (.lushr, 1) := by decide +kernel
theorem d7_35 : decode prog_36_method_1_code 35 = .ok (.lxor, 1) := by decide +kernel
theorem d7_36 : decode prog_36_method_1_code 36 = .ok (.ldc2_w 17, 3) := by decide +kernel
theorem d7_39 : decode prog_36_method_1_code 39 = .ok (.lmul, 1) := by decide +kernel
theorem d7_40 : decode prog_36_method_1_code 40 = .ok (.lstore 6, 2) := by decide +kernel
theorem d7_42 : decode prog_36_method_1_code 42 = .ok (.lload 6, 2) := by decide +kernel
theorem d7_44 : decode prog_36_method_1_code 44 = .ok (.lload 6, 2) := by decide +kernel
theorem d7_46 : decode prog_36_method_1_code 46 = .ok (.bipush 27, 2) := by decide +kernel
theorem d7_48 : decode prog_36_method_1_code 48 = .ok (.lushr, 1) := by decide +kernel
theorem d7_49 : decode prog_36_method_1_code 49 = .ok (.lxor, 1) := by decide +kernel
theorem d7_50 : decode prog_36_method_1_code 50 = .ok (.ldc2_w 19, 3) := by decide +kernel
theorem d7_53 : decode prog_36_method_1_code 53 = .ok (.lmul, 1) := by decide +kernel
theorem d7_54 : decode prog_36_method_1_code 54 = .ok (.lstore 6, 2) := by decide +kernel
theorem d7_56 : decode prog_36_method_1_code 56 = .ok (.aload_n 0, 1) := by decide +kernel
theorem d7_57 : decode prog_36_method_1_code 57 = .ok (.getfield 7, 3) := by decide +kernel
theorem d7_60 : decode prog_36_method_1_code 60 = .ok (.iload 5, 2) := by decide +kernel
theorem d7_62 : decode prog_36_method_1_code 62 = .ok (.lload 6, 2) := by decide +kernel
theorem d7_64 : decode prog_36_method_1_code 64 = .ok (.lload 6, 2) := by decide +kernel
theorem d7_66 : decode prog_36_method_1_code 66 = .ok (.bipush 31, 2) := by decide +kernel
theorem d7_68 : decode prog_36_method_1_code 68 = .ok (.lushr, 1) := by decide +kernel
theorem d7_69 : decode prog_36_method_1_code 69 = .ok (.lxor, 1) := by decide +kernel
theorem d7_70 : decode prog_36_method_1_code 70 = .ok (.lastore, 1) := by decide +kernel
theorem d7_71 : decode prog_36_method_1_code 71 = .ok (.iinc 5 1, 3) := by decide +kernel
theorem d7_74 : decode prog_36_method_1_code 74 = .ok (.goto (-56), 3) := by decide +kernel
theorem d7_77 : decode prog_36_method_1_code 77 = .ok (.aload_n 0, 1) := by decide +kernel
theorem d7_78 : decode prog_36_method_1_code 78 = .ok (.aload_n 2, 1) := by decide +kernel
theorem d7_79 : decode prog_36_method_1_code 79 = .ok (.invokeinterface 21 1, 5) := by decide +kernel
theorem pd_2 : parseMethodDescriptor "()I" = some ⟨[], some .int⟩ := by decide +kernel
theorem d7_84 : decode prog_36_method_1_code 84 = .ok (.newarray .long, 2) := by decide +kernel
theorem d7_86 : decode prog_36_method_1_code 86 = .ok (.putfield 27, 3) := by decide +kernel
theorem d7_89 : decode prog_36_method_1_code 89 = .ok (.aload_n 0, 1) := by decide +kernel
theorem d7_90 : decode prog_36_method_1_code 90 = .ok (.aload_n 2, 1) := by decide +kernel
theorem d7_91 : decode prog_36_method_1_code 91 = .ok (.invokeinterface 21 1, 5) := by decide +kernel
theorem d7_96 : decode prog_36_method_1_code 96 = .ok (.newarray .int, 2) := by decide +kernel
theorem d7_98 : decode prog_36_method_1_code 98 = .ok (.putfield 30, 3) := by decide +kernel
theorem d7_101 : decode prog_36_method_1_code 101 = .ok (.iconst 0, 1) := by decide +kernel
theorem d7_102 : decode prog_36_method_1_code 102 = .ok (.istore 5, 2) := by decide +kernel
theorem d7_104 : decode prog_36_method_1_code 104 = .ok (.iload 5, 2) := by decide +kernel
theorem d7_106 : decode prog_36_method_1_code 106 = .ok (.aload_n 0, 1) := by decide +kernel
theorem d7_107 : decode prog_36_method_1_code 107 = .ok (.getfield 27, 3) := by decide +kernel
theorem d7_110 : decode prog_36_method_1_code 110 = .ok (.arraylength, 1) := by decide +kernel
theorem d7_111 : decode prog_36_method_1_code 111 = .ok (.if_icmp .ge 78, 3) := by decide +kernel
theorem d7_189 : decode prog_36_method_1_code 189 = .ok (.iconst 1, 1) := by decide +kernel
theorem d7_190 : decode prog_36_method_1_code 190 = .ok (.aload_n 2, 1) := by decide +kernel
theorem d7_191 : decode prog_36_method_1_code 191 = .ok (.invokeinterface 21 1, 5) := by decide +kernel
theorem d7_196 : decode prog_36_method_1_code 196 = .ok (.invokestatic 47, 3) := by decide +kernel
theorem pd_3 : parseMethodDescriptor "(II)I" = some ⟨[.int, .int], some .int⟩ := by decide +kernel
theorem d7_199 : decode prog_36_method_1_code 199 = .ok (.iconst 4, 1) := by decide +kernel
theorem d7_200 : decode prog_36_method_1_code 200 = .ok (.imul, 1) := by decide +kernel
theorem d7_201 : decode prog_36_method_1_code 201 = .ok (.iconst 1, 1) := by decide +kernel
theorem d7_202 : decode prog_36_method_1_code 202 = .ok (.isub, 1) := by decide +kernel
theorem d7_203 : decode prog_36_method_1_code 203 = .ok (.invokestatic 53, 3) := by decide +kernel
theorem d7_206 : decode prog_36_method_1_code 206 = .ok (.istore 5, 2) := by decide +kernel
theorem d7_208 : decode prog_36_method_1_code 208 = .ok (.aload_n 0, 1) := by decide +kernel
theorem d7_209 : decode prog_36_method_1_code 209 = .ok (.iload 5, 2) := by decide +kernel
theorem d7_211 : decode prog_36_method_1_code 211 = .ok (.newarray .long, 2) := by decide +kernel
theorem d7_213 : decode prog_36_method_1_code 213 = .ok (.putfield 58, 3) := by decide +kernel
theorem d7_216 : decode prog_36_method_1_code 216 = .ok (.aload_n 0, 1) := by decide +kernel
theorem d7_217 : decode prog_36_method_1_code 217 = .ok (.iload 5, 2) := by decide +kernel
theorem d7_219 : decode prog_36_method_1_code 219 = .ok (.newarray .int, 2) := by decide +kernel
theorem d7_221 : decode prog_36_method_1_code 221 = .ok (.putfield 61, 3) := by decide +kernel
theorem d7_224 : decode prog_36_method_1_code 224 = .ok (.aload_n 0, 1) := by decide +kernel
theorem d7_225 : decode prog_36_method_1_code 225 = .ok (.aload_n 2, 1) := by decide +kernel
theorem d7_226 : decode prog_36_method_1_code 226 = .ok (.invokeinterface 21 1, 5) := by decide +kernel
theorem d7_231 : decode prog_36_method_1_code 231 = .ok (.newarray .int, 2) := by decide +kernel
theorem d7_233 : decode prog_36_method_1_code 233 = .ok (.putfield 64, 3) := by decide +kernel
theorem d7_236 : decode prog_36_method_1_code 236 = .ok (.aload_n 0, 1) := by decide +kernel
theorem d7_237 : decode prog_36_method_1_code 237 = .ok (.getfield 64, 3) := by decide +kernel
theorem d7_240 : decode prog_36_method_1_code 240 = .ok (.iconst (-1), 1) := by decide +kernel
theorem d7_241 : decode prog_36_method_1_code 241 = .ok (.invokestatic 67, 3) := by decide +kernel
theorem pd_4 : parseMethodDescriptor "([II)V" = some ⟨[(.array .int), .int], none⟩ := by decide +kernel
theorem d7_244 : decode prog_36_method_1_code 244 = .ok (.aload_n 2, 1) := by decide +kernel
theorem d7_245 : decode prog_36_method_1_code 245 = .ok (.invokeinterface 21 1, 5) := by decide +kernel
theorem d7_250 : decode prog_36_method_1_code 250 = .ok (.iconst 1, 1) := by decide +kernel
theorem d7_251 : decode prog_36_method_1_code 251 = .ok (.isub, 1) := by decide +kernel
theorem d7_252 : decode prog_36_method_1_code 252 = .ok (.istore 6, 2) := by decide +kernel
theorem d7_254 : decode prog_36_method_1_code 254 = .ok (.iload 6, 2) := by decide +kernel
theorem d7_256 : decode prog_36_method_1_code 256 = .ok (.ifCond .lt 63, 3) := by decide +kernel
theorem d7_319 : decode prog_36_method_1_code 319 = .ok (.return_, 1) := by decide +kernel
theorem ef_rm7 (m : MethodId) (x0 : Addr) (x1 : Int32) (x2 : Addr) : entryFrame m #[(.ref x0), (.int x1), (.ref x2)] 8 = mkF m 0 #[.val (.ref x0), .val (.int x1), .val (.ref x2), .unset, .unset, .unset, .unset, .unset] [] := by first | (simp [entryFrame, mkF, argsToLocals, Value.category]; done) | rfl
def Q_rm7 (Z : State) (a ls : Addr) (h0 : Heap) (n0 : Nat) (v : Option Value) (h : Heap) (L : List Loc) : Prop := v = none ∧ Fr n0 L ∧ Keep h0 h [a] ∧ ∃ (kk : Addr) (ks : List Int64), h0.size ≤ kk ∧ n0 ≤ kk ∧ Fld Z h a "com/example/encircle/encircle/layout/ZoneKeys" "keys" "[J" (.ref kk) ∧ OAr Z h kk .long (own_jv ks) ∧ ks.length = 5
set_option maxRecDepth 65536 in
set_option maxHeartbeats 40000000 in
theorem rm7 (l : Launch) (Z : State) (a0 : Array Value) (hw : ∀ d ∈ tables_1, d.before a0 Z = true) (a ls : Addr) (h0 : Heap) (n0 : Nat) (Z0 : n0 ≤ h0.size) (E_a : Exa Z h0 a "com/example/encircle/encircle/layout/ZoneKeys") (g_a : n0 ≤ a) (F_keys : Fld Z h0 a "com/example/encircle/encircle/layout/ZoneKeys" "keys" "[J" .null) (F_sums : Fld Z h0 a "com/example/encircle/encircle/layout/ZoneKeys" "sums" "[J" .null) (F_sizes : Fld Z h0 a "com/example/encircle/encircle/layout/ZoneKeys" "sizes" "[I" .null) (F_slotSums : Fld Z h0 a "com/example/encircle/encircle/layout/ZoneKeys" "slotSums" "[J" .null) (F_slotZones : Fld Z h0 a "com/example/encircle/encircle/layout/ZoneKeys" "slotZones" "[I" .null) (F_sameSum : Fld Z h0 a "com/example/encircle/encircle/layout/ZoneKeys" "sameSum" "[I" .null) (E_l : Exa Z h0 ls "java/util/ArrayList") (F_l : Fld Z h0 ls "java/util/ArrayList" "size" "I" (.int (0 : Int32))) (ne_l : ls ≠ a) :
    OwnMet l (⟨"com/example/encircle/encircle/layout/ZoneKeys", "<init>", "(ILjava/util/List;)V"⟩ : MethodName) prog_36_method_1_code 8 none [] ({ frames := 2, cells := 6, slots := 9, locals := 27 } : Room) Z #[(.ref a), (.int (5 : Int32)), (.ref ls)] h0 (Q_rm7 Z a ls h0 n0) := by
  refine own_met pn_7 (fun p e s m below meth c s₁ hx hby hml hown hnm hret hlk hZ X0 e0 => ?_)
  have hown : s.vm.findClass "com/example/encircle/encircle/layout/ZoneKeys" = some m.cls := hown
  have N0 := Fr.nil n0
  have K0 := Keep.refl h0 [a]
  rw [ef_rm7]
  show OwnWk _ _ _ _ (s₁.setTop (mkF m 0 #[.val (.ref a), .val (.int (5 : Int32)), .val (.ref ls), .unset, .unset, .unset, .unset, .unset] []))
  refine own_go (fun tgt kst => XS.aloadN X0.here hx rfl (hb hby d7_0) rfl rfl  kst) ?_
  show OwnWk _ _ _ _ (s₁.setTop (mkF m 1 #[.val (.ref a), .val (.int (5 : Int32)), .val (.ref ls), .unset, .unset, .unset, .unset, .unset] [(.ref a)]))
  obtain ⟨T1, X1, e1, st1⟩ := initO X0 hx hZ hown (hw _ (List.mem_of_getElem? (i := 46) rfl)) (hw _ (List.mem_of_getElem? (i := 27) rfl)) (hw _ (List.mem_of_getElem? (i := 28) rfl)) e0 (g := (mkF m 1 #[.val (.ref a), .val (.int (5 : Int32)), .val (.ref ls), .unset, .unset, .unset, .unset, .unset] [(.ref a)])) rfl (by rw [hml]; rfl) rfl (hb hby d7_1) (by decide) (W := 0) (by show 2 * 0 + _ ≤ _; exact Nat.le_of_eq rfl) (by decide)
  refine own_go st1 ?_
  show OwnWk _ _ _ _ (T1.setTop (mkF m 4 #[.val (.ref a), .val (.int (5 : Int32)), .val (.ref ls), .unset, .unset, .unset, .unset, .unset] []))
  refine own_go (fun tgt kst => XS.aloadN X1.here hx rfl (hb hby d7_4) rfl rfl  kst) ?_
  show OwnWk _ _ _ _ (T1.setTop (mkF m 5 #[.val (.ref a), .val (.int (5 : Int32)), .val (.ref ls), .unset, .unset, .unset, .unset, .unset] [(.ref a)]))
  refine own_go (fun tgt kst => XS.iloadN X1.here hx rfl (hb hby d7_5) rfl  kst) ?_
  show OwnWk _ _ _ _ (T1.setTop (mkF m 6 #[.val (.ref a), .val (.int (5 : Int32)), .val (.ref ls), .unset, .unset, .unset, .unset, .unset] [(.int (5 : Int32)), (.ref a)]))
  refine own_newP X1 hx hZ (aty := .long) (hw _ (List.mem_of_getElem? (i := 47) rfl)) e1 (g := (mkF m 6 #[.val (.ref a), .val (.int (5 : Int32)), .val (.ref ls), .unset, .unset, .unset, .unset, .unset] [(.int (5 : Int32)), (.ref a)])) rfl (hb hby d7_6) rfl (by decide) (cap := 5) (by decide) (by decide) (by decide) (by decide) (fun T2 h2 b2 X2 e2 g2 E2 V2 => ?_)
  have ne3 : a ≠ b2 := Nat.ne_of_lt (Nat.lt_of_lt_of_le E_a.lt (Nat.le_of_eq g2.symm))
  have ne4 : ls ≠ b2 := Nat.ne_of_lt (Nat.lt_of_lt_of_le E_l.lt (Nat.le_of_eq g2.symm))
  have ge5 : n0 ≤ b2 := Nat.le_trans Z0 (Nat.le_of_eq g2.symm)
  have sz6 : h0.size ≤ b2 := Nat.le_trans K0.1 (Nat.le_of_eq g2.symm)
  have F7 := Exa.ext E2 E_a
  have F8 := Exa.ext E2 E_l
  have F9 := Fld.ext E2 F_l
  have F10 := Fld.ext E2 F_keys
  have F11 := Fld.ext E2 F_sums
  have F12 := Fld.ext E2 F_sizes
  have F13 := Fld.ext E2 F_slotSums
  have F14 := Fld.ext E2 F_slotZones
  have F15 := Fld.ext E2 F_sameSum
  have Z16 := Nat.le_trans Z0 E2.1
  have K17 := Keep.ext K0 E2
  have V2b : OAr Z h2 b2 .long [(.long (0 : Int64)), (.long (0 : Int64)), (.long (0 : Int64)), (.long (0 : Int64)), (.long (0 : Int64))] := V2
  show OwnWk _ _ _ _ (T2.setTop (mkF m 8 #[.val (.ref a), .val (.int (5 : Int32)), .val (.ref ls), .unset, .unset, .unset, .unset, .unset] [(.ref b2), (.ref a)]))
  obtain ⟨T18, h18, X18, e18, W18, st18⟩ := putF X2 hx hZ hown (host := "") (Or.inl (hw _ (List.mem_of_getElem? (i := 48) rfl))) Via.refl e2 F10 F7 (Or.inr ⟨(hw _ (List.mem_of_getElem? (i := 49) rfl)), rfl, hnm⟩) (hw _ (List.mem_of_getElem? (i := 41) rfl)) (v := (.ref b2)) (ty := (.array .long)) (by decide) rfl rfl (g := (mkF m 8 #[.val (.ref a), .val (.int (5 : Int32)), .val (.ref ls), .unset, .unset, .unset, .unset, .unset] [(.ref b2), (.ref a)])) rfl rfl (hb hby d7_8)
  refine own_go st18 ?_
  have N18 := Fr.snoc X18 N0 g_a
  have Fw18 := Fld.same W18 F10
  have F19 := Exa.wr W18 F7
  have F20 := Exa.wr W18 F8
  have F21 := Fld.other W18 F9 (Or.inl ne_l)
  have F22 := Fld.other W18 F11 (Or.inr (slot_ne (Or.inr (hw _ (List.mem_of_getElem? (i := 66) rfl))) (Or.inr (hw _ (List.mem_of_getElem? (i := 49) rfl))) (by decide) (t := (.array .long)) (t' := (.array .long)) (by decide) (by decide)))
  have F23 := Fld.other W18 F12 (Or.inr (slot_ne (Or.inr (hw _ (List.mem_of_getElem? (i := 68) rfl))) (Or.inr (hw _ (List.mem_of_getElem? (i := 49) rfl))) (by decide) (t := (.array .int)) (t' := (.array .long)) (by decide) (by decide)))
  have F24 := Fld.other W18 F13 (Or.inr (slot_ne (Or.inr (hw _ (List.mem_of_getElem? (i := 83) rfl))) (Or.inr (hw _ (List.mem_of_getElem? (i := 49) rfl))) (by decide) (t := (.array .long)) (t' := (.array .long)) (by decide) (by decide)))
  have F25 := Fld.other W18 F14 (Or.inr (slot_ne (Or.inr (hw _ (List.mem_of_getElem? (i := 85) rfl))) (Or.inr (hw _ (List.mem_of_getElem? (i := 49) rfl))) (by decide) (t := (.array .int)) (t' := (.array .long)) (by decide) (by decide)))
  have F26 := Fld.other W18 F15 (Or.inr (slot_ne (Or.inr (hw _ (List.mem_of_getElem? (i := 87) rfl))) (Or.inr (hw _ (List.mem_of_getElem? (i := 49) rfl))) (by decide) (t := (.array .int)) (t' := (.array .long)) (by decide) (by decide)))
  have F27 := OAr.other V2b W18 (Ne.symm ne3)
  have Z28 := Nat.le_trans Z16 (Keep.of_wr W18).1
  have K29 := Keep.wr K17 W18 (Or.inl (List.mem_of_getElem? (i := 0) rfl))
  show OwnWk _ _ _ _ (T18.setTop (mkF m 11 #[.val (.ref a), .val (.int (5 : Int32)), .val (.ref ls), .unset, .unset, .unset, .unset, .unset] []))
  refine own_go (X18.ldc2Long hx hown (mvT hZ (hw _ (List.mem_of_getElem? (i := 50) rfl))) (g := (mkF m 11 #[.val (.ref a), .val (.int (5 : Int32)), .val (.ref ls), .unset, .unset, .unset, .unset, .unset] [])) rfl (hb hby d7_11)) ?_
  show OwnWk _ _ _ _ (T18.setTop (mkF m 14 #[.val (.ref a), .val (.int (5 : Int32)), .val (.ref ls), .unset, .unset, .unset, .unset, .unset] [(.long (104372539625506 : Int64))]))
  refine own_go (fun tgt kst => XS.lstoreN X18.here hx rfl (hb hby d7_14) rfl (l' := #[.val (.ref a), .val (.int (5 : Int32)), .val (.ref ls), .val (.long (104372539625506 : Int64)), .second, .unset, .unset, .unset]) rfl kst) ?_
  show OwnWk _ _ _ _ (T18.setTop (mkF m 15 #[.val (.ref a), .val (.int (5 : Int32)), .val (.ref ls), .val (.long (104372539625506 : Int64)), .second, .unset, .unset, .unset] []))
  refine own_go (fun tgt kst => XS.iconst X18.here hx rfl (hb hby d7_15) kst) ?_
  show OwnWk _ _ _ _ (T18.setTop (mkF m 16 #[.val (.ref a), .val (.int (5 : Int32)), .val (.ref ls), .val (.long (104372539625506 : Int64)), .second, .unset, .unset, .unset] [(.int (0 : Int32))]))
  refine own_go (fun tgt kst => XS.istore X18.here hx rfl (hb hby d7_16) rfl (l' := #[.val (.ref a), .val (.int (5 : Int32)), .val (.ref ls), .val (.long (104372539625506 : Int64)), .second, .val (.int (0 : Int32)), .unset, .unset]) rfl kst) ?_
  show OwnWk _ _ _ _ (T18.setTop (mkF m 18 #[.val (.ref a), .val (.int (5 : Int32)), .val (.ref ls), .val (.long (104372539625506 : Int64)), .second, .val (.int (0 : Int32)), .unset, .unset] []))
  refine own_go (fun tgt kst => XS.iload X18.here hx rfl (hb hby d7_18) rfl  kst) ?_
  show OwnWk _ _ _ _ (T18.setTop (mkF m 20 #[.val (.ref a), .val (.int (5 : Int32)), .val (.ref ls), .val (.long (104372539625506 : Int64)), .second, .val (.int (0 : Int32)), .unset, .unset] [(.int (0 : Int32))]))
  refine own_go (fun tgt kst => XS.iloadN X18.here hx rfl (hb hby d7_20) rfl  kst) ?_
  show OwnWk _ _ _ _ (T18.setTop (mkF m 21 #[.val (.ref a), .val (.int (5 : Int32)), .val (.ref ls), .val (.long (104372539625506 : Int64)), .second, .val (.int (0 : Int32)), .unset, .unset] [(.int (5 : Int32)), (.int (0 : Int32))]))
  refine own_go (fun tgt kst => XS.icmpNo X18.here hx rfl (hb hby d7_21) rfl (tlt (by decide : (0 : Int32) < (5 : Int32))).2.1 kst) ?_
  show OwnWk _ _ _ _ (T18.setTop (mkF m 24 #[.val (.ref a), .val (.int (5 : Int32)), .val (.ref ls), .val (.long (104372539625506 : Int64)), .second, .val (.int (0 : Int32)), .unset, .unset] []))
  refine own_go (fun tgt kst => XS.lloadN X18.here hx rfl (hb hby d7_24) rfl  kst) ?_
  show OwnWk _ _ _ _ (T18.setTop (mkF m 25 #[.val (.ref a), .val (.int (5 : Int32)), .val (.ref ls), .val (.long (104372539625506 : Int64)), .second, .val (.int (0 : Int32)), .unset, .unset] [(.long (104372539625506 : Int64))]))
  refine own_go (X18.ldc2Long hx hown (mvT hZ (hw _ (List.mem_of_getElem? (i := 51) rfl))) (g := (mkF m 25 #[.val (.ref a), .val (.int (5 : Int32)), .val (.ref ls), .val (.long (104372539625506 : Int64)), .second, .val (.int (0 : Int32)), .unset, .unset] [(.long (104372539625506 : Int64))])) rfl (hb hby d7_25)) ?_
  show OwnWk _ _ _ _ (T18.setTop (mkF m 28 #[.val (.ref a), .val (.int (5 : Int32)), .val (.ref ls), .val (.long (104372539625506 : Int64)), .second, .val (.int (0 : Int32)), .unset, .unset] [(.long (-7046029254386353131 : Int64)), (.long (104372539625506 : Int64))]))
  refine own_go (fun tgt kst => XS.ladd X18.here hx rfl (hb hby d7_28) rfl kst) ?_
  show OwnWk _ _ _ _ (T18.setTop (mkF m 29 #[.val (.ref a), .val (.int (5 : Int32)), .val (.ref ls), .val (.long (104372539625506 : Int64)), .second, .val (.int (0 : Int32)), .unset, .unset] [(.long (-7045924881846727625 : Int64))]))
  obtain ⟨st0_, h_st0_⟩ : ∃ z : Int64, z = (-7045924881846727625 : Int64) := ⟨_, rfl⟩
  rw [← h_st0_]
  refine own_go (fun tgt kst => XS.lstoreN X18.here hx rfl (hb hby d7_29) rfl (l' := #[.val (.ref a), .val (.int (5 : Int32)), .val (.ref ls), .val (.long st0_), .second, .val (.int (0 : Int32)), .unset, .unset]) rfl kst) ?_
  show OwnWk _ _ _ _ (T18.setTop (mkF m 30 #[.val (.ref a), .val (.int (5 : Int32)), .val (.ref ls), .val (.long st0_), .second, .val (.int (0 : Int32)), .unset, .unset] []))
  refine own_go (fun tgt kst => XS.lloadN X18.here hx rfl (hb hby d7_30) rfl  kst) ?_
  show OwnWk _ _ _ _ (T18.setTop (mkF m 31 #[.val (.ref a), .val (.int (5 : Int32)), .val (.ref ls), .val (.long st0_), .second, .val (.int (0 : Int32)), .unset, .unset] [(.long st0_)]))
  refine own_go (fun tgt kst => XS.lloadN X18.here hx rfl (hb hby d7_31) rfl  kst) ?_
  show OwnWk _ _ _ _ (T18.setTop (mkF m 32 #[.val (.ref a), .val (.int (5 : Int32)), .val (.ref ls), .val (.long st0_), .second, .val (.int (0 : Int32)), .unset, .unset] [(.long st0_), (.long st0_)]))
  refine own_go (fun tgt kst => XS.bipush X18.here hx rfl (hb hby d7_32) kst) ?_
  show OwnWk _ _ _ _ (T18.setTop (mkF m 34 #[.val (.ref a), .val (.int (5 : Int32)), .val (.ref ls), .val (.long st0_), .second, .val (.int (0 : Int32)), .unset, .unset] [(.int (30 : Int32)), (.long st0_), (.long st0_)]))
  refine own_go (fun tgt kst => XS.lushr X18.here hx rfl (hb hby d7_34) rfl kst) ?_
  show OwnWk _ _ _ _ (T18.setTop (mkF m 35 #[.val (.ref a), .val (.int (5 : Int32)), .val (.ref ls), .val (.long st0_), .second, .val (.int (0 : Int32)), .unset, .unset] [(.long ((st0_.toUInt64 >>> ((30 : Int32) &&& 0x3f).toInt64.toUInt64).toInt64)), (.long st0_)]))
  refine own_go (fun tgt kst => XS.lxor X18.here hx rfl (hb hby d7_35) rfl kst) ?_
  show OwnWk _ _ _ _ (T18.setTop (mkF m 36 #[.val (.ref a), .val (.int (5 : Int32)), .val (.ref ls), .val (.long st0_), .second, .val (.int (0 : Int32)), .unset, .unset] [(.long (st0_ ^^^ ((st0_.toUInt64 >>> ((30 : Int32) &&& 0x3f).toInt64.toUInt64).toInt64)))]))
  refine own_go (X18.ldc2Long hx hown (mvT hZ (hw _ (List.mem_of_getElem? (i := 52) rfl))) (g := (mkF m 36 #[.val (.ref a), .val (.int (5 : Int32)), .val (.ref ls), .val (.long st0_), .second, .val (.int (0 : Int32)), .unset, .unset] [(.long (st0_ ^^^ ((st0_.toUInt64 >>> ((30 : Int32) &&& 0x3f).toInt64.toUInt64).toInt64)))])) rfl (hb hby d7_36)) ?_
  show OwnWk _ _ _ _ (T18.setTop (mkF m 39 #[.val (.ref a), .val (.int (5 : Int32)), .val (.ref ls), .val (.long st0_), .second, .val (.int (0 : Int32)), .unset, .unset] [(.long (-4658895280553007687 : Int64)), (.long (st0_ ^^^ ((st0_.toUInt64 >>> ((30 : Int32) &&& 0x3f).toInt64.toUInt64).toInt64)))]))
  refine own_go (fun tgt kst => XS.lmul X18.here hx rfl (hb hby d7_39) rfl kst) ?_
  show OwnWk _ _ _ _ (T18.setTop (mkF m 40 #[.val (.ref a), .val (.int (5 : Int32)), .val (.ref ls), .val (.long st0_), .second, .val (.int (0 : Int32)), .unset, .unset] [(.long ((st0_ ^^^ ((st0_.toUInt64 >>> ((30 : Int32) &&& 0x3f).toInt64.toUInt64).toInt64)) * (-4658895280553007687 : Int64)))]))
  obtain ⟨za0_, h_za0_⟩ : ∃ z : Int64, z = ((st0_ ^^^ ((st0_.toUInt64 >>> ((30 : Int32) &&& 0x3f).toInt64.toUInt64).toInt64)) * (-4658895280553007687 : Int64)) := ⟨_, rfl⟩
  rw [← h_za0_]
  refine own_go (fun tgt kst => XS.lstore X18.here hx rfl (hb hby d7_40) rfl (l' := #[.val (.ref a), .val (.int (5 : Int32)), .val (.ref ls), .val (.long st0_), .second, .val (.int (0 : Int32)), .val (.long za0_), .second]) rfl kst) ?_
  show OwnWk _ _ _ _ (T18.setTop (mkF m 42 #[.val (.ref a), .val (.int (5 : Int32)), .val (.ref ls), .val (.long st0_), .second, .val (.int (0 : Int32)), .val (.long za0_), .second] []))
  refine own_go (fun tgt kst => XS.lload X18.here hx rfl (hb hby d7_42) rfl  kst) ?_
  show OwnWk _ _ _ _ (T18.setTop (mkF m 44 #[.val (.ref a), .val (.int (5 : Int32)), .val (.ref ls), .val (.long st0_), .second, .val (.int (0 : Int32)), .val (.long za0_), .second] [(.long za0_)]))
  refine own_go (fun tgt kst => XS.lload X18.here hx rfl (hb hby d7_44) rfl  kst) ?_
  show OwnWk _ _ _ _ (T18.setTop (mkF m 46 #[.val (.ref a), .val (.int (5 : Int32)), .val (.ref ls), .val (.long st0_), .second, .val (.int (0 : Int32)), .val (.long za0_), .second] [(.long za0_), (.long za0_)]))
  refine own_go (fun tgt kst => XS.bipush X18.here hx rfl (hb hby d7_46) kst) ?_
  show OwnWk _ _ _ _ (T18.setTop (mkF m 48 #[.val (.ref a), .val (.int (5 : Int32)), .val (.ref ls), .val (.long st0_), .second, .val (.int (0 : Int32)), .val (.long za0_), .second] [(.int (27 : Int32)), (.long za0_), (.long za0_)]))
  refine own_go (fun tgt kst => XS.lushr X18.here hx rfl (hb hby d7_48) rfl kst) ?_
  show OwnWk _ _ _ _ (T18.setTop (mkF m 49 #[.val (.ref a), .val (.int (5 : Int32)), .val (.ref ls), .val (.long st0_), .second, .val (.int (0 : Int32)), .val (.long za0_), .second] [(.long ((za0_.toUInt64 >>> ((27 : Int32) &&& 0x3f).toInt64.toUInt64).toInt64)), (.long za0_)]))
  refine own_go (fun tgt kst => XS.lxor X18.here hx rfl (hb hby d7_49) rfl kst) ?_
  show OwnWk _ _ _ _ (T18.setTop (mkF m 50 #[.val (.ref a), .val (.int (5 : Int32)), .val (.ref ls), .val (.long st0_), .second, .val (.int (0 : Int32)), .val (.long za0_), .second] [(.long (za0_ ^^^ ((za0_.toUInt64 >>> ((27 : Int32) &&& 0x3f).toInt64.toUInt64).toInt64)))]))
  refine own_go (X18.ldc2Long hx hown (mvT hZ (hw _ (List.mem_of_getElem? (i := 53) rfl))) (g := (mkF m 50 #[.val (.ref a), .val (.int (5 : Int32)), .val (.ref ls), .val (.long st0_), .second, .val (.int (0 : Int32)), .val (.long za0_), .second] [(.long (za0_ ^^^ ((za0_.toUInt64 >>> ((27 : Int32) &&& 0x3f).toInt64.toUInt64).toInt64)))])) rfl (hb hby d7_50)) ?_
  show OwnWk _ _ _ _ (T18.setTop (mkF m 53 #[.val (.ref a), .val (.int (5 : Int32)), .val (.ref ls), .val (.long st0_), .second, .val (.int (0 : Int32)), .val (.long za0_), .second] [(.long (-7723592293110705685 : Int64)), (.long (za0_ ^^^ ((za0_.toUInt64 >>> ((27 : Int32) &&& 0x3f).toInt64.toUInt64).toInt64)))]))
  refine own_go (fun tgt kst => XS.lmul X18.here hx rfl (hb hby d7_53) rfl kst) ?_
  show OwnWk _ _ _ _ (T18.setTop (mkF m 54 #[.val (.ref a), .val (.int (5 : Int32)), .val (.ref ls), .val (.long st0_), .second, .val (.int (0 : Int32)), .val (.long za0_), .second] [(.long ((za0_ ^^^ ((za0_.toUInt64 >>> ((27 : Int32) &&& 0x3f).toInt64.toUInt64).toInt64)) * (-7723592293110705685 : Int64)))]))
  obtain ⟨zb0_, h_zb0_⟩ : ∃ z : Int64, z = ((za0_ ^^^ ((za0_.toUInt64 >>> ((27 : Int32) &&& 0x3f).toInt64.toUInt64).toInt64)) * (-7723592293110705685 : Int64)) := ⟨_, rfl⟩
  rw [← h_zb0_]
  refine own_go (fun tgt kst => XS.lstore X18.here hx rfl (hb hby d7_54) rfl (l' := #[.val (.ref a), .val (.int (5 : Int32)), .val (.ref ls), .val (.long st0_), .second, .val (.int (0 : Int32)), .val (.long zb0_), .second]) rfl kst) ?_
  show OwnWk _ _ _ _ (T18.setTop (mkF m 56 #[.val (.ref a), .val (.int (5 : Int32)), .val (.ref ls), .val (.long st0_), .second, .val (.int (0 : Int32)), .val (.long zb0_), .second] []))
  refine own_go (fun tgt kst => XS.aloadN X18.here hx rfl (hb hby d7_56) rfl rfl  kst) ?_
  show OwnWk _ _ _ _ (T18.setTop (mkF m 57 #[.val (.ref a), .val (.int (5 : Int32)), .val (.ref ls), .val (.long st0_), .second, .val (.int (0 : Int32)), .val (.long zb0_), .second] [(.ref a)]))
  obtain ⟨T30, X30, e30, st30⟩ := getF X18 hx hZ hown (host := "") (Or.inl (hw _ (List.mem_of_getElem? (i := 48) rfl))) Via.refl e18 Fw18 (g := (mkF m 57 #[.val (.ref a), .val (.int (5 : Int32)), .val (.ref ls), .val (.long st0_), .second, .val (.int (0 : Int32)), .val (.long zb0_), .second] [(.ref a)])) rfl rfl (hb hby d7_57)
  refine own_go st30 ?_
  show OwnWk _ _ _ _ (T30.setTop (mkF m 60 #[.val (.ref a), .val (.int (5 : Int32)), .val (.ref ls), .val (.long st0_), .second, .val (.int (0 : Int32)), .val (.long zb0_), .second] [(.ref b2)]))
  refine own_go (fun tgt kst => XS.iload X30.here hx rfl (hb hby d7_60) rfl  kst) ?_
  show OwnWk _ _ _ _ (T30.setTop (mkF m 62 #[.val (.ref a), .val (.int (5 : Int32)), .val (.ref ls), .val (.long st0_), .second, .val (.int (0 : Int32)), .val (.long zb0_), .second] [(.int (0 : Int32)), (.ref b2)]))
  refine own_go (fun tgt kst => XS.lload X30.here hx rfl (hb hby d7_62) rfl  kst) ?_
  show OwnWk _ _ _ _ (T30.setTop (mkF m 64 #[.val (.ref a), .val (.int (5 : Int32)), .val (.ref ls), .val (.long st0_), .second, .val (.int (0 : Int32)), .val (.long zb0_), .second] [(.long zb0_), (.int (0 : Int32)), (.ref b2)]))
  refine own_go (fun tgt kst => XS.lload X30.here hx rfl (hb hby d7_64) rfl  kst) ?_
  show OwnWk _ _ _ _ (T30.setTop (mkF m 66 #[.val (.ref a), .val (.int (5 : Int32)), .val (.ref ls), .val (.long st0_), .second, .val (.int (0 : Int32)), .val (.long zb0_), .second] [(.long zb0_), (.long zb0_), (.int (0 : Int32)), (.ref b2)]))
  refine own_go (fun tgt kst => XS.bipush X30.here hx rfl (hb hby d7_66) kst) ?_
  show OwnWk _ _ _ _ (T30.setTop (mkF m 68 #[.val (.ref a), .val (.int (5 : Int32)), .val (.ref ls), .val (.long st0_), .second, .val (.int (0 : Int32)), .val (.long zb0_), .second] [(.int (31 : Int32)), (.long zb0_), (.long zb0_), (.int (0 : Int32)), (.ref b2)]))
  refine own_go (fun tgt kst => XS.lushr X30.here hx rfl (hb hby d7_68) rfl kst) ?_
  show OwnWk _ _ _ _ (T30.setTop (mkF m 69 #[.val (.ref a), .val (.int (5 : Int32)), .val (.ref ls), .val (.long st0_), .second, .val (.int (0 : Int32)), .val (.long zb0_), .second] [(.long ((zb0_.toUInt64 >>> ((31 : Int32) &&& 0x3f).toInt64.toUInt64).toInt64)), (.long zb0_), (.int (0 : Int32)), (.ref b2)]))
  refine own_go (fun tgt kst => XS.lxor X30.here hx rfl (hb hby d7_69) rfl kst) ?_
  show OwnWk _ _ _ _ (T30.setTop (mkF m 70 #[.val (.ref a), .val (.int (5 : Int32)), .val (.ref ls), .val (.long st0_), .second, .val (.int (0 : Int32)), .val (.long zb0_), .second] [(.long (zb0_ ^^^ ((zb0_.toUInt64 >>> ((31 : Int32) &&& 0x3f).toInt64.toUInt64).toInt64))), (.int (0 : Int32)), (.ref b2)]))
  obtain ⟨ky0_, h_ky0_⟩ : ∃ z : Int64, z = (zb0_ ^^^ ((zb0_.toUInt64 >>> ((31 : Int32) &&& 0x3f).toInt64.toUInt64).toInt64)) := ⟨_, rfl⟩
  rw [← h_ky0_]
  refine own_stJ X30 hx hZ e30 F27 (g := (mkF m 70 #[.val (.ref a), .val (.int (5 : Int32)), .val (.ref ls), .val (.long st0_), .second, .val (.int (0 : Int32)), .val (.long zb0_), .second] [(.long ky0_), (.int (0 : Int32)), (.ref b2)])) rfl rfl (hb hby d7_70) (by decide) (Nat.le_of_ble_eq_true rfl) (fun T31 h31 X31 e31 W31 V31 => ?_)
  have N31 := Fr.snoc X31 N18 ge5
  have F32 := Exa.wr W31 F19
  have F33 := Exa.wr W31 F20
  have F34 := Fld.other W31 F21 (Or.inl ne4)
  have F35 := Fld.other W31 F22 (Or.inl ne3)
  have F36 := Fld.other W31 F23 (Or.inl ne3)
  have F37 := Fld.other W31 F24 (Or.inl ne3)
  have F38 := Fld.other W31 F25 (Or.inl ne3)
  have F39 := Fld.other W31 F26 (Or.inl ne3)
  have F40 := Fld.other W31 Fw18 (Or.inl ne3)
  have Z41 := Nat.le_trans Z28 (Keep.of_wr W31).1
  have K42 := Keep.wr K29 W31 (Or.inr sz6)
  show OwnWk _ _ _ _ (T31.setTop (mkF m 71 #[.val (.ref a), .val (.int (5 : Int32)), .val (.ref ls), .val (.long st0_), .second, .val (.int (0 : Int32)), .val (.long zb0_), .second] []))
  refine own_go (fun tgt kst => XS.iinc X31.here hx rfl (hb hby d7_71) rfl (l' := #[.val (.ref a), .val (.int (5 : Int32)), .val (.ref ls), .val (.long st0_), .second, .val (.int (1 : Int32)), .val (.long zb0_), .second]) rfl kst) ?_
  show OwnWk _ _ _ _ (T31.setTop (mkF m 74 #[.val (.ref a), .val (.int (5 : Int32)), .val (.ref ls), .val (.long st0_), .second, .val (.int (1 : Int32)), .val (.long zb0_), .second] []))
  refine own_go (fun tgt kst => XS.goto X31.here hx rfl (pc0 := 74) (pc' := 18) rfl (hb hby d7_74) (by decide) (by decide) kst) ?_
  show OwnWk _ _ _ _ (T31.setTop (mkF m 18 #[.val (.ref a), .val (.int (5 : Int32)), .val (.ref ls), .val (.long st0_), .second, .val (.int (1 : Int32)), .val (.long zb0_), .second] []))
  refine own_go (fun tgt kst => XS.iload X31.here hx rfl (hb hby d7_18) rfl  kst) ?_
  show OwnWk _ _ _ _ (T31.setTop (mkF m 20 #[.val (.ref a), .val (.int (5 : Int32)), .val (.ref ls), .val (.long st0_), .second, .val (.int (1 : Int32)), .val (.long zb0_), .second] [(.int (1 : Int32))]))
  refine own_go (fun tgt kst => XS.iloadN X31.here hx rfl (hb hby d7_20) rfl  kst) ?_
  show OwnWk _ _ _ _ (T31.setTop (mkF m 21 #[.val (.ref a), .val (.int (5 : Int32)), .val (.ref ls), .val (.long st0_), .second, .val (.int (1 : Int32)), .val (.long zb0_), .second] [(.int (5 : Int32)), (.int (1 : Int32))]))
  refine own_go (fun tgt kst => XS.icmpNo X31.here hx rfl (hb hby d7_21) rfl (tlt (by decide : (1 : Int32) < (5 : Int32))).2.1 kst) ?_
  show OwnWk _ _ _ _ (T31.setTop (mkF m 24 #[.val (.ref a), .val (.int (5 : Int32)), .val (.ref ls), .val (.long st0_), .second, .val (.int (1 : Int32)), .val (.long zb0_), .second] []))
  refine own_go (fun tgt kst => XS.lloadN X31.here hx rfl (hb hby d7_24) rfl  kst) ?_
  show OwnWk _ _ _ _ (T31.setTop (mkF m 25 #[.val (.ref a), .val (.int (5 : Int32)), .val (.ref ls), .val (.long st0_), .second, .val (.int (1 : Int32)), .val (.long zb0_), .second] [(.long st0_)]))
  refine own_go (X31.ldc2Long hx hown (mvT hZ (hw _ (List.mem_of_getElem? (i := 51) rfl))) (g := (mkF m 25 #[.val (.ref a), .val (.int (5 : Int32)), .val (.ref ls), .val (.long st0_), .second, .val (.int (1 : Int32)), .val (.long zb0_), .second] [(.long st0_)])) rfl (hb hby d7_25)) ?_
  show OwnWk _ _ _ _ (T31.setTop (mkF m 28 #[.val (.ref a), .val (.int (5 : Int32)), .val (.ref ls), .val (.long st0_), .second, .val (.int (1 : Int32)), .val (.long zb0_), .second] [(.long (-7046029254386353131 : Int64)), (.long st0_)]))
  refine own_go (fun tgt kst => XS.ladd X31.here hx rfl (hb hby d7_28) rfl kst) ?_
  show OwnWk _ _ _ _ (T31.setTop (mkF m 29 #[.val (.ref a), .val (.int (5 : Int32)), .val (.ref ls), .val (.long st0_), .second, .val (.int (1 : Int32)), .val (.long zb0_), .second] [(.long (st0_ + (-7046029254386353131 : Int64)))]))
  obtain ⟨st1_, h_st1_⟩ : ∃ z : Int64, z = (st0_ + (-7046029254386353131 : Int64)) := ⟨_, rfl⟩
  rw [← h_st1_]
  refine own_go (fun tgt kst => XS.lstoreN X31.here hx rfl (hb hby d7_29) rfl (l' := #[.val (.ref a), .val (.int (5 : Int32)), .val (.ref ls), .val (.long st1_), .second, .val (.int (1 : Int32)), .val (.long zb0_), .second]) rfl kst) ?_
  show OwnWk _ _ _ _ (T31.setTop (mkF m 30 #[.val (.ref a), .val (.int (5 : Int32)), .val (.ref ls), .val (.long st1_), .second, .val (.int (1 : Int32)), .val (.long zb0_), .second] []))
  refine own_go (fun tgt kst => XS.lloadN X31.here hx rfl (hb hby d7_30) rfl  kst) ?_
  show OwnWk _ _ _ _ (T31.setTop (mkF m 31 #[.val (.ref a), .val (.int (5 : Int32)), .val (.ref ls), .val (.long st1_), .second, .val (.int (1 : Int32)), .val (.long zb0_), .second] [(.long st1_)]))
  refine own_go (fun tgt kst => XS.lloadN X31.here hx rfl (hb hby d7_31) rfl  kst) ?_
  show OwnWk _ _ _ _ (T31.setTop (mkF m 32 #[.val (.ref a), .val (.int (5 : Int32)), .val (.ref ls), .val (.long st1_), .second, .val (.int (1 : Int32)), .val (.long zb0_), .second] [(.long st1_), (.long st1_)]))
  refine own_go (fun tgt kst => XS.bipush X31.here hx rfl (hb hby d7_32) kst) ?_
  show OwnWk _ _ _ _ (T31.setTop (mkF m 34 #[.val (.ref a), .val (.int (5 : Int32)), .val (.ref ls), .val (.long st1_), .second, .val (.int (1 : Int32)), .val (.long zb0_), .second] [(.int (30 : Int32)), (.long st1_), (.long st1_)]))
  refine own_go (fun tgt kst => XS.lushr X31.here hx rfl (hb hby d7_34) rfl kst) ?_
  show OwnWk _ _ _ _ (T31.setTop (mkF m 35 #[.val (.ref a), .val (.int (5 : Int32)), .val (.ref ls), .val (.long st1_), .second, .val (.int (1 : Int32)), .val (.long zb0_), .second] [(.long ((st1_.toUInt64 >>> ((30 : Int32) &&& 0x3f).toInt64.toUInt64).toInt64)), (.long st1_)]))
  refine own_go (fun tgt kst => XS.lxor X31.here hx rfl (hb hby d7_35) rfl kst) ?_
  show OwnWk _ _ _ _ (T31.setTop (mkF m 36 #[.val (.ref a), .val (.int (5 : Int32)), .val (.ref ls), .val (.long st1_), .second, .val (.int (1 : Int32)), .val (.long zb0_), .second] [(.long (st1_ ^^^ ((st1_.toUInt64 >>> ((30 : Int32) &&& 0x3f).toInt64.toUInt64).toInt64)))]))
  refine own_go (X31.ldc2Long hx hown (mvT hZ (hw _ (List.mem_of_getElem? (i := 52) rfl))) (g := (mkF m 36 #[.val (.ref a), .val (.int (5 : Int32)), .val (.ref ls), .val (.long st1_), .second, .val (.int (1 : Int32)), .val (.long zb0_), .second] [(.long (st1_ ^^^ ((st1_.toUInt64 >>> ((30 : Int32) &&& 0x3f).toInt64.toUInt64).toInt64)))])) rfl (hb hby d7_36)) ?_
  show OwnWk _ _ _ _ (T31.setTop (mkF m 39 #[.val (.ref a), .val (.int (5 : Int32)), .val (.ref ls), .val (.long st1_), .second, .val (.int (1 : Int32)), .val (.long zb0_), .second] [(.long (-4658895280553007687 : Int64)), (.long (st1_ ^^^ ((st1_.toUInt64 >>> ((30 : Int32) &&& 0x3f).toInt64.toUInt64).toInt64)))]))
  refine own_go (fun tgt kst => XS.lmul X31.here hx rfl (hb hby d7_39) rfl kst) ?_
  show OwnWk _ _ _ _ (T31.setTop (mkF m 40 #[.val (.ref a), .val (.int (5 : Int32)), .val (.ref ls), .val (.long st1_), .second, .val (.int (1 : Int32)), .val (.long zb0_), .second] [(.long ((st1_ ^^^ ((st1_.toUInt64 >>> ((30 : Int32) &&& 0x3f).toInt64.toUInt64).toInt64)) * (-4658895280553007687 : Int64)))]))
  obtain ⟨za1_, h_za1_⟩ : ∃ z : Int64, z = ((st1_ ^^^ ((st1_.toUInt64 >>> ((30 : Int32) &&& 0x3f).toInt64.toUInt64).toInt64)) * (-4658895280553007687 : Int64)) := ⟨_, rfl⟩
  rw [← h_za1_]
  refine own_go (fun tgt kst => XS.lstore X31.here hx rfl (hb hby d7_40) rfl (l' := #[.val (.ref a), .val (.int (5 : Int32)), .val (.ref ls), .val (.long st1_), .second, .val (.int (1 : Int32)), .val (.long za1_), .second]) rfl kst) ?_
  show OwnWk _ _ _ _ (T31.setTop (mkF m 42 #[.val (.ref a), .val (.int (5 : Int32)), .val (.ref ls), .val (.long st1_), .second, .val (.int (1 : Int32)), .val (.long za1_), .second] []))
  refine own_go (fun tgt kst => XS.lload X31.here hx rfl (hb hby d7_42) rfl  kst) ?_
  show OwnWk _ _ _ _ (T31.setTop (mkF m 44 #[.val (.ref a), .val (.int (5 : Int32)), .val (.ref ls), .val (.long st1_), .second, .val (.int (1 : Int32)), .val (.long za1_), .second] [(.long za1_)]))
  refine own_go (fun tgt kst => XS.lload X31.here hx rfl (hb hby d7_44) rfl  kst) ?_
  show OwnWk _ _ _ _ (T31.setTop (mkF m 46 #[.val (.ref a), .val (.int (5 : Int32)), .val (.ref ls), .val (.long st1_), .second, .val (.int (1 : Int32)), .val (.long za1_), .second] [(.long za1_), (.long za1_)]))
  refine own_go (fun tgt kst => XS.bipush X31.here hx rfl (hb hby d7_46) kst) ?_
  show OwnWk _ _ _ _ (T31.setTop (mkF m 48 #[.val (.ref a), .val (.int (5 : Int32)), .val (.ref ls), .val (.long st1_), .second, .val (.int (1 : Int32)), .val (.long za1_), .second] [(.int (27 : Int32)), (.long za1_), (.long za1_)]))
  refine own_go (fun tgt kst => XS.lushr X31.here hx rfl (hb hby d7_48) rfl kst) ?_
  show OwnWk _ _ _ _ (T31.setTop (mkF m 49 #[.val (.ref a), .val (.int (5 : Int32)), .val (.ref ls), .val (.long st1_), .second, .val (.int (1 : Int32)), .val (.long za1_), .second] [(.long ((za1_.toUInt64 >>> ((27 : Int32) &&& 0x3f).toInt64.toUInt64).toInt64)), (.long za1_)]))
  refine own_go (fun tgt kst => XS.lxor X31.here hx rfl (hb hby d7_49) rfl kst) ?_
  show OwnWk _ _ _ _ (T31.setTop (mkF m 50 #[.val (.ref a), .val (.int (5 : Int32)), .val (.ref ls), .val (.long st1_), .second, .val (.int (1 : Int32)), .val (.long za1_), .second] [(.long (za1_ ^^^ ((za1_.toUInt64 >>> ((27 : Int32) &&& 0x3f).toInt64.toUInt64).toInt64)))]))
  refine own_go (X31.ldc2Long hx hown (mvT hZ (hw _ (List.mem_of_getElem? (i := 53) rfl))) (g := (mkF m 50 #[.val (.ref a), .val (.int (5 : Int32)), .val (.ref ls), .val (.long st1_), .second, .val (.int (1 : Int32)), .val (.long za1_), .second] [(.long (za1_ ^^^ ((za1_.toUInt64 >>> ((27 : Int32) &&& 0x3f).toInt64.toUInt64).toInt64)))])) rfl (hb hby d7_50)) ?_
  show OwnWk _ _ _ _ (T31.setTop (mkF m 53 #[.val (.ref a), .val (.int (5 : Int32)), .val (.ref ls), .val (.long st1_), .second, .val (.int (1 : Int32)), .val (.long za1_), .second] [(.long (-7723592293110705685 : Int64)), (.long (za1_ ^^^ ((za1_.toUInt64 >>> ((27 : Int32) &&& 0x3f).toInt64.toUInt64).toInt64)))]))
  refine own_go (fun tgt kst => XS.lmul X31.here hx rfl (hb hby d7_53) rfl kst) ?_
  show OwnWk _ _ _ _ (T31.setTop (mkF m 54 #[.val (.ref a), .val (.int (5 : Int32)), .val (.ref ls), .val (.long st1_), .second, .val (.int (1 : Int32)), .val (.long za1_), .second] [(.long ((za1_ ^^^ ((za1_.toUInt64 >>> ((27 : Int32) &&& 0x3f).toInt64.toUInt64).toInt64)) * (-7723592293110705685 : Int64)))]))
  obtain ⟨zb1_, h_zb1_⟩ : ∃ z : Int64, z = ((za1_ ^^^ ((za1_.toUInt64 >>> ((27 : Int32) &&& 0x3f).toInt64.toUInt64).toInt64)) * (-7723592293110705685 : Int64)) := ⟨_, rfl⟩
  rw [← h_zb1_]
  refine own_go (fun tgt kst => XS.lstore X31.here hx rfl (hb hby d7_54) rfl (l' := #[.val (.ref a), .val (.int (5 : Int32)), .val (.ref ls), .val (.long st1_), .second, .val (.int (1 : Int32)), .val (.long zb1_), .second]) rfl kst) ?_
  show OwnWk _ _ _ _ (T31.setTop (mkF m 56 #[.val (.ref a), .val (.int (5 : Int32)), .val (.ref ls), .val (.long st1_), .second, .val (.int (1 : Int32)), .val (.long zb1_), .second] []))
  refine own_go (fun tgt kst => XS.aloadN X31.here hx rfl (hb hby d7_56) rfl rfl  kst) ?_
  show OwnWk _ _ _ _ (T31.setTop (mkF m 57 #[.val (.ref a), .val (.int (5 : Int32)), .val (.ref ls), .val (.long st1_), .second, .val (.int (1 : Int32)), .val (.long zb1_), .second] [(.ref a)]))
  obtain ⟨T43, X43, e43, st43⟩ := getF X31 hx hZ hown (host := "") (Or.inl (hw _ (List.mem_of_getElem? (i := 48) rfl))) Via.refl e31 F40 (g := (mkF m 57 #[.val (.ref a), .val (.int (5 : Int32)), .val (.ref ls), .val (.long st1_), .second, .val (.int (1 : Int32)), .val (.long zb1_), .second] [(.ref a)])) rfl rfl (hb hby d7_57)
  refine own_go st43 ?_
  show OwnWk _ _ _ _ (T43.setTop (mkF m 60 #[.val (.ref a), .val (.int (5 : Int32)), .val (.ref ls), .val (.long st1_), .second, .val (.int (1 : Int32)), .val (.long zb1_), .second] [(.ref b2)]))
  refine own_go (fun tgt kst => XS.iload X43.here hx rfl (hb hby d7_60) rfl  kst) ?_
  show OwnWk _ _ _ _ (T43.setTop (mkF m 62 #[.val (.ref a), .val (.int (5 : Int32)), .val (.ref ls), .val (.long st1_), .second, .val (.int (1 : Int32)), .val (.long zb1_), .second] [(.int (1 : Int32)), (.ref b2)]))
  refine own_go (fun tgt kst => XS.lload X43.here hx rfl (hb hby d7_62) rfl  kst) ?_
  show OwnWk _ _ _ _ (T43.setTop (mkF m 64 #[.val (.ref a), .val (.int (5 : Int32)), .val (.ref ls), .val (.long st1_), .second, .val (.int (1 : Int32)), .val (.long zb1_), .second] [(.long zb1_), (.int (1 : Int32)), (.ref b2)]))
  refine own_go (fun tgt kst => XS.lload X43.here hx rfl (hb hby d7_64) rfl  kst) ?_
  show OwnWk _ _ _ _ (T43.setTop (mkF m 66 #[.val (.ref a), .val (.int (5 : Int32)), .val (.ref ls), .val (.long st1_), .second, .val (.int (1 : Int32)), .val (.long zb1_), .second] [(.long zb1_), (.long zb1_), (.int (1 : Int32)), (.ref b2)]))
  refine own_go (fun tgt kst => XS.bipush X43.here hx rfl (hb hby d7_66) kst) ?_
  show OwnWk _ _ _ _ (T43.setTop (mkF m 68 #[.val (.ref a), .val (.int (5 : Int32)), .val (.ref ls), .val (.long st1_), .second, .val (.int (1 : Int32)), .val (.long zb1_), .second] [(.int (31 : Int32)), (.long zb1_), (.long zb1_), (.int (1 : Int32)), (.ref b2)]))
  refine own_go (fun tgt kst => XS.lushr X43.here hx rfl (hb hby d7_68) rfl kst) ?_
  show OwnWk _ _ _ _ (T43.setTop (mkF m 69 #[.val (.ref a), .val (.int (5 : Int32)), .val (.ref ls), .val (.long st1_), .second, .val (.int (1 : Int32)), .val (.long zb1_), .second] [(.long ((zb1_.toUInt64 >>> ((31 : Int32) &&& 0x3f).toInt64.toUInt64).toInt64)), (.long zb1_), (.int (1 : Int32)), (.ref b2)]))
  refine own_go (fun tgt kst => XS.lxor X43.here hx rfl (hb hby d7_69) rfl kst) ?_
  show OwnWk _ _ _ _ (T43.setTop (mkF m 70 #[.val (.ref a), .val (.int (5 : Int32)), .val (.ref ls), .val (.long st1_), .second, .val (.int (1 : Int32)), .val (.long zb1_), .second] [(.long (zb1_ ^^^ ((zb1_.toUInt64 >>> ((31 : Int32) &&& 0x3f).toInt64.toUInt64).toInt64))), (.int (1 : Int32)), (.ref b2)]))
  obtain ⟨ky1_, h_ky1_⟩ : ∃ z : Int64, z = (zb1_ ^^^ ((zb1_.toUInt64 >>> ((31 : Int32) &&& 0x3f).toInt64.toUInt64).toInt64)) := ⟨_, rfl⟩
  rw [← h_ky1_]
  refine own_stJ X43 hx hZ e43 V31 (g := (mkF m 70 #[.val (.ref a), .val (.int (5 : Int32)), .val (.ref ls), .val (.long st1_), .second, .val (.int (1 : Int32)), .val (.long zb1_), .second] [(.long ky1_), (.int (1 : Int32)), (.ref b2)])) rfl rfl (hb hby d7_70) (by decide) (Nat.le_of_ble_eq_true rfl) (fun T44 h44 X44 e44 W44 V44 => ?_)
  have N44 := Fr.snoc X44 N31 ge5
  have F45 := Exa.wr W44 F32
  have F46 := Exa.wr W44 F33
  have F47 := Fld.other W44 F34 (Or.inl ne4)
  have F48 := Fld.other W44 F35 (Or.inl ne3)
  have F49 := Fld.other W44 F36 (Or.inl ne3)
  have F50 := Fld.other W44 F37 (Or.inl ne3)
  have F51 := Fld.other W44 F38 (Or.inl ne3)
  have F52 := Fld.other W44 F39 (Or.inl ne3)
  have F53 := Fld.other W44 F40 (Or.inl ne3)
  have Z54 := Nat.le_trans Z41 (Keep.of_wr W44).1
  have K55 := Keep.wr K42 W44 (Or.inr sz6)
  show OwnWk _ _ _ _ (T44.setTop (mkF m 71 #[.val (.ref a), .val (.int (5 : Int32)), .val (.ref ls), .val (.long st1_), .second, .val (.int (1 : Int32)), .val (.long zb1_), .second] []))
  refine own_go (fun tgt kst => XS.iinc X44.here hx rfl (hb hby d7_71) rfl (l' := #[.val (.ref a), .val (.int (5 : Int32)), .val (.ref ls), .val (.long st1_), .second, .val (.int (2 : Int32)), .val (.long zb1_), .second]) rfl kst) ?_
  show OwnWk _ _ _ _ (T44.setTop (mkF m 74 #[.val (.ref a), .val (.int (5 : Int32)), .val (.ref ls), .val (.long st1_), .second, .val (.int (2 : Int32)), .val (.long zb1_), .second] []))
  refine own_go (fun tgt kst => XS.goto X44.here hx rfl (pc0 := 74) (pc' := 18) rfl (hb hby d7_74) (by decide) (by decide) kst) ?_
  show OwnWk _ _ _ _ (T44.setTop (mkF m 18 #[.val (.ref a), .val (.int (5 : Int32)), .val (.ref ls), .val (.long st1_), .second, .val (.int (2 : Int32)), .val (.long zb1_), .second] []))
  refine own_go (fun tgt kst => XS.iload X44.here hx rfl (hb hby d7_18) rfl  kst) ?_
  show OwnWk _ _ _ _ (T44.setTop (mkF m 20 #[.val (.ref a), .val (.int (5 : Int32)), .val (.ref ls), .val (.long st1_), .second, .val (.int (2 : Int32)), .val (.long zb1_), .second] [(.int (2 : Int32))]))
  refine own_go (fun tgt kst => XS.iloadN X44.here hx rfl (hb hby d7_20) rfl  kst) ?_
  show OwnWk _ _ _ _ (T44.setTop (mkF m 21 #[.val (.ref a), .val (.int (5 : Int32)), .val (.ref ls), .val (.long st1_), .second, .val (.int (2 : Int32)), .val (.long zb1_), .second] [(.int (5 : Int32)), (.int (2 : Int32))]))
  refine own_go (fun tgt kst => XS.icmpNo X44.here hx rfl (hb hby d7_21) rfl (tlt (by decide : (2 : Int32) < (5 : Int32))).2.1 kst) ?_
  show OwnWk _ _ _ _ (T44.setTop (mkF m 24 #[.val (.ref a), .val (.int (5 : Int32)), .val (.ref ls), .val (.long st1_), .second, .val (.int (2 : Int32)), .val (.long zb1_), .second] []))
  refine own_go (fun tgt kst => XS.lloadN X44.here hx rfl (hb hby d7_24) rfl  kst) ?_
  show OwnWk _ _ _ _ (T44.setTop (mkF m 25 #[.val (.ref a), .val (.int (5 : Int32)), .val (.ref ls), .val (.long st1_), .second, .val (.int (2 : Int32)), .val (.long zb1_), .second] [(.long st1_)]))
  refine own_go (X44.ldc2Long hx hown (mvT hZ (hw _ (List.mem_of_getElem? (i := 51) rfl))) (g := (mkF m 25 #[.val (.ref a), .val (.int (5 : Int32)), .val (.ref ls), .val (.long st1_), .second, .val (.int (2 : Int32)), .val (.long zb1_), .second] [(.long st1_)])) rfl (hb hby d7_25)) ?_
  show OwnWk _ _ _ _ (T44.setTop (mkF m 28 #[.val (.ref a), .val (.int (5 : Int32)), .val (.ref ls), .val (.long st1_), .second, .val (.int (2 : Int32)), .val (.long zb1_), .second] [(.long (-7046029254386353131 : Int64)), (.long st1_)]))
  refine own_go (fun tgt kst => XS.ladd X44.here hx rfl (hb hby d7_28) rfl kst) ?_
  show OwnWk _ _ _ _ (T44.setTop (mkF m 29 #[.val (.ref a), .val (.int (5 : Int32)), .val (.ref ls), .val (.long st1_), .second, .val (.int (2 : Int32)), .val (.long zb1_), .second] [(.long (st1_ + (-7046029254386353131 : Int64)))]))
  obtain ⟨st2_, h_st2_⟩ : ∃ z : Int64, z = (st1_ + (-7046029254386353131 : Int64)) := ⟨_, rfl⟩
  rw [← h_st2_]
  refine own_go (fun tgt kst => XS.lstoreN X44.here hx rfl (hb hby d7_29) rfl (l' := #[.val (.ref a), .val (.int (5 : Int32)), .val (.ref ls), .val (.long st2_), .second, .val (.int (2 : Int32)), .val (.long zb1_), .second]) rfl kst) ?_
  show OwnWk _ _ _ _ (T44.setTop (mkF m 30 #[.val (.ref a), .val (.int (5 : Int32)), .val (.ref ls), .val (.long st2_), .second, .val (.int (2 : Int32)), .val (.long zb1_), .second] []))
  refine own_go (fun tgt kst => XS.lloadN X44.here hx rfl (hb hby d7_30) rfl  kst) ?_
  show OwnWk _ _ _ _ (T44.setTop (mkF m 31 #[.val (.ref a), .val (.int (5 : Int32)), .val (.ref ls), .val (.long st2_), .second, .val (.int (2 : Int32)), .val (.long zb1_), .second] [(.long st2_)]))
  refine own_go (fun tgt kst => XS.lloadN X44.here hx rfl (hb hby d7_31) rfl  kst) ?_
  show OwnWk _ _ _ _ (T44.setTop (mkF m 32 #[.val (.ref a), .val (.int (5 : Int32)), .val (.ref ls), .val (.long st2_), .second, .val (.int (2 : Int32)), .val (.long zb1_), .second] [(.long st2_), (.long st2_)]))
  refine own_go (fun tgt kst => XS.bipush X44.here hx rfl (hb hby d7_32) kst) ?_
  show OwnWk _ _ _ _ (T44.setTop (mkF m 34 #[.val (.ref a), .val (.int (5 : Int32)), .val (.ref ls), .val (.long st2_), .second, .val (.int (2 : Int32)), .val (.long zb1_), .second] [(.int (30 : Int32)), (.long st2_), (.long st2_)]))
  refine own_go (fun tgt kst => XS.lushr X44.here hx rfl (hb hby d7_34) rfl kst) ?_
  show OwnWk _ _ _ _ (T44.setTop (mkF m 35 #[.val (.ref a), .val (.int (5 : Int32)), .val (.ref ls), .val (.long st2_), .second, .val (.int (2 : Int32)), .val (.long zb1_), .second] [(.long ((st2_.toUInt64 >>> ((30 : Int32) &&& 0x3f).toInt64.toUInt64).toInt64)), (.long st2_)]))
  refine own_go (fun tgt kst => XS.lxor X44.here hx rfl (hb hby d7_35) rfl kst) ?_
  show OwnWk _ _ _ _ (T44.setTop (mkF m 36 #[.val (.ref a), .val (.int (5 : Int32)), .val (.ref ls), .val (.long st2_), .second, .val (.int (2 : Int32)), .val (.long zb1_), .second] [(.long (st2_ ^^^ ((st2_.toUInt64 >>> ((30 : Int32) &&& 0x3f).toInt64.toUInt64).toInt64)))]))
  refine own_go (X44.ldc2Long hx hown (mvT hZ (hw _ (List.mem_of_getElem? (i := 52) rfl))) (g := (mkF m 36 #[.val (.ref a), .val (.int (5 : Int32)), .val (.ref ls), .val (.long st2_), .second, .val (.int (2 : Int32)), .val (.long zb1_), .second] [(.long (st2_ ^^^ ((st2_.toUInt64 >>> ((30 : Int32) &&& 0x3f).toInt64.toUInt64).toInt64)))])) rfl (hb hby d7_36)) ?_
  show OwnWk _ _ _ _ (T44.setTop (mkF m 39 #[.val (.ref a), .val (.int (5 : Int32)), .val (.ref ls), .val (.long st2_), .second, .val (.int (2 : Int32)), .val (.long zb1_), .second] [(.long (-4658895280553007687 : Int64)), (.long (st2_ ^^^ ((st2_.toUInt64 >>> ((30 : Int32) &&& 0x3f).toInt64.toUInt64).toInt64)))]))
  refine own_go (fun tgt kst => XS.lmul X44.here hx rfl (hb hby d7_39) rfl kst) ?_
  show OwnWk _ _ _ _ (T44.setTop (mkF m 40 #[.val (.ref a), .val (.int (5 : Int32)), .val (.ref ls), .val (.long st2_), .second, .val (.int (2 : Int32)), .val (.long zb1_), .second] [(.long ((st2_ ^^^ ((st2_.toUInt64 >>> ((30 : Int32) &&& 0x3f).toInt64.toUInt64).toInt64)) * (-4658895280553007687 : Int64)))]))
  obtain ⟨za2_, h_za2_⟩ : ∃ z : Int64, z = ((st2_ ^^^ ((st2_.toUInt64 >>> ((30 : Int32) &&& 0x3f).toInt64.toUInt64).toInt64)) * (-4658895280553007687 : Int64)) := ⟨_, rfl⟩
  rw [← h_za2_]
  refine own_go (fun tgt kst => XS.lstore X44.here hx rfl (hb hby d7_40) rfl (l' := #[.val (.ref a), .val (.int (5 : Int32)), .val (.ref ls), .val (.long st2_), .second, .val (.int (2 : Int32)), .val (.long za2_), .second]) rfl kst) ?_
  show OwnWk _ _ _ _ (T44.setTop (mkF m 42 #[.val (.ref a), .val (.int (5 : Int32)), .val (.ref ls), .val (.long st2_), .second, .val (.int (2 : Int32)), .val (.long za2_), .second] []))
  refine own_go (fun tgt kst => XS.lload X44.here hx rfl (hb hby d7_42) rfl  kst) ?_
  show OwnWk _ _ _ _ (T44.setTop (mkF m 44 #[.val (.ref a), .val (.int (5 : Int32)), .val (.ref ls), .val (.long st2_), .second, .val (.int (2 : Int32)), .val (.long za2_), .second] [(.long za2_)]))
  refine own_go (fun tgt kst => XS.lload X44.here hx rfl (hb hby d7_44) rfl  kst) ?_
  show OwnWk _ _ _ _ (T44.setTop (mkF m 46 #[.val (.ref a), .val (.int (5 : Int32)), .val (.ref ls), .val (.long st2_), .second, .val (.int (2 : Int32)), .val (.long za2_), .second] [(.long za2_), (.long za2_)]))
  refine own_go (fun tgt kst => XS.bipush X44.here hx rfl (hb hby d7_46) kst) ?_
  show OwnWk _ _ _ _ (T44.setTop (mkF m 48 #[.val (.ref a), .val (.int (5 : Int32)), .val (.ref ls), .val (.long st2_), .second, .val (.int (2 : Int32)), .val (.long za2_), .second] [(.int (27 : Int32)), (.long za2_), (.long za2_)]))
  refine own_go (fun tgt kst => XS.lushr X44.here hx rfl (hb hby d7_48) rfl kst) ?_
  show OwnWk _ _ _ _ (T44.setTop (mkF m 49 #[.val (.ref a), .val (.int (5 : Int32)), .val (.ref ls), .val (.long st2_), .second, .val (.int (2 : Int32)), .val (.long za2_), .second] [(.long ((za2_.toUInt64 >>> ((27 : Int32) &&& 0x3f).toInt64.toUInt64).toInt64)), (.long za2_)]))
  refine own_go (fun tgt kst => XS.lxor X44.here hx rfl (hb hby d7_49) rfl kst) ?_
  show OwnWk _ _ _ _ (T44.setTop (mkF m 50 #[.val (.ref a), .val (.int (5 : Int32)), .val (.ref ls), .val (.long st2_), .second, .val (.int (2 : Int32)), .val (.long za2_), .second] [(.long (za2_ ^^^ ((za2_.toUInt64 >>> ((27 : Int32) &&& 0x3f).toInt64.toUInt64).toInt64)))]))
  refine own_go (X44.ldc2Long hx hown (mvT hZ (hw _ (List.mem_of_getElem? (i := 53) rfl))) (g := (mkF m 50 #[.val (.ref a), .val (.int (5 : Int32)), .val (.ref ls), .val (.long st2_), .second, .val (.int (2 : Int32)), .val (.long za2_), .second] [(.long (za2_ ^^^ ((za2_.toUInt64 >>> ((27 : Int32) &&& 0x3f).toInt64.toUInt64).toInt64)))])) rfl (hb hby d7_50)) ?_
  show OwnWk _ _ _ _ (T44.setTop (mkF m 53 #[.val (.ref a), .val (.int (5 : Int32)), .val (.ref ls), .val (.long st2_), .second, .val (.int (2 : Int32)), .val (.long za2_), .second] [(.long (-7723592293110705685 : Int64)), (.long (za2_ ^^^ ((za2_.toUInt64 >>> ((27 : Int32) &&& 0x3f).toInt64.toUInt64).toInt64)))]))
  refine own_go (fun tgt kst => XS.lmul X44.here hx rfl (hb hby d7_53) rfl kst) ?_
  show OwnWk _ _ _ _ (T44.setTop (mkF m 54 #[.val (.ref a), .val (.int (5 : Int32)), .val (.ref ls), .val (.long st2_), .second, .val (.int (2 : Int32)), .val (.long za2_), .second] [(.long ((za2_ ^^^ ((za2_.toUInt64 >>> ((27 : Int32) &&& 0x3f).toInt64.toUInt64).toInt64)) * (-7723592293110705685 : Int64)))]))
  obtain ⟨zb2_, h_zb2_⟩ : ∃ z : Int64, z = ((za2_ ^^^ ((za2_.toUInt64 >>> ((27 : Int32) &&& 0x3f).toInt64.toUInt64).toInt64)) * (-7723592293110705685 : Int64)) := ⟨_, rfl⟩
  rw [← h_zb2_]
  refine own_go (fun tgt kst => XS.lstore X44.here hx rfl (hb hby d7_54) rfl (l' := #[.val (.ref a), .val (.int (5 : Int32)), .val (.ref ls), .val (.long st2_), .second, .val (.int (2 : Int32)), .val (.long zb2_), .second]) rfl kst) ?_
  show OwnWk _ _ _ _ (T44.setTop (mkF m 56 #[.val (.ref a), .val (.int (5 : Int32)), .val (.ref ls), .val (.long st2_), .second, .val (.int (2 : Int32)), .val (.long zb2_), .second] []))
  refine own_go (fun tgt kst => XS.aloadN X44.here hx rfl (hb hby d7_56) rfl rfl  kst) ?_
  show OwnWk _ _ _ _ (T44.setTop (mkF m 57 #[.val (.ref a), .val (.int (5 : Int32)), .val (.ref ls), .val (.long st2_), .second, .val (.int (2 : Int32)), .val (.long zb2_), .second] [(.ref a)]))
  obtain ⟨T56, X56, e56, st56⟩ := getF X44 hx hZ hown (host := "") (Or.inl (hw _ (List.mem_of_getElem? (i := 48) rfl))) Via.refl e44 F53 (g := (mkF m 57 #[.val (.ref a), .val (.int (5 : Int32)), .val (.ref ls), .val (.long st2_), .second, .val (.int (2 : Int32)), .val (.long zb2_), .second] [(.ref a)])) rfl rfl (hb hby d7_57)
  refine own_go st56 ?_
  show OwnWk _ _ _ _ (T56.setTop (mkF m 60 #[.val (.ref a), .val (.int (5 : Int32)), .val (.ref ls), .val (.long st2_), .second, .val (.int (2 : Int32)), .val (.long zb2_), .second] [(.ref b2)]))
  refine own_go (fun tgt kst => XS.iload X56.here hx rfl (hb hby d7_60) rfl  kst) ?_
  show OwnWk _ _ _ _ (T56.setTop (mkF m 62 #[.val (.ref a), .val (.int (5 : Int32)), .val (.ref ls), .val (.long st2_), .second, .val (.int (2 : Int32)), .val (.long zb2_), .second] [(.int (2 : Int32)), (.ref b2)]))
  refine own_go (fun tgt kst => XS.lload X56.here hx rfl (hb hby d7_62) rfl  kst) ?_
  show OwnWk _ _ _ _ (T56.setTop (mkF m 64 #[.val (.ref a), .val (.int (5 : Int32)), .val (.ref ls), .val (.long st2_), .second, .val (.int (2 : Int32)), .val (.long zb2_), .second] [(.long zb2_), (.int (2 : Int32)), (.ref b2)]))
  refine own_go (fun tgt kst => XS.lload X56.here hx rfl (hb hby d7_64) rfl  kst) ?_
  show OwnWk _ _ _ _ (T56.setTop (mkF m 66 #[.val (.ref a), .val (.int (5 : Int32)), .val (.ref ls), .val (.long st2_), .second, .val (.int (2 : Int32)), .val (.long zb2_), .second] [(.long zb2_), (.long zb2_), (.int (2 : Int32)), (.ref b2)]))
  refine own_go (fun tgt kst => XS.bipush X56.here hx rfl (hb hby d7_66) kst) ?_
  show OwnWk _ _ _ _ (T56.setTop (mkF m 68 #[.val (.ref a), .val (.int (5 : Int32)), .val (.ref ls), .val (.long st2_), .second, .val (.int (2 : Int32)), .val (.long zb2_), .second] [(.int (31 : Int32)), (.long zb2_), (.long zb2_), (.int (2 : Int32)), (.ref b2)]))
  refine own_go (fun tgt kst => XS.lushr X56.here hx rfl (hb hby d7_68) rfl kst) ?_
  show OwnWk _ _ _ _ (T56.setTop (mkF m 69 #[.val (.ref a), .val (.int (5 : Int32)), .val (.ref ls), .val (.long st2_), .second, .val (.int (2 : Int32)), .val (.long zb2_), .second] [(.long ((zb2_.toUInt64 >>> ((31 : Int32) &&& 0x3f).toInt64.toUInt64).toInt64)), (.long zb2_), (.int (2 : Int32)), (.ref b2)]))
  refine own_go (fun tgt kst => XS.lxor X56.here hx rfl (hb hby d7_69) rfl kst) ?_
  show OwnWk _ _ _ _ (T56.setTop (mkF m 70 #[.val (.ref a), .val (.int (5 : Int32)), .val (.ref ls), .val (.long st2_), .second, .val (.int (2 : Int32)), .val (.long zb2_), .second] [(.long (zb2_ ^^^ ((zb2_.toUInt64 >>> ((31 : Int32) &&& 0x3f).toInt64.toUInt64).toInt64))), (.int (2 : Int32)), (.ref b2)]))
  obtain ⟨ky2_, h_ky2_⟩ : ∃ z : Int64, z = (zb2_ ^^^ ((zb2_.toUInt64 >>> ((31 : Int32) &&& 0x3f).toInt64.toUInt64).toInt64)) := ⟨_, rfl⟩
  rw [← h_ky2_]
  refine own_stJ X56 hx hZ e56 V44 (g := (mkF m 70 #[.val (.ref a), .val (.int (5 : Int32)), .val (.ref ls), .val (.long st2_), .second, .val (.int (2 : Int32)), .val (.long zb2_), .second] [(.long ky2_), (.int (2 : Int32)), (.ref b2)])) rfl rfl (hb hby d7_70) (by decide) (Nat.le_of_ble_eq_true rfl) (fun T57 h57 X57 e57 W57 V57 => ?_)
  have N57 := Fr.snoc X57 N44 ge5
  have F58 := Exa.wr W57 F45
  have F59 := Exa.wr W57 F46
  have F60 := Fld.other W57 F47 (Or.inl ne4)
  have F61 := Fld.other W57 F48 (Or.inl ne3)
  have F62 := Fld.other W57 F49 (Or.inl ne3)
  have F63 := Fld.other W57 F50 (Or.inl ne3)
  have F64 := Fld.other W57 F51 (Or.inl ne3)
  have F65 := Fld.other W57 F52 (Or.inl ne3)
  have F66 := Fld.other W57 F53 (Or.inl ne3)
  have Z67 := Nat.le_trans Z54 (Keep.of_wr W57).1
  have K68 := Keep.wr K55 W57 (Or.inr sz6)
  show OwnWk _ _ _ _ (T57.setTop (mkF m 71 #[.val (.ref a), .val (.int (5 : Int32)), .val (.ref ls), .val (.long st2_), .second, .val (.int (2 : Int32)), .val (.long zb2_), .second] []))
  refine own_go (fun tgt kst => XS.iinc X57.here hx rfl (hb hby d7_71) rfl (l' := #[.val (.ref a), .val (.int (5 : Int32)), .val (.ref ls), .val (.long st2_), .second, .val (.int (3 : Int32)), .val (.long zb2_), .second]) rfl kst) ?_
  show OwnWk _ _ _ _ (T57.setTop (mkF m 74 #[.val (.ref a), .val (.int (5 : Int32)), .val (.ref ls), .val (.long st2_), .second, .val (.int (3 : Int32)), .val (.long zb2_), .second] []))
  refine own_go (fun tgt kst => XS.goto X57.here hx rfl (pc0 := 74) (pc' := 18) rfl (hb hby d7_74) (by decide) (by decide) kst) ?_
  show OwnWk _ _ _ _ (T57.setTop (mkF m 18 #[.val (.ref a), .val (.int (5 : Int32)), .val (.ref ls), .val (.long st2_), .second, .val (.int (3 : Int32)), .val (.long zb2_), .second] []))
  refine own_go (fun tgt kst => XS.iload X57.here hx rfl (hb hby d7_18) rfl  kst) ?_
  show OwnWk _ _ _ _ (T57.setTop (mkF m 20 #[.val (.ref a), .val (.int (5 : Int32)), .val (.ref ls), .val (.long st2_), .second, .val (.int (3 : Int32)), .val (.long zb2_), .second] [(.int (3 : Int32))]))
  refine own_go (fun tgt kst => XS.iloadN X57.here hx rfl (hb hby d7_20) rfl  kst) ?_
  show OwnWk _ _ _ _ (T57.setTop (mkF m 21 #[.val (.ref a), .val (.int (5 : Int32)), .val (.ref ls), .val (.long st2_), .second, .val (.int (3 : Int32)), .val (.long zb2_), .second] [(.int (5 : Int32)), (.int (3 : Int32))]))
  refine own_go (fun tgt kst => XS.icmpNo X57.here hx rfl (hb hby d7_21) rfl (tlt (by decide : (3 : Int32) < (5 : Int32))).2.1 kst) ?_
  show OwnWk _ _ _ _ (T57.setTop (mkF m 24 #[.val (.ref a), .val (.int (5 : Int32)), .val (.ref ls), .val (.long st2_), .second, .val (.int (3 : Int32)), .val (.long zb2_), .second] []))
  refine own_go (fun tgt kst => XS.lloadN X57.here hx rfl (hb hby d7_24) rfl  kst) ?_
  show OwnWk _ _ _ _ (T57.setTop (mkF m 25 #[.val (.ref a), .val (.int (5 : Int32)), .val (.ref ls), .val (.long st2_), .second, .val (.int (3 : Int32)), .val (.long zb2_), .second] [(.long st2_)]))
  refine own_go (X57.ldc2Long hx hown (mvT hZ (hw _ (List.mem_of_getElem? (i := 51) rfl))) (g := (mkF m 25 #[.val (.ref a), .val (.int (5 : Int32)), .val (.ref ls), .val (.long st2_), .second, .val (.int (3 : Int32)), .val (.long zb2_), .second] [(.long st2_)])) rfl (hb hby d7_25)) ?_
  show OwnWk _ _ _ _ (T57.setTop (mkF m 28 #[.val (.ref a), .val (.int (5 : Int32)), .val (.ref ls), .val (.long st2_), .second, .val (.int (3 : Int32)), .val (.long zb2_), .second] [(.long (-7046029254386353131 : Int64)), (.long st2_)]))
  refine own_go (fun tgt kst => XS.ladd X57.here hx rfl (hb hby d7_28) rfl kst) ?_
  show OwnWk _ _ _ _ (T57.setTop (mkF m 29 #[.val (.ref a), .val (.int (5 : Int32)), .val (.ref ls), .val (.long st2_), .second, .val (.int (3 : Int32)), .val (.long zb2_), .second] [(.long (st2_ + (-7046029254386353131 : Int64)))]))
  obtain ⟨st3_, h_st3_⟩ : ∃ z : Int64, z = (st2_ + (-7046029254386353131 : Int64)) := ⟨_, rfl⟩
  rw [← h_st3_]
  refine own_go (fun tgt kst => XS.lstoreN X57.here hx rfl (hb hby d7_29) rfl (l' := #[.val (.ref a), .val (.int (5 : Int32)), .val (.ref ls), .val (.long st3_), .second, .val (.int (3 : Int32)), .val (.long zb2_), .second]) rfl kst) ?_
  show OwnWk _ _ _ _ (T57.setTop (mkF m 30 #[.val (.ref a), .val (.int (5 : Int32)), .val (.ref ls), .val (.long st3_), .second, .val (.int (3 : Int32)), .val (.long zb2_), .second] []))
  refine own_go (fun tgt kst => XS.lloadN X57.here hx rfl (hb hby d7_30) rfl  kst) ?_
  show OwnWk _ _ _ _ (T57.setTop (mkF m 31 #[.val (.ref a), .val (.int (5 : Int32)), .val (.ref ls), .val (.long st3_), .second, .val (.int (3 : Int32)), .val (.long zb2_), .second] [(.long st3_)]))
  refine own_go (fun tgt kst => XS.lloadN X57.here hx rfl (hb hby d7_31) rfl  kst) ?_
  show OwnWk _ _ _ _ (T57.setTop (mkF m 32 #[.val (.ref a), .val (.int (5 : Int32)), .val (.ref ls), .val (.long st3_), .second, .val (.int (3 : Int32)), .val (.long zb2_), .second] [(.long st3_), (.long st3_)]))
  refine own_go (fun tgt kst => XS.bipush X57.here hx rfl (hb hby d7_32) kst) ?_
  show OwnWk _ _ _ _ (T57.setTop (mkF m 34 #[.val (.ref a), .val (.int (5 : Int32)), .val (.ref ls), .val (.long st3_), .second, .val (.int (3 : Int32)), .val (.long zb2_), .second] [(.int (30 : Int32)), (.long st3_), (.long st3_)]))
  refine own_go (fun tgt kst => XS.lushr X57.here hx rfl (hb hby d7_34) rfl kst) ?_
  show OwnWk _ _ _ _ (T57.setTop (mkF m 35 #[.val (.ref a), .val (.int (5 : Int32)), .val (.ref ls), .val (.long st3_), .second, .val (.int (3 : Int32)), .val (.long zb2_), .second] [(.long ((st3_.toUInt64 >>> ((30 : Int32) &&& 0x3f).toInt64.toUInt64).toInt64)), (.long st3_)]))
  refine own_go (fun tgt kst => XS.lxor X57.here hx rfl (hb hby d7_35) rfl kst) ?_
  show OwnWk _ _ _ _ (T57.setTop (mkF m 36 #[.val (.ref a), .val (.int (5 : Int32)), .val (.ref ls), .val (.long st3_), .second, .val (.int (3 : Int32)), .val (.long zb2_), .second] [(.long (st3_ ^^^ ((st3_.toUInt64 >>> ((30 : Int32) &&& 0x3f).toInt64.toUInt64).toInt64)))]))
  refine own_go (X57.ldc2Long hx hown (mvT hZ (hw _ (List.mem_of_getElem? (i := 52) rfl))) (g := (mkF m 36 #[.val (.ref a), .val (.int (5 : Int32)), .val (.ref ls), .val (.long st3_), .second, .val (.int (3 : Int32)), .val (.long zb2_), .second] [(.long (st3_ ^^^ ((st3_.toUInt64 >>> ((30 : Int32) &&& 0x3f).toInt64.toUInt64).toInt64)))])) rfl (hb hby d7_36)) ?_
  show OwnWk _ _ _ _ (T57.setTop (mkF m 39 #[.val (.ref a), .val (.int (5 : Int32)), .val (.ref ls), .val (.long st3_), .second, .val (.int (3 : Int32)), .val (.long zb2_), .second] [(.long (-4658895280553007687 : Int64)), (.long (st3_ ^^^ ((st3_.toUInt64 >>> ((30 : Int32) &&& 0x3f).toInt64.toUInt64).toInt64)))]))
  refine own_go (fun tgt kst => XS.lmul X57.here hx rfl (hb hby d7_39) rfl kst) ?_
  show OwnWk _ _ _ _ (T57.setTop (mkF m 40 #[.val (.ref a), .val (.int (5 : Int32)), .val (.ref ls), .val (.long st3_), .second, .val (.int (3 : Int32)), .val (.long zb2_), .second] [(.long ((st3_ ^^^ ((st3_.toUInt64 >>> ((30 : Int32) &&& 0x3f).toInt64.toUInt64).toInt64)) * (-4658895280553007687 : Int64)))]))
  obtain ⟨za3_, h_za3_⟩ : ∃ z : Int64, z = ((st3_ ^^^ ((st3_.toUInt64 >>> ((30 : Int32) &&& 0x3f).toInt64.toUInt64).toInt64)) * (-4658895280553007687 : Int64)) := ⟨_, rfl⟩
  rw [← h_za3_]
  refine own_go (fun tgt kst => XS.lstore X57.here hx rfl (hb hby d7_40) rfl (l' := #[.val (.ref a), .val (.int (5 : Int32)), .val (.ref ls), .val (.long st3_), .second, .val (.int (3 : Int32)), .val (.long za3_), .second]) rfl kst) ?_
  show OwnWk _ _ _ _ (T57.setTop (mkF m 42 #[.val (.ref a), .val (.int (5 : Int32)), .val (.ref ls), .val (.long st3_), .second, .val (.int (3 : Int32)), .val (.long za3_), .second] []))
  refine own_go (fun tgt kst => XS.lload X57.here hx rfl (hb hby d7_42) rfl  kst) ?_
  show OwnWk _ _ _ _ (T57.setTop (mkF m 44 #[.val (.ref a), .val (.int (5 : Int32)), .val (.ref ls), .val (.long st3_), .second, .val (.int (3 : Int32)), .val (.long za3_), .second] [(.long za3_)]))
  refine own_go (fun tgt kst => XS.lload X57.here hx rfl (hb hby d7_44) rfl  kst) ?_
  show OwnWk _ _ _ _ (T57.setTop (mkF m 46 #[.val (.ref a), .val (.int (5 : Int32)), .val (.ref ls), .val (.long st3_), .second, .val (.int (3 : Int32)), .val (.long za3_), .second] [(.long za3_), (.long za3_)]))
  refine own_go (fun tgt kst => XS.bipush X57.here hx rfl (hb hby d7_46) kst) ?_
  show OwnWk _ _ _ _ (T57.setTop (mkF m 48 #[.val (.ref a), .val (.int (5 : Int32)), .val (.ref ls), .val (.long st3_), .second, .val (.int (3 : Int32)), .val (.long za3_), .second] [(.int (27 : Int32)), (.long za3_), (.long za3_)]))
  refine own_go (fun tgt kst => XS.lushr X57.here hx rfl (hb hby d7_48) rfl kst) ?_
  show OwnWk _ _ _ _ (T57.setTop (mkF m 49 #[.val (.ref a), .val (.int (5 : Int32)), .val (.ref ls), .val (.long st3_), .second, .val (.int (3 : Int32)), .val (.long za3_), .second] [(.long ((za3_.toUInt64 >>> ((27 : Int32) &&& 0x3f).toInt64.toUInt64).toInt64)), (.long za3_)]))
  refine own_go (fun tgt kst => XS.lxor X57.here hx rfl (hb hby d7_49) rfl kst) ?_
  show OwnWk _ _ _ _ (T57.setTop (mkF m 50 #[.val (.ref a), .val (.int (5 : Int32)), .val (.ref ls), .val (.long st3_), .second, .val (.int (3 : Int32)), .val (.long za3_), .second] [(.long (za3_ ^^^ ((za3_.toUInt64 >>> ((27 : Int32) &&& 0x3f).toInt64.toUInt64).toInt64)))]))
  refine own_go (X57.ldc2Long hx hown (mvT hZ (hw _ (List.mem_of_getElem? (i := 53) rfl))) (g := (mkF m 50 #[.val (.ref a), .val (.int (5 : Int32)), .val (.ref ls), .val (.long st3_), .second, .val (.int (3 : Int32)), .val (.long za3_), .second] [(.long (za3_ ^^^ ((za3_.toUInt64 >>> ((27 : Int32) &&& 0x3f).toInt64.toUInt64).toInt64)))])) rfl (hb hby d7_50)) ?_
  show OwnWk _ _ _ _ (T57.setTop (mkF m 53 #[.val (.ref a), .val (.int (5 : Int32)), .val (.ref ls), .val (.long st3_), .second, .val (.int (3 : Int32)), .val (.long za3_), .second] [(.long (-7723592293110705685 : Int64)), (.long (za3_ ^^^ ((za3_.toUInt64 >>> ((27 : Int32) &&& 0x3f).toInt64.toUInt64).toInt64)))]))
  refine own_go (fun tgt kst => XS.lmul X57.here hx rfl (hb hby d7_53) rfl kst) ?_
  show OwnWk _ _ _ _ (T57.setTop (mkF m 54 #[.val (.ref a), .val (.int (5 : Int32)), .val (.ref ls), .val (.long st3_), .second, .val (.int (3 : Int32)), .val (.long za3_), .second] [(.long ((za3_ ^^^ ((za3_.toUInt64 >>> ((27 : Int32) &&& 0x3f).toInt64.toUInt64).toInt64)) * (-7723592293110705685 : Int64)))]))
  obtain ⟨zb3_, h_zb3_⟩ : ∃ z : Int64, z = ((za3_ ^^^ ((za3_.toUInt64 >>> ((27 : Int32) &&& 0x3f).toInt64.toUInt64).toInt64)) * (-7723592293110705685 : Int64)) := ⟨_, rfl⟩
  rw [← h_zb3_]
  refine own_go (fun tgt kst => XS.lstore X57.here hx rfl (hb hby d7_54) rfl (l' := #[.val (.ref a), .val (.int (5 : Int32)), .val (.ref ls), .val (.long st3_), .second, .val (.int (3 : Int32)), .val (.long zb3_), .second]) rfl kst) ?_
  show OwnWk _ _ _ _ (T57.setTop (mkF m 56 #[.val (.ref a), .val (.int (5 : Int32)), .val (.ref ls), .val (.long st3_), .second, .val (.int (3 : Int32)), .val (.long zb3_), .second] []))
  refine own_go (fun tgt kst => XS.aloadN X57.here hx rfl (hb hby d7_56) rfl rfl  kst) ?_
  show OwnWk _ _ _ _ (T57.setTop (mkF m 57 #[.val (.ref a), .val (.int (5 : Int32)), .val (.ref ls), .val (.long st3_), .second, .val (.int (3 : Int32)), .val (.long zb3_), .second] [(.ref a)]))
  obtain ⟨T69, X69, e69, st69⟩ := getF X57 hx hZ hown (host := "") (Or.inl (hw _ (List.mem_of_getElem? (i := 48) rfl))) Via.refl e57 F66 (g := (mkF m 57 #[.val (.ref a), .val (.int (5 : Int32)), .val (.ref ls), .val (.long st3_), .second, .val (.int (3 : Int32)), .val (.long zb3_), .second] [(.ref a)])) rfl rfl (hb hby d7_57)
  refine own_go st69 ?_
  show OwnWk _ _ _ _ (T69.setTop (mkF m 60 #[.val (.ref a), .val (.int (5 : Int32)), .val (.ref ls), .val (.long st3_), .second, .val (.int (3 : Int32)), .val (.long zb3_), .second] [(.ref b2)]))
  refine own_go (fun tgt kst => XS.iload X69.here hx rfl (hb hby d7_60) rfl  kst) ?_
  show OwnWk _ _ _ _ (T69.setTop (mkF m 62 #[.val (.ref a), .val (.int (5 : Int32)), .val (.ref ls), .val (.long st3_), .second, .val (.int (3 : Int32)), .val (.long zb3_), .second] [(.int (3 : Int32)), (.ref b2)]))
  refine own_go (fun tgt kst => XS.lload X69.here hx rfl (hb hby d7_62) rfl  kst) ?_
  show OwnWk _ _ _ _ (T69.setTop (mkF m 64 #[.val (.ref a), .val (.int (5 : Int32)), .val (.ref ls), .val (.long st3_), .second, .val (.int (3 : Int32)), .val (.long zb3_), .second] [(.long zb3_), (.int (3 : Int32)), (.ref b2)]))
  refine own_go (fun tgt kst => XS.lload X69.here hx rfl (hb hby d7_64) rfl  kst) ?_
  show OwnWk _ _ _ _ (T69.setTop (mkF m 66 #[.val (.ref a), .val (.int (5 : Int32)), .val (.ref ls), .val (.long st3_), .second, .val (.int (3 : Int32)), .val (.long zb3_), .second] [(.long zb3_), (.long zb3_), (.int (3 : Int32)), (.ref b2)]))
  refine own_go (fun tgt kst => XS.bipush X69.here hx rfl (hb hby d7_66) kst) ?_
  show OwnWk _ _ _ _ (T69.setTop (mkF m 68 #[.val (.ref a), .val (.int (5 : Int32)), .val (.ref ls), .val (.long st3_), .second, .val (.int (3 : Int32)), .val (.long zb3_), .second] [(.int (31 : Int32)), (.long zb3_), (.long zb3_), (.int (3 : Int32)), (.ref b2)]))
  refine own_go (fun tgt kst => XS.lushr X69.here hx rfl (hb hby d7_68) rfl kst) ?_
  show OwnWk _ _ _ _ (T69.setTop (mkF m 69 #[.val (.ref a), .val (.int (5 : Int32)), .val (.ref ls), .val (.long st3_), .second, .val (.int (3 : Int32)), .val (.long zb3_), .second] [(.long ((zb3_.toUInt64 >>> ((31 : Int32) &&& 0x3f).toInt64.toUInt64).toInt64)), (.long zb3_), (.int (3 : Int32)), (.ref b2)]))
  refine own_go (fun tgt kst => XS.lxor X69.here hx rfl (hb hby d7_69) rfl kst) ?_
  show OwnWk _ _ _ _ (T69.setTop (mkF m 70 #[.val (.ref a), .val (.int (5 : Int32)), .val (.ref ls), .val (.long st3_), .second, .val (.int (3 : Int32)), .val (.long zb3_), .second] [(.long (zb3_ ^^^ ((zb3_.toUInt64 >>> ((31 : Int32) &&& 0x3f).toInt64.toUInt64).toInt64))), (.int (3 : Int32)), (.ref b2)]))
  obtain ⟨ky3_, h_ky3_⟩ : ∃ z : Int64, z = (zb3_ ^^^ ((zb3_.toUInt64 >>> ((31 : Int32) &&& 0x3f).toInt64.toUInt64).toInt64)) := ⟨_, rfl⟩
  rw [← h_ky3_]
  refine own_stJ X69 hx hZ e69 V57 (g := (mkF m 70 #[.val (.ref a), .val (.int (5 : Int32)), .val (.ref ls), .val (.long st3_), .second, .val (.int (3 : Int32)), .val (.long zb3_), .second] [(.long ky3_), (.int (3 : Int32)), (.ref b2)])) rfl rfl (hb hby d7_70) (by decide) (Nat.le_of_ble_eq_true rfl) (fun T70 h70 X70 e70 W70 V70 => ?_)
  have N70 := Fr.snoc X70 N57 ge5
  have F71 := Exa.wr W70 F58
  have F72 := Exa.wr W70 F59
  have F73 := Fld.other W70 F60 (Or.inl ne4)
  have F74 := Fld.other W70 F61 (Or.inl ne3)
  have F75 := Fld.other W70 F62 (Or.inl ne3)
  have F76 := Fld.other W70 F63 (Or.inl ne3)
  have F77 := Fld.other W70 F64 (Or.inl ne3)
  have F78 := Fld.other W70 F65 (Or.inl ne3)
  have F79 := Fld.other W70 F66 (Or.inl ne3)
  have Z80 := Nat.le_trans Z67 (Keep.of_wr W70).1
  have K81 := Keep.wr K68 W70 (Or.inr sz6)
  show OwnWk _ _ _ _ (T70.setTop (mkF m 71 #[.val (.ref a), .val (.int (5 : Int32)), .val (.ref ls), .val (.long st3_), .second, .val (.int (3 : Int32)), .val (.long zb3_), .second] []))
  refine own_go (fun tgt kst => XS.iinc X70.here hx rfl (hb hby d7_71) rfl (l' := #[.val (.ref a), .val (.int (5 : Int32)), .val (.ref ls), .val (.long st3_), .second, .val (.int (4 : Int32)), .val (.long zb3_), .second]) rfl kst) ?_
  show OwnWk _ _ _ _ (T70.setTop (mkF m 74 #[.val (.ref a), .val (.int (5 : Int32)), .val (.ref ls), .val (.long st3_), .second, .val (.int (4 : Int32)), .val (.long zb3_), .second] []))
  refine own_go (fun tgt kst => XS.goto X70.here hx rfl (pc0 := 74) (pc' := 18) rfl (hb hby d7_74) (by decide) (by decide) kst) ?_
  show OwnWk _ _ _ _ (T70.setTop (mkF m 18 #[.val (.ref a), .val (.int (5 : Int32)), .val (.ref ls), .val (.long st3_), .second, .val (.int (4 : Int32)), .val (.long zb3_), .second] []))
  refine own_go (fun tgt kst => XS.iload X70.here hx rfl (hb hby d7_18) rfl  kst) ?_
  show OwnWk _ _ _ _ (T70.setTop (mkF m 20 #[.val (.ref a), .val (.int (5 : Int32)), .val (.ref ls), .val (.long st3_), .second, .val (.int (4 : Int32)), .val (.long zb3_), .second] [(.int (4 : Int32))]))
  refine own_go (fun tgt kst => XS.iloadN X70.here hx rfl (hb hby d7_20) rfl  kst) ?_
  show OwnWk _ _ _ _ (T70.setTop (mkF m 21 #[.val (.ref a), .val (.int (5 : Int32)), .val (.ref ls), .val (.long st3_), .second, .val (.int (4 : Int32)), .val (.long zb3_), .second] [(.int (5 : Int32)), (.int (4 : Int32))]))
  refine own_go (fun tgt kst => XS.icmpNo X70.here hx rfl (hb hby d7_21) rfl (tlt (by decide : (4 : Int32) < (5 : Int32))).2.1 kst) ?_
  show OwnWk _ _ _ _ (T70.setTop (mkF m 24 #[.val (.ref a), .val (.int (5 : Int32)), .val (.ref ls), .val (.long st3_), .second, .val (.int (4 : Int32)), .val (.long zb3_), .second] []))
  refine own_go (fun tgt kst => XS.lloadN X70.here hx rfl (hb hby d7_24) rfl  kst) ?_
  show OwnWk _ _ _ _ (T70.setTop (mkF m 25 #[.val (.ref a), .val (.int (5 : Int32)), .val (.ref ls), .val (.long st3_), .second, .val (.int (4 : Int32)), .val (.long zb3_), .second] [(.long st3_)]))
  refine own_go (X70.ldc2Long hx hown (mvT hZ (hw _ (List.mem_of_getElem? (i := 51) rfl))) (g := (mkF m 25 #[.val (.ref a), .val (.int (5 : Int32)), .val (.ref ls), .val (.long st3_), .second, .val (.int (4 : Int32)), .val (.long zb3_), .second] [(.long st3_)])) rfl (hb hby d7_25)) ?_
  show OwnWk _ _ _ _ (T70.setTop (mkF m 28 #[.val (.ref a), .val (.int (5 : Int32)), .val (.ref ls), .val (.long st3_), .second, .val (.int (4 : Int32)), .val (.long zb3_), .second] [(.long (-7046029254386353131 : Int64)), (.long st3_)]))
  refine own_go (fun tgt kst => XS.ladd X70.here hx rfl (hb hby d7_28) rfl kst) ?_
  show OwnWk _ _ _ _ (T70.setTop (mkF m 29 #[.val (.ref a), .val (.int (5 : Int32)), .val (.ref ls), .val (.long st3_), .second, .val (.int (4 : Int32)), .val (.long zb3_), .second] [(.long (st3_ + (-7046029254386353131 : Int64)))]))
  obtain ⟨st4_, h_st4_⟩ : ∃ z : Int64, z = (st3_ + (-7046029254386353131 : Int64)) := ⟨_, rfl⟩
  rw [← h_st4_]
  refine own_go (fun tgt kst => XS.lstoreN X70.here hx rfl (hb hby d7_29) rfl (l' := #[.val (.ref a), .val (.int (5 : Int32)), .val (.ref ls), .val (.long st4_), .second, .val (.int (4 : Int32)), .val (.long zb3_), .second]) rfl kst) ?_
  show OwnWk _ _ _ _ (T70.setTop (mkF m 30 #[.val (.ref a), .val (.int (5 : Int32)), .val (.ref ls), .val (.long st4_), .second, .val (.int (4 : Int32)), .val (.long zb3_), .second] []))
  refine own_go (fun tgt kst => XS.lloadN X70.here hx rfl (hb hby d7_30) rfl  kst) ?_
  show OwnWk _ _ _ _ (T70.setTop (mkF m 31 #[.val (.ref a), .val (.int (5 : Int32)), .val (.ref ls), .val (.long st4_), .second, .val (.int (4 : Int32)), .val (.long zb3_), .second] [(.long st4_)]))
  refine own_go (fun tgt kst => XS.lloadN X70.here hx rfl (hb hby d7_31) rfl  kst) ?_
  show OwnWk _ _ _ _ (T70.setTop (mkF m 32 #[.val (.ref a), .val (.int (5 : Int32)), .val (.ref ls), .val (.long st4_), .second, .val (.int (4 : Int32)), .val (.long zb3_), .second] [(.long st4_), (.long st4_)]))
  refine own_go (fun tgt kst => XS.bipush X70.here hx rfl (hb hby d7_32) kst) ?_
  show OwnWk _ _ _ _ (T70.setTop (mkF m 34 #[.val (.ref a), .val (.int (5 : Int32)), .val (.ref ls), .val (.long st4_), .second, .val (.int (4 : Int32)), .val (.long zb3_), .second] [(.int (30 : Int32)), (.long st4_), (.long st4_)]))
  refine own_go (fun tgt kst => XS.lushr X70.here hx rfl (hb hby d7_34) rfl kst) ?_
  show OwnWk _ _ _ _ (T70.setTop (mkF m 35 #[.val (.ref a), .val (.int (5 : Int32)), .val (.ref ls), .val (.long st4_), .second, .val (.int (4 : Int32)), .val (.long zb3_), .second] [(.long ((st4_.toUInt64 >>> ((30 : Int32) &&& 0x3f).toInt64.toUInt64).toInt64)), (.long st4_)]))
  refine own_go (fun tgt kst => XS.lxor X70.here hx rfl (hb hby d7_35) rfl kst) ?_
  show OwnWk _ _ _ _ (T70.setTop (mkF m 36 #[.val (.ref a), .val (.int (5 : Int32)), .val (.ref ls), .val (.long st4_), .second, .val (.int (4 : Int32)), .val (.long zb3_), .second] [(.long (st4_ ^^^ ((st4_.toUInt64 >>> ((30 : Int32) &&& 0x3f).toInt64.toUInt64).toInt64)))]))
  refine own_go (X70.ldc2Long hx hown (mvT hZ (hw _ (List.mem_of_getElem? (i := 52) rfl))) (g := (mkF m 36 #[.val (.ref a), .val (.int (5 : Int32)), .val (.ref ls), .val (.long st4_), .second, .val (.int (4 : Int32)), .val (.long zb3_), .second] [(.long (st4_ ^^^ ((st4_.toUInt64 >>> ((30 : Int32) &&& 0x3f).toInt64.toUInt64).toInt64)))])) rfl (hb hby d7_36)) ?_
  show OwnWk _ _ _ _ (T70.setTop (mkF m 39 #[.val (.ref a), .val (.int (5 : Int32)), .val (.ref ls), .val (.long st4_), .second, .val (.int (4 : Int32)), .val (.long zb3_), .second] [(.long (-4658895280553007687 : Int64)), (.long (st4_ ^^^ ((st4_.toUInt64 >>> ((30 : Int32) &&& 0x3f).toInt64.toUInt64).toInt64)))]))
  refine own_go (fun tgt kst => XS.lmul X70.here hx rfl (hb hby d7_39) rfl kst) ?_
  show OwnWk _ _ _ _ (T70.setTop (mkF m 40 #[.val (.ref a), .val (.int (5 : Int32)), .val (.ref ls), .val (.long st4_), .second, .val (.int (4 : Int32)), .val (.long zb3_), .second] [(.long ((st4_ ^^^ ((st4_.toUInt64 >>> ((30 : Int32) &&& 0x3f).toInt64.toUInt64).toInt64)) * (-4658895280553007687 : Int64)))]))
  obtain ⟨za4_, h_za4_⟩ : ∃ z : Int64, z = ((st4_ ^^^ ((st4_.toUInt64 >>> ((30 : Int32) &&& 0x3f).toInt64.toUInt64).toInt64)) * (-4658895280553007687 : Int64)) := ⟨_, rfl⟩
  rw [← h_za4_]
  refine own_go (fun tgt kst => XS.lstore X70.here hx rfl (hb hby d7_40) rfl (l' := #[.val (.ref a), .val (.int (5 : Int32)), .val (.ref ls), .val (.long st4_), .second, .val (.int (4 : Int32)), .val (.long za4_), .second]) rfl kst) ?_
  show OwnWk _ _ _ _ (T70.setTop (mkF m 42 #[.val (.ref a), .val (.int (5 : Int32)), .val (.ref ls), .val (.long st4_), .second, .val (.int (4 : Int32)), .val (.long za4_), .second] []))
  refine own_go (fun tgt kst => XS.lload X70.here hx rfl (hb hby d7_42) rfl  kst) ?_
  show OwnWk _ _ _ _ (T70.setTop (mkF m 44 #[.val (.ref a), .val (.int (5 : Int32)), .val (.ref ls), .val (.long st4_), .second, .val (.int (4 : Int32)), .val (.long za4_), .second] [(.long za4_)]))
  refine own_go (fun tgt kst => XS.lload X70.here hx rfl (hb hby d7_44) rfl  kst) ?_
  show OwnWk _ _ _ _ (T70.setTop (mkF m 46 #[.val (.ref a), .val (.int (5 : Int32)), .val (.ref ls), .val (.long st4_), .second, .val (.int (4 : Int32)), .val (.long za4_), .second] [(.long za4_), (.long za4_)]))
  refine own_go (fun tgt kst => XS.bipush X70.here hx rfl (hb hby d7_46) kst) ?_
  show OwnWk _ _ _ _ (T70.setTop (mkF m 48 #[.val (.ref a), .val (.int (5 : Int32)), .val (.ref ls), .val (.long st4_), .second, .val (.int (4 : Int32)), .val (.long za4_), .second] [(.int (27 : Int32)), (.long za4_), (.long za4_)]))
  refine own_go (fun tgt kst => XS.lushr X70.here hx rfl (hb hby d7_48) rfl kst) ?_
  show OwnWk _ _ _ _ (T70.setTop (mkF m 49 #[.val (.ref a), .val (.int (5 : Int32)), .val (.ref ls), .val (.long st4_), .second, .val (.int (4 : Int32)), .val (.long za4_), .second] [(.long ((za4_.toUInt64 >>> ((27 : Int32) &&& 0x3f).toInt64.toUInt64).toInt64)), (.long za4_)]))
  refine own_go (fun tgt kst => XS.lxor X70.here hx rfl (hb hby d7_49) rfl kst) ?_
  show OwnWk _ _ _ _ (T70.setTop (mkF m 50 #[.val (.ref a), .val (.int (5 : Int32)), .val (.ref ls), .val (.long st4_), .second, .val (.int (4 : Int32)), .val (.long za4_), .second] [(.long (za4_ ^^^ ((za4_.toUInt64 >>> ((27 : Int32) &&& 0x3f).toInt64.toUInt64).toInt64)))]))
  refine own_go (X70.ldc2Long hx hown (mvT hZ (hw _ (List.mem_of_getElem? (i := 53) rfl))) (g := (mkF m 50 #[.val (.ref a), .val (.int (5 : Int32)), .val (.ref ls), .val (.long st4_), .second, .val (.int (4 : Int32)), .val (.long za4_), .second] [(.long (za4_ ^^^ ((za4_.toUInt64 >>> ((27 : Int32) &&& 0x3f).toInt64.toUInt64).toInt64)))])) rfl (hb hby d7_50)) ?_
  show OwnWk _ _ _ _ (T70.setTop (mkF m 53 #[.val (.ref a), .val (.int (5 : Int32)), .val (.ref ls), .val (.long st4_), .second, .val (.int (4 : Int32)), .val (.long za4_), .second] [(.long (-7723592293110705685 : Int64)), (.long (za4_ ^^^ ((za4_.toUInt64 >>> ((27 : Int32) &&& 0x3f).toInt64.toUInt64).toInt64)))]))
  refine own_go (fun tgt kst => XS.lmul X70.here hx rfl (hb hby d7_53) rfl kst) ?_
  show OwnWk _ _ _ _ (T70.setTop (mkF m 54 #[.val (.ref a), .val (.int (5 : Int32)), .val (.ref ls), .val (.long st4_), .second, .val (.int (4 : Int32)), .val (.long za4_), .second] [(.long ((za4_ ^^^ ((za4_.toUInt64 >>> ((27 : Int32) &&& 0x3f).toInt64.toUInt64).toInt64)) * (-7723592293110705685 : Int64)))]))
  obtain ⟨zb4_, h_zb4_⟩ : ∃ z : Int64, z = ((za4_ ^^^ ((za4_.toUInt64 >>> ((27 : Int32) &&& 0x3f).toInt64.toUInt64).toInt64)) * (-7723592293110705685 : Int64)) := ⟨_, rfl⟩
  rw [← h_zb4_]
  refine own_go (fun tgt kst => XS.lstore X70.here hx rfl (hb hby d7_54) rfl (l' := #[.val (.ref a), .val (.int (5 : Int32)), .val (.ref ls), .val (.long st4_), .second, .val (.int (4 : Int32)), .val (.long zb4_), .second]) rfl kst) ?_
  show OwnWk _ _ _ _ (T70.setTop (mkF m 56 #[.val (.ref a), .val (.int (5 : Int32)), .val (.ref ls), .val (.long st4_), .second, .val (.int (4 : Int32)), .val (.long zb4_), .second] []))
  refine own_go (fun tgt kst => XS.aloadN X70.here hx rfl (hb hby d7_56) rfl rfl  kst) ?_
  show OwnWk _ _ _ _ (T70.setTop (mkF m 57 #[.val (.ref a), .val (.int (5 : Int32)), .val (.ref ls), .val (.long st4_), .second, .val (.int (4 : Int32)), .val (.long zb4_), .second] [(.ref a)]))
  obtain ⟨T82, X82, e82, st82⟩ := getF X70 hx hZ hown (host := "") (Or.inl (hw _ (List.mem_of_getElem? (i := 48) rfl))) Via.refl e70 F79 (g := (mkF m 57 #[.val (.ref a), .val (.int (5 : Int32)), .val (.ref ls), .val (.long st4_), .second, .val (.int (4 : Int32)), .val (.long zb4_), .second] [(.ref a)])) rfl rfl (hb hby d7_57)
  refine own_go st82 ?_
  show OwnWk _ _ _ _ (T82.setTop (mkF m 60 #[.val (.ref a), .val (.int (5 : Int32)), .val (.ref ls), .val (.long st4_), .second, .val (.int (4 : Int32)), .val (.long zb4_), .second] [(.ref b2)]))
  refine own_go (fun tgt kst => XS.iload X82.here hx rfl (hb hby d7_60) rfl  kst) ?_
  show OwnWk _ _ _ _ (T82.setTop (mkF m 62 #[.val (.ref a), .val (.int (5 : Int32)), .val (.ref ls), .val (.long st4_), .second, .val (.int (4 : Int32)), .val (.long zb4_), .second] [(.int (4 : Int32)), (.ref b2)]))
  refine own_go (fun tgt kst => XS.lload X82.here hx rfl (hb hby d7_62) rfl  kst) ?_
  show OwnWk _ _ _ _ (T82.setTop (mkF m 64 #[.val (.ref a), .val (.int (5 : Int32)), .val (.ref ls), .val (.long st4_), .second, .val (.int (4 : Int32)), .val (.long zb4_), .second] [(.long zb4_), (.int (4 : Int32)), (.ref b2)]))
  refine own_go (fun tgt kst => XS.lload X82.here hx rfl (hb hby d7_64) rfl  kst) ?_
  show OwnWk _ _ _ _ (T82.setTop (mkF m 66 #[.val (.ref a), .val (.int (5 : Int32)), .val (.ref ls), .val (.long st4_), .second, .val (.int (4 : Int32)), .val (.long zb4_), .second] [(.long zb4_), (.long zb4_), (.int (4 : Int32)), (.ref b2)]))
  refine own_go (fun tgt kst => XS.bipush X82.here hx rfl (hb hby d7_66) kst) ?_
  show OwnWk _ _ _ _ (T82.setTop (mkF m 68 #[.val (.ref a), .val (.int (5 : Int32)), .val (.ref ls), .val (.long st4_), .second, .val (.int (4 : Int32)), .val (.long zb4_), .second] [(.int (31 : Int32)), (.long zb4_), (.long zb4_), (.int (4 : Int32)), (.ref b2)]))
  refine own_go (fun tgt kst => XS.lushr X82.here hx rfl (hb hby d7_68) rfl kst) ?_
  show OwnWk _ _ _ _ (T82.setTop (mkF m 69 #[.val (.ref a), .val (.int (5 : Int32)), .val (.ref ls), .val (.long st4_), .second, .val (.int (4 : Int32)), .val (.long zb4_), .second] [(.long ((zb4_.toUInt64 >>> ((31 : Int32) &&& 0x3f).toInt64.toUInt64).toInt64)), (.long zb4_), (.int (4 : Int32)), (.ref b2)]))
  refine own_go (fun tgt kst => XS.lxor X82.here hx rfl (hb hby d7_69) rfl kst) ?_
  show OwnWk _ _ _ _ (T82.setTop (mkF m 70 #[.val (.ref a), .val (.int (5 : Int32)), .val (.ref ls), .val (.long st4_), .second, .val (.int (4 : Int32)), .val (.long zb4_), .second] [(.long (zb4_ ^^^ ((zb4_.toUInt64 >>> ((31 : Int32) &&& 0x3f).toInt64.toUInt64).toInt64))), (.int (4 : Int32)), (.ref b2)]))
  obtain ⟨ky4_, h_ky4_⟩ : ∃ z : Int64, z = (zb4_ ^^^ ((zb4_.toUInt64 >>> ((31 : Int32) &&& 0x3f).toInt64.toUInt64).toInt64)) := ⟨_, rfl⟩
  rw [← h_ky4_]
  refine own_stJ X82 hx hZ e82 V70 (g := (mkF m 70 #[.val (.ref a), .val (.int (5 : Int32)), .val (.ref ls), .val (.long st4_), .second, .val (.int (4 : Int32)), .val (.long zb4_), .second] [(.long ky4_), (.int (4 : Int32)), (.ref b2)])) rfl rfl (hb hby d7_70) (by decide) (Nat.le_of_ble_eq_true rfl) (fun T83 h83 X83 e83 W83 V83 => ?_)
  have N83 := Fr.snoc X83 N70 ge5
  have F84 := Exa.wr W83 F71
  have F85 := Exa.wr W83 F72
  have F86 := Fld.other W83 F73 (Or.inl ne4)
  have F87 := Fld.other W83 F74 (Or.inl ne3)
  have F88 := Fld.other W83 F75 (Or.inl ne3)
  have F89 := Fld.other W83 F76 (Or.inl ne3)
  have F90 := Fld.other W83 F77 (Or.inl ne3)
  have F91 := Fld.other W83 F78 (Or.inl ne3)
  have F92 := Fld.other W83 F79 (Or.inl ne3)
  have Z93 := Nat.le_trans Z80 (Keep.of_wr W83).1
  have K94 := Keep.wr K81 W83 (Or.inr sz6)
  show OwnWk _ _ _ _ (T83.setTop (mkF m 71 #[.val (.ref a), .val (.int (5 : Int32)), .val (.ref ls), .val (.long st4_), .second, .val (.int (4 : Int32)), .val (.long zb4_), .second] []))
  refine own_go (fun tgt kst => XS.iinc X83.here hx rfl (hb hby d7_71) rfl (l' := #[.val (.ref a), .val (.int (5 : Int32)), .val (.ref ls), .val (.long st4_), .second, .val (.int (5 : Int32)), .val (.long zb4_), .second]) rfl kst) ?_
  show OwnWk _ _ _ _ (T83.setTop (mkF m 74 #[.val (.ref a), .val (.int (5 : Int32)), .val (.ref ls), .val (.long st4_), .second, .val (.int (5 : Int32)), .val (.long zb4_), .second] []))
  refine own_go (fun tgt kst => XS.goto X83.here hx rfl (pc0 := 74) (pc' := 18) rfl (hb hby d7_74) (by decide) (by decide) kst) ?_
  show OwnWk _ _ _ _ (T83.setTop (mkF m 18 #[.val (.ref a), .val (.int (5 : Int32)), .val (.ref ls), .val (.long st4_), .second, .val (.int (5 : Int32)), .val (.long zb4_), .second] []))
  refine own_go (fun tgt kst => XS.iload X83.here hx rfl (hb hby d7_18) rfl  kst) ?_
  show OwnWk _ _ _ _ (T83.setTop (mkF m 20 #[.val (.ref a), .val (.int (5 : Int32)), .val (.ref ls), .val (.long st4_), .second, .val (.int (5 : Int32)), .val (.long zb4_), .second] [(.int (5 : Int32))]))
  refine own_go (fun tgt kst => XS.iloadN X83.here hx rfl (hb hby d7_20) rfl  kst) ?_
  show OwnWk _ _ _ _ (T83.setTop (mkF m 21 #[.val (.ref a), .val (.int (5 : Int32)), .val (.ref ls), .val (.long st4_), .second, .val (.int (5 : Int32)), .val (.long zb4_), .second] [(.int (5 : Int32)), (.int (5 : Int32))]))
  refine own_go (fun tgt kst => XS.icmpYes X83.here hx rfl (pc0 := 21) (pc' := 77) rfl (hb hby d7_21) rfl (flt (by decide : ¬ ((5 : Int32) < (5 : Int32)))).2.1 (by decide) (by decide) kst) ?_
  show OwnWk _ _ _ _ (T83.setTop (mkF m 77 #[.val (.ref a), .val (.int (5 : Int32)), .val (.ref ls), .val (.long st4_), .second, .val (.int (5 : Int32)), .val (.long zb4_), .second] []))
  refine own_go (fun tgt kst => XS.aloadN X83.here hx rfl (hb hby d7_77) rfl rfl  kst) ?_
  show OwnWk _ _ _ _ (T83.setTop (mkF m 78 #[.val (.ref a), .val (.int (5 : Int32)), .val (.ref ls), .val (.long st4_), .second, .val (.int (5 : Int32)), .val (.long zb4_), .second] [(.ref a)]))
  refine own_go (fun tgt kst => XS.aloadN X83.here hx rfl (hb hby d7_78) rfl rfl  kst) ?_
  show OwnWk _ _ _ _ (T83.setTop (mkF m 79 #[.val (.ref a), .val (.int (5 : Int32)), .val (.ref ls), .val (.long st4_), .second, .val (.int (5 : Int32)), .val (.long zb4_), .second] [(.ref ls), (.ref a)]))
  refine own_callI X83 hx hZ (y := (⟨"java/util/List", "size", "()I"⟩ : MethodName)) (z := (⟨"java/util/ArrayList", "size", "()I"⟩ : MethodName)) hown (hw _ (List.mem_of_getElem? (i := 54) rfl)) (hw _ (List.mem_of_getElem? (i := 55) rfl)) (mvT hZ (hw _ (List.mem_of_getElem? (i := 56) rfl))) (hw _ (List.mem_of_getElem? (i := 57) rfl)) (hw _ (List.mem_of_getElem? (i := 58) rfl)) (hw _ (List.mem_of_getElem? (i := 59) rfl)) (hw _ (List.mem_of_getElem? (i := 60) rfl)) (hw _ (List.mem_of_getElem? (i := 61) rfl)) (hw _ (List.mem_of_getElem? (i := 10) rfl)) (hw _ (List.mem_of_getElem? (i := 62) rfl)) (by decide) (a := ls) F85 (argsL := []) (rest := [(.ref a)]) (rm := ({ frames := 0, cells := 0, slots := 0, locals := 0 } : Room)) (h := h83) (rm8 l Z a0 hw ls (0 : Int32) h83 n0 Z93 F86) e83 (W := 1) (by decide) (by decide) (by decide) (by decide) (g := (mkF m 79 #[.val (.ref a), .val (.int (5 : Int32)), .val (.ref ls), .val (.long st4_), .second, .val (.int (5 : Int32)), .val (.long zb4_), .second] [(.ref ls), (.ref a)])) rfl (by rw [hml]; rfl) (lenOf pd_2 rfl) rfl (by show 2 * 0 + _ ≤ _; exact Nat.le_of_eq rfl) (hb hby d7_79) (fun v95 T95 h95 L95 X95 e95 hQ95 => ?_)
  obtain ⟨rfl, Nq95, q95⟩ := hQ95
  have N95 := Fr.app N83 Nq95
  rw [q95] at e95
  show OwnWk _ _ _ _ (T95.setTop (mkF m 84 #[.val (.ref a), .val (.int (5 : Int32)), .val (.ref ls), .val (.long st4_), .second, .val (.int (5 : Int32)), .val (.long zb4_), .second] [(.int (0 : Int32)), (.ref a)]))
  refine own_newP X95 hx hZ (aty := .long) (hw _ (List.mem_of_getElem? (i := 47) rfl)) e95 (g := (mkF m 84 #[.val (.ref a), .val (.int (5 : Int32)), .val (.ref ls), .val (.long st4_), .second, .val (.int (5 : Int32)), .val (.long zb4_), .second] [(.int (0 : Int32)), (.ref a)])) rfl (hb hby d7_84) rfl (by decide) (cap := 0) (by decide) (by decide) (by decide) (by decide) (fun T96 h96 b96 X96 e96 g96 E96 V96 => ?_)
  have ne97 : a ≠ b96 := Nat.ne_of_lt (Nat.lt_of_lt_of_le F84.lt (Nat.le_of_eq g96.symm))
  have ne98 : ls ≠ b96 := Nat.ne_of_lt (Nat.lt_of_lt_of_le F85.lt (Nat.le_of_eq g96.symm))
  have ne99 : b2 ≠ b96 := Nat.ne_of_lt (Nat.lt_of_lt_of_le V83.lt (Nat.le_of_eq g96.symm))
  have ge100 : n0 ≤ b96 := Nat.le_trans Z93 (Nat.le_of_eq g96.symm)
  have sz101 : h0.size ≤ b96 := Nat.le_trans K94.1 (Nat.le_of_eq g96.symm)
  have F102 := Exa.ext E96 F84
  have F103 := Exa.ext E96 F85
  have F104 := Fld.ext E96 F86
  have F105 := Fld.ext E96 F87
  have F106 := Fld.ext E96 F88
  have F107 := Fld.ext E96 F89
  have F108 := Fld.ext E96 F90
  have F109 := Fld.ext E96 F91
  have F110 := Fld.ext E96 F92
  have F111 := OAr.ext V83 E96
  have Z112 := Nat.le_trans Z93 E96.1
  have K113 := Keep.ext K94 E96
  have V96b : OAr Z h96 b96 .long [] := V96
  show OwnWk _ _ _ _ (T96.setTop (mkF m 86 #[.val (.ref a), .val (.int (5 : Int32)), .val (.ref ls), .val (.long st4_), .second, .val (.int (5 : Int32)), .val (.long zb4_), .second] [(.ref b96), (.ref a)]))
  obtain ⟨T114, h114, X114, e114, W114, st114⟩ := putF X96 hx hZ hown (host := "") (Or.inl (hw _ (List.mem_of_getElem? (i := 65) rfl))) Via.refl e96 F105 F102 (Or.inr ⟨(hw _ (List.mem_of_getElem? (i := 66) rfl)), rfl, hnm⟩) (hw _ (List.mem_of_getElem? (i := 41) rfl)) (v := (.ref b96)) (ty := (.array .long)) (by decide) rfl rfl (g := (mkF m 86 #[.val (.ref a), .val (.int (5 : Int32)), .val (.ref ls), .val (.long st4_), .second, .val (.int (5 : Int32)), .val (.long zb4_), .second] [(.ref b96), (.ref a)])) rfl rfl (hb hby d7_86)
  refine own_go st114 ?_
  have N114 := Fr.snoc X114 N95 g_a
  have Fw114 := Fld.same W114 F105
  have F115 := Exa.wr W114 F102
  have F116 := Exa.wr W114 F103
  have F117 := Fld.other W114 F104 (Or.inl ne_l)
  have F118 := Fld.other W114 F106 (Or.inr (slot_ne (Or.inr (hw _ (List.mem_of_getElem? (i := 68) rfl))) (Or.inr (hw _ (List.mem_of_getElem? (i := 66) rfl))) (by decide) (t := (.array .int)) (t' := (.array .long)) (by decide) (by decide)))
  have F119 := Fld.other W114 F107 (Or.inr (slot_ne (Or.inr (hw _ (List.mem_of_getElem? (i := 83) rfl))) (Or.inr (hw _ (List.mem_of_getElem? (i := 66) rfl))) (by decide) (t := (.array .long)) (t' := (.array .long)) (by decide) (by decide)))
  have F120 := Fld.other W114 F108 (Or.inr (slot_ne (Or.inr (hw _ (List.mem_of_getElem? (i := 85) rfl))) (Or.inr (hw _ (List.mem_of_getElem? (i := 66) rfl))) (by decide) (t := (.array .int)) (t' := (.array .long)) (by decide) (by decide)))
  have F121 := Fld.other W114 F109 (Or.inr (slot_ne (Or.inr (hw _ (List.mem_of_getElem? (i := 87) rfl))) (Or.inr (hw _ (List.mem_of_getElem? (i := 66) rfl))) (by decide) (t := (.array .int)) (t' := (.array .long)) (by decide) (by decide)))
  have F122 := Fld.other W114 F110 (Or.inr (slot_ne (Or.inr (hw _ (List.mem_of_getElem? (i := 49) rfl))) (Or.inr (hw _ (List.mem_of_getElem? (i := 66) rfl))) (by decide) (t := (.array .long)) (t' := (.array .long)) (by decide) (by decide)))
  have F123 := OAr.other F111 W114 (Ne.symm ne3)
  have F124 := OAr.other V96b W114 (Ne.symm ne97)
  have Z125 := Nat.le_trans Z112 (Keep.of_wr W114).1
  have K126 := Keep.wr K113 W114 (Or.inl (List.mem_of_getElem? (i := 0) rfl))
  show OwnWk _ _ _ _ (T114.setTop (mkF m 89 #[.val (.ref a), .val (.int (5 : Int32)), .val (.ref ls), .val (.long st4_), .second, .val (.int (5 : Int32)), .val (.long zb4_), .second] []))
  refine own_go (fun tgt kst => XS.aloadN X114.here hx rfl (hb hby d7_89) rfl rfl  kst) ?_
  show OwnWk _ _ _ _ (T114.setTop (mkF m 90 #[.val (.ref a), .val (.int (5 : Int32)), .val (.ref ls), .val (.long st4_), .second, .val (.int (5 : Int32)), .val (.long zb4_), .second] [(.ref a)]))
  refine own_go (fun tgt kst => XS.aloadN X114.here hx rfl (hb hby d7_90) rfl rfl  kst) ?_
  show OwnWk _ _ _ _ (T114.setTop (mkF m 91 #[.val (.ref a), .val (.int (5 : Int32)), .val (.ref ls), .val (.long st4_), .second, .val (.int (5 : Int32)), .val (.long zb4_), .second] [(.ref ls), (.ref a)]))
  refine own_callI X114 hx hZ (y := (⟨"java/util/List", "size", "()I"⟩ : MethodName)) (z := (⟨"java/util/ArrayList", "size", "()I"⟩ : MethodName)) hown (hw _ (List.mem_of_getElem? (i := 54) rfl)) (hw _ (List.mem_of_getElem? (i := 55) rfl)) (mvT hZ (hw _ (List.mem_of_getElem? (i := 56) rfl))) (hw _ (List.mem_of_getElem? (i := 57) rfl)) (hw _ (List.mem_of_getElem? (i := 58) rfl)) (hw _ (List.mem_of_getElem? (i := 59) rfl)) (hw _ (List.mem_of_getElem? (i := 60) rfl)) (hw _ (List.mem_of_getElem? (i := 61) rfl)) (hw _ (List.mem_of_getElem? (i := 10) rfl)) (hw _ (List.mem_of_getElem? (i := 62) rfl)) (by decide) (a := ls) F116 (argsL := []) (rest := [(.ref a)]) (rm := ({ frames := 0, cells := 0, slots := 0, locals := 0 } : Room)) (h := h114) (rm8 l Z a0 hw ls (0 : Int32) h114 n0 Z125 F117) e114 (W := 1) (by decide) (by decide) (by decide) (by decide) (g := (mkF m 91 #[.val (.ref a), .val (.int (5 : Int32)), .val (.ref ls), .val (.long st4_), .second, .val (.int (5 : Int32)), .val (.long zb4_), .second] [(.ref ls), (.ref a)])) rfl (by rw [hml]; rfl) (lenOf pd_2 rfl) rfl (by show 2 * 0 + _ ≤ _; exact Nat.le_of_eq rfl) (hb hby d7_91) (fun v127 T127 h127 L127 X127 e127 hQ127 => ?_)
  obtain ⟨rfl, Nq127, q127⟩ := hQ127
  have N127 := Fr.app N114 Nq127
  rw [q127] at e127
  show OwnWk _ _ _ _ (T127.setTop (mkF m 96 #[.val (.ref a), .val (.int (5 : Int32)), .val (.ref ls), .val (.long st4_), .second, .val (.int (5 : Int32)), .val (.long zb4_), .second] [(.int (0 : Int32)), (.ref a)]))
  refine own_newP X127 hx hZ (aty := .int) (hw _ (List.mem_of_getElem? (i := 0) rfl)) e127 (g := (mkF m 96 #[.val (.ref a), .val (.int (5 : Int32)), .val (.ref ls), .val (.long st4_), .second, .val (.int (5 : Int32)), .val (.long zb4_), .second] [(.int (0 : Int32)), (.ref a)])) rfl (hb hby d7_96) rfl (by decide) (cap := 0) (by decide) (by decide) (by decide) (by decide) (fun T128 h128 b128 X128 e128 g128 E128 V128 => ?_)
  have ne129 : a ≠ b128 := Nat.ne_of_lt (Nat.lt_of_lt_of_le F115.lt (Nat.le_of_eq g128.symm))
  have ne130 : ls ≠ b128 := Nat.ne_of_lt (Nat.lt_of_lt_of_le F116.lt (Nat.le_of_eq g128.symm))
  have ne131 : b2 ≠ b128 := Nat.ne_of_lt (Nat.lt_of_lt_of_le F123.lt (Nat.le_of_eq g128.symm))
  have ne132 : b96 ≠ b128 := Nat.ne_of_lt (Nat.lt_of_lt_of_le F124.lt (Nat.le_of_eq g128.symm))
  have ge133 : n0 ≤ b128 := Nat.le_trans Z125 (Nat.le_of_eq g128.symm)
  have sz134 : h0.size ≤ b128 := Nat.le_trans K126.1 (Nat.le_of_eq g128.symm)
  have F135 := Exa.ext E128 F115
  have F136 := Exa.ext E128 F116
  have F137 := Fld.ext E128 F117
  have F138 := Fld.ext E128 F118
  have F139 := Fld.ext E128 F119
  have F140 := Fld.ext E128 F120
  have F141 := Fld.ext E128 F121
  have F142 := Fld.ext E128 F122
  have F143 := OAr.ext F123 E128
  have F144 := OAr.ext F124 E128
  have F145 := Fld.ext E128 Fw114
  have Z146 := Nat.le_trans Z125 E128.1
  have K147 := Keep.ext K126 E128
  have V128b : OAr Z h128 b128 .int [] := V128
  show OwnWk _ _ _ _ (T128.setTop (mkF m 98 #[.val (.ref a), .val (.int (5 : Int32)), .val (.ref ls), .val (.long st4_), .second, .val (.int (5 : Int32)), .val (.long zb4_), .second] [(.ref b128), (.ref a)]))
  obtain ⟨T148, h148, X148, e148, W148, st148⟩ := putF X128 hx hZ hown (host := "") (Or.inl (hw _ (List.mem_of_getElem? (i := 67) rfl))) Via.refl e128 F138 F135 (Or.inr ⟨(hw _ (List.mem_of_getElem? (i := 68) rfl)), rfl, hnm⟩) (hw _ (List.mem_of_getElem? (i := 41) rfl)) (v := (.ref b128)) (ty := (.array .int)) (by decide) rfl rfl (g := (mkF m 98 #[.val (.ref a), .val (.int (5 : Int32)), .val (.ref ls), .val (.long st4_), .second, .val (.int (5 : Int32)), .val (.long zb4_), .second] [(.ref b128), (.ref a)])) rfl rfl (hb hby d7_98)
  refine own_go st148 ?_
  have N148 := Fr.snoc X148 N127 g_a
  have Fw148 := Fld.same W148 F138
  have F149 := Exa.wr W148 F135
  have F150 := Exa.wr W148 F136
  have F151 := Fld.other W148 F137 (Or.inl ne_l)
  have F152 := Fld.other W148 F139 (Or.inr (slot_ne (Or.inr (hw _ (List.mem_of_getElem? (i := 83) rfl))) (Or.inr (hw _ (List.mem_of_getElem? (i := 68) rfl))) (by decide) (t := (.array .long)) (t' := (.array .int)) (by decide) (by decide)))
  have F153 := Fld.other W148 F140 (Or.inr (slot_ne (Or.inr (hw _ (List.mem_of_getElem? (i := 85) rfl))) (Or.inr (hw _ (List.mem_of_getElem? (i := 68) rfl))) (by decide) (t := (.array .int)) (t' := (.array .int)) (by decide) (by decide)))
  have F154 := Fld.other W148 F141 (Or.inr (slot_ne (Or.inr (hw _ (List.mem_of_getElem? (i := 87) rfl))) (Or.inr (hw _ (List.mem_of_getElem? (i := 68) rfl))) (by decide) (t := (.array .int)) (t' := (.array .int)) (by decide) (by decide)))
  have F155 := Fld.other W148 F142 (Or.inr (slot_ne (Or.inr (hw _ (List.mem_of_getElem? (i := 49) rfl))) (Or.inr (hw _ (List.mem_of_getElem? (i := 68) rfl))) (by decide) (t := (.array .long)) (t' := (.array .int)) (by decide) (by decide)))
  have F156 := OAr.other F143 W148 (Ne.symm ne3)
  have F157 := OAr.other F144 W148 (Ne.symm ne97)
  have F158 := Fld.other W148 F145 (Or.inr (slot_ne (Or.inr (hw _ (List.mem_of_getElem? (i := 66) rfl))) (Or.inr (hw _ (List.mem_of_getElem? (i := 68) rfl))) (by decide) (t := (.array .long)) (t' := (.array .int)) (by decide) (by decide)))
  have F159 := OAr.other V128b W148 (Ne.symm ne129)
  have Z160 := Nat.le_trans Z146 (Keep.of_wr W148).1
  have K161 := Keep.wr K147 W148 (Or.inl (List.mem_of_getElem? (i := 0) rfl))
  show OwnWk _ _ _ _ (T148.setTop (mkF m 101 #[.val (.ref a), .val (.int (5 : Int32)), .val (.ref ls), .val (.long st4_), .second, .val (.int (5 : Int32)), .val (.long zb4_), .second] []))
  refine own_go (fun tgt kst => XS.iconst X148.here hx rfl (hb hby d7_101) kst) ?_
  show OwnWk _ _ _ _ (T148.setTop (mkF m 102 #[.val (.ref a), .val (.int (5 : Int32)), .val (.ref ls), .val (.long st4_), .second, .val (.int (5 : Int32)), .val (.long zb4_), .second] [(.int (0 : Int32))]))
  refine own_go (fun tgt kst => XS.istore X148.here hx rfl (hb hby d7_102) rfl (l' := #[.val (.ref a), .val (.int (5 : Int32)), .val (.ref ls), .val (.long st4_), .second, .val (.int (0 : Int32)), .val (.long zb4_), .second]) rfl kst) ?_
  show OwnWk _ _ _ _ (T148.setTop (mkF m 104 #[.val (.ref a), .val (.int (5 : Int32)), .val (.ref ls), .val (.long st4_), .second, .val (.int (0 : Int32)), .val (.long zb4_), .second] []))
  refine own_go (fun tgt kst => XS.iload X148.here hx rfl (hb hby d7_104) rfl  kst) ?_
  show OwnWk _ _ _ _ (T148.setTop (mkF m 106 #[.val (.ref a), .val (.int (5 : Int32)), .val (.ref ls), .val (.long st4_), .second, .val (.int (0 : Int32)), .val (.long zb4_), .second] [(.int (0 : Int32))]))
  refine own_go (fun tgt kst => XS.aloadN X148.here hx rfl (hb hby d7_106) rfl rfl  kst) ?_
  show OwnWk _ _ _ _ (T148.setTop (mkF m 107 #[.val (.ref a), .val (.int (5 : Int32)), .val (.ref ls), .val (.long st4_), .second, .val (.int (0 : Int32)), .val (.long zb4_), .second] [(.ref a), (.int (0 : Int32))]))
  obtain ⟨T162, X162, e162, st162⟩ := getF X148 hx hZ hown (host := "") (Or.inl (hw _ (List.mem_of_getElem? (i := 65) rfl))) Via.refl e148 F158 (g := (mkF m 107 #[.val (.ref a), .val (.int (5 : Int32)), .val (.ref ls), .val (.long st4_), .second, .val (.int (0 : Int32)), .val (.long zb4_), .second] [(.ref a), (.int (0 : Int32))])) rfl rfl (hb hby d7_107)
  refine own_go st162 ?_
  show OwnWk _ _ _ _ (T162.setTop (mkF m 110 #[.val (.ref a), .val (.int (5 : Int32)), .val (.ref ls), .val (.long st4_), .second, .val (.int (0 : Int32)), .val (.long zb4_), .second] [(.ref b96), (.int (0 : Int32))]))
  refine own_len X162 hx hZ e162 F157 (g := (mkF m 110 #[.val (.ref a), .val (.int (5 : Int32)), .val (.ref ls), .val (.long st4_), .second, .val (.int (0 : Int32)), .val (.long zb4_), .second] [(.ref b96), (.int (0 : Int32))])) rfl rfl (hb hby d7_110) (N := (0 : Int32)) rfl ?_
  show OwnWk _ _ _ _ (T162.setTop (mkF m 111 #[.val (.ref a), .val (.int (5 : Int32)), .val (.ref ls), .val (.long st4_), .second, .val (.int (0 : Int32)), .val (.long zb4_), .second] [(.int (0 : Int32)), (.int (0 : Int32))]))
  refine own_go (fun tgt kst => XS.icmpYes X162.here hx rfl (pc0 := 111) (pc' := 189) rfl (hb hby d7_111) rfl (flt (by decide : ¬ ((0 : Int32) < (0 : Int32)))).2.1 (by decide) (by decide) kst) ?_
  show OwnWk _ _ _ _ (T162.setTop (mkF m 189 #[.val (.ref a), .val (.int (5 : Int32)), .val (.ref ls), .val (.long st4_), .second, .val (.int (0 : Int32)), .val (.long zb4_), .second] []))
  refine own_go (fun tgt kst => XS.iconst X162.here hx rfl (hb hby d7_189) kst) ?_
  show OwnWk _ _ _ _ (T162.setTop (mkF m 190 #[.val (.ref a), .val (.int (5 : Int32)), .val (.ref ls), .val (.long st4_), .second, .val (.int (0 : Int32)), .val (.long zb4_), .second] [(.int (1 : Int32))]))
  refine own_go (fun tgt kst => XS.aloadN X162.here hx rfl (hb hby d7_190) rfl rfl  kst) ?_
  show OwnWk _ _ _ _ (T162.setTop (mkF m 191 #[.val (.ref a), .val (.int (5 : Int32)), .val (.ref ls), .val (.long st4_), .second, .val (.int (0 : Int32)), .val (.long zb4_), .second] [(.ref ls), (.int (1 : Int32))]))
  refine own_callI X162 hx hZ (y := (⟨"java/util/List", "size", "()I"⟩ : MethodName)) (z := (⟨"java/util/ArrayList", "size", "()I"⟩ : MethodName)) hown (hw _ (List.mem_of_getElem? (i := 54) rfl)) (hw _ (List.mem_of_getElem? (i := 55) rfl)) (mvT hZ (hw _ (List.mem_of_getElem? (i := 56) rfl))) (hw _ (List.mem_of_getElem? (i := 57) rfl)) (hw _ (List.mem_of_getElem? (i := 58) rfl)) (hw _ (List.mem_of_getElem? (i := 59) rfl)) (hw _ (List.mem_of_getElem? (i := 60) rfl)) (hw _ (List.mem_of_getElem? (i := 61) rfl)) (hw _ (List.mem_of_getElem? (i := 10) rfl)) (hw _ (List.mem_of_getElem? (i := 62) rfl)) (by decide) (a := ls) F150 (argsL := []) (rest := [(.int (1 : Int32))]) (rm := ({ frames := 0, cells := 0, slots := 0, locals := 0 } : Room)) (h := h148) (rm8 l Z a0 hw ls (0 : Int32) h148 n0 Z160 F151) e162 (W := 1) (by decide) (by decide) (by decide) (by decide) (g := (mkF m 191 #[.val (.ref a), .val (.int (5 : Int32)), .val (.ref ls), .val (.long st4_), .second, .val (.int (0 : Int32)), .val (.long zb4_), .second] [(.ref ls), (.int (1 : Int32))])) rfl (by rw [hml]; rfl) (lenOf pd_2 rfl) rfl (by show 2 * 0 + _ ≤ _; exact Nat.le_of_eq rfl) (hb hby d7_191) (fun v163 T163 h163 L163 X163 e163 hQ163 => ?_)
  obtain ⟨rfl, Nq163, q163⟩ := hQ163
  have N163 := Fr.app N148 Nq163
  rw [q163] at e163
  show OwnWk _ _ _ _ (T163.setTop (mkF m 196 #[.val (.ref a), .val (.int (5 : Int32)), .val (.ref ls), .val (.long st4_), .second, .val (.int (0 : Int32)), .val (.long zb4_), .second] [(.int (0 : Int32)), (.int (1 : Int32))]))
  refine own_callS X163 hx hZ (y := (⟨"java/lang/Math", "max", "(II)I"⟩ : MethodName)) hown (hw _ (List.mem_of_getElem? (i := 69) rfl)) (hw _ (List.mem_of_getElem? (i := 70) rfl)) (hw _ (List.mem_of_getElem? (i := 71) rfl)) (hw _ (List.mem_of_getElem? (i := 72) rfl)) (by decide) (argsL := [(.int (1 : Int32)), (.int (0 : Int32))]) (rest := []) (rm := ({ frames := 0, cells := 0, slots := 0, locals := 0 } : Room)) (h := h148) (rm9 l Z a0 hw (1 : Int32) (0 : Int32) h148 n0 Z160) e163 (W := 0) (by decide) (by decide) (by decide) (by decide) (g := (mkF m 196 #[.val (.ref a), .val (.int (5 : Int32)), .val (.ref ls), .val (.long st4_), .second, .val (.int (0 : Int32)), .val (.long zb4_), .second] [(.int (0 : Int32)), (.int (1 : Int32))])) rfl (by rw [hml]; rfl) (lenOf pd_3 rfl) rfl (by show 2 * 0 + _ ≤ _; exact Nat.le_of_eq rfl) (hb hby d7_196) (fun v164 T164 h164 L164 X164 e164 hQ164 => ?_)
  obtain ⟨rfl, Nq164, q164⟩ := hQ164
  have N164 := Fr.app N163 Nq164
  rw [q164] at e164
  show OwnWk _ _ _ _ (T164.setTop (mkF m 199 #[.val (.ref a), .val (.int (5 : Int32)), .val (.ref ls), .val (.long st4_), .second, .val (.int (0 : Int32)), .val (.long zb4_), .second] [(.int (1 : Int32))]))
  refine own_go (fun tgt kst => XS.iconst X164.here hx rfl (hb hby d7_199) kst) ?_
  show OwnWk _ _ _ _ (T164.setTop (mkF m 200 #[.val (.ref a), .val (.int (5 : Int32)), .val (.ref ls), .val (.long st4_), .second, .val (.int (0 : Int32)), .val (.long zb4_), .second] [(.int (4 : Int32)), (.int (1 : Int32))]))
  refine own_go (fun tgt kst => XS.imul X164.here hx rfl (hb hby d7_200) rfl kst) ?_
  show OwnWk _ _ _ _ (T164.setTop (mkF m 201 #[.val (.ref a), .val (.int (5 : Int32)), .val (.ref ls), .val (.long st4_), .second, .val (.int (0 : Int32)), .val (.long zb4_), .second] [(.int (4 : Int32))]))
  refine own_go (fun tgt kst => XS.iconst X164.here hx rfl (hb hby d7_201) kst) ?_
  show OwnWk _ _ _ _ (T164.setTop (mkF m 202 #[.val (.ref a), .val (.int (5 : Int32)), .val (.ref ls), .val (.long st4_), .second, .val (.int (0 : Int32)), .val (.long zb4_), .second] [(.int (1 : Int32)), (.int (4 : Int32))]))
  refine own_go (fun tgt kst => XS.isub X164.here hx rfl (hb hby d7_202) rfl kst) ?_
  show OwnWk _ _ _ _ (T164.setTop (mkF m 203 #[.val (.ref a), .val (.int (5 : Int32)), .val (.ref ls), .val (.long st4_), .second, .val (.int (0 : Int32)), .val (.long zb4_), .second] [(.int (3 : Int32))]))
  refine own_callS X164 hx hZ (y := (⟨"java/lang/Integer", "highestOneBit", "(I)I"⟩ : MethodName)) hown (hw _ (List.mem_of_getElem? (i := 73) rfl)) (hw _ (List.mem_of_getElem? (i := 74) rfl)) (hw _ (List.mem_of_getElem? (i := 75) rfl)) (hw _ (List.mem_of_getElem? (i := 76) rfl)) (by decide) (argsL := [(.int (3 : Int32))]) (rest := []) (rm := ({ frames := 1, cells := 0, slots := 0, locals := 15 } : Room)) (h := h148) (rm10 l Z a0 hw h148 n0 Z160) e164 (W := 0) (by decide) (by decide) (by decide) (by decide) (g := (mkF m 203 #[.val (.ref a), .val (.int (5 : Int32)), .val (.ref ls), .val (.long st4_), .second, .val (.int (0 : Int32)), .val (.long zb4_), .second] [(.int (3 : Int32))])) rfl (by rw [hml]; rfl) (lenOf pd_1 rfl) rfl (by show 2 * 0 + _ ≤ _; exact Nat.le_of_eq rfl) (hb hby d7_203) (fun v165 T165 h165 L165 X165 e165 hQ165 => ?_)
  obtain ⟨rfl, Nq165, q165⟩ := hQ165
  have N165 := Fr.app N164 Nq165
  rw [q165] at e165
  show OwnWk _ _ _ _ (T165.setTop (mkF m 206 #[.val (.ref a), .val (.int (5 : Int32)), .val (.ref ls), .val (.long st4_), .second, .val (.int (0 : Int32)), .val (.long zb4_), .second] [(.int (2 : Int32))]))
  refine own_go (fun tgt kst => XS.istore X165.here hx rfl (hb hby d7_206) rfl (l' := #[.val (.ref a), .val (.int (5 : Int32)), .val (.ref ls), .val (.long st4_), .second, .val (.int (2 : Int32)), .val (.long zb4_), .second]) rfl kst) ?_
  show OwnWk _ _ _ _ (T165.setTop (mkF m 208 #[.val (.ref a), .val (.int (5 : Int32)), .val (.ref ls), .val (.long st4_), .second, .val (.int (2 : Int32)), .val (.long zb4_), .second] []))
  refine own_go (fun tgt kst => XS.aloadN X165.here hx rfl (hb hby d7_208) rfl rfl  kst) ?_
  show OwnWk _ _ _ _ (T165.setTop (mkF m 209 #[.val (.ref a), .val (.int (5 : Int32)), .val (.ref ls), .val (.long st4_), .second, .val (.int (2 : Int32)), .val (.long zb4_), .second] [(.ref a)]))
  refine own_go (fun tgt kst => XS.iload X165.here hx rfl (hb hby d7_209) rfl  kst) ?_
  show OwnWk _ _ _ _ (T165.setTop (mkF m 211 #[.val (.ref a), .val (.int (5 : Int32)), .val (.ref ls), .val (.long st4_), .second, .val (.int (2 : Int32)), .val (.long zb4_), .second] [(.int (2 : Int32)), (.ref a)]))
  refine own_newP X165 hx hZ (aty := .long) (hw _ (List.mem_of_getElem? (i := 47) rfl)) e165 (g := (mkF m 211 #[.val (.ref a), .val (.int (5 : Int32)), .val (.ref ls), .val (.long st4_), .second, .val (.int (2 : Int32)), .val (.long zb4_), .second] [(.int (2 : Int32)), (.ref a)])) rfl (hb hby d7_211) rfl (by decide) (cap := 2) (by decide) (by decide) (by decide) (by decide) (fun T166 h166 b166 X166 e166 g166 E166 V166 => ?_)
  have ne167 : a ≠ b166 := Nat.ne_of_lt (Nat.lt_of_lt_of_le F149.lt (Nat.le_of_eq g166.symm))
  have ne168 : ls ≠ b166 := Nat.ne_of_lt (Nat.lt_of_lt_of_le F150.lt (Nat.le_of_eq g166.symm))
  have ne169 : b2 ≠ b166 := Nat.ne_of_lt (Nat.lt_of_lt_of_le F156.lt (Nat.le_of_eq g166.symm))
  have ne170 : b96 ≠ b166 := Nat.ne_of_lt (Nat.lt_of_lt_of_le F157.lt (Nat.le_of_eq g166.symm))
  have ne171 : b128 ≠ b166 := Nat.ne_of_lt (Nat.lt_of_lt_of_le F159.lt (Nat.le_of_eq g166.symm))
  have ge172 : n0 ≤ b166 := Nat.le_trans Z160 (Nat.le_of_eq g166.symm)
  have sz173 : h0.size ≤ b166 := Nat.le_trans K161.1 (Nat.le_of_eq g166.symm)
  have F174 := Exa.ext E166 F149
  have F175 := Exa.ext E166 F150
  have F176 := Fld.ext E166 F151
  have F177 := Fld.ext E166 F152
  have F178 := Fld.ext E166 F153
  have F179 := Fld.ext E166 F154
  have F180 := Fld.ext E166 F155
  have F181 := OAr.ext F156 E166
  have F182 := OAr.ext F157 E166
  have F183 := Fld.ext E166 F158
  have F184 := OAr.ext F159 E166
  have F185 := Fld.ext E166 Fw148
  have Z186 := Nat.le_trans Z160 E166.1
  have K187 := Keep.ext K161 E166
  have V166b : OAr Z h166 b166 .long [(.long (0 : Int64)), (.long (0 : Int64))] := V166
  show OwnWk _ _ _ _ (T166.setTop (mkF m 213 #[.val (.ref a), .val (.int (5 : Int32)), .val (.ref ls), .val (.long st4_), .second, .val (.int (2 : Int32)), .val (.long zb4_), .second] [(.ref b166), (.ref a)]))
  obtain ⟨T188, h188, X188, e188, W188, st188⟩ := putF X166 hx hZ hown (host := "") (Or.inl (hw _ (List.mem_of_getElem? (i := 82) rfl))) Via.refl e166 F177 F174 (Or.inr ⟨(hw _ (List.mem_of_getElem? (i := 83) rfl)), rfl, hnm⟩) (hw _ (List.mem_of_getElem? (i := 41) rfl)) (v := (.ref b166)) (ty := (.array .long)) (by decide) rfl rfl (g := (mkF m 213 #[.val (.ref a), .val (.int (5 : Int32)), .val (.ref ls), .val (.long st4_), .second, .val (.int (2 : Int32)), .val (.long zb4_), .second] [(.ref b166), (.ref a)])) rfl rfl (hb hby d7_213)
  refine own_go st188 ?_
  have N188 := Fr.snoc X188 N165 g_a
  have Fw188 := Fld.same W188 F177
  have F189 := Exa.wr W188 F174
  have F190 := Exa.wr W188 F175
  have F191 := Fld.other W188 F176 (Or.inl ne_l)
  have F192 := Fld.other W188 F178 (Or.inr (slot_ne (Or.inr (hw _ (List.mem_of_getElem? (i := 85) rfl))) (Or.inr (hw _ (List.mem_of_getElem? (i := 83) rfl))) (by decide) (t := (.array .int)) (t' := (.array .long)) (by decide) (by decide)))
  have F193 := Fld.other W188 F179 (Or.inr (slot_ne (Or.inr (hw _ (List.mem_of_getElem? (i := 87) rfl))) (Or.inr (hw _ (List.mem_of_getElem? (i := 83) rfl))) (by decide) (t := (.array .int)) (t' := (.array .long)) (by decide) (by decide)))
  have F194 := Fld.other W188 F180 (Or.inr (slot_ne (Or.inr (hw _ (List.mem_of_getElem? (i := 49) rfl))) (Or.inr (hw _ (List.mem_of_getElem? (i := 83) rfl))) (by decide) (t := (.array .long)) (t' := (.array .long)) (by decide) (by decide)))
  have F195 := OAr.other F181 W188 (Ne.symm ne3)
  have F196 := OAr.other F182 W188 (Ne.symm ne97)
  have F197 := Fld.other W188 F183 (Or.inr (slot_ne (Or.inr (hw _ (List.mem_of_getElem? (i := 66) rfl))) (Or.inr (hw _ (List.mem_of_getElem? (i := 83) rfl))) (by decide) (t := (.array .long)) (t' := (.array .long)) (by decide) (by decide)))
  have F198 := OAr.other F184 W188 (Ne.symm ne129)
  have F199 := Fld.other W188 F185 (Or.inr (slot_ne (Or.inr (hw _ (List.mem_of_getElem? (i := 68) rfl))) (Or.inr (hw _ (List.mem_of_getElem? (i := 83) rfl))) (by decide) (t := (.array .int)) (t' := (.array .long)) (by decide) (by decide)))
  have F200 := OAr.other V166b W188 (Ne.symm ne167)
  have Z201 := Nat.le_trans Z186 (Keep.of_wr W188).1
  have K202 := Keep.wr K187 W188 (Or.inl (List.mem_of_getElem? (i := 0) rfl))
  show OwnWk _ _ _ _ (T188.setTop (mkF m 216 #[.val (.ref a), .val (.int (5 : Int32)), .val (.ref ls), .val (.long st4_), .second, .val (.int (2 : Int32)), .val (.long zb4_), .second] []))
  refine own_go (fun tgt kst => XS.aloadN X188.here hx rfl (hb hby d7_216) rfl rfl  kst) ?_
  show OwnWk _ _ _ _ (T188.setTop (mkF m 217 #[.val (.ref a), .val (.int (5 : Int32)), .val (.ref ls), .val (.long st4_), .second, .val (.int (2 : Int32)), .val (.long zb4_), .second] [(.ref a)]))
  refine own_go (fun tgt kst => XS.iload X188.here hx rfl (hb hby d7_217) rfl  kst) ?_
  show OwnWk _ _ _ _ (T188.setTop (mkF m 219 #[.val (.ref a), .val (.int (5 : Int32)), .val (.ref ls), .val (.long st4_), .second, .val (.int (2 : Int32)), .val (.long zb4_), .second] [(.int (2 : Int32)), (.ref a)]))
  refine own_newP X188 hx hZ (aty := .int) (hw _ (List.mem_of_getElem? (i := 0) rfl)) e188 (g := (mkF m 219 #[.val (.ref a), .val (.int (5 : Int32)), .val (.ref ls), .val (.long st4_), .second, .val (.int (2 : Int32)), .val (.long zb4_), .second] [(.int (2 : Int32)), (.ref a)])) rfl (hb hby d7_219) rfl (by decide) (cap := 2) (by decide) (by decide) (by decide) (by decide) (fun T203 h203 b203 X203 e203 g203 E203 V203 => ?_)
  have ne204 : a ≠ b203 := Nat.ne_of_lt (Nat.lt_of_lt_of_le F189.lt (Nat.le_of_eq g203.symm))
  have ne205 : ls ≠ b203 := Nat.ne_of_lt (Nat.lt_of_lt_of_le F190.lt (Nat.le_of_eq g203.symm))
  have ne206 : b2 ≠ b203 := Nat.ne_of_lt (Nat.lt_of_lt_of_le F195.lt (Nat.le_of_eq g203.symm))
  have ne207 : b96 ≠ b203 := Nat.ne_of_lt (Nat.lt_of_lt_of_le F196.lt (Nat.le_of_eq g203.symm))
  have ne208 : b128 ≠ b203 := Nat.ne_of_lt (Nat.lt_of_lt_of_le F198.lt (Nat.le_of_eq g203.symm))
  have ne209 : b166 ≠ b203 := Nat.ne_of_lt (Nat.lt_of_lt_of_le F200.lt (Nat.le_of_eq g203.symm))
  have ge210 : n0 ≤ b203 := Nat.le_trans Z201 (Nat.le_of_eq g203.symm)
  have sz211 : h0.size ≤ b203 := Nat.le_trans K202.1 (Nat.le_of_eq g203.symm)
  have F212 := Exa.ext E203 F189
  have F213 := Exa.ext E203 F190
  have F214 := Fld.ext E203 F191
  have F215 := Fld.ext E203 F192
  have F216 := Fld.ext E203 F193
  have F217 := Fld.ext E203 F194
  have F218 := OAr.ext F195 E203
  have F219 := OAr.ext F196 E203
  have F220 := Fld.ext E203 F197
  have F221 := OAr.ext F198 E203
  have F222 := Fld.ext E203 F199
  have F223 := OAr.ext F200 E203
  have F224 := Fld.ext E203 Fw188
  have Z225 := Nat.le_trans Z201 E203.1
  have K226 := Keep.ext K202 E203
  have V203b : OAr Z h203 b203 .int [(.int (0 : Int32)), (.int (0 : Int32))] := V203
  show OwnWk _ _ _ _ (T203.setTop (mkF m 221 #[.val (.ref a), .val (.int (5 : Int32)), .val (.ref ls), .val (.long st4_), .second, .val (.int (2 : Int32)), .val (.long zb4_), .second] [(.ref b203), (.ref a)]))
  obtain ⟨T227, h227, X227, e227, W227, st227⟩ := putF X203 hx hZ hown (host := "") (Or.inl (hw _ (List.mem_of_getElem? (i := 84) rfl))) Via.refl e203 F215 F212 (Or.inr ⟨(hw _ (List.mem_of_getElem? (i := 85) rfl)), rfl, hnm⟩) (hw _ (List.mem_of_getElem? (i := 41) rfl)) (v := (.ref b203)) (ty := (.array .int)) (by decide) rfl rfl (g := (mkF m 221 #[.val (.ref a), .val (.int (5 : Int32)), .val (.ref ls), .val (.long st4_), .second, .val (.int (2 : Int32)), .val (.long zb4_), .second] [(.ref b203), (.ref a)])) rfl rfl (hb hby d7_221)
  refine own_go st227 ?_
  have N227 := Fr.snoc X227 N188 g_a
  have Fw227 := Fld.same W227 F215
  have F228 := Exa.wr W227 F212
  have F229 := Exa.wr W227 F213
  have F230 := Fld.other W227 F214 (Or.inl ne_l)
  have F231 := Fld.other W227 F216 (Or.inr (slot_ne (Or.inr (hw _ (List.mem_of_getElem? (i := 87) rfl))) (Or.inr (hw _ (List.mem_of_getElem? (i := 85) rfl))) (by decide) (t := (.array .int)) (t' := (.array .int)) (by decide) (by decide)))
  have F232 := Fld.other W227 F217 (Or.inr (slot_ne (Or.inr (hw _ (List.mem_of_getElem? (i := 49) rfl))) (Or.inr (hw _ (List.mem_of_getElem? (i := 85) rfl))) (by decide) (t := (.array .long)) (t' := (.array .int)) (by decide) (by decide)))
  have F233 := OAr.other F218 W227 (Ne.symm ne3)
  have F234 := OAr.other F219 W227 (Ne.symm ne97)
  have F235 := Fld.other W227 F220 (Or.inr (slot_ne (Or.inr (hw _ (List.mem_of_getElem? (i := 66) rfl))) (Or.inr (hw _ (List.mem_of_getElem? (i := 85) rfl))) (by decide) (t := (.array .long)) (t' := (.array .int)) (by decide) (by decide)))
  have F236 := OAr.other F221 W227 (Ne.symm ne129)
  have F237 := Fld.other W227 F222 (Or.inr (slot_ne (Or.inr (hw _ (List.mem_of_getElem? (i := 68) rfl))) (Or.inr (hw _ (List.mem_of_getElem? (i := 85) rfl))) (by decide) (t := (.array .int)) (t' := (.array .int)) (by decide) (by decide)))
  have F238 := OAr.other F223 W227 (Ne.symm ne167)
  have F239 := Fld.other W227 F224 (Or.inr (slot_ne (Or.inr (hw _ (List.mem_of_getElem? (i := 83) rfl))) (Or.inr (hw _ (List.mem_of_getElem? (i := 85) rfl))) (by decide) (t := (.array .long)) (t' := (.array .int)) (by decide) (by decide)))
  have F240 := OAr.other V203b W227 (Ne.symm ne204)
  have Z241 := Nat.le_trans Z225 (Keep.of_wr W227).1
  have K242 := Keep.wr K226 W227 (Or.inl (List.mem_of_getElem? (i := 0) rfl))
  show OwnWk _ _ _ _ (T227.setTop (mkF m 224 #[.val (.ref a), .val (.int (5 : Int32)), .val (.ref ls), .val (.long st4_), .second, .val (.int (2 : Int32)), .val (.long zb4_), .second] []))
  refine own_go (fun tgt kst => XS.aloadN X227.here hx rfl (hb hby d7_224) rfl rfl  kst) ?_
  show OwnWk _ _ _ _ (T227.setTop (mkF m 225 #[.val (.ref a), .val (.int (5 : Int32)), .val (.ref ls), .val (.long st4_), .second, .val (.int (2 : Int32)), .val (.long zb4_), .second] [(.ref a)]))
  refine own_go (fun tgt kst => XS.aloadN X227.here hx rfl (hb hby d7_225) rfl rfl  kst) ?_
  show OwnWk _ _ _ _ (T227.setTop (mkF m 226 #[.val (.ref a), .val (.int (5 : Int32)), .val (.ref ls), .val (.long st4_), .second, .val (.int (2 : Int32)), .val (.long zb4_), .second] [(.ref ls), (.ref a)]))
  refine own_callI X227 hx hZ (y := (⟨"java/util/List", "size", "()I"⟩ : MethodName)) (z := (⟨"java/util/ArrayList", "size", "()I"⟩ : MethodName)) hown (hw _ (List.mem_of_getElem? (i := 54) rfl)) (hw _ (List.mem_of_getElem? (i := 55) rfl)) (mvT hZ (hw _ (List.mem_of_getElem? (i := 56) rfl))) (hw _ (List.mem_of_getElem? (i := 57) rfl)) (hw _ (List.mem_of_getElem? (i := 58) rfl)) (hw _ (List.mem_of_getElem? (i := 59) rfl)) (hw _ (List.mem_of_getElem? (i := 60) rfl)) (hw _ (List.mem_of_getElem? (i := 61) rfl)) (hw _ (List.mem_of_getElem? (i := 10) rfl)) (hw _ (List.mem_of_getElem? (i := 62) rfl)) (by decide) (a := ls) F229 (argsL := []) (rest := [(.ref a)]) (rm := ({ frames := 0, cells := 0, slots := 0, locals := 0 } : Room)) (h := h227) (rm8 l Z a0 hw ls (0 : Int32) h227 n0 Z241 F230) e227 (W := 1) (by decide) (by decide) (by decide) (by decide) (g := (mkF m 226 #[.val (.ref a), .val (.int (5 : Int32)), .val (.ref ls), .val (.long st4_), .second, .val (.int (2 : Int32)), .val (.long zb4_), .second] [(.ref ls), (.ref a)])) rfl (by rw [hml]; rfl) (lenOf pd_2 rfl) rfl (by show 2 * 0 + _ ≤ _; exact Nat.le_of_eq rfl) (hb hby d7_226) (fun v243 T243 h243 L243 X243 e243 hQ243 => ?_)
  obtain ⟨rfl, Nq243, q243⟩ := hQ243
  have N243 := Fr.app N227 Nq243
  rw [q243] at e243
  show OwnWk _ _ _ _ (T243.setTop (mkF m 231 #[.val (.ref a), .val (.int (5 : Int32)), .val (.ref ls), .val (.long st4_), .second, .val (.int (2 : Int32)), .val (.long zb4_), .second] [(.int (0 : Int32)), (.ref a)]))
  refine own_newP X243 hx hZ (aty := .int) (hw _ (List.mem_of_getElem? (i := 0) rfl)) e243 (g := (mkF m 231 #[.val (.ref a), .val (.int (5 : Int32)), .val (.ref ls), .val (.long st4_), .second, .val (.int (2 : Int32)), .val (.long zb4_), .second] [(.int (0 : Int32)), (.ref a)])) rfl (hb hby d7_231) rfl (by decide) (cap := 0) (by decide) (by decide) (by decide) (by decide) (fun T244 h244 b244 X244 e244 g244 E244 V244 => ?_)
  have ne245 : a ≠ b244 := Nat.ne_of_lt (Nat.lt_of_lt_of_le F228.lt (Nat.le_of_eq g244.symm))
  have ne246 : ls ≠ b244 := Nat.ne_of_lt (Nat.lt_of_lt_of_le F229.lt (Nat.le_of_eq g244.symm))
  have ne247 : b2 ≠ b244 := Nat.ne_of_lt (Nat.lt_of_lt_of_le F233.lt (Nat.le_of_eq g244.symm))
  have ne248 : b96 ≠ b244 := Nat.ne_of_lt (Nat.lt_of_lt_of_le F234.lt (Nat.le_of_eq g244.symm))
  have ne249 : b128 ≠ b244 := Nat.ne_of_lt (Nat.lt_of_lt_of_le F236.lt (Nat.le_of_eq g244.symm))
  have ne250 : b166 ≠ b244 := Nat.ne_of_lt (Nat.lt_of_lt_of_le F238.lt (Nat.le_of_eq g244.symm))
  have ne251 : b203 ≠ b244 := Nat.ne_of_lt (Nat.lt_of_lt_of_le F240.lt (Nat.le_of_eq g244.symm))
  have ge252 : n0 ≤ b244 := Nat.le_trans Z241 (Nat.le_of_eq g244.symm)
  have sz253 : h0.size ≤ b244 := Nat.le_trans K242.1 (Nat.le_of_eq g244.symm)
  have F254 := Exa.ext E244 F228
  have F255 := Exa.ext E244 F229
  have F256 := Fld.ext E244 F230
  have F257 := Fld.ext E244 F231
  have F258 := Fld.ext E244 F232
  have F259 := OAr.ext F233 E244
  have F260 := OAr.ext F234 E244
  have F261 := Fld.ext E244 F235
  have F262 := OAr.ext F236 E244
  have F263 := Fld.ext E244 F237
  have F264 := OAr.ext F238 E244
  have F265 := Fld.ext E244 F239
  have F266 := OAr.ext F240 E244
  have F267 := Fld.ext E244 Fw227
  have Z268 := Nat.le_trans Z241 E244.1
  have K269 := Keep.ext K242 E244
  have V244b : OAr Z h244 b244 .int [] := V244
  show OwnWk _ _ _ _ (T244.setTop (mkF m 233 #[.val (.ref a), .val (.int (5 : Int32)), .val (.ref ls), .val (.long st4_), .second, .val (.int (2 : Int32)), .val (.long zb4_), .second] [(.ref b244), (.ref a)]))
  obtain ⟨T270, h270, X270, e270, W270, st270⟩ := putF X244 hx hZ hown (host := "") (Or.inl (hw _ (List.mem_of_getElem? (i := 86) rfl))) Via.refl e244 F257 F254 (Or.inr ⟨(hw _ (List.mem_of_getElem? (i := 87) rfl)), rfl, hnm⟩) (hw _ (List.mem_of_getElem? (i := 41) rfl)) (v := (.ref b244)) (ty := (.array .int)) (by decide) rfl rfl (g := (mkF m 233 #[.val (.ref a), .val (.int (5 : Int32)), .val (.ref ls), .val (.long st4_), .second, .val (.int (2 : Int32)), .val (.long zb4_), .second] [(.ref b244), (.ref a)])) rfl rfl (hb hby d7_233)
  refine own_go st270 ?_
  have N270 := Fr.snoc X270 N243 g_a
  have Fw270 := Fld.same W270 F257
  have F271 := Exa.wr W270 F254
  have F272 := Exa.wr W270 F255
  have F273 := Fld.other W270 F256 (Or.inl ne_l)
  have F274 := Fld.other W270 F258 (Or.inr (slot_ne (Or.inr (hw _ (List.mem_of_getElem? (i := 49) rfl))) (Or.inr (hw _ (List.mem_of_getElem? (i := 87) rfl))) (by decide) (t := (.array .long)) (t' := (.array .int)) (by decide) (by decide)))
  have F275 := OAr.other F259 W270 (Ne.symm ne3)
  have F276 := OAr.other F260 W270 (Ne.symm ne97)
  have F277 := Fld.other W270 F261 (Or.inr (slot_ne (Or.inr (hw _ (List.mem_of_getElem? (i := 66) rfl))) (Or.inr (hw _ (List.mem_of_getElem? (i := 87) rfl))) (by decide) (t := (.array .long)) (t' := (.array .int)) (by decide) (by decide)))
  have F278 := OAr.other F262 W270 (Ne.symm ne129)
  have F279 := Fld.other W270 F263 (Or.inr (slot_ne (Or.inr (hw _ (List.mem_of_getElem? (i := 68) rfl))) (Or.inr (hw _ (List.mem_of_getElem? (i := 87) rfl))) (by decide) (t := (.array .int)) (t' := (.array .int)) (by decide) (by decide)))
  have F280 := OAr.other F264 W270 (Ne.symm ne167)
  have F281 := Fld.other W270 F265 (Or.inr (slot_ne (Or.inr (hw _ (List.mem_of_getElem? (i := 83) rfl))) (Or.inr (hw _ (List.mem_of_getElem? (i := 87) rfl))) (by decide) (t := (.array .long)) (t' := (.array .int)) (by decide) (by decide)))
  have F282 := OAr.other F266 W270 (Ne.symm ne204)
  have F283 := Fld.other W270 F267 (Or.inr (slot_ne (Or.inr (hw _ (List.mem_of_getElem? (i := 85) rfl))) (Or.inr (hw _ (List.mem_of_getElem? (i := 87) rfl))) (by decide) (t := (.array .int)) (t' := (.array .int)) (by decide) (by decide)))
  have F284 := OAr.other V244b W270 (Ne.symm ne245)
  have Z285 := Nat.le_trans Z268 (Keep.of_wr W270).1
  have K286 := Keep.wr K269 W270 (Or.inl (List.mem_of_getElem? (i := 0) rfl))
  show OwnWk _ _ _ _ (T270.setTop (mkF m 236 #[.val (.ref a), .val (.int (5 : Int32)), .val (.ref ls), .val (.long st4_), .second, .val (.int (2 : Int32)), .val (.long zb4_), .second] []))
  refine own_go (fun tgt kst => XS.aloadN X270.here hx rfl (hb hby d7_236) rfl rfl  kst) ?_
  show OwnWk _ _ _ _ (T270.setTop (mkF m 237 #[.val (.ref a), .val (.int (5 : Int32)), .val (.ref ls), .val (.long st4_), .second, .val (.int (2 : Int32)), .val (.long zb4_), .second] [(.ref a)]))
  obtain ⟨T287, X287, e287, st287⟩ := getF X270 hx hZ hown (host := "") (Or.inl (hw _ (List.mem_of_getElem? (i := 86) rfl))) Via.refl e270 Fw270 (g := (mkF m 237 #[.val (.ref a), .val (.int (5 : Int32)), .val (.ref ls), .val (.long st4_), .second, .val (.int (2 : Int32)), .val (.long zb4_), .second] [(.ref a)])) rfl rfl (hb hby d7_237)
  refine own_go st287 ?_
  show OwnWk _ _ _ _ (T287.setTop (mkF m 240 #[.val (.ref a), .val (.int (5 : Int32)), .val (.ref ls), .val (.long st4_), .second, .val (.int (2 : Int32)), .val (.long zb4_), .second] [(.ref b244)]))
  refine own_go (fun tgt kst => XS.iconst X287.here hx rfl (hb hby d7_240) kst) ?_
  show OwnWk _ _ _ _ (T287.setTop (mkF m 241 #[.val (.ref a), .val (.int (5 : Int32)), .val (.ref ls), .val (.long st4_), .second, .val (.int (2 : Int32)), .val (.long zb4_), .second] [(.int (-1 : Int32)), (.ref b244)]))
  refine own_callS X287 hx hZ (y := (⟨"java/util/Arrays", "fill", "([II)V"⟩ : MethodName)) hown (hw _ (List.mem_of_getElem? (i := 88) rfl)) (hw _ (List.mem_of_getElem? (i := 89) rfl)) (hw _ (List.mem_of_getElem? (i := 90) rfl)) (hw _ (List.mem_of_getElem? (i := 91) rfl)) (by decide) (argsL := [(.ref b244), (.int (-1 : Int32))]) (rest := []) (rm := ({ frames := 0, cells := 0, slots := 0, locals := 0 } : Room)) (h := h270) (rm12 l Z a0 hw b244 (-1 : Int32) h270 n0 Z285 F284) e287 (W := 0) (by decide) (by decide) (by decide) (by decide) (g := (mkF m 241 #[.val (.ref a), .val (.int (5 : Int32)), .val (.ref ls), .val (.long st4_), .second, .val (.int (2 : Int32)), .val (.long zb4_), .second] [(.int (-1 : Int32)), (.ref b244)])) rfl (by rw [hml]; rfl) (lenOf pd_4 rfl) rfl (by show 2 * 0 + _ ≤ _; exact Nat.le_of_eq rfl) (hb hby d7_241) (fun v288 T288 h288 L288 X288 e288 hQ288 => ?_)
  obtain ⟨rfl, Nq288, q288⟩ := hQ288
  have N288 := Fr.app N270 Nq288
  rw [q288] at e288
  show OwnWk _ _ _ _ (T288.setTop (mkF m 244 #[.val (.ref a), .val (.int (5 : Int32)), .val (.ref ls), .val (.long st4_), .second, .val (.int (2 : Int32)), .val (.long zb4_), .second] []))
  refine own_go (fun tgt kst => XS.aloadN X288.here hx rfl (hb hby d7_244) rfl rfl  kst) ?_
  show OwnWk _ _ _ _ (T288.setTop (mkF m 245 #[.val (.ref a), .val (.int (5 : Int32)), .val (.ref ls), .val (.long st4_), .second, .val (.int (2 : Int32)), .val (.long zb4_), .second] [(.ref ls)]))
  refine own_callI X288 hx hZ (y := (⟨"java/util/List", "size", "()I"⟩ : MethodName)) (z := (⟨"java/util/ArrayList", "size", "()I"⟩ : MethodName)) hown (hw _ (List.mem_of_getElem? (i := 54) rfl)) (hw _ (List.mem_of_getElem? (i := 55) rfl)) (mvT hZ (hw _ (List.mem_of_getElem? (i := 56) rfl))) (hw _ (List.mem_of_getElem? (i := 57) rfl)) (hw _ (List.mem_of_getElem? (i := 58) rfl)) (hw _ (List.mem_of_getElem? (i := 59) rfl)) (hw _ (List.mem_of_getElem? (i := 60) rfl)) (hw _ (List.mem_of_getElem? (i := 61) rfl)) (hw _ (List.mem_of_getElem? (i := 10) rfl)) (hw _ (List.mem_of_getElem? (i := 62) rfl)) (by decide) (a := ls) F272 (argsL := []) (rest := []) (rm := ({ frames := 0, cells := 0, slots := 0, locals := 0 } : Room)) (h := h270) (rm8 l Z a0 hw ls (0 : Int32) h270 n0 Z285 F273) e288 (W := 0) (by decide) (by decide) (by decide) (by decide) (g := (mkF m 245 #[.val (.ref a), .val (.int (5 : Int32)), .val (.ref ls), .val (.long st4_), .second, .val (.int (2 : Int32)), .val (.long zb4_), .second] [(.ref ls)])) rfl (by rw [hml]; rfl) (lenOf pd_2 rfl) rfl (by show 2 * 0 + _ ≤ _; exact Nat.le_of_eq rfl) (hb hby d7_245) (fun v289 T289 h289 L289 X289 e289 hQ289 => ?_)
  obtain ⟨rfl, Nq289, q289⟩ := hQ289
  have N289 := Fr.app N288 Nq289
  rw [q289] at e289
  show OwnWk _ _ _ _ (T289.setTop (mkF m 250 #[.val (.ref a), .val (.int (5 : Int32)), .val (.ref ls), .val (.long st4_), .second, .val (.int (2 : Int32)), .val (.long zb4_), .second] [(.int (0 : Int32))]))
  refine own_go (fun tgt kst => XS.iconst X289.here hx rfl (hb hby d7_250) kst) ?_
  show OwnWk _ _ _ _ (T289.setTop (mkF m 251 #[.val (.ref a), .val (.int (5 : Int32)), .val (.ref ls), .val (.long st4_), .second, .val (.int (2 : Int32)), .val (.long zb4_), .second] [(.int (1 : Int32)), (.int (0 : Int32))]))
  refine own_go (fun tgt kst => XS.isub X289.here hx rfl (hb hby d7_251) rfl kst) ?_
  show OwnWk _ _ _ _ (T289.setTop (mkF m 252 #[.val (.ref a), .val (.int (5 : Int32)), .val (.ref ls), .val (.long st4_), .second, .val (.int (2 : Int32)), .val (.long zb4_), .second] [(.int (-1 : Int32))]))
  refine own_go (fun tgt kst => XS.istore X289.here hx rfl (hb hby d7_252) rfl (l' := #[.val (.ref a), .val (.int (5 : Int32)), .val (.ref ls), .val (.long st4_), .second, .val (.int (2 : Int32)), .val (.int (-1 : Int32)), .unset]) rfl kst) ?_
  show OwnWk _ _ _ _ (T289.setTop (mkF m 254 #[.val (.ref a), .val (.int (5 : Int32)), .val (.ref ls), .val (.long st4_), .second, .val (.int (2 : Int32)), .val (.int (-1 : Int32)), .unset] []))
  refine own_go (fun tgt kst => XS.iload X289.here hx rfl (hb hby d7_254) rfl  kst) ?_
  show OwnWk _ _ _ _ (T289.setTop (mkF m 256 #[.val (.ref a), .val (.int (5 : Int32)), .val (.ref ls), .val (.long st4_), .second, .val (.int (2 : Int32)), .val (.int (-1 : Int32)), .unset] [(.int (-1 : Int32))]))
  refine own_go (fun tgt kst => XS.ifYes X289.here hx rfl (pc0 := 256) (pc' := 319) rfl (hb hby d7_256) rfl ((if0 _ _).trans (tlt (by decide : (-1 : Int32) < (0 : Int32))).1) (by decide) (by decide) kst) ?_
  show OwnWk _ _ _ _ (T289.setTop (mkF m 319 #[.val (.ref a), .val (.int (5 : Int32)), .val (.ref ls), .val (.long st4_), .second, .val (.int (2 : Int32)), .val (.int (-1 : Int32)), .unset] []))
  exact own_retV X289 hx hlk hret (hb hby d7_319) (by decide) (by decide) (by rw [e289]; exact ⟨rfl, N289, K286, b2, [ky0_, ky1_, ky2_, ky3_, ky4_], sz6, ge5, F274, F275, rfl⟩)
theorem pn_pn_13 : plainName "com/example/encircle/encircle/layout/ZoneKeys" = true := by first | (simp [plainName, overriddenIn]; done) | decide +kernel
theorem pn_13 : plainFor (⟨"com/example/encircle/encircle/layout/ZoneKeys", "key", "(I)J"⟩ : MethodName) = true := plainFor_of_name pn_pn_13
theorem d13_0 : decode prog_36_method_2_code 0 = .ok (.aload_n 0, 1) := by decide +kernel
theorem d13_1 : decode prog_36_method_2_code 1 = .ok (.getfield 7, 3) := by decide +kernel
theorem d13_4 : decode prog_36_method_2_code 4 = .ok (.iload_n 1, 1) := by decide +kernel
theorem d13_5 : decode prog_36_method_2_code 5 = .ok (.laload, 1) := by decide +kernel
theorem d13_6 : decode prog_36_method_2_code 6 = .ok (.lreturn, 1) := by decide +kernel
theorem ef_rm13 (m : MethodId) (x0 : Addr) (x1 : Int32) : entryFrame m #[(.ref x0), (.int x1)] 2 = mkF m 0 #[.val (.ref x0), .val (.int x1)] [] := by first | (simp [entryFrame, mkF, argsToLocals, Value.category]; done) | rfl
def Q_rm13 (Z : State) (a kk : Addr) (ks : List Int64) (I : Nat) (h0 : Heap) (n0 : Nat) (v : Option Value) (h : Heap) (L : List Loc) : Prop := v = some (.long (ks.getD I 0)) ∧ Fr n0 L ∧ h = h0
set_option maxRecDepth 65536 in
set_option maxHeartbeats 40000000 in
theorem rm13 (l : Launch) (Z : State) (a0 : Array Value) (hw : ∀ d ∈ tables_1, d.before a0 Z = true) (a kk : Addr) (ks : List Int64) (I : Nat) (h0 : Heap) (n0 : Nat) (Z0 : n0 ≤ h0.size) (F_k : Fld Z h0 a "com/example/encircle/encircle/layout/ZoneKeys" "keys" "[J" (.ref kk)) (V_k : OAr Z h0 kk .long (own_jv ks)) (hk : ks.length = 5) (hI : I < 5) :
    OwnMet l (⟨"com/example/encircle/encircle/layout/ZoneKeys", "key", "(I)J"⟩ : MethodName) prog_36_method_2_code 2 (some .long) [] ({ frames := 0, cells := 0, slots := 0, locals := 0 } : Room) Z #[(.ref a), (.int (Int32.ofNat I))] h0 (Q_rm13 Z a kk ks I h0 n0) := by
  refine own_met pn_13 (fun p e s m below meth c s₁ hx hby hml hown hnm hret hlk hZ X0 e0 => ?_)
  have hown : s.vm.findClass "com/example/encircle/encircle/layout/ZoneKeys" = some m.cls := hown
  have N0 := Fr.nil n0
  rw [ef_rm13]
  show OwnWk _ _ _ _ (s₁.setTop (mkF m 0 #[.val (.ref a), .val (.int (Int32.ofNat I))] []))
  refine own_go (fun tgt kst => XS.aloadN X0.here hx rfl (hb hby d13_0) rfl rfl  kst) ?_
  show OwnWk _ _ _ _ (s₁.setTop (mkF m 1 #[.val (.ref a), .val (.int (Int32.ofNat I))] [(.ref a)]))
  obtain ⟨T1, X1, e1, st1⟩ := getF X0 hx hZ hown (host := "") (Or.inl (hw _ (List.mem_of_getElem? (i := 48) rfl))) Via.refl e0 F_k (g := (mkF m 1 #[.val (.ref a), .val (.int (Int32.ofNat I))] [(.ref a)])) rfl rfl (hb hby d13_1)
  refine own_go st1 ?_
  show OwnWk _ _ _ _ (T1.setTop (mkF m 4 #[.val (.ref a), .val (.int (Int32.ofNat I))] [(.ref kk)]))
  refine own_go (fun tgt kst => XS.iloadN X1.here hx rfl (hb hby d13_4) rfl  kst) ?_
  show OwnWk _ _ _ _ (T1.setTop (mkF m 5 #[.val (.ref a), .val (.int (Int32.ofNat I))] [(.int (Int32.ofNat I)), (.ref kk)]))
  refine own_ldJ X1 hx hZ e1 V_k (g := (mkF m 5 #[.val (.ref a), .val (.int (Int32.ofNat I))] [(.int (Int32.ofNat I)), (.ref kk)])) rfl rfl (hb hby d13_5) (v := (.long (ks.getD I 0))) (own_n_nn (by have := (by have := hI; omega); omega)) (own_jv_at (KS := ks) (J := I) hk (by have := hI; omega) (by decide)) ?_
  show OwnWk _ _ _ _ (T1.setTop (mkF m 6 #[.val (.ref a), .val (.int (Int32.ofNat I))] [(.long (ks.getD I 0))]))
  exact own_retJ X1 hx hlk hret (hb hby d13_6) (by decide) (by decide) (by rw [e1]; exact ⟨rfl, N0, rfl⟩)
theorem pn_pn_6 : plainName "com/example/encircle/encircle/layout/Prefixes" = true := by first | (simp [plainName, overriddenIn]; done) | decide +kernel
theorem pn_6 : plainFor (⟨"com/example/encircle/encircle/layout/Prefixes", "<init>", "([ILjava/util/List;)V"⟩ : MethodName) = true := plainFor_of_name pn_pn_6
theorem d6_0 : decode prog_24_method_1_code 0 = .ok (.aload_n 0, 1) := by decide +kernel
theorem d6_1 : decode prog_24_method_1_code 1 = .ok (.invokespecial 1, 3) := by decide +kernel
theorem d6_4 : decode prog_24_method_1_code 4 = .ok (.aload_n 0, 1) := by decide +kernel
theorem d6_5 : decode prog_24_method_1_code 5 = .ok (.aload_n 2, 1) := by decide +kernel
theorem d6_6 : decode prog_24_method_1_code 6 = .ok (.putfield 7, 3) := by decide +kernel
theorem d6_9 : decode prog_24_method_1_code 9 = .ok (.aload_n 0, 1) := by decide +kernel
theorem d6_10 : decode prog_24_method_1_code 10 = .ok (.new 13, 3) := by decide +kernel
theorem d6_13 : decode prog_24_method_1_code 13 = .ok (.dup, 1) := by decide +kernel
theorem d6_14 : decode prog_24_method_1_code 14 = .ok (.aload_n 1, 1) := by decide +kernel
theorem d6_15 : decode prog_24_method_1_code 15 = .ok (.arraylength, 1) := by decide +kernel
theorem d6_16 : decode prog_24_method_1_code 16 = .ok (.aload_n 2, 1) := by decide +kernel
theorem d6_17 : decode prog_24_method_1_code 17 = .ok (.invokespecial 15, 3) := by decide +kernel
theorem pd_5 : parseMethodDescriptor "(ILjava/util/List;)V" = some ⟨[.int, (.object "java/util/List")], none⟩ := by decide +kernel
theorem d6_20 : decode prog_24_method_1_code 20 = .ok (.putfield 18, 3) := by decide +kernel
theorem d6_23 : decode prog_24_method_1_code 23 = .ok (.aload_n 0, 1) := by decide +kernel
theorem d6_24 : decode prog_24_method_1_code 24 = .ok (.aload_n 1, 1) := by decide +kernel
theorem d6_25 : decode prog_24_method_1_code 25 = .ok (.invokevirtual 22, 3) := by decide +kernel
theorem d6_28 : decode prog_24_method_1_code 28 = .ok (.checkcast 23, 3) := by decide +kernel
theorem d6_31 : decode prog_24_method_1_code 31 = .ok (.putfield 28, 3) := by decide +kernel
theorem d6_34 : decode prog_24_method_1_code 34 = .ok (.aload_n 0, 1) := by decide +kernel
theorem d6_35 : decode prog_24_method_1_code 35 = .ok (.aload_n 1, 1) := by decide +kernel
theorem d6_36 : decode prog_24_method_1_code 36 = .ok (.arraylength, 1) := by decide +kernel
theorem d6_37 : decode prog_24_method_1_code 37 = .ok (.newarray .int, 2) := by decide +kernel
theorem d6_39 : decode prog_24_method_1_code 39 = .ok (.putfield 31, 3) := by decide +kernel
theorem d6_42 : decode prog_24_method_1_code 42 = .ok (.aload_n 0, 1) := by decide +kernel
theorem d6_43 : decode prog_24_method_1_code 43 = .ok (.aload_n 1, 1) := by decide +kernel
theorem d6_44 : decode prog_24_method_1_code 44 = .ok (.arraylength, 1) := by decide +kernel
theorem d6_45 : decode prog_24_method_1_code 45 = .ok (.iconst 1, 1) := by decide +kernel
theorem d6_46 : decode prog_24_method_1_code 46 = .ok (.iadd, 1) := by decide +kernel
theorem d6_47 : decode prog_24_method_1_code 47 = .ok (.newarray .long, 2) := by decide +kernel
theorem d6_49 : decode prog_24_method_1_code 49 = .ok (.putfield 34, 3) := by decide +kernel
theorem d6_52 : decode prog_24_method_1_code 52 = .ok (.iconst 0, 1) := by decide +kernel
theorem d6_53 : decode prog_24_method_1_code 53 = .ok (.istore_n 3, 1) := by decide +kernel
theorem d6_54 : decode prog_24_method_1_code 54 = .ok (.iload_n 3, 1) := by decide +kernel
theorem d6_55 : decode prog_24_method_1_code 55 = .ok (.aload_n 1, 1) := by decide +kernel
theorem d6_56 : decode prog_24_method_1_code 56 = .ok (.arraylength, 1) := by decide +kernel
theorem d6_57 : decode prog_24_method_1_code 57 = .ok (.if_icmp .ge 49, 3) := by decide +kernel
theorem d6_60 : decode prog_24_method_1_code 60 = .ok (.aload_n 0, 1) := by decide +kernel
theorem d6_61 : decode prog_24_method_1_code 61 = .ok (.getfield 31, 3) := by decide +kernel
theorem d6_64 : decode prog_24_method_1_code 64 = .ok (.aload_n 0, 1) := by decide +kernel
theorem d6_65 : decode prog_24_method_1_code 65 = .ok (.getfield 28, 3) := by decide +kernel
theorem d6_68 : decode prog_24_method_1_code 68 = .ok (.iload_n 3, 1) := by decide +kernel
theorem d6_69 : decode prog_24_method_1_code 69 = .ok (.iaload, 1) := by decide +kernel
theorem d6_70 : decode prog_24_method_1_code 70 = .ok (.iload_n 3, 1) := by decide +kernel
theorem d6_71 : decode prog_24_method_1_code 71 = .ok (.iastore, 1) := by decide +kernel
theorem d6_72 : decode prog_24_method_1_code 72 = .ok (.aload_n 0, 1) := by decide +kernel
theorem d6_73 : decode prog_24_method_1_code 73 = .ok (.getfield 34, 3) := by decide +kernel
theorem d6_76 : decode prog_24_method_1_code 76 = .ok (.iload_n 3, 1) := by decide +kernel
theorem d6_77 : decode prog_24_method_1_code 77 = .ok (.iconst 1, 1) := by decide +kernel
theorem d6_78 : decode prog_24_method_1_code 78 = .ok (.iadd, 1) := by decide +kernel
theorem d6_79 : decode prog_24_method_1_code 79 = .ok (.aload_n 0, 1) := by decide +kernel
theorem d6_80 : decode prog_24_method_1_code 80 = .ok (.getfield 34, 3) := by decide +kernel
theorem d6_83 : decode prog_24_method_1_code 83 = .ok (.iload_n 3, 1) := by decide +kernel
theorem d6_84 : decode prog_24_method_1_code 84 = .ok (.laload, 1) := by decide +kernel
theorem d6_85 : decode prog_24_method_1_code 85 = .ok (.aload_n 0, 1) := by decide +kernel
theorem d6_86 : decode prog_24_method_1_code 86 = .ok (.getfield 18, 3) := by decide +kernel
theorem d6_89 : decode prog_24_method_1_code 89 = .ok (.aload_n 0, 1) := by decide +kernel
theorem d6_90 : decode prog_24_method_1_code 90 = .ok (.getfield 28, 3) := by decide +kernel
theorem d6_93 : decode prog_24_method_1_code 93 = .ok (.iload_n 3, 1) := by decide +kernel
theorem d6_94 : decode prog_24_method_1_code 94 = .ok (.iaload, 1) := by decide +kernel
theorem d6_95 : decode prog_24_method_1_code 95 = .ok (.invokevirtual 38, 3) := by decide +kernel
theorem pd_6 : parseMethodDescriptor "(I)J" = some ⟨[.int], some .long⟩ := by decide +kernel
theorem d6_98 : decode prog_24_method_1_code 98 = .ok (.lxor, 1) := by decide +kernel
theorem d6_99 : decode prog_24_method_1_code 99 = .ok (.lastore, 1) := by decide +kernel
theorem d6_100 : decode prog_24_method_1_code 100 = .ok (.iinc 3 1, 3) := by decide +kernel
theorem d6_103 : decode prog_24_method_1_code 103 = .ok (.goto (-49), 3) := by decide +kernel
theorem d6_106 : decode prog_24_method_1_code 106 = .ok (.return_, 1) := by decide +kernel
theorem ef_rm6 (m : MethodId) (x0 : Addr) (x1 : Addr) (x2 : Addr) : entryFrame m #[(.ref x0), (.ref x1), (.ref x2)] 4 = mkF m 0 #[.val (.ref x0), .val (.ref x1), .val (.ref x2), .unset] [] := by first | (simp [entryFrame, mkF, argsToLocals, Value.category]; done) | rfl
def Q_rm6 (Z : State) (a t ls : Addr) (pz0 pz1 pz2 pz3 pz4 : Nat) (h0 : Heap) (n0 : Nat) (v : Option Value) (h : Heap) (L : List Loc) : Prop := v = none ∧ Fr n0 L ∧ Keep h0 h [a] ∧ ∃ (zk kk oa pa sa : Addr) (ks ss : List Int64), (h0.size ≤ zk ∧ h0.size ≤ kk ∧ h0.size ≤ oa ∧ h0.size ≤ pa ∧ h0.size ≤ sa) ∧ (n0 ≤ oa ∧ n0 ≤ pa ∧ n0 ≤ sa) ∧ (zk ≠ oa ∧ zk ≠ pa ∧ zk ≠ sa ∧ kk ≠ oa ∧ kk ≠ pa ∧ kk ≠ sa ∧ oa ≠ pa ∧ oa ≠ sa ∧ pa ≠ sa) ∧ Exa Z h zk "com/example/encircle/encircle/layout/ZoneKeys" ∧ Fld Z h a "com/example/encircle/encircle/layout/Prefixes" "keys" "Lcom/example/encircle/encircle/layout/ZoneKeys;" (.ref zk) ∧ Fld Z h a "com/example/encircle/encircle/layout/Prefixes" "order" "[I" (.ref oa) ∧ Fld Z h a "com/example/encircle/encircle/layout/Prefixes" "places" "[I" (.ref pa) ∧ Fld Z h a "com/example/encircle/encircle/layout/Prefixes" "sums" "[J" (.ref sa) ∧ Fld Z h zk "com/example/encircle/encircle/layout/ZoneKeys" "keys" "[J" (.ref kk) ∧ OAr Z h kk .long (own_jv ks) ∧ ks.length = 5 ∧ OAr Z h oa .int (own_iv [pz0, pz1, pz2, pz3, pz4]) ∧ OAr Z h pa .int (own_iv (own_places [pz0, pz1, pz2, pz3, pz4])) ∧ OAr Z h sa .long (own_jv ss) ∧ ss.length = 6
set_option maxRecDepth 65536 in
set_option maxHeartbeats 40000000 in
theorem rm6 (l : Launch) (Z : State) (a0 : Array Value) (hw : ∀ d ∈ tables_1, d.before a0 Z = true) (a t ls : Addr) (pz0 pz1 pz2 pz3 pz4 : Nat) (h0 : Heap) (n0 : Nat) (Z0 : n0 ≤ h0.size) (E_a : Exa Z h0 a "com/example/encircle/encircle/layout/Prefixes") (g_a : n0 ≤ a) (F_zones : Fld Z h0 a "com/example/encircle/encircle/layout/Prefixes" "zones" "Ljava/util/List;" .null) (F_keys : Fld Z h0 a "com/example/encircle/encircle/layout/Prefixes" "keys" "Lcom/example/encircle/encircle/layout/ZoneKeys;" .null) (F_order : Fld Z h0 a "com/example/encircle/encircle/layout/Prefixes" "order" "[I" .null) (F_places : Fld Z h0 a "com/example/encircle/encircle/layout/Prefixes" "places" "[I" .null) (F_sums : Fld Z h0 a "com/example/encircle/encircle/layout/Prefixes" "sums" "[J" .null) (V_t : OAr Z h0 t .int [(.int (Int32.ofNat pz0)), (.int (Int32.ofNat pz1)), (.int (Int32.ofNat pz2)), (.int (Int32.ofNat pz3)), (.int (Int32.ofNat pz4))]) (E_t : Exa Z h0 t "[I") (E_l : Exa Z h0 ls "java/util/ArrayList") (F_l : Fld Z h0 ls "java/util/ArrayList" "size" "I" (.int (0 : Int32))) (ne_l : ls ≠ a) (ne_t : t ≠ a) (ne_tl : t ≠ ls) (hpz0 : pz0 < 5) (hpz1 : pz1 < 5) (hpz2 : pz2 < 5) (hpz3 : pz3 < 5) (hpz4 : pz4 < 5) :
    OwnMet l (⟨"com/example/encircle/encircle/layout/Prefixes", "<init>", "([ILjava/util/List;)V"⟩ : MethodName) prog_24_method_1_code 4 none [] ({ frames := 3, cells := 10, slots := 31, locals := 48 } : Room) Z #[(.ref a), (.ref t), (.ref ls)] h0 (Q_rm6 Z a t ls pz0 pz1 pz2 pz3 pz4 h0 n0) := by
  refine own_met pn_6 (fun p e s m below meth c s₁ hx hby hml hown hnm hret hlk hZ X0 e0 => ?_)
  have hown : s.vm.findClass "com/example/encircle/encircle/layout/Prefixes" = some m.cls := hown
  have N0 := Fr.nil n0
  have K0 := Keep.refl h0 [a]
  rw [ef_rm6]
  show OwnWk _ _ _ _ (s₁.setTop (mkF m 0 #[.val (.ref a), .val (.ref t), .val (.ref ls), .unset] []))
  refine own_go (fun tgt kst => XS.aloadN X0.here hx rfl (hb hby d6_0) rfl rfl  kst) ?_
  show OwnWk _ _ _ _ (s₁.setTop (mkF m 1 #[.val (.ref a), .val (.ref t), .val (.ref ls), .unset] [(.ref a)]))
  obtain ⟨T1, X1, e1, st1⟩ := initO X0 hx hZ hown (hw _ (List.mem_of_getElem? (i := 37) rfl)) (hw _ (List.mem_of_getElem? (i := 27) rfl)) (hw _ (List.mem_of_getElem? (i := 28) rfl)) e0 (g := (mkF m 1 #[.val (.ref a), .val (.ref t), .val (.ref ls), .unset] [(.ref a)])) rfl (by rw [hml]; rfl) rfl (hb hby d6_1) (by decide) (W := 0) (by show 2 * 0 + _ ≤ _; exact Nat.le_of_eq rfl) (by decide)
  refine own_go st1 ?_
  show OwnWk _ _ _ _ (T1.setTop (mkF m 4 #[.val (.ref a), .val (.ref t), .val (.ref ls), .unset] []))
  refine own_go (fun tgt kst => XS.aloadN X1.here hx rfl (hb hby d6_4) rfl rfl  kst) ?_
  show OwnWk _ _ _ _ (T1.setTop (mkF m 5 #[.val (.ref a), .val (.ref t), .val (.ref ls), .unset] [(.ref a)]))
  refine own_go (fun tgt kst => XS.aloadN X1.here hx rfl (hb hby d6_5) rfl rfl  kst) ?_
  show OwnWk _ _ _ _ (T1.setTop (mkF m 6 #[.val (.ref a), .val (.ref t), .val (.ref ls), .unset] [(.ref ls), (.ref a)]))
  obtain ⟨T2, h2, X2, e2, W2, st2⟩ := putF X1 hx hZ hown (host := "") (Or.inl (hw _ (List.mem_of_getElem? (i := 38) rfl))) Via.refl e1 F_zones E_a (Or.inr ⟨(hw _ (List.mem_of_getElem? (i := 39) rfl)), rfl, hnm⟩) (hw _ (List.mem_of_getElem? (i := 6) rfl)) (v := (.ref ls)) (ty := (.object "java/util/List")) (by decide) rfl rfl (g := (mkF m 6 #[.val (.ref a), .val (.ref t), .val (.ref ls), .unset] [(.ref ls), (.ref a)])) rfl rfl (hb hby d6_6)
  refine own_go st2 ?_
  have N2 := Fr.snoc X2 N0 g_a
  have Fw2 := Fld.same W2 F_zones
  have F3 := Exa.wr W2 E_a
  have F4 := Exa.wr W2 E_l
  have F5 := Fld.other W2 F_l (Or.inl ne_l)
  have F6 := OAr.other V_t W2 ne_t
  have F7 := Exa.wr W2 E_t
  have F8 := Fld.other W2 F_keys (Or.inr (slot_ne (Or.inr (hw _ (List.mem_of_getElem? (i := 93) rfl))) (Or.inr (hw _ (List.mem_of_getElem? (i := 39) rfl))) (by decide) (t := (.object "com/example/encircle/encircle/layout/ZoneKeys")) (t' := (.object "java/util/List")) (by decide) (by decide)))
  have F9 := Fld.other W2 F_order (Or.inr (slot_ne (Or.inr (hw _ (List.mem_of_getElem? (i := 104) rfl))) (Or.inr (hw _ (List.mem_of_getElem? (i := 39) rfl))) (by decide) (t := (.array .int)) (t' := (.object "java/util/List")) (by decide) (by decide)))
  have F10 := Fld.other W2 F_places (Or.inr (slot_ne (Or.inr (hw _ (List.mem_of_getElem? (i := 106) rfl))) (Or.inr (hw _ (List.mem_of_getElem? (i := 39) rfl))) (by decide) (t := (.array .int)) (t' := (.object "java/util/List")) (by decide) (by decide)))
  have F11 := Fld.other W2 F_sums (Or.inr (slot_ne (Or.inr (hw _ (List.mem_of_getElem? (i := 108) rfl))) (Or.inr (hw _ (List.mem_of_getElem? (i := 39) rfl))) (by decide) (t := (.array .long)) (t' := (.object "java/util/List")) (by decide) (by decide)))
  have Z12 := Nat.le_trans Z0 (Keep.of_wr W2).1
  have K13 := Keep.wr K0 W2 (Or.inl (List.mem_of_getElem? (i := 0) rfl))
  show OwnWk _ _ _ _ (T2.setTop (mkF m 9 #[.val (.ref a), .val (.ref t), .val (.ref ls), .unset] []))
  refine own_go (fun tgt kst => XS.aloadN X2.here hx rfl (hb hby d6_9) rfl rfl  kst) ?_
  show OwnWk _ _ _ _ (T2.setTop (mkF m 10 #[.val (.ref a), .val (.ref t), .val (.ref ls), .unset] [(.ref a)]))
  obtain ⟨T14, h14, X14, e14, E14, A14, D14, -, st14⟩ := newO X2 hx hZ hown (hw _ (List.mem_of_getElem? (i := 40) rfl)) (hw _ (List.mem_of_getElem? (i := 41) rfl)) (hw _ (List.mem_of_getElem? (i := 42) rfl)) e2 (g := (mkF m 10 #[.val (.ref a), .val (.ref t), .val (.ref ls), .unset] [(.ref a)])) rfl (hb hby d6_10) (by decide) (by decide)
  obtain ⟨b14, g14⟩ : ∃ z, z = h2.size := ⟨_, rfl⟩
  rw [← g14] at A14 D14 st14
  refine own_go st14 ?_
  have ne15 : a ≠ b14 := Nat.ne_of_lt (Nat.lt_of_lt_of_le F3.lt (Nat.le_of_eq g14.symm))
  have ne16 : ls ≠ b14 := Nat.ne_of_lt (Nat.lt_of_lt_of_le F4.lt (Nat.le_of_eq g14.symm))
  have ne17 : t ≠ b14 := Nat.ne_of_lt (Nat.lt_of_lt_of_le F6.lt (Nat.le_of_eq g14.symm))
  have ge18 : n0 ≤ b14 := Nat.le_trans Z12 (Nat.le_of_eq g14.symm)
  have sz19 : h0.size ≤ b14 := Nat.le_trans K13.1 (Nat.le_of_eq g14.symm)
  have F20 := Exa.ext E14 F3
  have F21 := Exa.ext E14 F4
  have F22 := Fld.ext E14 F5
  have F23 := OAr.ext F6 E14
  have F24 := Exa.ext E14 F7
  have F25 := Fld.ext E14 F8
  have F26 := Fld.ext E14 F9
  have F27 := Fld.ext E14 F10
  have F28 := Fld.ext E14 F11
  have F29 := Fld.ext E14 Fw2
  have Z30 := Nat.le_trans Z12 E14.1
  have K31 := Keep.ext K13 E14
  have F32 : Fld Z h14 b14 "com/example/encircle/encircle/layout/ZoneKeys" "keys" "[J" .null := D14 (Or.inr (hw _ (List.mem_of_getElem? (i := 49) rfl))) (ty := (.array .long)) (by decide)
  have F33 : Fld Z h14 b14 "com/example/encircle/encircle/layout/ZoneKeys" "sums" "[J" .null := D14 (Or.inr (hw _ (List.mem_of_getElem? (i := 66) rfl))) (ty := (.array .long)) (by decide)
  have F34 : Fld Z h14 b14 "com/example/encircle/encircle/layout/ZoneKeys" "sizes" "[I" .null := D14 (Or.inr (hw _ (List.mem_of_getElem? (i := 68) rfl))) (ty := (.array .int)) (by decide)
  have F35 : Fld Z h14 b14 "com/example/encircle/encircle/layout/ZoneKeys" "slotSums" "[J" .null := D14 (Or.inr (hw _ (List.mem_of_getElem? (i := 83) rfl))) (ty := (.array .long)) (by decide)
  have F36 : Fld Z h14 b14 "com/example/encircle/encircle/layout/ZoneKeys" "slotZones" "[I" .null := D14 (Or.inr (hw _ (List.mem_of_getElem? (i := 85) rfl))) (ty := (.array .int)) (by decide)
  have F37 : Fld Z h14 b14 "com/example/encircle/encircle/layout/ZoneKeys" "sameSum" "[I" .null := D14 (Or.inr (hw _ (List.mem_of_getElem? (i := 87) rfl))) (ty := (.array .int)) (by decide)
  show OwnWk _ _ _ _ (T14.setTop (mkF m 13 #[.val (.ref a), .val (.ref t), .val (.ref ls), .unset] [(.ref b14), (.ref a)]))
  refine own_go (fun tgt kst => XS.dup X14.here hx rfl (hb hby d6_13) rfl rfl kst) ?_
  show OwnWk _ _ _ _ (T14.setTop (mkF m 14 #[.val (.ref a), .val (.ref t), .val (.ref ls), .unset] [(.ref b14), (.ref b14), (.ref a)]))
  refine own_go (fun tgt kst => XS.aloadN X14.here hx rfl (hb hby d6_14) rfl rfl  kst) ?_
  show OwnWk _ _ _ _ (T14.setTop (mkF m 15 #[.val (.ref a), .val (.ref t), .val (.ref ls), .unset] [(.ref t), (.ref b14), (.ref b14), (.ref a)]))
  refine own_len X14 hx hZ e14 F23 (g := (mkF m 15 #[.val (.ref a), .val (.ref t), .val (.ref ls), .unset] [(.ref t), (.ref b14), (.ref b14), (.ref a)])) rfl rfl (hb hby d6_15) (N := (5 : Int32)) rfl ?_
  show OwnWk _ _ _ _ (T14.setTop (mkF m 16 #[.val (.ref a), .val (.ref t), .val (.ref ls), .unset] [(.int (5 : Int32)), (.ref b14), (.ref b14), (.ref a)]))
  refine own_go (fun tgt kst => XS.aloadN X14.here hx rfl (hb hby d6_16) rfl rfl  kst) ?_
  show OwnWk _ _ _ _ (T14.setTop (mkF m 17 #[.val (.ref a), .val (.ref t), .val (.ref ls), .unset] [(.ref ls), (.int (5 : Int32)), (.ref b14), (.ref b14), (.ref a)]))
  have lt38 : a < h14.size := F20.lt
  have lt39 : ls < h14.size := F21.lt
  have lt40 : t < h14.size := F23.lt
  have lt41 : b14 < h14.size := A14.lt
  refine own_callC X14 hx hZ (y := (⟨"com/example/encircle/encircle/layout/ZoneKeys", "<init>", "(ILjava/util/List;)V"⟩ : MethodName)) hown rfl (hw _ (List.mem_of_getElem? (i := 43) rfl)) (hw _ (List.mem_of_getElem? (i := 44) rfl)) (hw _ (List.mem_of_getElem? (i := 42) rfl)) (hw _ (List.mem_of_getElem? (i := 45) rfl)) (by decide) (a := b14) (argsL := [(.int (5 : Int32)), (.ref ls)]) (rest := [(.ref b14), (.ref a)]) (rm := ({ frames := 2, cells := 6, slots := 9, locals := 27 } : Room)) (h := h14) (rm7 l Z a0 hw b14 ls h14 n0 Z30 A14 ge18 F32 F33 F34 F35 F36 F37 F21 F22 ne16) e14 (W := 2) (by decide) (by decide) (by decide) (by decide) (g := (mkF m 17 #[.val (.ref a), .val (.ref t), .val (.ref ls), .unset] [(.ref ls), (.int (5 : Int32)), (.ref b14), (.ref b14), (.ref a)])) rfl (by rw [hml]; rfl) (lenOf pd_5 rfl) rfl (by show 2 * 0 + _ ≤ _; exact Nat.le_of_eq rfl) (hb hby d6_17) (fun v42 T42 h42 L42 X42 e42 hQ42 => ?_)
  obtain ⟨rfl, Nq42, Kq42, kk, ks, szk, gkk, Fkk, Vkk, hk5⟩ := hQ42
  have N42 := Fr.app N2 Nq42
  have F43 := Exa.keep F20 Kq42
  have F44 := Exa.keep F21 Kq42
  have F45 := Fld.keep F22 Kq42 (ninS ne16 nin0)
  have F46 := OAr.keep F23 Kq42 (ninS ne17 nin0)
  have F47 := Exa.keep F24 Kq42
  have F48 := Fld.keep F25 Kq42 (ninS ne15 nin0)
  have F49 := Fld.keep F26 Kq42 (ninS ne15 nin0)
  have F50 := Fld.keep F27 Kq42 (ninS ne15 nin0)
  have F51 := Fld.keep F28 Kq42 (ninS ne15 nin0)
  have F52 := Fld.keep F29 Kq42 (ninS ne15 nin0)
  have F53 := Exa.keep A14 Kq42
  have Z54 := Nat.le_trans Z30 Kq42.1
  have K55 := Keep.trans K31 Kq42 (allS (Or.inr sz19) all0)
  have ne56 : a ≠ kk := Nat.ne_of_lt (Nat.lt_of_lt_of_le lt38 szk)
  have ne57 : ls ≠ kk := Nat.ne_of_lt (Nat.lt_of_lt_of_le lt39 szk)
  have ne58 : t ≠ kk := Nat.ne_of_lt (Nat.lt_of_lt_of_le lt40 szk)
  have ne59 : b14 ≠ kk := Nat.ne_of_lt (Nat.lt_of_lt_of_le lt41 szk)
  have szk0 : h0.size ≤ kk := Nat.le_trans K31.1 szk
  show OwnWk _ _ _ _ (T42.setTop (mkF m 20 #[.val (.ref a), .val (.ref t), .val (.ref ls), .unset] [(.ref b14), (.ref a)]))
  obtain ⟨T60, h60, X60, e60, W60, st60⟩ := putF X42 hx hZ hown (host := "") (Or.inl (hw _ (List.mem_of_getElem? (i := 92) rfl))) Via.refl e42 F48 F43 (Or.inr ⟨(hw _ (List.mem_of_getElem? (i := 93) rfl)), rfl, hnm⟩) (hw _ (List.mem_of_getElem? (i := 6) rfl)) (v := (.ref b14)) (ty := (.object "com/example/encircle/encircle/layout/ZoneKeys")) (by decide) rfl rfl (g := (mkF m 20 #[.val (.ref a), .val (.ref t), .val (.ref ls), .unset] [(.ref b14), (.ref a)])) rfl rfl (hb hby d6_20)
  refine own_go st60 ?_
  have N60 := Fr.snoc X60 N42 g_a
  have Fw60 := Fld.same W60 F48
  have F61 := Exa.wr W60 F43
  have F62 := Exa.wr W60 F44
  have F63 := Fld.other W60 F45 (Or.inl ne_l)
  have F64 := OAr.other F46 W60 ne_t
  have F65 := Exa.wr W60 F47
  have F66 := Fld.other W60 F49 (Or.inr (slot_ne (Or.inr (hw _ (List.mem_of_getElem? (i := 104) rfl))) (Or.inr (hw _ (List.mem_of_getElem? (i := 93) rfl))) (by decide) (t := (.array .int)) (t' := (.object "com/example/encircle/encircle/layout/ZoneKeys")) (by decide) (by decide)))
  have F67 := Fld.other W60 F50 (Or.inr (slot_ne (Or.inr (hw _ (List.mem_of_getElem? (i := 106) rfl))) (Or.inr (hw _ (List.mem_of_getElem? (i := 93) rfl))) (by decide) (t := (.array .int)) (t' := (.object "com/example/encircle/encircle/layout/ZoneKeys")) (by decide) (by decide)))
  have F68 := Fld.other W60 F51 (Or.inr (slot_ne (Or.inr (hw _ (List.mem_of_getElem? (i := 108) rfl))) (Or.inr (hw _ (List.mem_of_getElem? (i := 93) rfl))) (by decide) (t := (.array .long)) (t' := (.object "com/example/encircle/encircle/layout/ZoneKeys")) (by decide) (by decide)))
  have F69 := Fld.other W60 F52 (Or.inr (slot_ne (Or.inr (hw _ (List.mem_of_getElem? (i := 39) rfl))) (Or.inr (hw _ (List.mem_of_getElem? (i := 93) rfl))) (by decide) (t := (.object "java/util/List")) (t' := (.object "com/example/encircle/encircle/layout/ZoneKeys")) (by decide) (by decide)))
  have F70 := Exa.wr W60 F53
  have F71 := Fld.other W60 Fkk (Or.inl (Ne.symm ne15))
  have F72 := OAr.other Vkk W60 (Ne.symm ne56)
  have Z73 := Nat.le_trans Z54 (Keep.of_wr W60).1
  have K74 := Keep.wr K55 W60 (Or.inl (List.mem_of_getElem? (i := 0) rfl))
  show OwnWk _ _ _ _ (T60.setTop (mkF m 23 #[.val (.ref a), .val (.ref t), .val (.ref ls), .unset] []))
  refine own_go (fun tgt kst => XS.aloadN X60.here hx rfl (hb hby d6_23) rfl rfl  kst) ?_
  show OwnWk _ _ _ _ (T60.setTop (mkF m 24 #[.val (.ref a), .val (.ref t), .val (.ref ls), .unset] [(.ref a)]))
  refine own_go (fun tgt kst => XS.aloadN X60.here hx rfl (hb hby d6_24) rfl rfl  kst) ?_
  show OwnWk _ _ _ _ (T60.setTop (mkF m 25 #[.val (.ref a), .val (.ref t), .val (.ref ls), .unset] [(.ref t), (.ref a)]))
  refine own_clone X60 hx hZ hown (ad := "[I") (hw _ (List.mem_of_getElem? (i := 94) rfl)) (hw _ (List.mem_of_getElem? (i := 95) rfl)) (hw _ (List.mem_of_getElem? (i := 99) rfl)) (hw _ (List.mem_of_getElem? (i := 97) rfl)) (hw _ (List.mem_of_getElem? (i := 98) rfl)) (hw _ (List.mem_of_getElem? (i := 100) rfl)) e60 F64 F65 (by simp [fits]) (W := 1) (g := (mkF m 25 #[.val (.ref a), .val (.ref t), .val (.ref ls), .unset] [(.ref t), (.ref a)])) rfl (by rw [hml]; rfl) rfl (hb hby d6_25) (by decide) (cap := 5) (by show 2 * 0 + _ ≤ _; exact Nat.le_of_eq rfl) (by decide) (Nat.le_of_ble_eq_true rfl) (by decide) (by decide) (fun T75 h75 b75 X75 e75 g75 E75 V75 Ex75 => ?_)
  have ne76 : a ≠ b75 := Nat.ne_of_lt (Nat.lt_of_lt_of_le F61.lt (Nat.le_of_eq g75.symm))
  have ne77 : ls ≠ b75 := Nat.ne_of_lt (Nat.lt_of_lt_of_le F62.lt (Nat.le_of_eq g75.symm))
  have ne78 : t ≠ b75 := Nat.ne_of_lt (Nat.lt_of_lt_of_le F64.lt (Nat.le_of_eq g75.symm))
  have ne79 : b14 ≠ b75 := Nat.ne_of_lt (Nat.lt_of_lt_of_le F70.lt (Nat.le_of_eq g75.symm))
  have ne80 : kk ≠ b75 := Nat.ne_of_lt (Nat.lt_of_lt_of_le F72.lt (Nat.le_of_eq g75.symm))
  have ge81 : n0 ≤ b75 := Nat.le_trans Z73 (Nat.le_of_eq g75.symm)
  have sz82 : h0.size ≤ b75 := Nat.le_trans K74.1 (Nat.le_of_eq g75.symm)
  have F83 := Exa.ext E75 F61
  have F84 := Exa.ext E75 F62
  have F85 := Fld.ext E75 F63
  have F86 := OAr.ext F64 E75
  have F87 := Exa.ext E75 F65
  have F88 := Fld.ext E75 F66
  have F89 := Fld.ext E75 F67
  have F90 := Fld.ext E75 F68
  have F91 := Fld.ext E75 F69
  have F92 := Exa.ext E75 F70
  have F93 := Fld.ext E75 F71
  have F94 := OAr.ext F72 E75
  have F95 := Fld.ext E75 Fw60
  have Z96 := Nat.le_trans Z73 E75.1
  have K97 := Keep.ext K74 E75
  show OwnWk _ _ _ _ (T75.setTop (mkF m 28 #[.val (.ref a), .val (.ref t), .val (.ref ls), .unset] [(.ref b75), (.ref a)]))
  obtain ⟨T98, X98, e98, st98⟩ := castY X75 hx hZ hown (hw _ (List.mem_of_getElem? (i := 101) rfl)) e75 (Ins.self Ex75) (g := (mkF m 28 #[.val (.ref a), .val (.ref t), .val (.ref ls), .unset] [(.ref b75), (.ref a)])) rfl rfl (hb hby d6_28)
  refine own_go st98 ?_
  show OwnWk _ _ _ _ (T98.setTop (mkF m 31 #[.val (.ref a), .val (.ref t), .val (.ref ls), .unset] [(.ref b75), (.ref a)]))
  obtain ⟨T99, h99, X99, e99, W99, st99⟩ := putF X98 hx hZ hown (host := "") (Or.inl (hw _ (List.mem_of_getElem? (i := 103) rfl))) Via.refl e98 F88 F83 (Or.inr ⟨(hw _ (List.mem_of_getElem? (i := 104) rfl)), rfl, hnm⟩) (hw _ (List.mem_of_getElem? (i := 6) rfl)) (v := (.ref b75)) (ty := (.array .int)) (by decide) rfl rfl (g := (mkF m 31 #[.val (.ref a), .val (.ref t), .val (.ref ls), .unset] [(.ref b75), (.ref a)])) rfl rfl (hb hby d6_31)
  refine own_go st99 ?_
  have N99 := Fr.snoc X99 N60 g_a
  have Fw99 := Fld.same W99 F88
  have F100 := Exa.wr W99 F83
  have F101 := Exa.wr W99 F84
  have F102 := Fld.other W99 F85 (Or.inl ne_l)
  have F103 := OAr.other F86 W99 ne_t
  have F104 := Exa.wr W99 F87
  have F105 := Fld.other W99 F89 (Or.inr (slot_ne (Or.inr (hw _ (List.mem_of_getElem? (i := 106) rfl))) (Or.inr (hw _ (List.mem_of_getElem? (i := 104) rfl))) (by decide) (t := (.array .int)) (t' := (.array .int)) (by decide) (by decide)))
  have F106 := Fld.other W99 F90 (Or.inr (slot_ne (Or.inr (hw _ (List.mem_of_getElem? (i := 108) rfl))) (Or.inr (hw _ (List.mem_of_getElem? (i := 104) rfl))) (by decide) (t := (.array .long)) (t' := (.array .int)) (by decide) (by decide)))
  have F107 := Fld.other W99 F91 (Or.inr (slot_ne (Or.inr (hw _ (List.mem_of_getElem? (i := 39) rfl))) (Or.inr (hw _ (List.mem_of_getElem? (i := 104) rfl))) (by decide) (t := (.object "java/util/List")) (t' := (.array .int)) (by decide) (by decide)))
  have F108 := Exa.wr W99 F92
  have F109 := Fld.other W99 F93 (Or.inl (Ne.symm ne15))
  have F110 := OAr.other F94 W99 (Ne.symm ne56)
  have F111 := Fld.other W99 F95 (Or.inr (slot_ne (Or.inr (hw _ (List.mem_of_getElem? (i := 93) rfl))) (Or.inr (hw _ (List.mem_of_getElem? (i := 104) rfl))) (by decide) (t := (.object "com/example/encircle/encircle/layout/ZoneKeys")) (t' := (.array .int)) (by decide) (by decide)))
  have F112 := OAr.other V75 W99 (Ne.symm ne76)
  have F113 := Exa.wr W99 Ex75
  have Z114 := Nat.le_trans Z96 (Keep.of_wr W99).1
  have K115 := Keep.wr K97 W99 (Or.inl (List.mem_of_getElem? (i := 0) rfl))
  show OwnWk _ _ _ _ (T99.setTop (mkF m 34 #[.val (.ref a), .val (.ref t), .val (.ref ls), .unset] []))
  refine own_go (fun tgt kst => XS.aloadN X99.here hx rfl (hb hby d6_34) rfl rfl  kst) ?_
  show OwnWk _ _ _ _ (T99.setTop (mkF m 35 #[.val (.ref a), .val (.ref t), .val (.ref ls), .unset] [(.ref a)]))
  refine own_go (fun tgt kst => XS.aloadN X99.here hx rfl (hb hby d6_35) rfl rfl  kst) ?_
  show OwnWk _ _ _ _ (T99.setTop (mkF m 36 #[.val (.ref a), .val (.ref t), .val (.ref ls), .unset] [(.ref t), (.ref a)]))
  refine own_len X99 hx hZ e99 F103 (g := (mkF m 36 #[.val (.ref a), .val (.ref t), .val (.ref ls), .unset] [(.ref t), (.ref a)])) rfl rfl (hb hby d6_36) (N := (5 : Int32)) rfl ?_
  show OwnWk _ _ _ _ (T99.setTop (mkF m 37 #[.val (.ref a), .val (.ref t), .val (.ref ls), .unset] [(.int (5 : Int32)), (.ref a)]))
  refine own_newP X99 hx hZ (aty := .int) (hw _ (List.mem_of_getElem? (i := 0) rfl)) e99 (g := (mkF m 37 #[.val (.ref a), .val (.ref t), .val (.ref ls), .unset] [(.int (5 : Int32)), (.ref a)])) rfl (hb hby d6_37) rfl (by decide) (cap := 5) (by decide) (by decide) (by decide) (by decide) (fun T116 h116 b116 X116 e116 g116 E116 V116 => ?_)
  have ne117 : a ≠ b116 := Nat.ne_of_lt (Nat.lt_of_lt_of_le F100.lt (Nat.le_of_eq g116.symm))
  have ne118 : ls ≠ b116 := Nat.ne_of_lt (Nat.lt_of_lt_of_le F101.lt (Nat.le_of_eq g116.symm))
  have ne119 : t ≠ b116 := Nat.ne_of_lt (Nat.lt_of_lt_of_le F103.lt (Nat.le_of_eq g116.symm))
  have ne120 : b14 ≠ b116 := Nat.ne_of_lt (Nat.lt_of_lt_of_le F108.lt (Nat.le_of_eq g116.symm))
  have ne121 : kk ≠ b116 := Nat.ne_of_lt (Nat.lt_of_lt_of_le F110.lt (Nat.le_of_eq g116.symm))
  have ne122 : b75 ≠ b116 := Nat.ne_of_lt (Nat.lt_of_lt_of_le F112.lt (Nat.le_of_eq g116.symm))
  have ge123 : n0 ≤ b116 := Nat.le_trans Z114 (Nat.le_of_eq g116.symm)
  have sz124 : h0.size ≤ b116 := Nat.le_trans K115.1 (Nat.le_of_eq g116.symm)
  have F125 := Exa.ext E116 F100
  have F126 := Exa.ext E116 F101
  have F127 := Fld.ext E116 F102
  have F128 := OAr.ext F103 E116
  have F129 := Exa.ext E116 F104
  have F130 := Fld.ext E116 F105
  have F131 := Fld.ext E116 F106
  have F132 := Fld.ext E116 F107
  have F133 := Exa.ext E116 F108
  have F134 := Fld.ext E116 F109
  have F135 := OAr.ext F110 E116
  have F136 := Fld.ext E116 F111
  have F137 := OAr.ext F112 E116
  have F138 := Exa.ext E116 F113
  have F139 := Fld.ext E116 Fw99
  have Z140 := Nat.le_trans Z114 E116.1
  have K141 := Keep.ext K115 E116
  have V116b : OAr Z h116 b116 .int [(.int (0 : Int32)), (.int (0 : Int32)), (.int (0 : Int32)), (.int (0 : Int32)), (.int (0 : Int32))] := V116
  show OwnWk _ _ _ _ (T116.setTop (mkF m 39 #[.val (.ref a), .val (.ref t), .val (.ref ls), .unset] [(.ref b116), (.ref a)]))
  have Vpl : OAr Z h116 b116 .int (own_iv [0, 0, 0, 0, 0]) := V116b
  obtain ⟨T142, h142, X142, e142, W142, st142⟩ := putF X116 hx hZ hown (host := "") (Or.inl (hw _ (List.mem_of_getElem? (i := 105) rfl))) Via.refl e116 F130 F125 (Or.inr ⟨(hw _ (List.mem_of_getElem? (i := 106) rfl)), rfl, hnm⟩) (hw _ (List.mem_of_getElem? (i := 6) rfl)) (v := (.ref b116)) (ty := (.array .int)) (by decide) rfl rfl (g := (mkF m 39 #[.val (.ref a), .val (.ref t), .val (.ref ls), .unset] [(.ref b116), (.ref a)])) rfl rfl (hb hby d6_39)
  refine own_go st142 ?_
  have N142 := Fr.snoc X142 N99 g_a
  have Fw142 := Fld.same W142 F130
  have F143 := Exa.wr W142 F125
  have F144 := Exa.wr W142 F126
  have F145 := Fld.other W142 F127 (Or.inl ne_l)
  have F146 := OAr.other F128 W142 ne_t
  have F147 := Exa.wr W142 F129
  have F148 := Fld.other W142 F131 (Or.inr (slot_ne (Or.inr (hw _ (List.mem_of_getElem? (i := 108) rfl))) (Or.inr (hw _ (List.mem_of_getElem? (i := 106) rfl))) (by decide) (t := (.array .long)) (t' := (.array .int)) (by decide) (by decide)))
  have F149 := Fld.other W142 F132 (Or.inr (slot_ne (Or.inr (hw _ (List.mem_of_getElem? (i := 39) rfl))) (Or.inr (hw _ (List.mem_of_getElem? (i := 106) rfl))) (by decide) (t := (.object "java/util/List")) (t' := (.array .int)) (by decide) (by decide)))
  have F150 := Exa.wr W142 F133
  have F151 := Fld.other W142 F134 (Or.inl (Ne.symm ne15))
  have F152 := OAr.other F135 W142 (Ne.symm ne56)
  have F153 := Fld.other W142 F136 (Or.inr (slot_ne (Or.inr (hw _ (List.mem_of_getElem? (i := 93) rfl))) (Or.inr (hw _ (List.mem_of_getElem? (i := 106) rfl))) (by decide) (t := (.object "com/example/encircle/encircle/layout/ZoneKeys")) (t' := (.array .int)) (by decide) (by decide)))
  have F154 := OAr.other F137 W142 (Ne.symm ne76)
  have F155 := Exa.wr W142 F138
  have F156 := Fld.other W142 F139 (Or.inr (slot_ne (Or.inr (hw _ (List.mem_of_getElem? (i := 104) rfl))) (Or.inr (hw _ (List.mem_of_getElem? (i := 106) rfl))) (by decide) (t := (.array .int)) (t' := (.array .int)) (by decide) (by decide)))
  have F157 := OAr.other Vpl W142 (Ne.symm ne117)
  have Z158 := Nat.le_trans Z140 (Keep.of_wr W142).1
  have K159 := Keep.wr K141 W142 (Or.inl (List.mem_of_getElem? (i := 0) rfl))
  show OwnWk _ _ _ _ (T142.setTop (mkF m 42 #[.val (.ref a), .val (.ref t), .val (.ref ls), .unset] []))
  refine own_go (fun tgt kst => XS.aloadN X142.here hx rfl (hb hby d6_42) rfl rfl  kst) ?_
  show OwnWk _ _ _ _ (T142.setTop (mkF m 43 #[.val (.ref a), .val (.ref t), .val (.ref ls), .unset] [(.ref a)]))
  refine own_go (fun tgt kst => XS.aloadN X142.here hx rfl (hb hby d6_43) rfl rfl  kst) ?_
  show OwnWk _ _ _ _ (T142.setTop (mkF m 44 #[.val (.ref a), .val (.ref t), .val (.ref ls), .unset] [(.ref t), (.ref a)]))
  refine own_len X142 hx hZ e142 F146 (g := (mkF m 44 #[.val (.ref a), .val (.ref t), .val (.ref ls), .unset] [(.ref t), (.ref a)])) rfl rfl (hb hby d6_44) (N := (5 : Int32)) rfl ?_
  show OwnWk _ _ _ _ (T142.setTop (mkF m 45 #[.val (.ref a), .val (.ref t), .val (.ref ls), .unset] [(.int (5 : Int32)), (.ref a)]))
  refine own_go (fun tgt kst => XS.iconst X142.here hx rfl (hb hby d6_45) kst) ?_
  show OwnWk _ _ _ _ (T142.setTop (mkF m 46 #[.val (.ref a), .val (.ref t), .val (.ref ls), .unset] [(.int (1 : Int32)), (.int (5 : Int32)), (.ref a)]))
  refine own_go (fun tgt kst => XS.iadd X142.here hx rfl (hb hby d6_46) rfl kst) ?_
  show OwnWk _ _ _ _ (T142.setTop (mkF m 47 #[.val (.ref a), .val (.ref t), .val (.ref ls), .unset] [(.int (6 : Int32)), (.ref a)]))
  refine own_newP X142 hx hZ (aty := .long) (hw _ (List.mem_of_getElem? (i := 47) rfl)) e142 (g := (mkF m 47 #[.val (.ref a), .val (.ref t), .val (.ref ls), .unset] [(.int (6 : Int32)), (.ref a)])) rfl (hb hby d6_47) rfl (by decide) (cap := 6) (by decide) (by decide) (by decide) (by decide) (fun T160 h160 b160 X160 e160 g160 E160 V160 => ?_)
  have ne161 : a ≠ b160 := Nat.ne_of_lt (Nat.lt_of_lt_of_le F143.lt (Nat.le_of_eq g160.symm))
  have ne162 : ls ≠ b160 := Nat.ne_of_lt (Nat.lt_of_lt_of_le F144.lt (Nat.le_of_eq g160.symm))
  have ne163 : t ≠ b160 := Nat.ne_of_lt (Nat.lt_of_lt_of_le F146.lt (Nat.le_of_eq g160.symm))
  have ne164 : b14 ≠ b160 := Nat.ne_of_lt (Nat.lt_of_lt_of_le F150.lt (Nat.le_of_eq g160.symm))
  have ne165 : kk ≠ b160 := Nat.ne_of_lt (Nat.lt_of_lt_of_le F152.lt (Nat.le_of_eq g160.symm))
  have ne166 : b75 ≠ b160 := Nat.ne_of_lt (Nat.lt_of_lt_of_le F154.lt (Nat.le_of_eq g160.symm))
  have ne167 : b116 ≠ b160 := Nat.ne_of_lt (Nat.lt_of_lt_of_le F157.lt (Nat.le_of_eq g160.symm))
  have ge168 : n0 ≤ b160 := Nat.le_trans Z158 (Nat.le_of_eq g160.symm)
  have sz169 : h0.size ≤ b160 := Nat.le_trans K159.1 (Nat.le_of_eq g160.symm)
  have F170 := Exa.ext E160 F143
  have F171 := Exa.ext E160 F144
  have F172 := Fld.ext E160 F145
  have F173 := OAr.ext F146 E160
  have F174 := Exa.ext E160 F147
  have F175 := Fld.ext E160 F148
  have F176 := Fld.ext E160 F149
  have F177 := Exa.ext E160 F150
  have F178 := Fld.ext E160 F151
  have F179 := OAr.ext F152 E160
  have F180 := Fld.ext E160 F153
  have F181 := OAr.ext F154 E160
  have F182 := Exa.ext E160 F155
  have F183 := Fld.ext E160 F156
  have F184 := OAr.ext F157 E160
  have F185 := Fld.ext E160 Fw142
  have Z186 := Nat.le_trans Z158 E160.1
  have K187 := Keep.ext K159 E160
  have V160b : OAr Z h160 b160 .long [(.long (0 : Int64)), (.long (0 : Int64)), (.long (0 : Int64)), (.long (0 : Int64)), (.long (0 : Int64)), (.long (0 : Int64))] := V160
  show OwnWk _ _ _ _ (T160.setTop (mkF m 49 #[.val (.ref a), .val (.ref t), .val (.ref ls), .unset] [(.ref b160), (.ref a)]))
  obtain ⟨T188, h188, X188, e188, W188, st188⟩ := putF X160 hx hZ hown (host := "") (Or.inl (hw _ (List.mem_of_getElem? (i := 107) rfl))) Via.refl e160 F175 F170 (Or.inr ⟨(hw _ (List.mem_of_getElem? (i := 108) rfl)), rfl, hnm⟩) (hw _ (List.mem_of_getElem? (i := 6) rfl)) (v := (.ref b160)) (ty := (.array .long)) (by decide) rfl rfl (g := (mkF m 49 #[.val (.ref a), .val (.ref t), .val (.ref ls), .unset] [(.ref b160), (.ref a)])) rfl rfl (hb hby d6_49)
  refine own_go st188 ?_
  have N188 := Fr.snoc X188 N142 g_a
  have Fw188 := Fld.same W188 F175
  have F189 := Exa.wr W188 F170
  have F190 := Exa.wr W188 F171
  have F191 := Fld.other W188 F172 (Or.inl ne_l)
  have F192 := OAr.other F173 W188 ne_t
  have F193 := Exa.wr W188 F174
  have F194 := Fld.other W188 F176 (Or.inr (slot_ne (Or.inr (hw _ (List.mem_of_getElem? (i := 39) rfl))) (Or.inr (hw _ (List.mem_of_getElem? (i := 108) rfl))) (by decide) (t := (.object "java/util/List")) (t' := (.array .long)) (by decide) (by decide)))
  have F195 := Exa.wr W188 F177
  have F196 := Fld.other W188 F178 (Or.inl (Ne.symm ne15))
  have F197 := OAr.other F179 W188 (Ne.symm ne56)
  have F198 := Fld.other W188 F180 (Or.inr (slot_ne (Or.inr (hw _ (List.mem_of_getElem? (i := 93) rfl))) (Or.inr (hw _ (List.mem_of_getElem? (i := 108) rfl))) (by decide) (t := (.object "com/example/encircle/encircle/layout/ZoneKeys")) (t' := (.array .long)) (by decide) (by decide)))
  have F199 := OAr.other F181 W188 (Ne.symm ne76)
  have F200 := Exa.wr W188 F182
  have F201 := Fld.other W188 F183 (Or.inr (slot_ne (Or.inr (hw _ (List.mem_of_getElem? (i := 104) rfl))) (Or.inr (hw _ (List.mem_of_getElem? (i := 108) rfl))) (by decide) (t := (.array .int)) (t' := (.array .long)) (by decide) (by decide)))
  have F202 := OAr.other F184 W188 (Ne.symm ne117)
  have F203 := Fld.other W188 F185 (Or.inr (slot_ne (Or.inr (hw _ (List.mem_of_getElem? (i := 106) rfl))) (Or.inr (hw _ (List.mem_of_getElem? (i := 108) rfl))) (by decide) (t := (.array .int)) (t' := (.array .long)) (by decide) (by decide)))
  have F204 := OAr.other V160b W188 (Ne.symm ne161)
  have Z205 := Nat.le_trans Z186 (Keep.of_wr W188).1
  have K206 := Keep.wr K187 W188 (Or.inl (List.mem_of_getElem? (i := 0) rfl))
  show OwnWk _ _ _ _ (T188.setTop (mkF m 52 #[.val (.ref a), .val (.ref t), .val (.ref ls), .unset] []))
  refine own_go (fun tgt kst => XS.iconst X188.here hx rfl (hb hby d6_52) kst) ?_
  show OwnWk _ _ _ _ (T188.setTop (mkF m 53 #[.val (.ref a), .val (.ref t), .val (.ref ls), .unset] [(.int (0 : Int32))]))
  refine own_go (fun tgt kst => XS.istoreN X188.here hx rfl (hb hby d6_53) rfl (l' := #[.val (.ref a), .val (.ref t), .val (.ref ls), .val (.int (0 : Int32))]) rfl kst) ?_
  show OwnWk _ _ _ _ (T188.setTop (mkF m 54 #[.val (.ref a), .val (.ref t), .val (.ref ls), .val (.int (0 : Int32))] []))
  refine own_go (fun tgt kst => XS.iloadN X188.here hx rfl (hb hby d6_54) rfl  kst) ?_
  show OwnWk _ _ _ _ (T188.setTop (mkF m 55 #[.val (.ref a), .val (.ref t), .val (.ref ls), .val (.int (0 : Int32))] [(.int (0 : Int32))]))
  refine own_go (fun tgt kst => XS.aloadN X188.here hx rfl (hb hby d6_55) rfl rfl  kst) ?_
  show OwnWk _ _ _ _ (T188.setTop (mkF m 56 #[.val (.ref a), .val (.ref t), .val (.ref ls), .val (.int (0 : Int32))] [(.ref t), (.int (0 : Int32))]))
  refine own_len X188 hx hZ e188 F192 (g := (mkF m 56 #[.val (.ref a), .val (.ref t), .val (.ref ls), .val (.int (0 : Int32))] [(.ref t), (.int (0 : Int32))])) rfl rfl (hb hby d6_56) (N := (5 : Int32)) rfl ?_
  show OwnWk _ _ _ _ (T188.setTop (mkF m 57 #[.val (.ref a), .val (.ref t), .val (.ref ls), .val (.int (0 : Int32))] [(.int (5 : Int32)), (.int (0 : Int32))]))
  refine own_go (fun tgt kst => XS.icmpNo X188.here hx rfl (hb hby d6_57) rfl (tlt (by decide : (0 : Int32) < (5 : Int32))).2.1 kst) ?_
  show OwnWk _ _ _ _ (T188.setTop (mkF m 60 #[.val (.ref a), .val (.ref t), .val (.ref ls), .val (.int (0 : Int32))] []))
  refine own_go (fun tgt kst => XS.aloadN X188.here hx rfl (hb hby d6_60) rfl rfl  kst) ?_
  show OwnWk _ _ _ _ (T188.setTop (mkF m 61 #[.val (.ref a), .val (.ref t), .val (.ref ls), .val (.int (0 : Int32))] [(.ref a)]))
  obtain ⟨T207, X207, e207, st207⟩ := getF X188 hx hZ hown (host := "") (Or.inl (hw _ (List.mem_of_getElem? (i := 105) rfl))) Via.refl e188 F203 (g := (mkF m 61 #[.val (.ref a), .val (.ref t), .val (.ref ls), .val (.int (0 : Int32))] [(.ref a)])) rfl rfl (hb hby d6_61)
  refine own_go st207 ?_
  show OwnWk _ _ _ _ (T207.setTop (mkF m 64 #[.val (.ref a), .val (.ref t), .val (.ref ls), .val (.int (0 : Int32))] [(.ref b116)]))
  refine own_go (fun tgt kst => XS.aloadN X207.here hx rfl (hb hby d6_64) rfl rfl  kst) ?_
  show OwnWk _ _ _ _ (T207.setTop (mkF m 65 #[.val (.ref a), .val (.ref t), .val (.ref ls), .val (.int (0 : Int32))] [(.ref a), (.ref b116)]))
  obtain ⟨T208, X208, e208, st208⟩ := getF X207 hx hZ hown (host := "") (Or.inl (hw _ (List.mem_of_getElem? (i := 103) rfl))) Via.refl e207 F201 (g := (mkF m 65 #[.val (.ref a), .val (.ref t), .val (.ref ls), .val (.int (0 : Int32))] [(.ref a), (.ref b116)])) rfl rfl (hb hby d6_65)
  refine own_go st208 ?_
  show OwnWk _ _ _ _ (T208.setTop (mkF m 68 #[.val (.ref a), .val (.ref t), .val (.ref ls), .val (.int (0 : Int32))] [(.ref b75), (.ref b116)]))
  refine own_go (fun tgt kst => XS.iloadN X208.here hx rfl (hb hby d6_68) rfl  kst) ?_
  show OwnWk _ _ _ _ (T208.setTop (mkF m 69 #[.val (.ref a), .val (.ref t), .val (.ref ls), .val (.int (0 : Int32))] [(.int (0 : Int32)), (.ref b75), (.ref b116)]))
  refine own_ldI X208 hx hZ e208 F199 (g := (mkF m 69 #[.val (.ref a), .val (.ref t), .val (.ref ls), .val (.int (0 : Int32))] [(.int (0 : Int32)), (.ref b75), (.ref b116)])) rfl rfl (hb hby d6_69) (v := (.int (Int32.ofNat pz0))) (by decide) rfl ?_
  show OwnWk _ _ _ _ (T208.setTop (mkF m 70 #[.val (.ref a), .val (.ref t), .val (.ref ls), .val (.int (0 : Int32))] [(.int (Int32.ofNat pz0)), (.ref b116)]))
  refine own_go (fun tgt kst => XS.iloadN X208.here hx rfl (hb hby d6_70) rfl  kst) ?_
  show OwnWk _ _ _ _ (T208.setTop (mkF m 71 #[.val (.ref a), .val (.ref t), .val (.ref ls), .val (.int (0 : Int32))] [(.int (0 : Int32)), (.int (Int32.ofNat pz0)), (.ref b116)]))
  refine own_stI X208 hx hZ e208 F202 (g := (mkF m 71 #[.val (.ref a), .val (.ref t), .val (.ref ls), .val (.int (0 : Int32))] [(.int (0 : Int32)), (.int (Int32.ofNat pz0)), (.ref b116)])) rfl rfl (hb hby d6_71) (own_i5 hpz0) (own_iv_in (NS := [0, 0, 0, 0, 0]) (J := pz0) (by simp) hpz0) (fun T209 h209 X209 e209 W209 V209 => ?_)
  have V209b : OAr Z h209 b116 .int (own_iv ([0, 0, 0, 0, 0].set pz0 0)) := by exact own_cast (own_iv_set (NS := [0, 0, 0, 0, 0]) (J := pz0) (X := 0) hpz0) V209
  have N209 := Fr.snoc X209 N188 ge123
  have F210 := Exa.wr W209 F189
  have F211 := Exa.wr W209 F190
  have F212 := Fld.other W209 F191 (Or.inl ne118)
  have F213 := OAr.other F192 W209 ne119
  have F214 := Exa.wr W209 F193
  have F215 := Fld.other W209 F194 (Or.inl ne117)
  have F216 := Exa.wr W209 F195
  have F217 := Fld.other W209 F196 (Or.inl ne120)
  have F218 := OAr.other F197 W209 ne121
  have F219 := Fld.other W209 F198 (Or.inl ne117)
  have F220 := OAr.other F199 W209 ne122
  have F221 := Exa.wr W209 F200
  have F222 := Fld.other W209 F201 (Or.inl ne117)
  have F223 := Fld.other W209 F203 (Or.inl ne117)
  have F224 := OAr.other F204 W209 (Ne.symm ne167)
  have F225 := Fld.other W209 Fw188 (Or.inl ne117)
  have Z226 := Nat.le_trans Z205 (Keep.of_wr W209).1
  have K227 := Keep.wr K206 W209 (Or.inr sz124)
  show OwnWk _ _ _ _ (T209.setTop (mkF m 72 #[.val (.ref a), .val (.ref t), .val (.ref ls), .val (.int (0 : Int32))] []))
  refine own_go (fun tgt kst => XS.aloadN X209.here hx rfl (hb hby d6_72) rfl rfl  kst) ?_
  show OwnWk _ _ _ _ (T209.setTop (mkF m 73 #[.val (.ref a), .val (.ref t), .val (.ref ls), .val (.int (0 : Int32))] [(.ref a)]))
  obtain ⟨T228, X228, e228, st228⟩ := getF X209 hx hZ hown (host := "") (Or.inl (hw _ (List.mem_of_getElem? (i := 107) rfl))) Via.refl e209 F225 (g := (mkF m 73 #[.val (.ref a), .val (.ref t), .val (.ref ls), .val (.int (0 : Int32))] [(.ref a)])) rfl rfl (hb hby d6_73)
  refine own_go st228 ?_
  show OwnWk _ _ _ _ (T228.setTop (mkF m 76 #[.val (.ref a), .val (.ref t), .val (.ref ls), .val (.int (0 : Int32))] [(.ref b160)]))
  refine own_go (fun tgt kst => XS.iloadN X228.here hx rfl (hb hby d6_76) rfl  kst) ?_
  show OwnWk _ _ _ _ (T228.setTop (mkF m 77 #[.val (.ref a), .val (.ref t), .val (.ref ls), .val (.int (0 : Int32))] [(.int (0 : Int32)), (.ref b160)]))
  refine own_go (fun tgt kst => XS.iconst X228.here hx rfl (hb hby d6_77) kst) ?_
  show OwnWk _ _ _ _ (T228.setTop (mkF m 78 #[.val (.ref a), .val (.ref t), .val (.ref ls), .val (.int (0 : Int32))] [(.int (1 : Int32)), (.int (0 : Int32)), (.ref b160)]))
  refine own_go (fun tgt kst => XS.iadd X228.here hx rfl (hb hby d6_78) rfl kst) ?_
  show OwnWk _ _ _ _ (T228.setTop (mkF m 79 #[.val (.ref a), .val (.ref t), .val (.ref ls), .val (.int (0 : Int32))] [(.int (1 : Int32)), (.ref b160)]))
  refine own_go (fun tgt kst => XS.aloadN X228.here hx rfl (hb hby d6_79) rfl rfl  kst) ?_
  show OwnWk _ _ _ _ (T228.setTop (mkF m 80 #[.val (.ref a), .val (.ref t), .val (.ref ls), .val (.int (0 : Int32))] [(.ref a), (.int (1 : Int32)), (.ref b160)]))
  obtain ⟨T229, X229, e229, st229⟩ := getF X228 hx hZ hown (host := "") (Or.inl (hw _ (List.mem_of_getElem? (i := 107) rfl))) Via.refl e228 F225 (g := (mkF m 80 #[.val (.ref a), .val (.ref t), .val (.ref ls), .val (.int (0 : Int32))] [(.ref a), (.int (1 : Int32)), (.ref b160)])) rfl rfl (hb hby d6_80)
  refine own_go st229 ?_
  show OwnWk _ _ _ _ (T229.setTop (mkF m 83 #[.val (.ref a), .val (.ref t), .val (.ref ls), .val (.int (0 : Int32))] [(.ref b160), (.int (1 : Int32)), (.ref b160)]))
  refine own_go (fun tgt kst => XS.iloadN X229.here hx rfl (hb hby d6_83) rfl  kst) ?_
  show OwnWk _ _ _ _ (T229.setTop (mkF m 84 #[.val (.ref a), .val (.ref t), .val (.ref ls), .val (.int (0 : Int32))] [(.int (0 : Int32)), (.ref b160), (.int (1 : Int32)), (.ref b160)]))
  refine own_ldJ X229 hx hZ e229 F224 (g := (mkF m 84 #[.val (.ref a), .val (.ref t), .val (.ref ls), .val (.int (0 : Int32))] [(.int (0 : Int32)), (.ref b160), (.int (1 : Int32)), (.ref b160)])) rfl rfl (hb hby d6_84) (v := (.long (0 : Int64))) (by decide) rfl ?_
  show OwnWk _ _ _ _ (T229.setTop (mkF m 85 #[.val (.ref a), .val (.ref t), .val (.ref ls), .val (.int (0 : Int32))] [(.long (0 : Int64)), (.int (1 : Int32)), (.ref b160)]))
  refine own_go (fun tgt kst => XS.aloadN X229.here hx rfl (hb hby d6_85) rfl rfl  kst) ?_
  show OwnWk _ _ _ _ (T229.setTop (mkF m 86 #[.val (.ref a), .val (.ref t), .val (.ref ls), .val (.int (0 : Int32))] [(.ref a), (.long (0 : Int64)), (.int (1 : Int32)), (.ref b160)]))
  obtain ⟨T230, X230, e230, st230⟩ := getF X229 hx hZ hown (host := "") (Or.inl (hw _ (List.mem_of_getElem? (i := 92) rfl))) Via.refl e229 F219 (g := (mkF m 86 #[.val (.ref a), .val (.ref t), .val (.ref ls), .val (.int (0 : Int32))] [(.ref a), (.long (0 : Int64)), (.int (1 : Int32)), (.ref b160)])) rfl rfl (hb hby d6_86)
  refine own_go st230 ?_
  show OwnWk _ _ _ _ (T230.setTop (mkF m 89 #[.val (.ref a), .val (.ref t), .val (.ref ls), .val (.int (0 : Int32))] [(.ref b14), (.long (0 : Int64)), (.int (1 : Int32)), (.ref b160)]))
  refine own_go (fun tgt kst => XS.aloadN X230.here hx rfl (hb hby d6_89) rfl rfl  kst) ?_
  show OwnWk _ _ _ _ (T230.setTop (mkF m 90 #[.val (.ref a), .val (.ref t), .val (.ref ls), .val (.int (0 : Int32))] [(.ref a), (.ref b14), (.long (0 : Int64)), (.int (1 : Int32)), (.ref b160)]))
  obtain ⟨T231, X231, e231, st231⟩ := getF X230 hx hZ hown (host := "") (Or.inl (hw _ (List.mem_of_getElem? (i := 103) rfl))) Via.refl e230 F222 (g := (mkF m 90 #[.val (.ref a), .val (.ref t), .val (.ref ls), .val (.int (0 : Int32))] [(.ref a), (.ref b14), (.long (0 : Int64)), (.int (1 : Int32)), (.ref b160)])) rfl rfl (hb hby d6_90)
  refine own_go st231 ?_
  show OwnWk _ _ _ _ (T231.setTop (mkF m 93 #[.val (.ref a), .val (.ref t), .val (.ref ls), .val (.int (0 : Int32))] [(.ref b75), (.ref b14), (.long (0 : Int64)), (.int (1 : Int32)), (.ref b160)]))
  refine own_go (fun tgt kst => XS.iloadN X231.here hx rfl (hb hby d6_93) rfl  kst) ?_
  show OwnWk _ _ _ _ (T231.setTop (mkF m 94 #[.val (.ref a), .val (.ref t), .val (.ref ls), .val (.int (0 : Int32))] [(.int (0 : Int32)), (.ref b75), (.ref b14), (.long (0 : Int64)), (.int (1 : Int32)), (.ref b160)]))
  refine own_ldI X231 hx hZ e231 F220 (g := (mkF m 94 #[.val (.ref a), .val (.ref t), .val (.ref ls), .val (.int (0 : Int32))] [(.int (0 : Int32)), (.ref b75), (.ref b14), (.long (0 : Int64)), (.int (1 : Int32)), (.ref b160)])) rfl rfl (hb hby d6_94) (v := (.int (Int32.ofNat pz0))) (by decide) rfl ?_
  show OwnWk _ _ _ _ (T231.setTop (mkF m 95 #[.val (.ref a), .val (.ref t), .val (.ref ls), .val (.int (0 : Int32))] [(.int (Int32.ofNat pz0)), (.ref b14), (.long (0 : Int64)), (.int (1 : Int32)), (.ref b160)]))
  refine own_callV X231 hx hZ (y := (⟨"com/example/encircle/encircle/layout/ZoneKeys", "key", "(I)J"⟩ : MethodName)) (z := (⟨"com/example/encircle/encircle/layout/ZoneKeys", "key", "(I)J"⟩ : MethodName)) hown (hw _ (List.mem_of_getElem? (i := 109) rfl)) (hw _ (List.mem_of_getElem? (i := 110) rfl)) (notFace_of_selects (args := #[]) (mvT hZ (hw _ (List.mem_of_getElem? (i := 112) rfl)))) (hw _ (List.mem_of_getElem? (i := 112) rfl)) (hw _ (List.mem_of_getElem? (i := 111) rfl)) (hw _ (List.mem_of_getElem? (i := 42) rfl)) (hw _ (List.mem_of_getElem? (i := 113) rfl)) (by decide) (a := b14) F216 (argsL := [(.int (Int32.ofNat pz0))]) (rest := [(.long (0 : Int64)), (.int (1 : Int32)), (.ref b160)]) (rm := ({ frames := 0, cells := 0, slots := 0, locals := 0 } : Room)) (h := h209) (rm13 l Z a0 hw b14 kk ks pz0 h209 n0 Z226 F217 F218 hk5 hpz0) e231 (W := 4) (by decide) (by decide) (by decide) (by decide) (g := (mkF m 95 #[.val (.ref a), .val (.ref t), .val (.ref ls), .val (.int (0 : Int32))] [(.int (Int32.ofNat pz0)), (.ref b14), (.long (0 : Int64)), (.int (1 : Int32)), (.ref b160)])) rfl (by rw [hml]; rfl) (lenOf pd_6 rfl) rfl (by show 2 * 0 + _ ≤ _; exact Nat.le_of_eq rfl) (hb hby d6_95) (fun v232 T232 h232 L232 X232 e232 hQ232 => ?_)
  obtain ⟨rfl, Nq232, q232⟩ := hQ232
  have N232 := Fr.app N209 Nq232
  rw [q232] at e232
  show OwnWk _ _ _ _ (T232.setTop (mkF m 98 #[.val (.ref a), .val (.ref t), .val (.ref ls), .val (.int (0 : Int32))] [(.long (ks.getD pz0 0)), (.long (0 : Int64)), (.int (1 : Int32)), (.ref b160)]))
  refine own_go (fun tgt kst => XS.lxor X232.here hx rfl (hb hby d6_98) rfl kst) ?_
  show OwnWk _ _ _ _ (T232.setTop (mkF m 99 #[.val (.ref a), .val (.ref t), .val (.ref ls), .val (.int (0 : Int32))] [(.long ((0 : Int64) ^^^ (ks.getD pz0 0))), (.int (1 : Int32)), (.ref b160)]))
  obtain ⟨sm0_, h_sm0_⟩ : ∃ z : Int64, z = ((0 : Int64) ^^^ (ks.getD pz0 0)) := ⟨_, rfl⟩
  rw [← h_sm0_]
  refine own_stJ X232 hx hZ e232 F224 (g := (mkF m 99 #[.val (.ref a), .val (.ref t), .val (.ref ls), .val (.int (0 : Int32))] [(.long sm0_), (.int (1 : Int32)), (.ref b160)])) rfl rfl (hb hby d6_99) (by decide) (Nat.le_of_ble_eq_true rfl) (fun T233 h233 X233 e233 W233 V233 => ?_)
  have N233 := Fr.snoc X233 N232 ge168
  have F234 := Exa.wr W233 F210
  have F235 := Exa.wr W233 F211
  have F236 := Fld.other W233 F212 (Or.inl ne162)
  have F237 := OAr.other F213 W233 ne163
  have F238 := Exa.wr W233 F214
  have F239 := Fld.other W233 F215 (Or.inl ne161)
  have F240 := Exa.wr W233 F216
  have F241 := Fld.other W233 F217 (Or.inl ne164)
  have F242 := OAr.other F218 W233 ne165
  have F243 := Fld.other W233 F219 (Or.inl ne161)
  have F244 := OAr.other F220 W233 ne166
  have F245 := Exa.wr W233 F221
  have F246 := Fld.other W233 F222 (Or.inl ne161)
  have F247 := Fld.other W233 F223 (Or.inl ne161)
  have F248 := Fld.other W233 F225 (Or.inl ne161)
  have F249 := OAr.other V209b W233 ne167
  have Z250 := Nat.le_trans Z226 (Keep.of_wr W233).1
  have K251 := Keep.wr K227 W233 (Or.inr sz169)
  show OwnWk _ _ _ _ (T233.setTop (mkF m 100 #[.val (.ref a), .val (.ref t), .val (.ref ls), .val (.int (0 : Int32))] []))
  refine own_go (fun tgt kst => XS.iinc X233.here hx rfl (hb hby d6_100) rfl (l' := #[.val (.ref a), .val (.ref t), .val (.ref ls), .val (.int (1 : Int32))]) rfl kst) ?_
  show OwnWk _ _ _ _ (T233.setTop (mkF m 103 #[.val (.ref a), .val (.ref t), .val (.ref ls), .val (.int (1 : Int32))] []))
  refine own_go (fun tgt kst => XS.goto X233.here hx rfl (pc0 := 103) (pc' := 54) rfl (hb hby d6_103) (by decide) (by decide) kst) ?_
  show OwnWk _ _ _ _ (T233.setTop (mkF m 54 #[.val (.ref a), .val (.ref t), .val (.ref ls), .val (.int (1 : Int32))] []))
  refine own_go (fun tgt kst => XS.iloadN X233.here hx rfl (hb hby d6_54) rfl  kst) ?_
  show OwnWk _ _ _ _ (T233.setTop (mkF m 55 #[.val (.ref a), .val (.ref t), .val (.ref ls), .val (.int (1 : Int32))] [(.int (1 : Int32))]))
  refine own_go (fun tgt kst => XS.aloadN X233.here hx rfl (hb hby d6_55) rfl rfl  kst) ?_
  show OwnWk _ _ _ _ (T233.setTop (mkF m 56 #[.val (.ref a), .val (.ref t), .val (.ref ls), .val (.int (1 : Int32))] [(.ref t), (.int (1 : Int32))]))
  refine own_len X233 hx hZ e233 F237 (g := (mkF m 56 #[.val (.ref a), .val (.ref t), .val (.ref ls), .val (.int (1 : Int32))] [(.ref t), (.int (1 : Int32))])) rfl rfl (hb hby d6_56) (N := (5 : Int32)) rfl ?_
  show OwnWk _ _ _ _ (T233.setTop (mkF m 57 #[.val (.ref a), .val (.ref t), .val (.ref ls), .val (.int (1 : Int32))] [(.int (5 : Int32)), (.int (1 : Int32))]))
  refine own_go (fun tgt kst => XS.icmpNo X233.here hx rfl (hb hby d6_57) rfl (tlt (by decide : (1 : Int32) < (5 : Int32))).2.1 kst) ?_
  show OwnWk _ _ _ _ (T233.setTop (mkF m 60 #[.val (.ref a), .val (.ref t), .val (.ref ls), .val (.int (1 : Int32))] []))
  refine own_go (fun tgt kst => XS.aloadN X233.here hx rfl (hb hby d6_60) rfl rfl  kst) ?_
  show OwnWk _ _ _ _ (T233.setTop (mkF m 61 #[.val (.ref a), .val (.ref t), .val (.ref ls), .val (.int (1 : Int32))] [(.ref a)]))
  obtain ⟨T252, X252, e252, st252⟩ := getF X233 hx hZ hown (host := "") (Or.inl (hw _ (List.mem_of_getElem? (i := 105) rfl))) Via.refl e233 F247 (g := (mkF m 61 #[.val (.ref a), .val (.ref t), .val (.ref ls), .val (.int (1 : Int32))] [(.ref a)])) rfl rfl (hb hby d6_61)
  refine own_go st252 ?_
  show OwnWk _ _ _ _ (T252.setTop (mkF m 64 #[.val (.ref a), .val (.ref t), .val (.ref ls), .val (.int (1 : Int32))] [(.ref b116)]))
  refine own_go (fun tgt kst => XS.aloadN X252.here hx rfl (hb hby d6_64) rfl rfl  kst) ?_
  show OwnWk _ _ _ _ (T252.setTop (mkF m 65 #[.val (.ref a), .val (.ref t), .val (.ref ls), .val (.int (1 : Int32))] [(.ref a), (.ref b116)]))
  obtain ⟨T253, X253, e253, st253⟩ := getF X252 hx hZ hown (host := "") (Or.inl (hw _ (List.mem_of_getElem? (i := 103) rfl))) Via.refl e252 F246 (g := (mkF m 65 #[.val (.ref a), .val (.ref t), .val (.ref ls), .val (.int (1 : Int32))] [(.ref a), (.ref b116)])) rfl rfl (hb hby d6_65)
  refine own_go st253 ?_
  show OwnWk _ _ _ _ (T253.setTop (mkF m 68 #[.val (.ref a), .val (.ref t), .val (.ref ls), .val (.int (1 : Int32))] [(.ref b75), (.ref b116)]))
  refine own_go (fun tgt kst => XS.iloadN X253.here hx rfl (hb hby d6_68) rfl  kst) ?_
  show OwnWk _ _ _ _ (T253.setTop (mkF m 69 #[.val (.ref a), .val (.ref t), .val (.ref ls), .val (.int (1 : Int32))] [(.int (1 : Int32)), (.ref b75), (.ref b116)]))
  refine own_ldI X253 hx hZ e253 F244 (g := (mkF m 69 #[.val (.ref a), .val (.ref t), .val (.ref ls), .val (.int (1 : Int32))] [(.int (1 : Int32)), (.ref b75), (.ref b116)])) rfl rfl (hb hby d6_69) (v := (.int (Int32.ofNat pz1))) (by decide) rfl ?_
  show OwnWk _ _ _ _ (T253.setTop (mkF m 70 #[.val (.ref a), .val (.ref t), .val (.ref ls), .val (.int (1 : Int32))] [(.int (Int32.ofNat pz1)), (.ref b116)]))
  refine own_go (fun tgt kst => XS.iloadN X253.here hx rfl (hb hby d6_70) rfl  kst) ?_
  show OwnWk _ _ _ _ (T253.setTop (mkF m 71 #[.val (.ref a), .val (.ref t), .val (.ref ls), .val (.int (1 : Int32))] [(.int (1 : Int32)), (.int (Int32.ofNat pz1)), (.ref b116)]))
  refine own_stI X253 hx hZ e253 F249 (g := (mkF m 71 #[.val (.ref a), .val (.ref t), .val (.ref ls), .val (.int (1 : Int32))] [(.int (1 : Int32)), (.int (Int32.ofNat pz1)), (.ref b116)])) rfl rfl (hb hby d6_71) (own_i5 hpz1) (own_iv_in (NS := ([0, 0, 0, 0, 0].set pz0 0)) (J := pz1) (by simp) hpz1) (fun T254 h254 X254 e254 W254 V254 => ?_)
  have V254b : OAr Z h254 b116 .int (own_iv (([0, 0, 0, 0, 0].set pz0 0).set pz1 1)) := by exact own_cast (own_iv_set (NS := ([0, 0, 0, 0, 0].set pz0 0)) (J := pz1) (X := 1) hpz1) V254
  have N254 := Fr.snoc X254 N233 ge123
  have F255 := Exa.wr W254 F234
  have F256 := Exa.wr W254 F235
  have F257 := Fld.other W254 F236 (Or.inl ne118)
  have F258 := OAr.other F237 W254 ne119
  have F259 := Exa.wr W254 F238
  have F260 := Fld.other W254 F239 (Or.inl ne117)
  have F261 := Exa.wr W254 F240
  have F262 := Fld.other W254 F241 (Or.inl ne120)
  have F263 := OAr.other F242 W254 ne121
  have F264 := Fld.other W254 F243 (Or.inl ne117)
  have F265 := OAr.other F244 W254 ne122
  have F266 := Exa.wr W254 F245
  have F267 := Fld.other W254 F246 (Or.inl ne117)
  have F268 := Fld.other W254 F247 (Or.inl ne117)
  have F269 := Fld.other W254 F248 (Or.inl ne117)
  have F270 := OAr.other V233 W254 (Ne.symm ne167)
  have Z271 := Nat.le_trans Z250 (Keep.of_wr W254).1
  have K272 := Keep.wr K251 W254 (Or.inr sz124)
  show OwnWk _ _ _ _ (T254.setTop (mkF m 72 #[.val (.ref a), .val (.ref t), .val (.ref ls), .val (.int (1 : Int32))] []))
  refine own_go (fun tgt kst => XS.aloadN X254.here hx rfl (hb hby d6_72) rfl rfl  kst) ?_
  show OwnWk _ _ _ _ (T254.setTop (mkF m 73 #[.val (.ref a), .val (.ref t), .val (.ref ls), .val (.int (1 : Int32))] [(.ref a)]))
  obtain ⟨T273, X273, e273, st273⟩ := getF X254 hx hZ hown (host := "") (Or.inl (hw _ (List.mem_of_getElem? (i := 107) rfl))) Via.refl e254 F269 (g := (mkF m 73 #[.val (.ref a), .val (.ref t), .val (.ref ls), .val (.int (1 : Int32))] [(.ref a)])) rfl rfl (hb hby d6_73)
  refine own_go st273 ?_
  show OwnWk _ _ _ _ (T273.setTop (mkF m 76 #[.val (.ref a), .val (.ref t), .val (.ref ls), .val (.int (1 : Int32))] [(.ref b160)]))
  refine own_go (fun tgt kst => XS.iloadN X273.here hx rfl (hb hby d6_76) rfl  kst) ?_
  show OwnWk _ _ _ _ (T273.setTop (mkF m 77 #[.val (.ref a), .val (.ref t), .val (.ref ls), .val (.int (1 : Int32))] [(.int (1 : Int32)), (.ref b160)]))
  refine own_go (fun tgt kst => XS.iconst X273.here hx rfl (hb hby d6_77) kst) ?_
  show OwnWk _ _ _ _ (T273.setTop (mkF m 78 #[.val (.ref a), .val (.ref t), .val (.ref ls), .val (.int (1 : Int32))] [(.int (1 : Int32)), (.int (1 : Int32)), (.ref b160)]))
  refine own_go (fun tgt kst => XS.iadd X273.here hx rfl (hb hby d6_78) rfl kst) ?_
  show OwnWk _ _ _ _ (T273.setTop (mkF m 79 #[.val (.ref a), .val (.ref t), .val (.ref ls), .val (.int (1 : Int32))] [(.int (2 : Int32)), (.ref b160)]))
  refine own_go (fun tgt kst => XS.aloadN X273.here hx rfl (hb hby d6_79) rfl rfl  kst) ?_
  show OwnWk _ _ _ _ (T273.setTop (mkF m 80 #[.val (.ref a), .val (.ref t), .val (.ref ls), .val (.int (1 : Int32))] [(.ref a), (.int (2 : Int32)), (.ref b160)]))
  obtain ⟨T274, X274, e274, st274⟩ := getF X273 hx hZ hown (host := "") (Or.inl (hw _ (List.mem_of_getElem? (i := 107) rfl))) Via.refl e273 F269 (g := (mkF m 80 #[.val (.ref a), .val (.ref t), .val (.ref ls), .val (.int (1 : Int32))] [(.ref a), (.int (2 : Int32)), (.ref b160)])) rfl rfl (hb hby d6_80)
  refine own_go st274 ?_
  show OwnWk _ _ _ _ (T274.setTop (mkF m 83 #[.val (.ref a), .val (.ref t), .val (.ref ls), .val (.int (1 : Int32))] [(.ref b160), (.int (2 : Int32)), (.ref b160)]))
  refine own_go (fun tgt kst => XS.iloadN X274.here hx rfl (hb hby d6_83) rfl  kst) ?_
  show OwnWk _ _ _ _ (T274.setTop (mkF m 84 #[.val (.ref a), .val (.ref t), .val (.ref ls), .val (.int (1 : Int32))] [(.int (1 : Int32)), (.ref b160), (.int (2 : Int32)), (.ref b160)]))
  refine own_ldJ X274 hx hZ e274 F270 (g := (mkF m 84 #[.val (.ref a), .val (.ref t), .val (.ref ls), .val (.int (1 : Int32))] [(.int (1 : Int32)), (.ref b160), (.int (2 : Int32)), (.ref b160)])) rfl rfl (hb hby d6_84) (v := (.long sm0_)) (by decide) rfl ?_
  show OwnWk _ _ _ _ (T274.setTop (mkF m 85 #[.val (.ref a), .val (.ref t), .val (.ref ls), .val (.int (1 : Int32))] [(.long sm0_), (.int (2 : Int32)), (.ref b160)]))
  refine own_go (fun tgt kst => XS.aloadN X274.here hx rfl (hb hby d6_85) rfl rfl  kst) ?_
  show OwnWk _ _ _ _ (T274.setTop (mkF m 86 #[.val (.ref a), .val (.ref t), .val (.ref ls), .val (.int (1 : Int32))] [(.ref a), (.long sm0_), (.int (2 : Int32)), (.ref b160)]))
  obtain ⟨T275, X275, e275, st275⟩ := getF X274 hx hZ hown (host := "") (Or.inl (hw _ (List.mem_of_getElem? (i := 92) rfl))) Via.refl e274 F264 (g := (mkF m 86 #[.val (.ref a), .val (.ref t), .val (.ref ls), .val (.int (1 : Int32))] [(.ref a), (.long sm0_), (.int (2 : Int32)), (.ref b160)])) rfl rfl (hb hby d6_86)
  refine own_go st275 ?_
  show OwnWk _ _ _ _ (T275.setTop (mkF m 89 #[.val (.ref a), .val (.ref t), .val (.ref ls), .val (.int (1 : Int32))] [(.ref b14), (.long sm0_), (.int (2 : Int32)), (.ref b160)]))
  refine own_go (fun tgt kst => XS.aloadN X275.here hx rfl (hb hby d6_89) rfl rfl  kst) ?_
  show OwnWk _ _ _ _ (T275.setTop (mkF m 90 #[.val (.ref a), .val (.ref t), .val (.ref ls), .val (.int (1 : Int32))] [(.ref a), (.ref b14), (.long sm0_), (.int (2 : Int32)), (.ref b160)]))
  obtain ⟨T276, X276, e276, st276⟩ := getF X275 hx hZ hown (host := "") (Or.inl (hw _ (List.mem_of_getElem? (i := 103) rfl))) Via.refl e275 F267 (g := (mkF m 90 #[.val (.ref a), .val (.ref t), .val (.ref ls), .val (.int (1 : Int32))] [(.ref a), (.ref b14), (.long sm0_), (.int (2 : Int32)), (.ref b160)])) rfl rfl (hb hby d6_90)
  refine own_go st276 ?_
  show OwnWk _ _ _ _ (T276.setTop (mkF m 93 #[.val (.ref a), .val (.ref t), .val (.ref ls), .val (.int (1 : Int32))] [(.ref b75), (.ref b14), (.long sm0_), (.int (2 : Int32)), (.ref b160)]))
  refine own_go (fun tgt kst => XS.iloadN X276.here hx rfl (hb hby d6_93) rfl  kst) ?_
  show OwnWk _ _ _ _ (T276.setTop (mkF m 94 #[.val (.ref a), .val (.ref t), .val (.ref ls), .val (.int (1 : Int32))] [(.int (1 : Int32)), (.ref b75), (.ref b14), (.long sm0_), (.int (2 : Int32)), (.ref b160)]))
  refine own_ldI X276 hx hZ e276 F265 (g := (mkF m 94 #[.val (.ref a), .val (.ref t), .val (.ref ls), .val (.int (1 : Int32))] [(.int (1 : Int32)), (.ref b75), (.ref b14), (.long sm0_), (.int (2 : Int32)), (.ref b160)])) rfl rfl (hb hby d6_94) (v := (.int (Int32.ofNat pz1))) (by decide) rfl ?_
  show OwnWk _ _ _ _ (T276.setTop (mkF m 95 #[.val (.ref a), .val (.ref t), .val (.ref ls), .val (.int (1 : Int32))] [(.int (Int32.ofNat pz1)), (.ref b14), (.long sm0_), (.int (2 : Int32)), (.ref b160)]))
  refine own_callV X276 hx hZ (y := (⟨"com/example/encircle/encircle/layout/ZoneKeys", "key", "(I)J"⟩ : MethodName)) (z := (⟨"com/example/encircle/encircle/layout/ZoneKeys", "key", "(I)J"⟩ : MethodName)) hown (hw _ (List.mem_of_getElem? (i := 109) rfl)) (hw _ (List.mem_of_getElem? (i := 110) rfl)) (notFace_of_selects (args := #[]) (mvT hZ (hw _ (List.mem_of_getElem? (i := 112) rfl)))) (hw _ (List.mem_of_getElem? (i := 112) rfl)) (hw _ (List.mem_of_getElem? (i := 111) rfl)) (hw _ (List.mem_of_getElem? (i := 42) rfl)) (hw _ (List.mem_of_getElem? (i := 113) rfl)) (by decide) (a := b14) F261 (argsL := [(.int (Int32.ofNat pz1))]) (rest := [(.long sm0_), (.int (2 : Int32)), (.ref b160)]) (rm := ({ frames := 0, cells := 0, slots := 0, locals := 0 } : Room)) (h := h254) (rm13 l Z a0 hw b14 kk ks pz1 h254 n0 Z271 F262 F263 hk5 hpz1) e276 (W := 4) (by decide) (by decide) (by decide) (by decide) (g := (mkF m 95 #[.val (.ref a), .val (.ref t), .val (.ref ls), .val (.int (1 : Int32))] [(.int (Int32.ofNat pz1)), (.ref b14), (.long sm0_), (.int (2 : Int32)), (.ref b160)])) rfl (by rw [hml]; rfl) (lenOf pd_6 rfl) rfl (by show 2 * 0 + _ ≤ _; exact Nat.le_of_eq rfl) (hb hby d6_95) (fun v277 T277 h277 L277 X277 e277 hQ277 => ?_)
  obtain ⟨rfl, Nq277, q277⟩ := hQ277
  have N277 := Fr.app N254 Nq277
  rw [q277] at e277
  show OwnWk _ _ _ _ (T277.setTop (mkF m 98 #[.val (.ref a), .val (.ref t), .val (.ref ls), .val (.int (1 : Int32))] [(.long (ks.getD pz1 0)), (.long sm0_), (.int (2 : Int32)), (.ref b160)]))
  refine own_go (fun tgt kst => XS.lxor X277.here hx rfl (hb hby d6_98) rfl kst) ?_
  show OwnWk _ _ _ _ (T277.setTop (mkF m 99 #[.val (.ref a), .val (.ref t), .val (.ref ls), .val (.int (1 : Int32))] [(.long (sm0_ ^^^ (ks.getD pz1 0))), (.int (2 : Int32)), (.ref b160)]))
  obtain ⟨sm1_, h_sm1_⟩ : ∃ z : Int64, z = (sm0_ ^^^ (ks.getD pz1 0)) := ⟨_, rfl⟩
  rw [← h_sm1_]
  refine own_stJ X277 hx hZ e277 F270 (g := (mkF m 99 #[.val (.ref a), .val (.ref t), .val (.ref ls), .val (.int (1 : Int32))] [(.long sm1_), (.int (2 : Int32)), (.ref b160)])) rfl rfl (hb hby d6_99) (by decide) (Nat.le_of_ble_eq_true rfl) (fun T278 h278 X278 e278 W278 V278 => ?_)
  have N278 := Fr.snoc X278 N277 ge168
  have F279 := Exa.wr W278 F255
  have F280 := Exa.wr W278 F256
  have F281 := Fld.other W278 F257 (Or.inl ne162)
  have F282 := OAr.other F258 W278 ne163
  have F283 := Exa.wr W278 F259
  have F284 := Fld.other W278 F260 (Or.inl ne161)
  have F285 := Exa.wr W278 F261
  have F286 := Fld.other W278 F262 (Or.inl ne164)
  have F287 := OAr.other F263 W278 ne165
  have F288 := Fld.other W278 F264 (Or.inl ne161)
  have F289 := OAr.other F265 W278 ne166
  have F290 := Exa.wr W278 F266
  have F291 := Fld.other W278 F267 (Or.inl ne161)
  have F292 := Fld.other W278 F268 (Or.inl ne161)
  have F293 := Fld.other W278 F269 (Or.inl ne161)
  have F294 := OAr.other V254b W278 ne167
  have Z295 := Nat.le_trans Z271 (Keep.of_wr W278).1
  have K296 := Keep.wr K272 W278 (Or.inr sz169)
  show OwnWk _ _ _ _ (T278.setTop (mkF m 100 #[.val (.ref a), .val (.ref t), .val (.ref ls), .val (.int (1 : Int32))] []))
  refine own_go (fun tgt kst => XS.iinc X278.here hx rfl (hb hby d6_100) rfl (l' := #[.val (.ref a), .val (.ref t), .val (.ref ls), .val (.int (2 : Int32))]) rfl kst) ?_
  show OwnWk _ _ _ _ (T278.setTop (mkF m 103 #[.val (.ref a), .val (.ref t), .val (.ref ls), .val (.int (2 : Int32))] []))
  refine own_go (fun tgt kst => XS.goto X278.here hx rfl (pc0 := 103) (pc' := 54) rfl (hb hby d6_103) (by decide) (by decide) kst) ?_
  show OwnWk _ _ _ _ (T278.setTop (mkF m 54 #[.val (.ref a), .val (.ref t), .val (.ref ls), .val (.int (2 : Int32))] []))
  refine own_go (fun tgt kst => XS.iloadN X278.here hx rfl (hb hby d6_54) rfl  kst) ?_
  show OwnWk _ _ _ _ (T278.setTop (mkF m 55 #[.val (.ref a), .val (.ref t), .val (.ref ls), .val (.int (2 : Int32))] [(.int (2 : Int32))]))
  refine own_go (fun tgt kst => XS.aloadN X278.here hx rfl (hb hby d6_55) rfl rfl  kst) ?_
  show OwnWk _ _ _ _ (T278.setTop (mkF m 56 #[.val (.ref a), .val (.ref t), .val (.ref ls), .val (.int (2 : Int32))] [(.ref t), (.int (2 : Int32))]))
  refine own_len X278 hx hZ e278 F282 (g := (mkF m 56 #[.val (.ref a), .val (.ref t), .val (.ref ls), .val (.int (2 : Int32))] [(.ref t), (.int (2 : Int32))])) rfl rfl (hb hby d6_56) (N := (5 : Int32)) rfl ?_
  show OwnWk _ _ _ _ (T278.setTop (mkF m 57 #[.val (.ref a), .val (.ref t), .val (.ref ls), .val (.int (2 : Int32))] [(.int (5 : Int32)), (.int (2 : Int32))]))
  refine own_go (fun tgt kst => XS.icmpNo X278.here hx rfl (hb hby d6_57) rfl (tlt (by decide : (2 : Int32) < (5 : Int32))).2.1 kst) ?_
  show OwnWk _ _ _ _ (T278.setTop (mkF m 60 #[.val (.ref a), .val (.ref t), .val (.ref ls), .val (.int (2 : Int32))] []))
  refine own_go (fun tgt kst => XS.aloadN X278.here hx rfl (hb hby d6_60) rfl rfl  kst) ?_
  show OwnWk _ _ _ _ (T278.setTop (mkF m 61 #[.val (.ref a), .val (.ref t), .val (.ref ls), .val (.int (2 : Int32))] [(.ref a)]))
  obtain ⟨T297, X297, e297, st297⟩ := getF X278 hx hZ hown (host := "") (Or.inl (hw _ (List.mem_of_getElem? (i := 105) rfl))) Via.refl e278 F292 (g := (mkF m 61 #[.val (.ref a), .val (.ref t), .val (.ref ls), .val (.int (2 : Int32))] [(.ref a)])) rfl rfl (hb hby d6_61)
  refine own_go st297 ?_
  show OwnWk _ _ _ _ (T297.setTop (mkF m 64 #[.val (.ref a), .val (.ref t), .val (.ref ls), .val (.int (2 : Int32))] [(.ref b116)]))
  refine own_go (fun tgt kst => XS.aloadN X297.here hx rfl (hb hby d6_64) rfl rfl  kst) ?_
  show OwnWk _ _ _ _ (T297.setTop (mkF m 65 #[.val (.ref a), .val (.ref t), .val (.ref ls), .val (.int (2 : Int32))] [(.ref a), (.ref b116)]))
  obtain ⟨T298, X298, e298, st298⟩ := getF X297 hx hZ hown (host := "") (Or.inl (hw _ (List.mem_of_getElem? (i := 103) rfl))) Via.refl e297 F291 (g := (mkF m 65 #[.val (.ref a), .val (.ref t), .val (.ref ls), .val (.int (2 : Int32))] [(.ref a), (.ref b116)])) rfl rfl (hb hby d6_65)
  refine own_go st298 ?_
  show OwnWk _ _ _ _ (T298.setTop (mkF m 68 #[.val (.ref a), .val (.ref t), .val (.ref ls), .val (.int (2 : Int32))] [(.ref b75), (.ref b116)]))
  refine own_go (fun tgt kst => XS.iloadN X298.here hx rfl (hb hby d6_68) rfl  kst) ?_
  show OwnWk _ _ _ _ (T298.setTop (mkF m 69 #[.val (.ref a), .val (.ref t), .val (.ref ls), .val (.int (2 : Int32))] [(.int (2 : Int32)), (.ref b75), (.ref b116)]))
  refine own_ldI X298 hx hZ e298 F289 (g := (mkF m 69 #[.val (.ref a), .val (.ref t), .val (.ref ls), .val (.int (2 : Int32))] [(.int (2 : Int32)), (.ref b75), (.ref b116)])) rfl rfl (hb hby d6_69) (v := (.int (Int32.ofNat pz2))) (by decide) rfl ?_
  show OwnWk _ _ _ _ (T298.setTop (mkF m 70 #[.val (.ref a), .val (.ref t), .val (.ref ls), .val (.int (2 : Int32))] [(.int (Int32.ofNat pz2)), (.ref b116)]))
  refine own_go (fun tgt kst => XS.iloadN X298.here hx rfl (hb hby d6_70) rfl  kst) ?_
  show OwnWk _ _ _ _ (T298.setTop (mkF m 71 #[.val (.ref a), .val (.ref t), .val (.ref ls), .val (.int (2 : Int32))] [(.int (2 : Int32)), (.int (Int32.ofNat pz2)), (.ref b116)]))
  refine own_stI X298 hx hZ e298 F294 (g := (mkF m 71 #[.val (.ref a), .val (.ref t), .val (.ref ls), .val (.int (2 : Int32))] [(.int (2 : Int32)), (.int (Int32.ofNat pz2)), (.ref b116)])) rfl rfl (hb hby d6_71) (own_i5 hpz2) (own_iv_in (NS := (([0, 0, 0, 0, 0].set pz0 0).set pz1 1)) (J := pz2) (by simp) hpz2) (fun T299 h299 X299 e299 W299 V299 => ?_)
  have V299b : OAr Z h299 b116 .int (own_iv ((([0, 0, 0, 0, 0].set pz0 0).set pz1 1).set pz2 2)) := by exact own_cast (own_iv_set (NS := (([0, 0, 0, 0, 0].set pz0 0).set pz1 1)) (J := pz2) (X := 2) hpz2) V299
  have N299 := Fr.snoc X299 N278 ge123
  have F300 := Exa.wr W299 F279
  have F301 := Exa.wr W299 F280
  have F302 := Fld.other W299 F281 (Or.inl ne118)
  have F303 := OAr.other F282 W299 ne119
  have F304 := Exa.wr W299 F283
  have F305 := Fld.other W299 F284 (Or.inl ne117)
  have F306 := Exa.wr W299 F285
  have F307 := Fld.other W299 F286 (Or.inl ne120)
  have F308 := OAr.other F287 W299 ne121
  have F309 := Fld.other W299 F288 (Or.inl ne117)
  have F310 := OAr.other F289 W299 ne122
  have F311 := Exa.wr W299 F290
  have F312 := Fld.other W299 F291 (Or.inl ne117)
  have F313 := Fld.other W299 F292 (Or.inl ne117)
  have F314 := Fld.other W299 F293 (Or.inl ne117)
  have F315 := OAr.other V278 W299 (Ne.symm ne167)
  have Z316 := Nat.le_trans Z295 (Keep.of_wr W299).1
  have K317 := Keep.wr K296 W299 (Or.inr sz124)
  show OwnWk _ _ _ _ (T299.setTop (mkF m 72 #[.val (.ref a), .val (.ref t), .val (.ref ls), .val (.int (2 : Int32))] []))
  refine own_go (fun tgt kst => XS.aloadN X299.here hx rfl (hb hby d6_72) rfl rfl  kst) ?_
  show OwnWk _ _ _ _ (T299.setTop (mkF m 73 #[.val (.ref a), .val (.ref t), .val (.ref ls), .val (.int (2 : Int32))] [(.ref a)]))
  obtain ⟨T318, X318, e318, st318⟩ := getF X299 hx hZ hown (host := "") (Or.inl (hw _ (List.mem_of_getElem? (i := 107) rfl))) Via.refl e299 F314 (g := (mkF m 73 #[.val (.ref a), .val (.ref t), .val (.ref ls), .val (.int (2 : Int32))] [(.ref a)])) rfl rfl (hb hby d6_73)
  refine own_go st318 ?_
  show OwnWk _ _ _ _ (T318.setTop (mkF m 76 #[.val (.ref a), .val (.ref t), .val (.ref ls), .val (.int (2 : Int32))] [(.ref b160)]))
  refine own_go (fun tgt kst => XS.iloadN X318.here hx rfl (hb hby d6_76) rfl  kst) ?_
  show OwnWk _ _ _ _ (T318.setTop (mkF m 77 #[.val (.ref a), .val (.ref t), .val (.ref ls), .val (.int (2 : Int32))] [(.int (2 : Int32)), (.ref b160)]))
  refine own_go (fun tgt kst => XS.iconst X318.here hx rfl (hb hby d6_77) kst) ?_
  show OwnWk _ _ _ _ (T318.setTop (mkF m 78 #[.val (.ref a), .val (.ref t), .val (.ref ls), .val (.int (2 : Int32))] [(.int (1 : Int32)), (.int (2 : Int32)), (.ref b160)]))
  refine own_go (fun tgt kst => XS.iadd X318.here hx rfl (hb hby d6_78) rfl kst) ?_
  show OwnWk _ _ _ _ (T318.setTop (mkF m 79 #[.val (.ref a), .val (.ref t), .val (.ref ls), .val (.int (2 : Int32))] [(.int (3 : Int32)), (.ref b160)]))
  refine own_go (fun tgt kst => XS.aloadN X318.here hx rfl (hb hby d6_79) rfl rfl  kst) ?_
  show OwnWk _ _ _ _ (T318.setTop (mkF m 80 #[.val (.ref a), .val (.ref t), .val (.ref ls), .val (.int (2 : Int32))] [(.ref a), (.int (3 : Int32)), (.ref b160)]))
  obtain ⟨T319, X319, e319, st319⟩ := getF X318 hx hZ hown (host := "") (Or.inl (hw _ (List.mem_of_getElem? (i := 107) rfl))) Via.refl e318 F314 (g := (mkF m 80 #[.val (.ref a), .val (.ref t), .val (.ref ls), .val (.int (2 : Int32))] [(.ref a), (.int (3 : Int32)), (.ref b160)])) rfl rfl (hb hby d6_80)
  refine own_go st319 ?_
  show OwnWk _ _ _ _ (T319.setTop (mkF m 83 #[.val (.ref a), .val (.ref t), .val (.ref ls), .val (.int (2 : Int32))] [(.ref b160), (.int (3 : Int32)), (.ref b160)]))
  refine own_go (fun tgt kst => XS.iloadN X319.here hx rfl (hb hby d6_83) rfl  kst) ?_
  show OwnWk _ _ _ _ (T319.setTop (mkF m 84 #[.val (.ref a), .val (.ref t), .val (.ref ls), .val (.int (2 : Int32))] [(.int (2 : Int32)), (.ref b160), (.int (3 : Int32)), (.ref b160)]))
  refine own_ldJ X319 hx hZ e319 F315 (g := (mkF m 84 #[.val (.ref a), .val (.ref t), .val (.ref ls), .val (.int (2 : Int32))] [(.int (2 : Int32)), (.ref b160), (.int (3 : Int32)), (.ref b160)])) rfl rfl (hb hby d6_84) (v := (.long sm1_)) (by decide) rfl ?_
  show OwnWk _ _ _ _ (T319.setTop (mkF m 85 #[.val (.ref a), .val (.ref t), .val (.ref ls), .val (.int (2 : Int32))] [(.long sm1_), (.int (3 : Int32)), (.ref b160)]))
  refine own_go (fun tgt kst => XS.aloadN X319.here hx rfl (hb hby d6_85) rfl rfl  kst) ?_
  show OwnWk _ _ _ _ (T319.setTop (mkF m 86 #[.val (.ref a), .val (.ref t), .val (.ref ls), .val (.int (2 : Int32))] [(.ref a), (.long sm1_), (.int (3 : Int32)), (.ref b160)]))
  obtain ⟨T320, X320, e320, st320⟩ := getF X319 hx hZ hown (host := "") (Or.inl (hw _ (List.mem_of_getElem? (i := 92) rfl))) Via.refl e319 F309 (g := (mkF m 86 #[.val (.ref a), .val (.ref t), .val (.ref ls), .val (.int (2 : Int32))] [(.ref a), (.long sm1_), (.int (3 : Int32)), (.ref b160)])) rfl rfl (hb hby d6_86)
  refine own_go st320 ?_
  show OwnWk _ _ _ _ (T320.setTop (mkF m 89 #[.val (.ref a), .val (.ref t), .val (.ref ls), .val (.int (2 : Int32))] [(.ref b14), (.long sm1_), (.int (3 : Int32)), (.ref b160)]))
  refine own_go (fun tgt kst => XS.aloadN X320.here hx rfl (hb hby d6_89) rfl rfl  kst) ?_
  show OwnWk _ _ _ _ (T320.setTop (mkF m 90 #[.val (.ref a), .val (.ref t), .val (.ref ls), .val (.int (2 : Int32))] [(.ref a), (.ref b14), (.long sm1_), (.int (3 : Int32)), (.ref b160)]))
  obtain ⟨T321, X321, e321, st321⟩ := getF X320 hx hZ hown (host := "") (Or.inl (hw _ (List.mem_of_getElem? (i := 103) rfl))) Via.refl e320 F312 (g := (mkF m 90 #[.val (.ref a), .val (.ref t), .val (.ref ls), .val (.int (2 : Int32))] [(.ref a), (.ref b14), (.long sm1_), (.int (3 : Int32)), (.ref b160)])) rfl rfl (hb hby d6_90)
  refine own_go st321 ?_
  show OwnWk _ _ _ _ (T321.setTop (mkF m 93 #[.val (.ref a), .val (.ref t), .val (.ref ls), .val (.int (2 : Int32))] [(.ref b75), (.ref b14), (.long sm1_), (.int (3 : Int32)), (.ref b160)]))
  refine own_go (fun tgt kst => XS.iloadN X321.here hx rfl (hb hby d6_93) rfl  kst) ?_
  show OwnWk _ _ _ _ (T321.setTop (mkF m 94 #[.val (.ref a), .val (.ref t), .val (.ref ls), .val (.int (2 : Int32))] [(.int (2 : Int32)), (.ref b75), (.ref b14), (.long sm1_), (.int (3 : Int32)), (.ref b160)]))
  refine own_ldI X321 hx hZ e321 F310 (g := (mkF m 94 #[.val (.ref a), .val (.ref t), .val (.ref ls), .val (.int (2 : Int32))] [(.int (2 : Int32)), (.ref b75), (.ref b14), (.long sm1_), (.int (3 : Int32)), (.ref b160)])) rfl rfl (hb hby d6_94) (v := (.int (Int32.ofNat pz2))) (by decide) rfl ?_
  show OwnWk _ _ _ _ (T321.setTop (mkF m 95 #[.val (.ref a), .val (.ref t), .val (.ref ls), .val (.int (2 : Int32))] [(.int (Int32.ofNat pz2)), (.ref b14), (.long sm1_), (.int (3 : Int32)), (.ref b160)]))
  refine own_callV X321 hx hZ (y := (⟨"com/example/encircle/encircle/layout/ZoneKeys", "key", "(I)J"⟩ : MethodName)) (z := (⟨"com/example/encircle/encircle/layout/ZoneKeys", "key", "(I)J"⟩ : MethodName)) hown (hw _ (List.mem_of_getElem? (i := 109) rfl)) (hw _ (List.mem_of_getElem? (i := 110) rfl)) (notFace_of_selects (args := #[]) (mvT hZ (hw _ (List.mem_of_getElem? (i := 112) rfl)))) (hw _ (List.mem_of_getElem? (i := 112) rfl)) (hw _ (List.mem_of_getElem? (i := 111) rfl)) (hw _ (List.mem_of_getElem? (i := 42) rfl)) (hw _ (List.mem_of_getElem? (i := 113) rfl)) (by decide) (a := b14) F306 (argsL := [(.int (Int32.ofNat pz2))]) (rest := [(.long sm1_), (.int (3 : Int32)), (.ref b160)]) (rm := ({ frames := 0, cells := 0, slots := 0, locals := 0 } : Room)) (h := h299) (rm13 l Z a0 hw b14 kk ks pz2 h299 n0 Z316 F307 F308 hk5 hpz2) e321 (W := 4) (by decide) (by decide) (by decide) (by decide) (g := (mkF m 95 #[.val (.ref a), .val (.ref t), .val (.ref ls), .val (.int (2 : Int32))] [(.int (Int32.ofNat pz2)), (.ref b14), (.long sm1_), (.int (3 : Int32)), (.ref b160)])) rfl (by rw [hml]; rfl) (lenOf pd_6 rfl) rfl (by show 2 * 0 + _ ≤ _; exact Nat.le_of_eq rfl) (hb hby d6_95) (fun v322 T322 h322 L322 X322 e322 hQ322 => ?_)
  obtain ⟨rfl, Nq322, q322⟩ := hQ322
  have N322 := Fr.app N299 Nq322
  rw [q322] at e322
  show OwnWk _ _ _ _ (T322.setTop (mkF m 98 #[.val (.ref a), .val (.ref t), .val (.ref ls), .val (.int (2 : Int32))] [(.long (ks.getD pz2 0)), (.long sm1_), (.int (3 : Int32)), (.ref b160)]))
  refine own_go (fun tgt kst => XS.lxor X322.here hx rfl (hb hby d6_98) rfl kst) ?_
  show OwnWk _ _ _ _ (T322.setTop (mkF m 99 #[.val (.ref a), .val (.ref t), .val (.ref ls), .val (.int (2 : Int32))] [(.long (sm1_ ^^^ (ks.getD pz2 0))), (.int (3 : Int32)), (.ref b160)]))
  obtain ⟨sm2_, h_sm2_⟩ : ∃ z : Int64, z = (sm1_ ^^^ (ks.getD pz2 0)) := ⟨_, rfl⟩
  rw [← h_sm2_]
  refine own_stJ X322 hx hZ e322 F315 (g := (mkF m 99 #[.val (.ref a), .val (.ref t), .val (.ref ls), .val (.int (2 : Int32))] [(.long sm2_), (.int (3 : Int32)), (.ref b160)])) rfl rfl (hb hby d6_99) (by decide) (Nat.le_of_ble_eq_true rfl) (fun T323 h323 X323 e323 W323 V323 => ?_)
  have N323 := Fr.snoc X323 N322 ge168
  have F324 := Exa.wr W323 F300
  have F325 := Exa.wr W323 F301
  have F326 := Fld.other W323 F302 (Or.inl ne162)
  have F327 := OAr.other F303 W323 ne163
  have F328 := Exa.wr W323 F304
  have F329 := Fld.other W323 F305 (Or.inl ne161)
  have F330 := Exa.wr W323 F306
  have F331 := Fld.other W323 F307 (Or.inl ne164)
  have F332 := OAr.other F308 W323 ne165
  have F333 := Fld.other W323 F309 (Or.inl ne161)
  have F334 := OAr.other F310 W323 ne166
  have F335 := Exa.wr W323 F311
  have F336 := Fld.other W323 F312 (Or.inl ne161)
  have F337 := Fld.other W323 F313 (Or.inl ne161)
  have F338 := Fld.other W323 F314 (Or.inl ne161)
  have F339 := OAr.other V299b W323 ne167
  have Z340 := Nat.le_trans Z316 (Keep.of_wr W323).1
  have K341 := Keep.wr K317 W323 (Or.inr sz169)
  show OwnWk _ _ _ _ (T323.setTop (mkF m 100 #[.val (.ref a), .val (.ref t), .val (.ref ls), .val (.int (2 : Int32))] []))
  refine own_go (fun tgt kst => XS.iinc X323.here hx rfl (hb hby d6_100) rfl (l' := #[.val (.ref a), .val (.ref t), .val (.ref ls), .val (.int (3 : Int32))]) rfl kst) ?_
  show OwnWk _ _ _ _ (T323.setTop (mkF m 103 #[.val (.ref a), .val (.ref t), .val (.ref ls), .val (.int (3 : Int32))] []))
  refine own_go (fun tgt kst => XS.goto X323.here hx rfl (pc0 := 103) (pc' := 54) rfl (hb hby d6_103) (by decide) (by decide) kst) ?_
  show OwnWk _ _ _ _ (T323.setTop (mkF m 54 #[.val (.ref a), .val (.ref t), .val (.ref ls), .val (.int (3 : Int32))] []))
  refine own_go (fun tgt kst => XS.iloadN X323.here hx rfl (hb hby d6_54) rfl  kst) ?_
  show OwnWk _ _ _ _ (T323.setTop (mkF m 55 #[.val (.ref a), .val (.ref t), .val (.ref ls), .val (.int (3 : Int32))] [(.int (3 : Int32))]))
  refine own_go (fun tgt kst => XS.aloadN X323.here hx rfl (hb hby d6_55) rfl rfl  kst) ?_
  show OwnWk _ _ _ _ (T323.setTop (mkF m 56 #[.val (.ref a), .val (.ref t), .val (.ref ls), .val (.int (3 : Int32))] [(.ref t), (.int (3 : Int32))]))
  refine own_len X323 hx hZ e323 F327 (g := (mkF m 56 #[.val (.ref a), .val (.ref t), .val (.ref ls), .val (.int (3 : Int32))] [(.ref t), (.int (3 : Int32))])) rfl rfl (hb hby d6_56) (N := (5 : Int32)) rfl ?_
  show OwnWk _ _ _ _ (T323.setTop (mkF m 57 #[.val (.ref a), .val (.ref t), .val (.ref ls), .val (.int (3 : Int32))] [(.int (5 : Int32)), (.int (3 : Int32))]))
  refine own_go (fun tgt kst => XS.icmpNo X323.here hx rfl (hb hby d6_57) rfl (tlt (by decide : (3 : Int32) < (5 : Int32))).2.1 kst) ?_
  show OwnWk _ _ _ _ (T323.setTop (mkF m 60 #[.val (.ref a), .val (.ref t), .val (.ref ls), .val (.int (3 : Int32))] []))
  refine own_go (fun tgt kst => XS.aloadN X323.here hx rfl (hb hby d6_60) rfl rfl  kst) ?_
  show OwnWk _ _ _ _ (T323.setTop (mkF m 61 #[.val (.ref a), .val (.ref t), .val (.ref ls), .val (.int (3 : Int32))] [(.ref a)]))
  obtain ⟨T342, X342, e342, st342⟩ := getF X323 hx hZ hown (host := "") (Or.inl (hw _ (List.mem_of_getElem? (i := 105) rfl))) Via.refl e323 F337 (g := (mkF m 61 #[.val (.ref a), .val (.ref t), .val (.ref ls), .val (.int (3 : Int32))] [(.ref a)])) rfl rfl (hb hby d6_61)
  refine own_go st342 ?_
  show OwnWk _ _ _ _ (T342.setTop (mkF m 64 #[.val (.ref a), .val (.ref t), .val (.ref ls), .val (.int (3 : Int32))] [(.ref b116)]))
  refine own_go (fun tgt kst => XS.aloadN X342.here hx rfl (hb hby d6_64) rfl rfl  kst) ?_
  show OwnWk _ _ _ _ (T342.setTop (mkF m 65 #[.val (.ref a), .val (.ref t), .val (.ref ls), .val (.int (3 : Int32))] [(.ref a), (.ref b116)]))
  obtain ⟨T343, X343, e343, st343⟩ := getF X342 hx hZ hown (host := "") (Or.inl (hw _ (List.mem_of_getElem? (i := 103) rfl))) Via.refl e342 F336 (g := (mkF m 65 #[.val (.ref a), .val (.ref t), .val (.ref ls), .val (.int (3 : Int32))] [(.ref a), (.ref b116)])) rfl rfl (hb hby d6_65)
  refine own_go st343 ?_
  show OwnWk _ _ _ _ (T343.setTop (mkF m 68 #[.val (.ref a), .val (.ref t), .val (.ref ls), .val (.int (3 : Int32))] [(.ref b75), (.ref b116)]))
  refine own_go (fun tgt kst => XS.iloadN X343.here hx rfl (hb hby d6_68) rfl  kst) ?_
  show OwnWk _ _ _ _ (T343.setTop (mkF m 69 #[.val (.ref a), .val (.ref t), .val (.ref ls), .val (.int (3 : Int32))] [(.int (3 : Int32)), (.ref b75), (.ref b116)]))
  refine own_ldI X343 hx hZ e343 F334 (g := (mkF m 69 #[.val (.ref a), .val (.ref t), .val (.ref ls), .val (.int (3 : Int32))] [(.int (3 : Int32)), (.ref b75), (.ref b116)])) rfl rfl (hb hby d6_69) (v := (.int (Int32.ofNat pz3))) (by decide) rfl ?_
  show OwnWk _ _ _ _ (T343.setTop (mkF m 70 #[.val (.ref a), .val (.ref t), .val (.ref ls), .val (.int (3 : Int32))] [(.int (Int32.ofNat pz3)), (.ref b116)]))
  refine own_go (fun tgt kst => XS.iloadN X343.here hx rfl (hb hby d6_70) rfl  kst) ?_
  show OwnWk _ _ _ _ (T343.setTop (mkF m 71 #[.val (.ref a), .val (.ref t), .val (.ref ls), .val (.int (3 : Int32))] [(.int (3 : Int32)), (.int (Int32.ofNat pz3)), (.ref b116)]))
  refine own_stI X343 hx hZ e343 F339 (g := (mkF m 71 #[.val (.ref a), .val (.ref t), .val (.ref ls), .val (.int (3 : Int32))] [(.int (3 : Int32)), (.int (Int32.ofNat pz3)), (.ref b116)])) rfl rfl (hb hby d6_71) (own_i5 hpz3) (own_iv_in (NS := ((([0, 0, 0, 0, 0].set pz0 0).set pz1 1).set pz2 2)) (J := pz3) (by simp) hpz3) (fun T344 h344 X344 e344 W344 V344 => ?_)
  have V344b : OAr Z h344 b116 .int (own_iv (((([0, 0, 0, 0, 0].set pz0 0).set pz1 1).set pz2 2).set pz3 3)) := by exact own_cast (own_iv_set (NS := ((([0, 0, 0, 0, 0].set pz0 0).set pz1 1).set pz2 2)) (J := pz3) (X := 3) hpz3) V344
  have N344 := Fr.snoc X344 N323 ge123
  have F345 := Exa.wr W344 F324
  have F346 := Exa.wr W344 F325
  have F347 := Fld.other W344 F326 (Or.inl ne118)
  have F348 := OAr.other F327 W344 ne119
  have F349 := Exa.wr W344 F328
  have F350 := Fld.other W344 F329 (Or.inl ne117)
  have F351 := Exa.wr W344 F330
  have F352 := Fld.other W344 F331 (Or.inl ne120)
  have F353 := OAr.other F332 W344 ne121
  have F354 := Fld.other W344 F333 (Or.inl ne117)
  have F355 := OAr.other F334 W344 ne122
  have F356 := Exa.wr W344 F335
  have F357 := Fld.other W344 F336 (Or.inl ne117)
  have F358 := Fld.other W344 F337 (Or.inl ne117)
  have F359 := Fld.other W344 F338 (Or.inl ne117)
  have F360 := OAr.other V323 W344 (Ne.symm ne167)
  have Z361 := Nat.le_trans Z340 (Keep.of_wr W344).1
  have K362 := Keep.wr K341 W344 (Or.inr sz124)
  show OwnWk _ _ _ _ (T344.setTop (mkF m 72 #[.val (.ref a), .val (.ref t), .val (.ref ls), .val (.int (3 : Int32))] []))
  refine own_go (fun tgt kst => XS.aloadN X344.here hx rfl (hb hby d6_72) rfl rfl  kst) ?_
  show OwnWk _ _ _ _ (T344.setTop (mkF m 73 #[.val (.ref a), .val (.ref t), .val (.ref ls), .val (.int (3 : Int32))] [(.ref a)]))
  obtain ⟨T363, X363, e363, st363⟩ := getF X344 hx hZ hown (host := "") (Or.inl (hw _ (List.mem_of_getElem? (i := 107) rfl))) Via.refl e344 F359 (g := (mkF m 73 #[.val (.ref a), .val (.ref t), .val (.ref ls), .val (.int (3 : Int32))] [(.ref a)])) rfl rfl (hb hby d6_73)
  refine own_go st363 ?_
  show OwnWk _ _ _ _ (T363.setTop (mkF m 76 #[.val (.ref a), .val (.ref t), .val (.ref ls), .val (.int (3 : Int32))] [(.ref b160)]))
  refine own_go (fun tgt kst => XS.iloadN X363.here hx rfl (hb hby d6_76) rfl  kst) ?_
  show OwnWk _ _ _ _ (T363.setTop (mkF m 77 #[.val (.ref a), .val (.ref t), .val (.ref ls), .val (.int (3 : Int32))] [(.int (3 : Int32)), (.ref b160)]))
  refine own_go (fun tgt kst => XS.iconst X363.here hx rfl (hb hby d6_77) kst) ?_
  show OwnWk _ _ _ _ (T363.setTop (mkF m 78 #[.val (.ref a), .val (.ref t), .val (.ref ls), .val (.int (3 : Int32))] [(.int (1 : Int32)), (.int (3 : Int32)), (.ref b160)]))
  refine own_go (fun tgt kst => XS.iadd X363.here hx rfl (hb hby d6_78) rfl kst) ?_
  show OwnWk _ _ _ _ (T363.setTop (mkF m 79 #[.val (.ref a), .val (.ref t), .val (.ref ls), .val (.int (3 : Int32))] [(.int (4 : Int32)), (.ref b160)]))
  refine own_go (fun tgt kst => XS.aloadN X363.here hx rfl (hb hby d6_79) rfl rfl  kst) ?_
  show OwnWk _ _ _ _ (T363.setTop (mkF m 80 #[.val (.ref a), .val (.ref t), .val (.ref ls), .val (.int (3 : Int32))] [(.ref a), (.int (4 : Int32)), (.ref b160)]))
  obtain ⟨T364, X364, e364, st364⟩ := getF X363 hx hZ hown (host := "") (Or.inl (hw _ (List.mem_of_getElem? (i := 107) rfl))) Via.refl e363 F359 (g := (mkF m 80 #[.val (.ref a), .val (.ref t), .val (.ref ls), .val (.int (3 : Int32))] [(.ref a), (.int (4 : Int32)), (.ref b160)])) rfl rfl (hb hby d6_80)
  refine own_go st364 ?_
  show OwnWk _ _ _ _ (T364.setTop (mkF m 83 #[.val (.ref a), .val (.ref t), .val (.ref ls), .val (.int (3 : Int32))] [(.ref b160), (.int (4 : Int32)), (.ref b160)]))
  refine own_go (fun tgt kst => XS.iloadN X364.here hx rfl (hb hby d6_83) rfl  kst) ?_
  show OwnWk _ _ _ _ (T364.setTop (mkF m 84 #[.val (.ref a), .val (.ref t), .val (.ref ls), .val (.int (3 : Int32))] [(.int (3 : Int32)), (.ref b160), (.int (4 : Int32)), (.ref b160)]))
  refine own_ldJ X364 hx hZ e364 F360 (g := (mkF m 84 #[.val (.ref a), .val (.ref t), .val (.ref ls), .val (.int (3 : Int32))] [(.int (3 : Int32)), (.ref b160), (.int (4 : Int32)), (.ref b160)])) rfl rfl (hb hby d6_84) (v := (.long sm2_)) (by decide) rfl ?_
  show OwnWk _ _ _ _ (T364.setTop (mkF m 85 #[.val (.ref a), .val (.ref t), .val (.ref ls), .val (.int (3 : Int32))] [(.long sm2_), (.int (4 : Int32)), (.ref b160)]))
  refine own_go (fun tgt kst => XS.aloadN X364.here hx rfl (hb hby d6_85) rfl rfl  kst) ?_
  show OwnWk _ _ _ _ (T364.setTop (mkF m 86 #[.val (.ref a), .val (.ref t), .val (.ref ls), .val (.int (3 : Int32))] [(.ref a), (.long sm2_), (.int (4 : Int32)), (.ref b160)]))
  obtain ⟨T365, X365, e365, st365⟩ := getF X364 hx hZ hown (host := "") (Or.inl (hw _ (List.mem_of_getElem? (i := 92) rfl))) Via.refl e364 F354 (g := (mkF m 86 #[.val (.ref a), .val (.ref t), .val (.ref ls), .val (.int (3 : Int32))] [(.ref a), (.long sm2_), (.int (4 : Int32)), (.ref b160)])) rfl rfl (hb hby d6_86)
  refine own_go st365 ?_
  show OwnWk _ _ _ _ (T365.setTop (mkF m 89 #[.val (.ref a), .val (.ref t), .val (.ref ls), .val (.int (3 : Int32))] [(.ref b14), (.long sm2_), (.int (4 : Int32)), (.ref b160)]))
  refine own_go (fun tgt kst => XS.aloadN X365.here hx rfl (hb hby d6_89) rfl rfl  kst) ?_
  show OwnWk _ _ _ _ (T365.setTop (mkF m 90 #[.val (.ref a), .val (.ref t), .val (.ref ls), .val (.int (3 : Int32))] [(.ref a), (.ref b14), (.long sm2_), (.int (4 : Int32)), (.ref b160)]))
  obtain ⟨T366, X366, e366, st366⟩ := getF X365 hx hZ hown (host := "") (Or.inl (hw _ (List.mem_of_getElem? (i := 103) rfl))) Via.refl e365 F357 (g := (mkF m 90 #[.val (.ref a), .val (.ref t), .val (.ref ls), .val (.int (3 : Int32))] [(.ref a), (.ref b14), (.long sm2_), (.int (4 : Int32)), (.ref b160)])) rfl rfl (hb hby d6_90)
  refine own_go st366 ?_
  show OwnWk _ _ _ _ (T366.setTop (mkF m 93 #[.val (.ref a), .val (.ref t), .val (.ref ls), .val (.int (3 : Int32))] [(.ref b75), (.ref b14), (.long sm2_), (.int (4 : Int32)), (.ref b160)]))
  refine own_go (fun tgt kst => XS.iloadN X366.here hx rfl (hb hby d6_93) rfl  kst) ?_
  show OwnWk _ _ _ _ (T366.setTop (mkF m 94 #[.val (.ref a), .val (.ref t), .val (.ref ls), .val (.int (3 : Int32))] [(.int (3 : Int32)), (.ref b75), (.ref b14), (.long sm2_), (.int (4 : Int32)), (.ref b160)]))
  refine own_ldI X366 hx hZ e366 F355 (g := (mkF m 94 #[.val (.ref a), .val (.ref t), .val (.ref ls), .val (.int (3 : Int32))] [(.int (3 : Int32)), (.ref b75), (.ref b14), (.long sm2_), (.int (4 : Int32)), (.ref b160)])) rfl rfl (hb hby d6_94) (v := (.int (Int32.ofNat pz3))) (by decide) rfl ?_
  show OwnWk _ _ _ _ (T366.setTop (mkF m 95 #[.val (.ref a), .val (.ref t), .val (.ref ls), .val (.int (3 : Int32))] [(.int (Int32.ofNat pz3)), (.ref b14), (.long sm2_), (.int (4 : Int32)), (.ref b160)]))
  refine own_callV X366 hx hZ (y := (⟨"com/example/encircle/encircle/layout/ZoneKeys", "key", "(I)J"⟩ : MethodName)) (z := (⟨"com/example/encircle/encircle/layout/ZoneKeys", "key", "(I)J"⟩ : MethodName)) hown (hw _ (List.mem_of_getElem? (i := 109) rfl)) (hw _ (List.mem_of_getElem? (i := 110) rfl)) (notFace_of_selects (args := #[]) (mvT hZ (hw _ (List.mem_of_getElem? (i := 112) rfl)))) (hw _ (List.mem_of_getElem? (i := 112) rfl)) (hw _ (List.mem_of_getElem? (i := 111) rfl)) (hw _ (List.mem_of_getElem? (i := 42) rfl)) (hw _ (List.mem_of_getElem? (i := 113) rfl)) (by decide) (a := b14) F351 (argsL := [(.int (Int32.ofNat pz3))]) (rest := [(.long sm2_), (.int (4 : Int32)), (.ref b160)]) (rm := ({ frames := 0, cells := 0, slots := 0, locals := 0 } : Room)) (h := h344) (rm13 l Z a0 hw b14 kk ks pz3 h344 n0 Z361 F352 F353 hk5 hpz3) e366 (W := 4) (by decide) (by decide) (by decide) (by decide) (g := (mkF m 95 #[.val (.ref a), .val (.ref t), .val (.ref ls), .val (.int (3 : Int32))] [(.int (Int32.ofNat pz3)), (.ref b14), (.long sm2_), (.int (4 : Int32)), (.ref b160)])) rfl (by rw [hml]; rfl) (lenOf pd_6 rfl) rfl (by show 2 * 0 + _ ≤ _; exact Nat.le_of_eq rfl) (hb hby d6_95) (fun v367 T367 h367 L367 X367 e367 hQ367 => ?_)
  obtain ⟨rfl, Nq367, q367⟩ := hQ367
  have N367 := Fr.app N344 Nq367
  rw [q367] at e367
  show OwnWk _ _ _ _ (T367.setTop (mkF m 98 #[.val (.ref a), .val (.ref t), .val (.ref ls), .val (.int (3 : Int32))] [(.long (ks.getD pz3 0)), (.long sm2_), (.int (4 : Int32)), (.ref b160)]))
  refine own_go (fun tgt kst => XS.lxor X367.here hx rfl (hb hby d6_98) rfl kst) ?_
  show OwnWk _ _ _ _ (T367.setTop (mkF m 99 #[.val (.ref a), .val (.ref t), .val (.ref ls), .val (.int (3 : Int32))] [(.long (sm2_ ^^^ (ks.getD pz3 0))), (.int (4 : Int32)), (.ref b160)]))
  obtain ⟨sm3_, h_sm3_⟩ : ∃ z : Int64, z = (sm2_ ^^^ (ks.getD pz3 0)) := ⟨_, rfl⟩
  rw [← h_sm3_]
  refine own_stJ X367 hx hZ e367 F360 (g := (mkF m 99 #[.val (.ref a), .val (.ref t), .val (.ref ls), .val (.int (3 : Int32))] [(.long sm3_), (.int (4 : Int32)), (.ref b160)])) rfl rfl (hb hby d6_99) (by decide) (Nat.le_of_ble_eq_true rfl) (fun T368 h368 X368 e368 W368 V368 => ?_)
  have N368 := Fr.snoc X368 N367 ge168
  have F369 := Exa.wr W368 F345
  have F370 := Exa.wr W368 F346
  have F371 := Fld.other W368 F347 (Or.inl ne162)
  have F372 := OAr.other F348 W368 ne163
  have F373 := Exa.wr W368 F349
  have F374 := Fld.other W368 F350 (Or.inl ne161)
  have F375 := Exa.wr W368 F351
  have F376 := Fld.other W368 F352 (Or.inl ne164)
  have F377 := OAr.other F353 W368 ne165
  have F378 := Fld.other W368 F354 (Or.inl ne161)
  have F379 := OAr.other F355 W368 ne166
  have F380 := Exa.wr W368 F356
  have F381 := Fld.other W368 F357 (Or.inl ne161)
  have F382 := Fld.other W368 F358 (Or.inl ne161)
  have F383 := Fld.other W368 F359 (Or.inl ne161)
  have F384 := OAr.other V344b W368 ne167
  have Z385 := Nat.le_trans Z361 (Keep.of_wr W368).1
  have K386 := Keep.wr K362 W368 (Or.inr sz169)
  show OwnWk _ _ _ _ (T368.setTop (mkF m 100 #[.val (.ref a), .val (.ref t), .val (.ref ls), .val (.int (3 : Int32))] []))
  refine own_go (fun tgt kst => XS.iinc X368.here hx rfl (hb hby d6_100) rfl (l' := #[.val (.ref a), .val (.ref t), .val (.ref ls), .val (.int (4 : Int32))]) rfl kst) ?_
  show OwnWk _ _ _ _ (T368.setTop (mkF m 103 #[.val (.ref a), .val (.ref t), .val (.ref ls), .val (.int (4 : Int32))] []))
  refine own_go (fun tgt kst => XS.goto X368.here hx rfl (pc0 := 103) (pc' := 54) rfl (hb hby d6_103) (by decide) (by decide) kst) ?_
  show OwnWk _ _ _ _ (T368.setTop (mkF m 54 #[.val (.ref a), .val (.ref t), .val (.ref ls), .val (.int (4 : Int32))] []))
  refine own_go (fun tgt kst => XS.iloadN X368.here hx rfl (hb hby d6_54) rfl  kst) ?_
  show OwnWk _ _ _ _ (T368.setTop (mkF m 55 #[.val (.ref a), .val (.ref t), .val (.ref ls), .val (.int (4 : Int32))] [(.int (4 : Int32))]))
  refine own_go (fun tgt kst => XS.aloadN X368.here hx rfl (hb hby d6_55) rfl rfl  kst) ?_
  show OwnWk _ _ _ _ (T368.setTop (mkF m 56 #[.val (.ref a), .val (.ref t), .val (.ref ls), .val (.int (4 : Int32))] [(.ref t), (.int (4 : Int32))]))
  refine own_len X368 hx hZ e368 F372 (g := (mkF m 56 #[.val (.ref a), .val (.ref t), .val (.ref ls), .val (.int (4 : Int32))] [(.ref t), (.int (4 : Int32))])) rfl rfl (hb hby d6_56) (N := (5 : Int32)) rfl ?_
  show OwnWk _ _ _ _ (T368.setTop (mkF m 57 #[.val (.ref a), .val (.ref t), .val (.ref ls), .val (.int (4 : Int32))] [(.int (5 : Int32)), (.int (4 : Int32))]))
  refine own_go (fun tgt kst => XS.icmpNo X368.here hx rfl (hb hby d6_57) rfl (tlt (by decide : (4 : Int32) < (5 : Int32))).2.1 kst) ?_
  show OwnWk _ _ _ _ (T368.setTop (mkF m 60 #[.val (.ref a), .val (.ref t), .val (.ref ls), .val (.int (4 : Int32))] []))
  refine own_go (fun tgt kst => XS.aloadN X368.here hx rfl (hb hby d6_60) rfl rfl  kst) ?_
  show OwnWk _ _ _ _ (T368.setTop (mkF m 61 #[.val (.ref a), .val (.ref t), .val (.ref ls), .val (.int (4 : Int32))] [(.ref a)]))
  obtain ⟨T387, X387, e387, st387⟩ := getF X368 hx hZ hown (host := "") (Or.inl (hw _ (List.mem_of_getElem? (i := 105) rfl))) Via.refl e368 F382 (g := (mkF m 61 #[.val (.ref a), .val (.ref t), .val (.ref ls), .val (.int (4 : Int32))] [(.ref a)])) rfl rfl (hb hby d6_61)
  refine own_go st387 ?_
  show OwnWk _ _ _ _ (T387.setTop (mkF m 64 #[.val (.ref a), .val (.ref t), .val (.ref ls), .val (.int (4 : Int32))] [(.ref b116)]))
  refine own_go (fun tgt kst => XS.aloadN X387.here hx rfl (hb hby d6_64) rfl rfl  kst) ?_
  show OwnWk _ _ _ _ (T387.setTop (mkF m 65 #[.val (.ref a), .val (.ref t), .val (.ref ls), .val (.int (4 : Int32))] [(.ref a), (.ref b116)]))
  obtain ⟨T388, X388, e388, st388⟩ := getF X387 hx hZ hown (host := "") (Or.inl (hw _ (List.mem_of_getElem? (i := 103) rfl))) Via.refl e387 F381 (g := (mkF m 65 #[.val (.ref a), .val (.ref t), .val (.ref ls), .val (.int (4 : Int32))] [(.ref a), (.ref b116)])) rfl rfl (hb hby d6_65)
  refine own_go st388 ?_
  show OwnWk _ _ _ _ (T388.setTop (mkF m 68 #[.val (.ref a), .val (.ref t), .val (.ref ls), .val (.int (4 : Int32))] [(.ref b75), (.ref b116)]))
  refine own_go (fun tgt kst => XS.iloadN X388.here hx rfl (hb hby d6_68) rfl  kst) ?_
  show OwnWk _ _ _ _ (T388.setTop (mkF m 69 #[.val (.ref a), .val (.ref t), .val (.ref ls), .val (.int (4 : Int32))] [(.int (4 : Int32)), (.ref b75), (.ref b116)]))
  refine own_ldI X388 hx hZ e388 F379 (g := (mkF m 69 #[.val (.ref a), .val (.ref t), .val (.ref ls), .val (.int (4 : Int32))] [(.int (4 : Int32)), (.ref b75), (.ref b116)])) rfl rfl (hb hby d6_69) (v := (.int (Int32.ofNat pz4))) (by decide) rfl ?_
  show OwnWk _ _ _ _ (T388.setTop (mkF m 70 #[.val (.ref a), .val (.ref t), .val (.ref ls), .val (.int (4 : Int32))] [(.int (Int32.ofNat pz4)), (.ref b116)]))
  refine own_go (fun tgt kst => XS.iloadN X388.here hx rfl (hb hby d6_70) rfl  kst) ?_
  show OwnWk _ _ _ _ (T388.setTop (mkF m 71 #[.val (.ref a), .val (.ref t), .val (.ref ls), .val (.int (4 : Int32))] [(.int (4 : Int32)), (.int (Int32.ofNat pz4)), (.ref b116)]))
  refine own_stI X388 hx hZ e388 F384 (g := (mkF m 71 #[.val (.ref a), .val (.ref t), .val (.ref ls), .val (.int (4 : Int32))] [(.int (4 : Int32)), (.int (Int32.ofNat pz4)), (.ref b116)])) rfl rfl (hb hby d6_71) (own_i5 hpz4) (own_iv_in (NS := (((([0, 0, 0, 0, 0].set pz0 0).set pz1 1).set pz2 2).set pz3 3)) (J := pz4) (by simp) hpz4) (fun T389 h389 X389 e389 W389 V389 => ?_)
  have V389b : OAr Z h389 b116 .int (own_iv ((((([0, 0, 0, 0, 0].set pz0 0).set pz1 1).set pz2 2).set pz3 3).set pz4 4)) := by exact own_cast (own_iv_set (NS := (((([0, 0, 0, 0, 0].set pz0 0).set pz1 1).set pz2 2).set pz3 3)) (J := pz4) (X := 4) hpz4) V389
  have N389 := Fr.snoc X389 N368 ge123
  have F390 := Exa.wr W389 F369
  have F391 := Exa.wr W389 F370
  have F392 := Fld.other W389 F371 (Or.inl ne118)
  have F393 := OAr.other F372 W389 ne119
  have F394 := Exa.wr W389 F373
  have F395 := Fld.other W389 F374 (Or.inl ne117)
  have F396 := Exa.wr W389 F375
  have F397 := Fld.other W389 F376 (Or.inl ne120)
  have F398 := OAr.other F377 W389 ne121
  have F399 := Fld.other W389 F378 (Or.inl ne117)
  have F400 := OAr.other F379 W389 ne122
  have F401 := Exa.wr W389 F380
  have F402 := Fld.other W389 F381 (Or.inl ne117)
  have F403 := Fld.other W389 F382 (Or.inl ne117)
  have F404 := Fld.other W389 F383 (Or.inl ne117)
  have F405 := OAr.other V368 W389 (Ne.symm ne167)
  have Z406 := Nat.le_trans Z385 (Keep.of_wr W389).1
  have K407 := Keep.wr K386 W389 (Or.inr sz124)
  show OwnWk _ _ _ _ (T389.setTop (mkF m 72 #[.val (.ref a), .val (.ref t), .val (.ref ls), .val (.int (4 : Int32))] []))
  refine own_go (fun tgt kst => XS.aloadN X389.here hx rfl (hb hby d6_72) rfl rfl  kst) ?_
  show OwnWk _ _ _ _ (T389.setTop (mkF m 73 #[.val (.ref a), .val (.ref t), .val (.ref ls), .val (.int (4 : Int32))] [(.ref a)]))
  obtain ⟨T408, X408, e408, st408⟩ := getF X389 hx hZ hown (host := "") (Or.inl (hw _ (List.mem_of_getElem? (i := 107) rfl))) Via.refl e389 F404 (g := (mkF m 73 #[.val (.ref a), .val (.ref t), .val (.ref ls), .val (.int (4 : Int32))] [(.ref a)])) rfl rfl (hb hby d6_73)
  refine own_go st408 ?_
  show OwnWk _ _ _ _ (T408.setTop (mkF m 76 #[.val (.ref a), .val (.ref t), .val (.ref ls), .val (.int (4 : Int32))] [(.ref b160)]))
  refine own_go (fun tgt kst => XS.iloadN X408.here hx rfl (hb hby d6_76) rfl  kst) ?_
  show OwnWk _ _ _ _ (T408.setTop (mkF m 77 #[.val (.ref a), .val (.ref t), .val (.ref ls), .val (.int (4 : Int32))] [(.int (4 : Int32)), (.ref b160)]))
  refine own_go (fun tgt kst => XS.iconst X408.here hx rfl (hb hby d6_77) kst) ?_
  show OwnWk _ _ _ _ (T408.setTop (mkF m 78 #[.val (.ref a), .val (.ref t), .val (.ref ls), .val (.int (4 : Int32))] [(.int (1 : Int32)), (.int (4 : Int32)), (.ref b160)]))
  refine own_go (fun tgt kst => XS.iadd X408.here hx rfl (hb hby d6_78) rfl kst) ?_
  show OwnWk _ _ _ _ (T408.setTop (mkF m 79 #[.val (.ref a), .val (.ref t), .val (.ref ls), .val (.int (4 : Int32))] [(.int (5 : Int32)), (.ref b160)]))
  refine own_go (fun tgt kst => XS.aloadN X408.here hx rfl (hb hby d6_79) rfl rfl  kst) ?_
  show OwnWk _ _ _ _ (T408.setTop (mkF m 80 #[.val (.ref a), .val (.ref t), .val (.ref ls), .val (.int (4 : Int32))] [(.ref a), (.int (5 : Int32)), (.ref b160)]))
  obtain ⟨T409, X409, e409, st409⟩ := getF X408 hx hZ hown (host := "") (Or.inl (hw _ (List.mem_of_getElem? (i := 107) rfl))) Via.refl e408 F404 (g := (mkF m 80 #[.val (.ref a), .val (.ref t), .val (.ref ls), .val (.int (4 : Int32))] [(.ref a), (.int (5 : Int32)), (.ref b160)])) rfl rfl (hb hby d6_80)
  refine own_go st409 ?_
  show OwnWk _ _ _ _ (T409.setTop (mkF m 83 #[.val (.ref a), .val (.ref t), .val (.ref ls), .val (.int (4 : Int32))] [(.ref b160), (.int (5 : Int32)), (.ref b160)]))
  refine own_go (fun tgt kst => XS.iloadN X409.here hx rfl (hb hby d6_83) rfl  kst) ?_
  show OwnWk _ _ _ _ (T409.setTop (mkF m 84 #[.val (.ref a), .val (.ref t), .val (.ref ls), .val (.int (4 : Int32))] [(.int (4 : Int32)), (.ref b160), (.int (5 : Int32)), (.ref b160)]))
  refine own_ldJ X409 hx hZ e409 F405 (g := (mkF m 84 #[.val (.ref a), .val (.ref t), .val (.ref ls), .val (.int (4 : Int32))] [(.int (4 : Int32)), (.ref b160), (.int (5 : Int32)), (.ref b160)])) rfl rfl (hb hby d6_84) (v := (.long sm3_)) (by decide) rfl ?_
  show OwnWk _ _ _ _ (T409.setTop (mkF m 85 #[.val (.ref a), .val (.ref t), .val (.ref ls), .val (.int (4 : Int32))] [(.long sm3_), (.int (5 : Int32)), (.ref b160)]))
  refine own_go (fun tgt kst => XS.aloadN X409.here hx rfl (hb hby d6_85) rfl rfl  kst) ?_
  show OwnWk _ _ _ _ (T409.setTop (mkF m 86 #[.val (.ref a), .val (.ref t), .val (.ref ls), .val (.int (4 : Int32))] [(.ref a), (.long sm3_), (.int (5 : Int32)), (.ref b160)]))
  obtain ⟨T410, X410, e410, st410⟩ := getF X409 hx hZ hown (host := "") (Or.inl (hw _ (List.mem_of_getElem? (i := 92) rfl))) Via.refl e409 F399 (g := (mkF m 86 #[.val (.ref a), .val (.ref t), .val (.ref ls), .val (.int (4 : Int32))] [(.ref a), (.long sm3_), (.int (5 : Int32)), (.ref b160)])) rfl rfl (hb hby d6_86)
  refine own_go st410 ?_
  show OwnWk _ _ _ _ (T410.setTop (mkF m 89 #[.val (.ref a), .val (.ref t), .val (.ref ls), .val (.int (4 : Int32))] [(.ref b14), (.long sm3_), (.int (5 : Int32)), (.ref b160)]))
  refine own_go (fun tgt kst => XS.aloadN X410.here hx rfl (hb hby d6_89) rfl rfl  kst) ?_
  show OwnWk _ _ _ _ (T410.setTop (mkF m 90 #[.val (.ref a), .val (.ref t), .val (.ref ls), .val (.int (4 : Int32))] [(.ref a), (.ref b14), (.long sm3_), (.int (5 : Int32)), (.ref b160)]))
  obtain ⟨T411, X411, e411, st411⟩ := getF X410 hx hZ hown (host := "") (Or.inl (hw _ (List.mem_of_getElem? (i := 103) rfl))) Via.refl e410 F402 (g := (mkF m 90 #[.val (.ref a), .val (.ref t), .val (.ref ls), .val (.int (4 : Int32))] [(.ref a), (.ref b14), (.long sm3_), (.int (5 : Int32)), (.ref b160)])) rfl rfl (hb hby d6_90)
  refine own_go st411 ?_
  show OwnWk _ _ _ _ (T411.setTop (mkF m 93 #[.val (.ref a), .val (.ref t), .val (.ref ls), .val (.int (4 : Int32))] [(.ref b75), (.ref b14), (.long sm3_), (.int (5 : Int32)), (.ref b160)]))
  refine own_go (fun tgt kst => XS.iloadN X411.here hx rfl (hb hby d6_93) rfl  kst) ?_
  show OwnWk _ _ _ _ (T411.setTop (mkF m 94 #[.val (.ref a), .val (.ref t), .val (.ref ls), .val (.int (4 : Int32))] [(.int (4 : Int32)), (.ref b75), (.ref b14), (.long sm3_), (.int (5 : Int32)), (.ref b160)]))
  refine own_ldI X411 hx hZ e411 F400 (g := (mkF m 94 #[.val (.ref a), .val (.ref t), .val (.ref ls), .val (.int (4 : Int32))] [(.int (4 : Int32)), (.ref b75), (.ref b14), (.long sm3_), (.int (5 : Int32)), (.ref b160)])) rfl rfl (hb hby d6_94) (v := (.int (Int32.ofNat pz4))) (by decide) rfl ?_
  show OwnWk _ _ _ _ (T411.setTop (mkF m 95 #[.val (.ref a), .val (.ref t), .val (.ref ls), .val (.int (4 : Int32))] [(.int (Int32.ofNat pz4)), (.ref b14), (.long sm3_), (.int (5 : Int32)), (.ref b160)]))
  refine own_callV X411 hx hZ (y := (⟨"com/example/encircle/encircle/layout/ZoneKeys", "key", "(I)J"⟩ : MethodName)) (z := (⟨"com/example/encircle/encircle/layout/ZoneKeys", "key", "(I)J"⟩ : MethodName)) hown (hw _ (List.mem_of_getElem? (i := 109) rfl)) (hw _ (List.mem_of_getElem? (i := 110) rfl)) (notFace_of_selects (args := #[]) (mvT hZ (hw _ (List.mem_of_getElem? (i := 112) rfl)))) (hw _ (List.mem_of_getElem? (i := 112) rfl)) (hw _ (List.mem_of_getElem? (i := 111) rfl)) (hw _ (List.mem_of_getElem? (i := 42) rfl)) (hw _ (List.mem_of_getElem? (i := 113) rfl)) (by decide) (a := b14) F396 (argsL := [(.int (Int32.ofNat pz4))]) (rest := [(.long sm3_), (.int (5 : Int32)), (.ref b160)]) (rm := ({ frames := 0, cells := 0, slots := 0, locals := 0 } : Room)) (h := h389) (rm13 l Z a0 hw b14 kk ks pz4 h389 n0 Z406 F397 F398 hk5 hpz4) e411 (W := 4) (by decide) (by decide) (by decide) (by decide) (g := (mkF m 95 #[.val (.ref a), .val (.ref t), .val (.ref ls), .val (.int (4 : Int32))] [(.int (Int32.ofNat pz4)), (.ref b14), (.long sm3_), (.int (5 : Int32)), (.ref b160)])) rfl (by rw [hml]; rfl) (lenOf pd_6 rfl) rfl (by show 2 * 0 + _ ≤ _; exact Nat.le_of_eq rfl) (hb hby d6_95) (fun v412 T412 h412 L412 X412 e412 hQ412 => ?_)
  obtain ⟨rfl, Nq412, q412⟩ := hQ412
  have N412 := Fr.app N389 Nq412
  rw [q412] at e412
  show OwnWk _ _ _ _ (T412.setTop (mkF m 98 #[.val (.ref a), .val (.ref t), .val (.ref ls), .val (.int (4 : Int32))] [(.long (ks.getD pz4 0)), (.long sm3_), (.int (5 : Int32)), (.ref b160)]))
  refine own_go (fun tgt kst => XS.lxor X412.here hx rfl (hb hby d6_98) rfl kst) ?_
  show OwnWk _ _ _ _ (T412.setTop (mkF m 99 #[.val (.ref a), .val (.ref t), .val (.ref ls), .val (.int (4 : Int32))] [(.long (sm3_ ^^^ (ks.getD pz4 0))), (.int (5 : Int32)), (.ref b160)]))
  obtain ⟨sm4_, h_sm4_⟩ : ∃ z : Int64, z = (sm3_ ^^^ (ks.getD pz4 0)) := ⟨_, rfl⟩
  rw [← h_sm4_]
  refine own_stJ X412 hx hZ e412 F405 (g := (mkF m 99 #[.val (.ref a), .val (.ref t), .val (.ref ls), .val (.int (4 : Int32))] [(.long sm4_), (.int (5 : Int32)), (.ref b160)])) rfl rfl (hb hby d6_99) (by decide) (Nat.le_of_ble_eq_true rfl) (fun T413 h413 X413 e413 W413 V413 => ?_)
  have N413 := Fr.snoc X413 N412 ge168
  have F414 := Exa.wr W413 F390
  have F415 := Exa.wr W413 F391
  have F416 := Fld.other W413 F392 (Or.inl ne162)
  have F417 := OAr.other F393 W413 ne163
  have F418 := Exa.wr W413 F394
  have F419 := Fld.other W413 F395 (Or.inl ne161)
  have F420 := Exa.wr W413 F396
  have F421 := Fld.other W413 F397 (Or.inl ne164)
  have F422 := OAr.other F398 W413 ne165
  have F423 := Fld.other W413 F399 (Or.inl ne161)
  have F424 := OAr.other F400 W413 ne166
  have F425 := Exa.wr W413 F401
  have F426 := Fld.other W413 F402 (Or.inl ne161)
  have F427 := Fld.other W413 F403 (Or.inl ne161)
  have F428 := Fld.other W413 F404 (Or.inl ne161)
  have F429 := OAr.other V389b W413 ne167
  have Z430 := Nat.le_trans Z406 (Keep.of_wr W413).1
  have K431 := Keep.wr K407 W413 (Or.inr sz169)
  show OwnWk _ _ _ _ (T413.setTop (mkF m 100 #[.val (.ref a), .val (.ref t), .val (.ref ls), .val (.int (4 : Int32))] []))
  refine own_go (fun tgt kst => XS.iinc X413.here hx rfl (hb hby d6_100) rfl (l' := #[.val (.ref a), .val (.ref t), .val (.ref ls), .val (.int (5 : Int32))]) rfl kst) ?_
  show OwnWk _ _ _ _ (T413.setTop (mkF m 103 #[.val (.ref a), .val (.ref t), .val (.ref ls), .val (.int (5 : Int32))] []))
  refine own_go (fun tgt kst => XS.goto X413.here hx rfl (pc0 := 103) (pc' := 54) rfl (hb hby d6_103) (by decide) (by decide) kst) ?_
  show OwnWk _ _ _ _ (T413.setTop (mkF m 54 #[.val (.ref a), .val (.ref t), .val (.ref ls), .val (.int (5 : Int32))] []))
  refine own_go (fun tgt kst => XS.iloadN X413.here hx rfl (hb hby d6_54) rfl  kst) ?_
  show OwnWk _ _ _ _ (T413.setTop (mkF m 55 #[.val (.ref a), .val (.ref t), .val (.ref ls), .val (.int (5 : Int32))] [(.int (5 : Int32))]))
  refine own_go (fun tgt kst => XS.aloadN X413.here hx rfl (hb hby d6_55) rfl rfl  kst) ?_
  show OwnWk _ _ _ _ (T413.setTop (mkF m 56 #[.val (.ref a), .val (.ref t), .val (.ref ls), .val (.int (5 : Int32))] [(.ref t), (.int (5 : Int32))]))
  refine own_len X413 hx hZ e413 F417 (g := (mkF m 56 #[.val (.ref a), .val (.ref t), .val (.ref ls), .val (.int (5 : Int32))] [(.ref t), (.int (5 : Int32))])) rfl rfl (hb hby d6_56) (N := (5 : Int32)) rfl ?_
  show OwnWk _ _ _ _ (T413.setTop (mkF m 57 #[.val (.ref a), .val (.ref t), .val (.ref ls), .val (.int (5 : Int32))] [(.int (5 : Int32)), (.int (5 : Int32))]))
  refine own_go (fun tgt kst => XS.icmpYes X413.here hx rfl (pc0 := 57) (pc' := 106) rfl (hb hby d6_57) rfl (flt (by decide : ¬ ((5 : Int32) < (5 : Int32)))).2.1 (by decide) (by decide) kst) ?_
  show OwnWk _ _ _ _ (T413.setTop (mkF m 106 #[.val (.ref a), .val (.ref t), .val (.ref ls), .val (.int (5 : Int32))] []))
  exact own_retV X413 hx hlk hret (hb hby d6_106) (by decide) (by decide) (by rw [e413]; exact ⟨rfl, N413, K431, b14, kk, b75, b116, b160, ks, [(0 : Int64), sm0_, sm1_, sm2_, sm3_, sm4_], ⟨sz19, szk0, sz82, sz124, sz169⟩, ⟨ge81, ge123, ge168⟩, ⟨ne79, ne120, ne164, ne80, ne121, ne165, ne122, ne166, ne167⟩, F420, F423, F426, F427, F428, F421, F422, hk5, F424, F429, V413, rfl⟩)
theorem pn_pn_14 : plainName "com/example/encircle/encircle/layout/Prefixes" = true := by first | (simp [plainName, overriddenIn]; done) | decide +kernel
theorem pn_14 : plainFor (⟨"com/example/encircle/encircle/layout/Prefixes", "swap", "(I)V"⟩ : MethodName) = true := plainFor_of_name pn_pn_14
theorem d14_0 : decode prog_24_method_7_code 0 = .ok (.aload_n 0, 1) := by decide +kernel
theorem d14_1 : decode prog_24_method_7_code 1 = .ok (.getfield 28, 3) := by decide +kernel
theorem d14_4 : decode prog_24_method_7_code 4 = .ok (.iload_n 1, 1) := by decide +kernel
theorem d14_5 : decode prog_24_method_7_code 5 = .ok (.iconst 1, 1) := by decide +kernel
theorem d14_6 : decode prog_24_method_7_code 6 = .ok (.isub, 1) := by decide +kernel
theorem d14_7 : decode prog_24_method_7_code 7 = .ok (.iaload, 1) := by decide +kernel
theorem d14_8 : decode prog_24_method_7_code 8 = .ok (.istore_n 2, 1) := by decide +kernel
theorem d14_9 : decode prog_24_method_7_code 9 = .ok (.aload_n 0, 1) := by decide +kernel
theorem d14_10 : decode prog_24_method_7_code 10 = .ok (.getfield 28, 3) := by decide +kernel
theorem d14_13 : decode prog_24_method_7_code 13 = .ok (.iload_n 1, 1) := by decide +kernel
theorem d14_14 : decode prog_24_method_7_code 14 = .ok (.iaload, 1) := by decide +kernel
theorem d14_15 : decode prog_24_method_7_code 15 = .ok (.istore_n 3, 1) := by decide +kernel
theorem d14_16 : decode prog_24_method_7_code 16 = .ok (.aload_n 0, 1) := by decide +kernel
theorem d14_17 : decode prog_24_method_7_code 17 = .ok (.getfield 28, 3) := by decide +kernel
theorem d14_20 : decode prog_24_method_7_code 20 = .ok (.iload_n 1, 1) := by decide +kernel
theorem d14_21 : decode prog_24_method_7_code 21 = .ok (.iconst 1, 1) := by decide +kernel
theorem d14_22 : decode prog_24_method_7_code 22 = .ok (.isub, 1) := by decide +kernel
theorem d14_23 : decode prog_24_method_7_code 23 = .ok (.iload_n 3, 1) := by decide +kernel
theorem d14_24 : decode prog_24_method_7_code 24 = .ok (.iastore, 1) := by decide +kernel
theorem d14_25 : decode prog_24_method_7_code 25 = .ok (.aload_n 0, 1) := by decide +kernel
theorem d14_26 : decode prog_24_method_7_code 26 = .ok (.getfield 28, 3) := by decide +kernel
theorem d14_29 : decode prog_24_method_7_code 29 = .ok (.iload_n 1, 1) := by decide +kernel
theorem d14_30 : decode prog_24_method_7_code 30 = .ok (.iload_n 2, 1) := by decide +kernel
theorem d14_31 : decode prog_24_method_7_code 31 = .ok (.iastore, 1) := by decide +kernel
theorem d14_32 : decode prog_24_method_7_code 32 = .ok (.aload_n 0, 1) := by decide +kernel
theorem d14_33 : decode prog_24_method_7_code 33 = .ok (.getfield 31, 3) := by decide +kernel
theorem d14_36 : decode prog_24_method_7_code 36 = .ok (.iload_n 3, 1) := by decide +kernel
theorem d14_37 : decode prog_24_method_7_code 37 = .ok (.iload_n 1, 1) := by decide +kernel
theorem d14_38 : decode prog_24_method_7_code 38 = .ok (.iconst 1, 1) := by decide +kernel
theorem d14_39 : decode prog_24_method_7_code 39 = .ok (.isub, 1) := by decide +kernel
theorem d14_40 : decode prog_24_method_7_code 40 = .ok (.iastore, 1) := by decide +kernel
theorem d14_41 : decode prog_24_method_7_code 41 = .ok (.aload_n 0, 1) := by decide +kernel
theorem d14_42 : decode prog_24_method_7_code 42 = .ok (.getfield 31, 3) := by decide +kernel
theorem d14_45 : decode prog_24_method_7_code 45 = .ok (.iload_n 2, 1) := by decide +kernel
theorem d14_46 : decode prog_24_method_7_code 46 = .ok (.iload_n 1, 1) := by decide +kernel
theorem d14_47 : decode prog_24_method_7_code 47 = .ok (.iastore, 1) := by decide +kernel
theorem d14_48 : decode prog_24_method_7_code 48 = .ok (.aload_n 0, 1) := by decide +kernel
theorem d14_49 : decode prog_24_method_7_code 49 = .ok (.getfield 34, 3) := by decide +kernel
theorem d14_52 : decode prog_24_method_7_code 52 = .ok (.iload_n 1, 1) := by decide +kernel
theorem d14_53 : decode prog_24_method_7_code 53 = .ok (.aload_n 0, 1) := by decide +kernel
theorem d14_54 : decode prog_24_method_7_code 54 = .ok (.getfield 34, 3) := by decide +kernel
theorem d14_57 : decode prog_24_method_7_code 57 = .ok (.iload_n 1, 1) := by decide +kernel
theorem d14_58 : decode prog_24_method_7_code 58 = .ok (.iconst 1, 1) := by decide +kernel
theorem d14_59 : decode prog_24_method_7_code 59 = .ok (.isub, 1) := by decide +kernel
theorem d14_60 : decode prog_24_method_7_code 60 = .ok (.laload, 1) := by decide +kernel
theorem d14_61 : decode prog_24_method_7_code 61 = .ok (.aload_n 0, 1) := by decide +kernel
theorem d14_62 : decode prog_24_method_7_code 62 = .ok (.getfield 18, 3) := by decide +kernel
theorem d14_65 : decode prog_24_method_7_code 65 = .ok (.iload_n 3, 1) := by decide +kernel
theorem d14_66 : decode prog_24_method_7_code 66 = .ok (.invokevirtual 38, 3) := by decide +kernel
theorem d14_69 : decode prog_24_method_7_code 69 = .ok (.lxor, 1) := by decide +kernel
theorem d14_70 : decode prog_24_method_7_code 70 = .ok (.lastore, 1) := by decide +kernel
theorem d14_71 : decode prog_24_method_7_code 71 = .ok (.return_, 1) := by decide +kernel
theorem ef_rm14 (m : MethodId) (x0 : Addr) (x1 : Int32) : entryFrame m #[(.ref x0), (.int x1)] 4 = mkF m 0 #[.val (.ref x0), .val (.int x1), .unset, .unset] [] := by first | (simp [entryFrame, mkF, argsToLocals, Value.category]; done) | rfl
def Q_rm14 (Z : State) (a zk kk oa pa sa : Addr) (ks ss : List Int64) (ns ps : List Nat) (lv : Nat) (h0 : Heap) (n0 : Nat) (v : Option Value) (h : Heap) (L : List Loc) : Prop := v = none ∧ Fr n0 L ∧ Keep h0 h [oa, pa, sa] ∧ OAr Z h oa .int (own_iv (own_exch ns (lv - 1) lv)) ∧ OAr Z h pa .int (own_iv (own_swpp ns ps lv))
set_option maxRecDepth 65536 in
set_option maxHeartbeats 40000000 in
theorem rm14 (l : Launch) (Z : State) (a0 : Array Value) (hw : ∀ d ∈ tables_1, d.before a0 Z = true) (a zk kk oa pa sa : Addr) (ks ss : List Int64) (ns ps : List Nat) (lv : Nat) (h0 : Heap) (n0 : Nat) (Z0 : n0 ≤ h0.size)  (g_o : n0 ≤ oa) (g_p : n0 ≤ pa) (g_s : n0 ≤ sa) (n_a_oa : a ≠ oa) (n_a_pa : a ≠ pa) (n_a_sa : a ≠ sa) (n_zk_oa : zk ≠ oa) (n_zk_pa : zk ≠ pa) (n_zk_sa : zk ≠ sa) (n_kk_oa : kk ≠ oa) (n_kk_pa : kk ≠ pa) (n_kk_sa : kk ≠ sa) (n_oa_pa : oa ≠ pa) (n_oa_sa : oa ≠ sa) (n_pa_sa : pa ≠ sa) (E_z : Exa Z h0 zk "com/example/encircle/encircle/layout/ZoneKeys") (F_1 : Fld Z h0 a "com/example/encircle/encircle/layout/Prefixes" "keys" "Lcom/example/encircle/encircle/layout/ZoneKeys;" (.ref zk)) (F_2 : Fld Z h0 a "com/example/encircle/encircle/layout/Prefixes" "order" "[I" (.ref oa)) (F_3 : Fld Z h0 a "com/example/encircle/encircle/layout/Prefixes" "places" "[I" (.ref pa)) (F_4 : Fld Z h0 a "com/example/encircle/encircle/layout/Prefixes" "sums" "[J" (.ref sa)) (F_5 : Fld Z h0 zk "com/example/encircle/encircle/layout/ZoneKeys" "keys" "[J" (.ref kk)) (V_k : OAr Z h0 kk .long (own_jv ks)) (hk5 : ks.length = 5) (V_o : OAr Z h0 oa .int (own_iv ns)) (V_p : OAr Z h0 pa .int (own_iv ps)) (V_s : OAr Z h0 sa .long (own_jv ss)) (hs6 : ss.length = 6) (hlen : ns.length = 5) (hpl : ps.length = 5) (hlv : 1 ≤ lv) (hlv5 : lv < 5) (hin : ns.getD lv 0 < 5) (hou : ns.getD (lv - 1) 0 < 5) :
    OwnMet l (⟨"com/example/encircle/encircle/layout/Prefixes", "swap", "(I)V"⟩ : MethodName) prog_24_method_7_code 4 none [] ({ frames := 1, cells := 0, slots := 0, locals := 17 } : Room) Z #[(.ref a), (.int (Int32.ofNat lv))] h0 (Q_rm14 Z a zk kk oa pa sa ks ss ns ps lv h0 n0) := by
  refine own_met pn_14 (fun p e s m below meth c s₁ hx hby hml hown hnm hret hlk hZ X0 e0 => ?_)
  have hown : s.vm.findClass "com/example/encircle/encircle/layout/Prefixes" = some m.cls := hown
  have N0 := Fr.nil n0
  have K0 := Keep.refl h0 [oa, pa, sa]
  rw [ef_rm14]
  show OwnWk _ _ _ _ (s₁.setTop (mkF m 0 #[.val (.ref a), .val (.int (Int32.ofNat lv)), .unset, .unset] []))
  refine own_go (fun tgt kst => XS.aloadN X0.here hx rfl (hb hby d14_0) rfl rfl  kst) ?_
  show OwnWk _ _ _ _ (s₁.setTop (mkF m 1 #[.val (.ref a), .val (.int (Int32.ofNat lv)), .unset, .unset] [(.ref a)]))
  obtain ⟨T1, X1, e1, st1⟩ := getF X0 hx hZ hown (host := "") (Or.inl (hw _ (List.mem_of_getElem? (i := 103) rfl))) Via.refl e0 F_2 (g := (mkF m 1 #[.val (.ref a), .val (.int (Int32.ofNat lv)), .unset, .unset] [(.ref a)])) rfl rfl (hb hby d14_1)
  refine own_go st1 ?_
  show OwnWk _ _ _ _ (T1.setTop (mkF m 4 #[.val (.ref a), .val (.int (Int32.ofNat lv)), .unset, .unset] [(.ref oa)]))
  refine own_go (fun tgt kst => XS.iloadN X1.here hx rfl (hb hby d14_4) rfl  kst) ?_
  show OwnWk _ _ _ _ (T1.setTop (mkF m 5 #[.val (.ref a), .val (.int (Int32.ofNat lv)), .unset, .unset] [(.int (Int32.ofNat lv)), (.ref oa)]))
  refine own_go (fun tgt kst => XS.iconst X1.here hx rfl (hb hby d14_5) kst) ?_
  show OwnWk _ _ _ _ (T1.setTop (mkF m 6 #[.val (.ref a), .val (.int (Int32.ofNat lv)), .unset, .unset] [(.int (1 : Int32)), (.int (Int32.ofNat lv)), (.ref oa)]))
  refine own_go (fun tgt kst => XS.isub X1.here hx rfl (hb hby d14_6) rfl kst) ?_
  show OwnWk _ _ _ _ (T1.setTop (mkF m 7 #[.val (.ref a), .val (.int (Int32.ofNat lv)), .unset, .unset] [(.int ((Int32.ofNat lv) - (1 : Int32))), (.ref oa)]))
  rw [own_n_pred hlv hlv5]
  show OwnWk _ _ _ _ (T1.setTop (mkF m 7 #[.val (.ref a), .val (.int (Int32.ofNat lv)), .unset, .unset] [(.int (Int32.ofNat (lv - 1))), (.ref oa)]))
  refine own_ldI X1 hx hZ e1 V_o (g := (mkF m 7 #[.val (.ref a), .val (.int (Int32.ofNat lv)), .unset, .unset] [(.int (Int32.ofNat (lv - 1))), (.ref oa)])) rfl rfl (hb hby d14_7) (v := (.int (Int32.ofNat (ns.getD (lv - 1) 0)))) (own_i5 (by omega)) (own_iv_at (NS := ns) (J := (lv - 1)) (by simp [hlen, hpl]) (by omega)) ?_
  show OwnWk _ _ _ _ (T1.setTop (mkF m 8 #[.val (.ref a), .val (.int (Int32.ofNat lv)), .unset, .unset] [(.int (Int32.ofNat (ns.getD (lv - 1) 0)))]))
  refine own_go (fun tgt kst => XS.istoreN X1.here hx rfl (hb hby d14_8) rfl (l' := #[.val (.ref a), .val (.int (Int32.ofNat lv)), .val (.int (Int32.ofNat (ns.getD (lv - 1) 0))), .unset]) rfl kst) ?_
  show OwnWk _ _ _ _ (T1.setTop (mkF m 9 #[.val (.ref a), .val (.int (Int32.ofNat lv)), .val (.int (Int32.ofNat (ns.getD (lv - 1) 0))), .unset] []))
  refine own_go (fun tgt kst => XS.aloadN X1.here hx rfl (hb hby d14_9) rfl rfl  kst) ?_
  show OwnWk _ _ _ _ (T1.setTop (mkF m 10 #[.val (.ref a), .val (.int (Int32.ofNat lv)), .val (.int (Int32.ofNat (ns.getD (lv - 1) 0))), .unset] [(.ref a)]))
  obtain ⟨T2, X2, e2, st2⟩ := getF X1 hx hZ hown (host := "") (Or.inl (hw _ (List.mem_of_getElem? (i := 103) rfl))) Via.refl e1 F_2 (g := (mkF m 10 #[.val (.ref a), .val (.int (Int32.ofNat lv)), .val (.int (Int32.ofNat (ns.getD (lv - 1) 0))), .unset] [(.ref a)])) rfl rfl (hb hby d14_10)
  refine own_go st2 ?_
  show OwnWk _ _ _ _ (T2.setTop (mkF m 13 #[.val (.ref a), .val (.int (Int32.ofNat lv)), .val (.int (Int32.ofNat (ns.getD (lv - 1) 0))), .unset] [(.ref oa)]))
  refine own_go (fun tgt kst => XS.iloadN X2.here hx rfl (hb hby d14_13) rfl  kst) ?_
  show OwnWk _ _ _ _ (T2.setTop (mkF m 14 #[.val (.ref a), .val (.int (Int32.ofNat lv)), .val (.int (Int32.ofNat (ns.getD (lv - 1) 0))), .unset] [(.int (Int32.ofNat lv)), (.ref oa)]))
  refine own_ldI X2 hx hZ e2 V_o (g := (mkF m 14 #[.val (.ref a), .val (.int (Int32.ofNat lv)), .val (.int (Int32.ofNat (ns.getD (lv - 1) 0))), .unset] [(.int (Int32.ofNat lv)), (.ref oa)])) rfl rfl (hb hby d14_14) (v := (.int (Int32.ofNat (ns.getD lv 0)))) (own_i5 hlv5) (own_iv_at (NS := ns) (J := lv) (by simp [hlen, hpl]) hlv5) ?_
  show OwnWk _ _ _ _ (T2.setTop (mkF m 15 #[.val (.ref a), .val (.int (Int32.ofNat lv)), .val (.int (Int32.ofNat (ns.getD (lv - 1) 0))), .unset] [(.int (Int32.ofNat (ns.getD lv 0)))]))
  refine own_go (fun tgt kst => XS.istoreN X2.here hx rfl (hb hby d14_15) rfl (l' := #[.val (.ref a), .val (.int (Int32.ofNat lv)), .val (.int (Int32.ofNat (ns.getD (lv - 1) 0))), .val (.int (Int32.ofNat (ns.getD lv 0)))]) rfl kst) ?_
  show OwnWk _ _ _ _ (T2.setTop (mkF m 16 #[.val (.ref a), .val (.int (Int32.ofNat lv)), .val (.int (Int32.ofNat (ns.getD (lv - 1) 0))), .val (.int (Int32.ofNat (ns.getD lv 0)))] []))
  refine own_go (fun tgt kst => XS.aloadN X2.here hx rfl (hb hby d14_16) rfl rfl  kst) ?_
  show OwnWk _ _ _ _ (T2.setTop (mkF m 17 #[.val (.ref a), .val (.int (Int32.ofNat lv)), .val (.int (Int32.ofNat (ns.getD (lv - 1) 0))), .val (.int (Int32.ofNat (ns.getD lv 0)))] [(.ref a)]))
  obtain ⟨T3, X3, e3, st3⟩ := getF X2 hx hZ hown (host := "") (Or.inl (hw _ (List.mem_of_getElem? (i := 103) rfl))) Via.refl e2 F_2 (g := (mkF m 17 #[.val (.ref a), .val (.int (Int32.ofNat lv)), .val (.int (Int32.ofNat (ns.getD (lv - 1) 0))), .val (.int (Int32.ofNat (ns.getD lv 0)))] [(.ref a)])) rfl rfl (hb hby d14_17)
  refine own_go st3 ?_
  show OwnWk _ _ _ _ (T3.setTop (mkF m 20 #[.val (.ref a), .val (.int (Int32.ofNat lv)), .val (.int (Int32.ofNat (ns.getD (lv - 1) 0))), .val (.int (Int32.ofNat (ns.getD lv 0)))] [(.ref oa)]))
  refine own_go (fun tgt kst => XS.iloadN X3.here hx rfl (hb hby d14_20) rfl  kst) ?_
  show OwnWk _ _ _ _ (T3.setTop (mkF m 21 #[.val (.ref a), .val (.int (Int32.ofNat lv)), .val (.int (Int32.ofNat (ns.getD (lv - 1) 0))), .val (.int (Int32.ofNat (ns.getD lv 0)))] [(.int (Int32.ofNat lv)), (.ref oa)]))
  refine own_go (fun tgt kst => XS.iconst X3.here hx rfl (hb hby d14_21) kst) ?_
  show OwnWk _ _ _ _ (T3.setTop (mkF m 22 #[.val (.ref a), .val (.int (Int32.ofNat lv)), .val (.int (Int32.ofNat (ns.getD (lv - 1) 0))), .val (.int (Int32.ofNat (ns.getD lv 0)))] [(.int (1 : Int32)), (.int (Int32.ofNat lv)), (.ref oa)]))
  refine own_go (fun tgt kst => XS.isub X3.here hx rfl (hb hby d14_22) rfl kst) ?_
  show OwnWk _ _ _ _ (T3.setTop (mkF m 23 #[.val (.ref a), .val (.int (Int32.ofNat lv)), .val (.int (Int32.ofNat (ns.getD (lv - 1) 0))), .val (.int (Int32.ofNat (ns.getD lv 0)))] [(.int ((Int32.ofNat lv) - (1 : Int32))), (.ref oa)]))
  rw [own_n_pred hlv hlv5]
  show OwnWk _ _ _ _ (T3.setTop (mkF m 23 #[.val (.ref a), .val (.int (Int32.ofNat lv)), .val (.int (Int32.ofNat (ns.getD (lv - 1) 0))), .val (.int (Int32.ofNat (ns.getD lv 0)))] [(.int (Int32.ofNat (lv - 1))), (.ref oa)]))
  refine own_go (fun tgt kst => XS.iloadN X3.here hx rfl (hb hby d14_23) rfl  kst) ?_
  show OwnWk _ _ _ _ (T3.setTop (mkF m 24 #[.val (.ref a), .val (.int (Int32.ofNat lv)), .val (.int (Int32.ofNat (ns.getD (lv - 1) 0))), .val (.int (Int32.ofNat (ns.getD lv 0)))] [(.int (Int32.ofNat (ns.getD lv 0))), (.int (Int32.ofNat (lv - 1))), (.ref oa)]))
  refine own_stI X3 hx hZ e3 V_o (g := (mkF m 24 #[.val (.ref a), .val (.int (Int32.ofNat lv)), .val (.int (Int32.ofNat (ns.getD (lv - 1) 0))), .val (.int (Int32.ofNat (ns.getD lv 0)))] [(.int (Int32.ofNat (ns.getD lv 0))), (.int (Int32.ofNat (lv - 1))), (.ref oa)])) rfl rfl (hb hby d14_24) (own_i5 (by omega)) (own_iv_in (NS := ns) (J := (lv - 1)) (by simp [hlen, hpl]) (by omega)) (fun T4 h4 X4 e4 W4 V4 => ?_)
  have V4b : OAr Z h4 oa .int (own_iv (ns.set (lv - 1) (ns.getD lv 0))) := by exact own_cast (own_iv_set (NS := ns) (J := (lv - 1)) (X := (ns.getD lv 0)) (by omega)) V4
  have N4 := Fr.snoc X4 N0 g_o
  have F5 := Exa.wr W4 E_z
  have F6 := Fld.other W4 F_1 (Or.inl n_a_oa)
  have F7 := Fld.other W4 F_2 (Or.inl n_a_oa)
  have F8 := Fld.other W4 F_3 (Or.inl n_a_oa)
  have F9 := Fld.other W4 F_4 (Or.inl n_a_oa)
  have F10 := Fld.other W4 F_5 (Or.inl n_zk_oa)
  have F11 := OAr.other V_k W4 n_kk_oa
  have F12 := OAr.other V_p W4 (Ne.symm n_oa_pa)
  have F13 := OAr.other V_s W4 (Ne.symm n_oa_sa)
  have Z14 := Nat.le_trans Z0 (Keep.of_wr W4).1
  have K15 := Keep.wr K0 W4 (Or.inl (List.mem_of_getElem? (i := 0) rfl))
  show OwnWk _ _ _ _ (T4.setTop (mkF m 25 #[.val (.ref a), .val (.int (Int32.ofNat lv)), .val (.int (Int32.ofNat (ns.getD (lv - 1) 0))), .val (.int (Int32.ofNat (ns.getD lv 0)))] []))
  refine own_go (fun tgt kst => XS.aloadN X4.here hx rfl (hb hby d14_25) rfl rfl  kst) ?_
  show OwnWk _ _ _ _ (T4.setTop (mkF m 26 #[.val (.ref a), .val (.int (Int32.ofNat lv)), .val (.int (Int32.ofNat (ns.getD (lv - 1) 0))), .val (.int (Int32.ofNat (ns.getD lv 0)))] [(.ref a)]))
  obtain ⟨T16, X16, e16, st16⟩ := getF X4 hx hZ hown (host := "") (Or.inl (hw _ (List.mem_of_getElem? (i := 103) rfl))) Via.refl e4 F7 (g := (mkF m 26 #[.val (.ref a), .val (.int (Int32.ofNat lv)), .val (.int (Int32.ofNat (ns.getD (lv - 1) 0))), .val (.int (Int32.ofNat (ns.getD lv 0)))] [(.ref a)])) rfl rfl (hb hby d14_26)
  refine own_go st16 ?_
  show OwnWk _ _ _ _ (T16.setTop (mkF m 29 #[.val (.ref a), .val (.int (Int32.ofNat lv)), .val (.int (Int32.ofNat (ns.getD (lv - 1) 0))), .val (.int (Int32.ofNat (ns.getD lv 0)))] [(.ref oa)]))
  refine own_go (fun tgt kst => XS.iloadN X16.here hx rfl (hb hby d14_29) rfl  kst) ?_
  show OwnWk _ _ _ _ (T16.setTop (mkF m 30 #[.val (.ref a), .val (.int (Int32.ofNat lv)), .val (.int (Int32.ofNat (ns.getD (lv - 1) 0))), .val (.int (Int32.ofNat (ns.getD lv 0)))] [(.int (Int32.ofNat lv)), (.ref oa)]))
  refine own_go (fun tgt kst => XS.iloadN X16.here hx rfl (hb hby d14_30) rfl  kst) ?_
  show OwnWk _ _ _ _ (T16.setTop (mkF m 31 #[.val (.ref a), .val (.int (Int32.ofNat lv)), .val (.int (Int32.ofNat (ns.getD (lv - 1) 0))), .val (.int (Int32.ofNat (ns.getD lv 0)))] [(.int (Int32.ofNat (ns.getD (lv - 1) 0))), (.int (Int32.ofNat lv)), (.ref oa)]))
  refine own_stI X16 hx hZ e16 V4b (g := (mkF m 31 #[.val (.ref a), .val (.int (Int32.ofNat lv)), .val (.int (Int32.ofNat (ns.getD (lv - 1) 0))), .val (.int (Int32.ofNat (ns.getD lv 0)))] [(.int (Int32.ofNat (ns.getD (lv - 1) 0))), (.int (Int32.ofNat lv)), (.ref oa)])) rfl rfl (hb hby d14_31) (own_i5 hlv5) (own_iv_in (NS := (ns.set (lv - 1) (ns.getD lv 0))) (J := lv) (by simp [hlen, hpl]) hlv5) (fun T17 h17 X17 e17 W17 V17 => ?_)
  have V17b : OAr Z h17 oa .int (own_iv ((ns.set (lv - 1) (ns.getD lv 0)).set lv (ns.getD (lv - 1) 0))) := by exact own_cast (own_iv_set (NS := (ns.set (lv - 1) (ns.getD lv 0))) (J := lv) (X := (ns.getD (lv - 1) 0)) hlv5) V17
  have N17 := Fr.snoc X17 N4 g_o
  have F18 := Exa.wr W17 F5
  have F19 := Fld.other W17 F6 (Or.inl n_a_oa)
  have F20 := Fld.other W17 F7 (Or.inl n_a_oa)
  have F21 := Fld.other W17 F8 (Or.inl n_a_oa)
  have F22 := Fld.other W17 F9 (Or.inl n_a_oa)
  have F23 := Fld.other W17 F10 (Or.inl n_zk_oa)
  have F24 := OAr.other F11 W17 n_kk_oa
  have F25 := OAr.other F12 W17 (Ne.symm n_oa_pa)
  have F26 := OAr.other F13 W17 (Ne.symm n_oa_sa)
  have Z27 := Nat.le_trans Z14 (Keep.of_wr W17).1
  have K28 := Keep.wr K15 W17 (Or.inl (List.mem_of_getElem? (i := 0) rfl))
  show OwnWk _ _ _ _ (T17.setTop (mkF m 32 #[.val (.ref a), .val (.int (Int32.ofNat lv)), .val (.int (Int32.ofNat (ns.getD (lv - 1) 0))), .val (.int (Int32.ofNat (ns.getD lv 0)))] []))
  refine own_go (fun tgt kst => XS.aloadN X17.here hx rfl (hb hby d14_32) rfl rfl  kst) ?_
  show OwnWk _ _ _ _ (T17.setTop (mkF m 33 #[.val (.ref a), .val (.int (Int32.ofNat lv)), .val (.int (Int32.ofNat (ns.getD (lv - 1) 0))), .val (.int (Int32.ofNat (ns.getD lv 0)))] [(.ref a)]))
  obtain ⟨T29, X29, e29, st29⟩ := getF X17 hx hZ hown (host := "") (Or.inl (hw _ (List.mem_of_getElem? (i := 105) rfl))) Via.refl e17 F21 (g := (mkF m 33 #[.val (.ref a), .val (.int (Int32.ofNat lv)), .val (.int (Int32.ofNat (ns.getD (lv - 1) 0))), .val (.int (Int32.ofNat (ns.getD lv 0)))] [(.ref a)])) rfl rfl (hb hby d14_33)
  refine own_go st29 ?_
  show OwnWk _ _ _ _ (T29.setTop (mkF m 36 #[.val (.ref a), .val (.int (Int32.ofNat lv)), .val (.int (Int32.ofNat (ns.getD (lv - 1) 0))), .val (.int (Int32.ofNat (ns.getD lv 0)))] [(.ref pa)]))
  refine own_go (fun tgt kst => XS.iloadN X29.here hx rfl (hb hby d14_36) rfl  kst) ?_
  show OwnWk _ _ _ _ (T29.setTop (mkF m 37 #[.val (.ref a), .val (.int (Int32.ofNat lv)), .val (.int (Int32.ofNat (ns.getD (lv - 1) 0))), .val (.int (Int32.ofNat (ns.getD lv 0)))] [(.int (Int32.ofNat (ns.getD lv 0))), (.ref pa)]))
  refine own_go (fun tgt kst => XS.iloadN X29.here hx rfl (hb hby d14_37) rfl  kst) ?_
  show OwnWk _ _ _ _ (T29.setTop (mkF m 38 #[.val (.ref a), .val (.int (Int32.ofNat lv)), .val (.int (Int32.ofNat (ns.getD (lv - 1) 0))), .val (.int (Int32.ofNat (ns.getD lv 0)))] [(.int (Int32.ofNat lv)), (.int (Int32.ofNat (ns.getD lv 0))), (.ref pa)]))
  refine own_go (fun tgt kst => XS.iconst X29.here hx rfl (hb hby d14_38) kst) ?_
  show OwnWk _ _ _ _ (T29.setTop (mkF m 39 #[.val (.ref a), .val (.int (Int32.ofNat lv)), .val (.int (Int32.ofNat (ns.getD (lv - 1) 0))), .val (.int (Int32.ofNat (ns.getD lv 0)))] [(.int (1 : Int32)), (.int (Int32.ofNat lv)), (.int (Int32.ofNat (ns.getD lv 0))), (.ref pa)]))
  refine own_go (fun tgt kst => XS.isub X29.here hx rfl (hb hby d14_39) rfl kst) ?_
  show OwnWk _ _ _ _ (T29.setTop (mkF m 40 #[.val (.ref a), .val (.int (Int32.ofNat lv)), .val (.int (Int32.ofNat (ns.getD (lv - 1) 0))), .val (.int (Int32.ofNat (ns.getD lv 0)))] [(.int ((Int32.ofNat lv) - (1 : Int32))), (.int (Int32.ofNat (ns.getD lv 0))), (.ref pa)]))
  rw [own_n_pred hlv hlv5]
  show OwnWk _ _ _ _ (T29.setTop (mkF m 40 #[.val (.ref a), .val (.int (Int32.ofNat lv)), .val (.int (Int32.ofNat (ns.getD (lv - 1) 0))), .val (.int (Int32.ofNat (ns.getD lv 0)))] [(.int (Int32.ofNat (lv - 1))), (.int (Int32.ofNat (ns.getD lv 0))), (.ref pa)]))
  refine own_stI X29 hx hZ e29 F25 (g := (mkF m 40 #[.val (.ref a), .val (.int (Int32.ofNat lv)), .val (.int (Int32.ofNat (ns.getD (lv - 1) 0))), .val (.int (Int32.ofNat (ns.getD lv 0)))] [(.int (Int32.ofNat (lv - 1))), (.int (Int32.ofNat (ns.getD lv 0))), (.ref pa)])) rfl rfl (hb hby d14_40) (own_i5 hin) (own_iv_in (NS := ps) (J := (ns.getD lv 0)) (by simp [hlen, hpl]) hin) (fun T30 h30 X30 e30 W30 V30 => ?_)
  have V30b : OAr Z h30 pa .int (own_iv (ps.set (ns.getD lv 0) (lv - 1))) := by exact own_cast (own_iv_set (NS := ps) (J := (ns.getD lv 0)) (X := (lv - 1)) hin) V30
  have N30 := Fr.snoc X30 N17 g_p
  have F31 := Exa.wr W30 F18
  have F32 := Fld.other W30 F19 (Or.inl n_a_pa)
  have F33 := Fld.other W30 F20 (Or.inl n_a_pa)
  have F34 := Fld.other W30 F21 (Or.inl n_a_pa)
  have F35 := Fld.other W30 F22 (Or.inl n_a_pa)
  have F36 := Fld.other W30 F23 (Or.inl n_zk_pa)
  have F37 := OAr.other F24 W30 n_kk_pa
  have F38 := OAr.other F26 W30 (Ne.symm n_pa_sa)
  have F39 := OAr.other V17b W30 n_oa_pa
  have Z40 := Nat.le_trans Z27 (Keep.of_wr W30).1
  have K41 := Keep.wr K28 W30 (Or.inl (List.mem_of_getElem? (i := 1) rfl))
  show OwnWk _ _ _ _ (T30.setTop (mkF m 41 #[.val (.ref a), .val (.int (Int32.ofNat lv)), .val (.int (Int32.ofNat (ns.getD (lv - 1) 0))), .val (.int (Int32.ofNat (ns.getD lv 0)))] []))
  refine own_go (fun tgt kst => XS.aloadN X30.here hx rfl (hb hby d14_41) rfl rfl  kst) ?_
  show OwnWk _ _ _ _ (T30.setTop (mkF m 42 #[.val (.ref a), .val (.int (Int32.ofNat lv)), .val (.int (Int32.ofNat (ns.getD (lv - 1) 0))), .val (.int (Int32.ofNat (ns.getD lv 0)))] [(.ref a)]))
  obtain ⟨T42, X42, e42, st42⟩ := getF X30 hx hZ hown (host := "") (Or.inl (hw _ (List.mem_of_getElem? (i := 105) rfl))) Via.refl e30 F34 (g := (mkF m 42 #[.val (.ref a), .val (.int (Int32.ofNat lv)), .val (.int (Int32.ofNat (ns.getD (lv - 1) 0))), .val (.int (Int32.ofNat (ns.getD lv 0)))] [(.ref a)])) rfl rfl (hb hby d14_42)
  refine own_go st42 ?_
  show OwnWk _ _ _ _ (T42.setTop (mkF m 45 #[.val (.ref a), .val (.int (Int32.ofNat lv)), .val (.int (Int32.ofNat (ns.getD (lv - 1) 0))), .val (.int (Int32.ofNat (ns.getD lv 0)))] [(.ref pa)]))
  refine own_go (fun tgt kst => XS.iloadN X42.here hx rfl (hb hby d14_45) rfl  kst) ?_
  show OwnWk _ _ _ _ (T42.setTop (mkF m 46 #[.val (.ref a), .val (.int (Int32.ofNat lv)), .val (.int (Int32.ofNat (ns.getD (lv - 1) 0))), .val (.int (Int32.ofNat (ns.getD lv 0)))] [(.int (Int32.ofNat (ns.getD (lv - 1) 0))), (.ref pa)]))
  refine own_go (fun tgt kst => XS.iloadN X42.here hx rfl (hb hby d14_46) rfl  kst) ?_
  show OwnWk _ _ _ _ (T42.setTop (mkF m 47 #[.val (.ref a), .val (.int (Int32.ofNat lv)), .val (.int (Int32.ofNat (ns.getD (lv - 1) 0))), .val (.int (Int32.ofNat (ns.getD lv 0)))] [(.int (Int32.ofNat lv)), (.int (Int32.ofNat (ns.getD (lv - 1) 0))), (.ref pa)]))
  refine own_stI X42 hx hZ e42 V30b (g := (mkF m 47 #[.val (.ref a), .val (.int (Int32.ofNat lv)), .val (.int (Int32.ofNat (ns.getD (lv - 1) 0))), .val (.int (Int32.ofNat (ns.getD lv 0)))] [(.int (Int32.ofNat lv)), (.int (Int32.ofNat (ns.getD (lv - 1) 0))), (.ref pa)])) rfl rfl (hb hby d14_47) (own_i5 hou) (own_iv_in (NS := (ps.set (ns.getD lv 0) (lv - 1))) (J := (ns.getD (lv - 1) 0)) (by simp [hlen, hpl]) hou) (fun T43 h43 X43 e43 W43 V43 => ?_)
  have V43b : OAr Z h43 pa .int (own_iv ((ps.set (ns.getD lv 0) (lv - 1)).set (ns.getD (lv - 1) 0) lv)) := by exact own_cast (own_iv_set (NS := (ps.set (ns.getD lv 0) (lv - 1))) (J := (ns.getD (lv - 1) 0)) (X := lv) hou) V43
  have N43 := Fr.snoc X43 N30 g_p
  have F44 := Exa.wr W43 F31
  have F45 := Fld.other W43 F32 (Or.inl n_a_pa)
  have F46 := Fld.other W43 F33 (Or.inl n_a_pa)
  have F47 := Fld.other W43 F34 (Or.inl n_a_pa)
  have F48 := Fld.other W43 F35 (Or.inl n_a_pa)
  have F49 := Fld.other W43 F36 (Or.inl n_zk_pa)
  have F50 := OAr.other F37 W43 n_kk_pa
  have F51 := OAr.other F38 W43 (Ne.symm n_pa_sa)
  have F52 := OAr.other F39 W43 n_oa_pa
  have Z53 := Nat.le_trans Z40 (Keep.of_wr W43).1
  have K54 := Keep.wr K41 W43 (Or.inl (List.mem_of_getElem? (i := 1) rfl))
  show OwnWk _ _ _ _ (T43.setTop (mkF m 48 #[.val (.ref a), .val (.int (Int32.ofNat lv)), .val (.int (Int32.ofNat (ns.getD (lv - 1) 0))), .val (.int (Int32.ofNat (ns.getD lv 0)))] []))
  refine own_go (fun tgt kst => XS.aloadN X43.here hx rfl (hb hby d14_48) rfl rfl  kst) ?_
  show OwnWk _ _ _ _ (T43.setTop (mkF m 49 #[.val (.ref a), .val (.int (Int32.ofNat lv)), .val (.int (Int32.ofNat (ns.getD (lv - 1) 0))), .val (.int (Int32.ofNat (ns.getD lv 0)))] [(.ref a)]))
  obtain ⟨T55, X55, e55, st55⟩ := getF X43 hx hZ hown (host := "") (Or.inl (hw _ (List.mem_of_getElem? (i := 107) rfl))) Via.refl e43 F48 (g := (mkF m 49 #[.val (.ref a), .val (.int (Int32.ofNat lv)), .val (.int (Int32.ofNat (ns.getD (lv - 1) 0))), .val (.int (Int32.ofNat (ns.getD lv 0)))] [(.ref a)])) rfl rfl (hb hby d14_49)
  refine own_go st55 ?_
  show OwnWk _ _ _ _ (T55.setTop (mkF m 52 #[.val (.ref a), .val (.int (Int32.ofNat lv)), .val (.int (Int32.ofNat (ns.getD (lv - 1) 0))), .val (.int (Int32.ofNat (ns.getD lv 0)))] [(.ref sa)]))
  refine own_go (fun tgt kst => XS.iloadN X55.here hx rfl (hb hby d14_52) rfl  kst) ?_
  show OwnWk _ _ _ _ (T55.setTop (mkF m 53 #[.val (.ref a), .val (.int (Int32.ofNat lv)), .val (.int (Int32.ofNat (ns.getD (lv - 1) 0))), .val (.int (Int32.ofNat (ns.getD lv 0)))] [(.int (Int32.ofNat lv)), (.ref sa)]))
  refine own_go (fun tgt kst => XS.aloadN X55.here hx rfl (hb hby d14_53) rfl rfl  kst) ?_
  show OwnWk _ _ _ _ (T55.setTop (mkF m 54 #[.val (.ref a), .val (.int (Int32.ofNat lv)), .val (.int (Int32.ofNat (ns.getD (lv - 1) 0))), .val (.int (Int32.ofNat (ns.getD lv 0)))] [(.ref a), (.int (Int32.ofNat lv)), (.ref sa)]))
  obtain ⟨T56, X56, e56, st56⟩ := getF X55 hx hZ hown (host := "") (Or.inl (hw _ (List.mem_of_getElem? (i := 107) rfl))) Via.refl e55 F48 (g := (mkF m 54 #[.val (.ref a), .val (.int (Int32.ofNat lv)), .val (.int (Int32.ofNat (ns.getD (lv - 1) 0))), .val (.int (Int32.ofNat (ns.getD lv 0)))] [(.ref a), (.int (Int32.ofNat lv)), (.ref sa)])) rfl rfl (hb hby d14_54)
  refine own_go st56 ?_
  show OwnWk _ _ _ _ (T56.setTop (mkF m 57 #[.val (.ref a), .val (.int (Int32.ofNat lv)), .val (.int (Int32.ofNat (ns.getD (lv - 1) 0))), .val (.int (Int32.ofNat (ns.getD lv 0)))] [(.ref sa), (.int (Int32.ofNat lv)), (.ref sa)]))
  refine own_go (fun tgt kst => XS.iloadN X56.here hx rfl (hb hby d14_57) rfl  kst) ?_
  show OwnWk _ _ _ _ (T56.setTop (mkF m 58 #[.val (.ref a), .val (.int (Int32.ofNat lv)), .val (.int (Int32.ofNat (ns.getD (lv - 1) 0))), .val (.int (Int32.ofNat (ns.getD lv 0)))] [(.int (Int32.ofNat lv)), (.ref sa), (.int (Int32.ofNat lv)), (.ref sa)]))
  refine own_go (fun tgt kst => XS.iconst X56.here hx rfl (hb hby d14_58) kst) ?_
  show OwnWk _ _ _ _ (T56.setTop (mkF m 59 #[.val (.ref a), .val (.int (Int32.ofNat lv)), .val (.int (Int32.ofNat (ns.getD (lv - 1) 0))), .val (.int (Int32.ofNat (ns.getD lv 0)))] [(.int (1 : Int32)), (.int (Int32.ofNat lv)), (.ref sa), (.int (Int32.ofNat lv)), (.ref sa)]))
  refine own_go (fun tgt kst => XS.isub X56.here hx rfl (hb hby d14_59) rfl kst) ?_
  show OwnWk _ _ _ _ (T56.setTop (mkF m 60 #[.val (.ref a), .val (.int (Int32.ofNat lv)), .val (.int (Int32.ofNat (ns.getD (lv - 1) 0))), .val (.int (Int32.ofNat (ns.getD lv 0)))] [(.int ((Int32.ofNat lv) - (1 : Int32))), (.ref sa), (.int (Int32.ofNat lv)), (.ref sa)]))
  rw [own_n_pred hlv hlv5]
  show OwnWk _ _ _ _ (T56.setTop (mkF m 60 #[.val (.ref a), .val (.int (Int32.ofNat lv)), .val (.int (Int32.ofNat (ns.getD (lv - 1) 0))), .val (.int (Int32.ofNat (ns.getD lv 0)))] [(.int (Int32.ofNat (lv - 1))), (.ref sa), (.int (Int32.ofNat lv)), (.ref sa)]))
  refine own_ldJ X56 hx hZ e56 F51 (g := (mkF m 60 #[.val (.ref a), .val (.int (Int32.ofNat lv)), .val (.int (Int32.ofNat (ns.getD (lv - 1) 0))), .val (.int (Int32.ofNat (ns.getD lv 0)))] [(.int (Int32.ofNat (lv - 1))), (.ref sa), (.int (Int32.ofNat lv)), (.ref sa)])) rfl rfl (hb hby d14_60) (v := (.long (ss.getD (lv - 1) 0))) (own_n_nn (by have := (by have := (by omega); omega); omega)) (own_jv_at (KS := ss) (J := (lv - 1)) hs6 (by have := (by omega); omega) (by decide)) ?_
  show OwnWk _ _ _ _ (T56.setTop (mkF m 61 #[.val (.ref a), .val (.int (Int32.ofNat lv)), .val (.int (Int32.ofNat (ns.getD (lv - 1) 0))), .val (.int (Int32.ofNat (ns.getD lv 0)))] [(.long (ss.getD (lv - 1) 0)), (.int (Int32.ofNat lv)), (.ref sa)]))
  refine own_go (fun tgt kst => XS.aloadN X56.here hx rfl (hb hby d14_61) rfl rfl  kst) ?_
  show OwnWk _ _ _ _ (T56.setTop (mkF m 62 #[.val (.ref a), .val (.int (Int32.ofNat lv)), .val (.int (Int32.ofNat (ns.getD (lv - 1) 0))), .val (.int (Int32.ofNat (ns.getD lv 0)))] [(.ref a), (.long (ss.getD (lv - 1) 0)), (.int (Int32.ofNat lv)), (.ref sa)]))
  obtain ⟨T57, X57, e57, st57⟩ := getF X56 hx hZ hown (host := "") (Or.inl (hw _ (List.mem_of_getElem? (i := 92) rfl))) Via.refl e56 F45 (g := (mkF m 62 #[.val (.ref a), .val (.int (Int32.ofNat lv)), .val (.int (Int32.ofNat (ns.getD (lv - 1) 0))), .val (.int (Int32.ofNat (ns.getD lv 0)))] [(.ref a), (.long (ss.getD (lv - 1) 0)), (.int (Int32.ofNat lv)), (.ref sa)])) rfl rfl (hb hby d14_62)
  refine own_go st57 ?_
  show OwnWk _ _ _ _ (T57.setTop (mkF m 65 #[.val (.ref a), .val (.int (Int32.ofNat lv)), .val (.int (Int32.ofNat (ns.getD (lv - 1) 0))), .val (.int (Int32.ofNat (ns.getD lv 0)))] [(.ref zk), (.long (ss.getD (lv - 1) 0)), (.int (Int32.ofNat lv)), (.ref sa)]))
  refine own_go (fun tgt kst => XS.iloadN X57.here hx rfl (hb hby d14_65) rfl  kst) ?_
  show OwnWk _ _ _ _ (T57.setTop (mkF m 66 #[.val (.ref a), .val (.int (Int32.ofNat lv)), .val (.int (Int32.ofNat (ns.getD (lv - 1) 0))), .val (.int (Int32.ofNat (ns.getD lv 0)))] [(.int (Int32.ofNat (ns.getD lv 0))), (.ref zk), (.long (ss.getD (lv - 1) 0)), (.int (Int32.ofNat lv)), (.ref sa)]))
  refine own_callV X57 hx hZ (y := (⟨"com/example/encircle/encircle/layout/ZoneKeys", "key", "(I)J"⟩ : MethodName)) (z := (⟨"com/example/encircle/encircle/layout/ZoneKeys", "key", "(I)J"⟩ : MethodName)) hown (hw _ (List.mem_of_getElem? (i := 109) rfl)) (hw _ (List.mem_of_getElem? (i := 110) rfl)) (notFace_of_selects (args := #[]) (mvT hZ (hw _ (List.mem_of_getElem? (i := 112) rfl)))) (hw _ (List.mem_of_getElem? (i := 112) rfl)) (hw _ (List.mem_of_getElem? (i := 111) rfl)) (hw _ (List.mem_of_getElem? (i := 42) rfl)) (hw _ (List.mem_of_getElem? (i := 113) rfl)) (by decide) (a := zk) F44 (argsL := [(.int (Int32.ofNat (ns.getD lv 0)))]) (rest := [(.long (ss.getD (lv - 1) 0)), (.int (Int32.ofNat lv)), (.ref sa)]) (rm := ({ frames := 0, cells := 0, slots := 0, locals := 0 } : Room)) (h := h43) (rm13 l Z a0 hw zk kk ks (ns.getD lv 0) h43 n0 Z53 F49 F50 hk5 hin) e57 (W := 4) (by decide) (by decide) (by decide) (by decide) (g := (mkF m 66 #[.val (.ref a), .val (.int (Int32.ofNat lv)), .val (.int (Int32.ofNat (ns.getD (lv - 1) 0))), .val (.int (Int32.ofNat (ns.getD lv 0)))] [(.int (Int32.ofNat (ns.getD lv 0))), (.ref zk), (.long (ss.getD (lv - 1) 0)), (.int (Int32.ofNat lv)), (.ref sa)])) rfl (by rw [hml]; rfl) (lenOf pd_6 rfl) rfl (by show 2 * 0 + _ ≤ _; exact Nat.le_of_eq rfl) (hb hby d14_66) (fun v58 T58 h58 L58 X58 e58 hQ58 => ?_)
  obtain ⟨rfl, Nq58, q58⟩ := hQ58
  have N58 := Fr.app N43 Nq58
  rw [q58] at e58
  show OwnWk _ _ _ _ (T58.setTop (mkF m 69 #[.val (.ref a), .val (.int (Int32.ofNat lv)), .val (.int (Int32.ofNat (ns.getD (lv - 1) 0))), .val (.int (Int32.ofNat (ns.getD lv 0)))] [(.long (ks.getD (ns.getD lv 0) 0)), (.long (ss.getD (lv - 1) 0)), (.int (Int32.ofNat lv)), (.ref sa)]))
  refine own_go (fun tgt kst => XS.lxor X58.here hx rfl (hb hby d14_69) rfl kst) ?_
  show OwnWk _ _ _ _ (T58.setTop (mkF m 70 #[.val (.ref a), .val (.int (Int32.ofNat lv)), .val (.int (Int32.ofNat (ns.getD (lv - 1) 0))), .val (.int (Int32.ofNat (ns.getD lv 0)))] [(.long ((ss.getD (lv - 1) 0) ^^^ (ks.getD (ns.getD lv 0) 0))), (.int (Int32.ofNat lv)), (.ref sa)]))
  refine own_stJ X58 hx hZ e58 F51 (g := (mkF m 70 #[.val (.ref a), .val (.int (Int32.ofNat lv)), .val (.int (Int32.ofNat (ns.getD (lv - 1) 0))), .val (.int (Int32.ofNat (ns.getD lv 0)))] [(.long ((ss.getD (lv - 1) 0) ^^^ (ks.getD (ns.getD lv 0) 0))), (.int (Int32.ofNat lv)), (.ref sa)])) rfl rfl (hb hby d14_70) (own_n_nn (by have := (by have := hlv5; omega); omega)) (own_jv_in (KS := ss) (J := lv) hs6 (by have := hlv5; omega) (by decide)) (fun T59 h59 X59 e59 W59 V59 => ?_)
  have V59b : OAr Z h59 sa .long (own_jv (ss.set lv ((ss.getD (lv - 1) 0) ^^^ (ks.getD (ns.getD lv 0) 0)))) := by exact own_cast (own_jv_set (KS := ss) (J := lv) (x := ((ss.getD (lv - 1) 0) ^^^ (ks.getD (ns.getD lv 0) 0))) (by have := (by have := hlv5; omega); omega)) V59
  have N59 := Fr.snoc X59 N58 g_s
  have F60 := Exa.wr W59 F44
  have F61 := Fld.other W59 F45 (Or.inl n_a_sa)
  have F62 := Fld.other W59 F46 (Or.inl n_a_sa)
  have F63 := Fld.other W59 F47 (Or.inl n_a_sa)
  have F64 := Fld.other W59 F48 (Or.inl n_a_sa)
  have F65 := Fld.other W59 F49 (Or.inl n_zk_sa)
  have F66 := OAr.other F50 W59 n_kk_sa
  have F67 := OAr.other F52 W59 n_oa_sa
  have F68 := OAr.other V43b W59 n_pa_sa
  have Z69 := Nat.le_trans Z53 (Keep.of_wr W59).1
  have K70 := Keep.wr K54 W59 (Or.inl (List.mem_of_getElem? (i := 2) rfl))
  show OwnWk _ _ _ _ (T59.setTop (mkF m 71 #[.val (.ref a), .val (.int (Int32.ofNat lv)), .val (.int (Int32.ofNat (ns.getD (lv - 1) 0))), .val (.int (Int32.ofNat (ns.getD lv 0)))] []))
  exact own_retV X59 hx hlk hret (hb hby d14_71) (by decide) (by decide) (by rw [e59]; exact ⟨rfl, N59, K70, F67, F68⟩)
theorem pn_pn_15 : plainName "com/example/encircle/encircle/layout/Prefixes" = true := by first | (simp [plainName, overriddenIn]; done) | decide +kernel
theorem pn_15 : plainFor (⟨"com/example/encircle/encircle/layout/Prefixes", "sets", "()I"⟩ : MethodName) = true := plainFor_of_name pn_pn_15
theorem d15_0 : decode prog_24_method_2_code 0 = .ok (.aload_n 0, 1) := by decide +kernel
theorem d15_1 : decode prog_24_method_2_code 1 = .ok (.getfield 28, 3) := by decide +kernel
theorem d15_4 : decode prog_24_method_2_code 4 = .ok (.arraylength, 1) := by decide +kernel
theorem d15_5 : decode prog_24_method_2_code 5 = .ok (.ireturn, 1) := by decide +kernel
theorem ef_rm15 (m : MethodId) (x0 : Addr) : entryFrame m #[(.ref x0)] 1 = mkF m 0 #[.val (.ref x0)] [] := by first | (simp [entryFrame, mkF, argsToLocals, Value.category]; done) | rfl
def Q_rm15 (Z : State) (a oa : Addr) (ns : List Nat) (h0 : Heap) (n0 : Nat) (v : Option Value) (h : Heap) (L : List Loc) : Prop := v = some (.int 5) ∧ Fr n0 L ∧ h = h0
set_option maxRecDepth 65536 in
set_option maxHeartbeats 40000000 in
theorem rm15 (l : Launch) (Z : State) (a0 : Array Value) (hw : ∀ d ∈ tables_1, d.before a0 Z = true) (a oa : Addr) (ns : List Nat) (h0 : Heap) (n0 : Nat) (Z0 : n0 ≤ h0.size) (F_o : Fld Z h0 a "com/example/encircle/encircle/layout/Prefixes" "order" "[I" (.ref oa)) (V_o : OAr Z h0 oa .int (own_iv ns)) (hlen : ns.length = 5) :
    OwnMet l (⟨"com/example/encircle/encircle/layout/Prefixes", "sets", "()I"⟩ : MethodName) prog_24_method_2_code 1 (some .int) [] ({ frames := 0, cells := 0, slots := 0, locals := 0 } : Room) Z #[(.ref a)] h0 (Q_rm15 Z a oa ns h0 n0) := by
  refine own_met pn_15 (fun p e s m below meth c s₁ hx hby hml hown hnm hret hlk hZ X0 e0 => ?_)
  have hown : s.vm.findClass "com/example/encircle/encircle/layout/Prefixes" = some m.cls := hown
  have N0 := Fr.nil n0
  rw [ef_rm15]
  show OwnWk _ _ _ _ (s₁.setTop (mkF m 0 #[.val (.ref a)] []))
  refine own_go (fun tgt kst => XS.aloadN X0.here hx rfl (hb hby d15_0) rfl rfl  kst) ?_
  show OwnWk _ _ _ _ (s₁.setTop (mkF m 1 #[.val (.ref a)] [(.ref a)]))
  obtain ⟨T1, X1, e1, st1⟩ := getF X0 hx hZ hown (host := "") (Or.inl (hw _ (List.mem_of_getElem? (i := 103) rfl))) Via.refl e0 F_o (g := (mkF m 1 #[.val (.ref a)] [(.ref a)])) rfl rfl (hb hby d15_1)
  refine own_go st1 ?_
  show OwnWk _ _ _ _ (T1.setTop (mkF m 4 #[.val (.ref a)] [(.ref oa)]))
  refine own_len X1 hx hZ e1 V_o (g := (mkF m 4 #[.val (.ref a)] [(.ref oa)])) rfl rfl (hb hby d15_4) (N := (5 : Int32)) (by simp [own_iv, hlen]; rfl) ?_
  show OwnWk _ _ _ _ (T1.setTop (mkF m 5 #[.val (.ref a)] [(.int (5 : Int32))]))
  exact own_retI X1 hx hlk hret (hb hby d15_5) (by decide) (by decide) (by rw [e1]; exact ⟨rfl, N0, rfl⟩)
theorem pn_pn_17 : plainName "com/example/encircle/encircle/layout/Prefixes" = true := by first | (simp [plainName, overriddenIn]; done) | decide +kernel
theorem pn_17 : plainFor (⟨"com/example/encircle/encircle/layout/Prefixes", "at", "(I)I"⟩ : MethodName) = true := plainFor_of_name pn_pn_17
theorem d17_0 : decode prog_24_method_3_code 0 = .ok (.aload_n 0, 1) := by decide +kernel
theorem d17_1 : decode prog_24_method_3_code 1 = .ok (.getfield 28, 3) := by decide +kernel
theorem d17_4 : decode prog_24_method_3_code 4 = .ok (.iload_n 1, 1) := by decide +kernel
theorem d17_5 : decode prog_24_method_3_code 5 = .ok (.iaload, 1) := by decide +kernel
theorem d17_6 : decode prog_24_method_3_code 6 = .ok (.ireturn, 1) := by decide +kernel
theorem ef_rm17 (m : MethodId) (x0 : Addr) (x1 : Int32) : entryFrame m #[(.ref x0), (.int x1)] 2 = mkF m 0 #[.val (.ref x0), .val (.int x1)] [] := by first | (simp [entryFrame, mkF, argsToLocals, Value.category]; done) | rfl
def Q_rm17 (Z : State) (a oa : Addr) (ns : List Nat) (I : Nat) (h0 : Heap) (n0 : Nat) (v : Option Value) (h : Heap) (L : List Loc) : Prop := v = some (.int (Int32.ofNat (ns.getD I 0))) ∧ Fr n0 L ∧ h = h0
set_option maxRecDepth 65536 in
set_option maxHeartbeats 40000000 in
theorem rm17 (l : Launch) (Z : State) (a0 : Array Value) (hw : ∀ d ∈ tables_1, d.before a0 Z = true) (a oa : Addr) (ns : List Nat) (I : Nat) (h0 : Heap) (n0 : Nat) (Z0 : n0 ≤ h0.size) (F_o : Fld Z h0 a "com/example/encircle/encircle/layout/Prefixes" "order" "[I" (.ref oa)) (V_o : OAr Z h0 oa .int (own_iv ns)) (hlen : ns.length = 5) (hI : I < 5) :
    OwnMet l (⟨"com/example/encircle/encircle/layout/Prefixes", "at", "(I)I"⟩ : MethodName) prog_24_method_3_code 2 (some .int) [] ({ frames := 0, cells := 0, slots := 0, locals := 0 } : Room) Z #[(.ref a), (.int (Int32.ofNat I))] h0 (Q_rm17 Z a oa ns I h0 n0) := by
  refine own_met pn_17 (fun p e s m below meth c s₁ hx hby hml hown hnm hret hlk hZ X0 e0 => ?_)
  have hown : s.vm.findClass "com/example/encircle/encircle/layout/Prefixes" = some m.cls := hown
  have N0 := Fr.nil n0
  rw [ef_rm17]
  show OwnWk _ _ _ _ (s₁.setTop (mkF m 0 #[.val (.ref a), .val (.int (Int32.ofNat I))] []))
  refine own_go (fun tgt kst => XS.aloadN X0.here hx rfl (hb hby d17_0) rfl rfl  kst) ?_
  show OwnWk _ _ _ _ (s₁.setTop (mkF m 1 #[.val (.ref a), .val (.int (Int32.ofNat I))] [(.ref a)]))
  obtain ⟨T1, X1, e1, st1⟩ := getF X0 hx hZ hown (host := "") (Or.inl (hw _ (List.mem_of_getElem? (i := 103) rfl))) Via.refl e0 F_o (g := (mkF m 1 #[.val (.ref a), .val (.int (Int32.ofNat I))] [(.ref a)])) rfl rfl (hb hby d17_1)
  refine own_go st1 ?_
  show OwnWk _ _ _ _ (T1.setTop (mkF m 4 #[.val (.ref a), .val (.int (Int32.ofNat I))] [(.ref oa)]))
  refine own_go (fun tgt kst => XS.iloadN X1.here hx rfl (hb hby d17_4) rfl  kst) ?_
  show OwnWk _ _ _ _ (T1.setTop (mkF m 5 #[.val (.ref a), .val (.int (Int32.ofNat I))] [(.int (Int32.ofNat I)), (.ref oa)]))
  refine own_ldI X1 hx hZ e1 V_o (g := (mkF m 5 #[.val (.ref a), .val (.int (Int32.ofNat I))] [(.int (Int32.ofNat I)), (.ref oa)])) rfl rfl (hb hby d17_5) (v := (.int (Int32.ofNat (ns.getD I 0)))) (own_i5 hI) (own_iv_at (NS := ns) (J := I) (by simp [own_exch, own_swpp, own_places, own_perm, own_elen, hlen]) hI) ?_
  show OwnWk _ _ _ _ (T1.setTop (mkF m 6 #[.val (.ref a), .val (.int (Int32.ofNat I))] [(.int (Int32.ofNat (ns.getD I 0)))]))
  exact own_retI X1 hx hlk hret (hb hby d17_6) (by decide) (by decide) (by rw [e1]; exact ⟨rfl, N0, rfl⟩)
theorem pn_pn_18 : plainName "com/example/encircle/encircle/layout/Prefixes" = true := by first | (simp [plainName, overriddenIn]; done) | decide +kernel
theorem pn_18 : plainFor (⟨"com/example/encircle/encircle/layout/Prefixes", "place", "(I)I"⟩ : MethodName) = true := plainFor_of_name pn_pn_18
theorem d18_0 : decode prog_24_method_4_code 0 = .ok (.aload_n 0, 1) := by decide +kernel
theorem d18_1 : decode prog_24_method_4_code 1 = .ok (.getfield 31, 3) := by decide +kernel
theorem d18_4 : decode prog_24_method_4_code 4 = .ok (.iload_n 1, 1) := by decide +kernel
theorem d18_5 : decode prog_24_method_4_code 5 = .ok (.iaload, 1) := by decide +kernel
theorem d18_6 : decode prog_24_method_4_code 6 = .ok (.ireturn, 1) := by decide +kernel
theorem ef_rm18 (m : MethodId) (x0 : Addr) (x1 : Int32) : entryFrame m #[(.ref x0), (.int x1)] 2 = mkF m 0 #[.val (.ref x0), .val (.int x1)] [] := by first | (simp [entryFrame, mkF, argsToLocals, Value.category]; done) | rfl
def Q_rm18 (Z : State) (a oa : Addr) (ns : List Nat) (I : Nat) (h0 : Heap) (n0 : Nat) (v : Option Value) (h : Heap) (L : List Loc) : Prop := v = some (.int (Int32.ofNat (ns.getD I 0))) ∧ Fr n0 L ∧ h = h0
set_option maxRecDepth 65536 in
set_option maxHeartbeats 40000000 in
theorem rm18 (l : Launch) (Z : State) (a0 : Array Value) (hw : ∀ d ∈ tables_1, d.before a0 Z = true) (a oa : Addr) (ns : List Nat) (I : Nat) (h0 : Heap) (n0 : Nat) (Z0 : n0 ≤ h0.size) (F_o : Fld Z h0 a "com/example/encircle/encircle/layout/Prefixes" "places" "[I" (.ref oa)) (V_o : OAr Z h0 oa .int (own_iv ns)) (hlen : ns.length = 5) (hI : I < 5) :
    OwnMet l (⟨"com/example/encircle/encircle/layout/Prefixes", "place", "(I)I"⟩ : MethodName) prog_24_method_4_code 2 (some .int) [] ({ frames := 0, cells := 0, slots := 0, locals := 0 } : Room) Z #[(.ref a), (.int (Int32.ofNat I))] h0 (Q_rm18 Z a oa ns I h0 n0) := by
  refine own_met pn_18 (fun p e s m below meth c s₁ hx hby hml hown hnm hret hlk hZ X0 e0 => ?_)
  have hown : s.vm.findClass "com/example/encircle/encircle/layout/Prefixes" = some m.cls := hown
  have N0 := Fr.nil n0
  rw [ef_rm18]
  show OwnWk _ _ _ _ (s₁.setTop (mkF m 0 #[.val (.ref a), .val (.int (Int32.ofNat I))] []))
  refine own_go (fun tgt kst => XS.aloadN X0.here hx rfl (hb hby d18_0) rfl rfl  kst) ?_
  show OwnWk _ _ _ _ (s₁.setTop (mkF m 1 #[.val (.ref a), .val (.int (Int32.ofNat I))] [(.ref a)]))
  obtain ⟨T1, X1, e1, st1⟩ := getF X0 hx hZ hown (host := "") (Or.inl (hw _ (List.mem_of_getElem? (i := 105) rfl))) Via.refl e0 F_o (g := (mkF m 1 #[.val (.ref a), .val (.int (Int32.ofNat I))] [(.ref a)])) rfl rfl (hb hby d18_1)
  refine own_go st1 ?_
  show OwnWk _ _ _ _ (T1.setTop (mkF m 4 #[.val (.ref a), .val (.int (Int32.ofNat I))] [(.ref oa)]))
  refine own_go (fun tgt kst => XS.iloadN X1.here hx rfl (hb hby d18_4) rfl  kst) ?_
  show OwnWk _ _ _ _ (T1.setTop (mkF m 5 #[.val (.ref a), .val (.int (Int32.ofNat I))] [(.int (Int32.ofNat I)), (.ref oa)]))
  refine own_ldI X1 hx hZ e1 V_o (g := (mkF m 5 #[.val (.ref a), .val (.int (Int32.ofNat I))] [(.int (Int32.ofNat I)), (.ref oa)])) rfl rfl (hb hby d18_5) (v := (.int (Int32.ofNat (ns.getD I 0)))) (own_i5 hI) (own_iv_at (NS := ns) (J := I) (by simp [own_exch, own_swpp, own_places, own_perm, own_elen, hlen]) hI) ?_
  show OwnWk _ _ _ _ (T1.setTop (mkF m 6 #[.val (.ref a), .val (.int (Int32.ofNat I))] [(.int (Int32.ofNat (ns.getD I 0)))]))
  exact own_retI X1 hx hlk hret (hb hby d18_6) (by decide) (by decide) (by rw [e1]; exact ⟨rfl, N0, rfl⟩)
theorem pn_pn_16 : plainName "com/example/encircle/encircle/layout/PrefixesSwapPinLaw" = true := by first | (simp [plainName, overriddenIn]; done) | decide +kernel
theorem pn_16 : plainFor (⟨"com/example/encircle/encircle/layout/PrefixesSwapPinLaw", "ok", "(Lcom/example/encircle/encircle/layout/Prefixes;[II)Z"⟩ : MethodName) = true := plainFor_of_name pn_pn_16
theorem d16_0 : decode method_3_code 0 = .ok (.aload_n 0, 1) := by decide +kernel
theorem d16_1 : decode method_3_code 1 = .ok (.iload_n 2, 1) := by decide +kernel
theorem d16_2 : decode method_3_code 2 = .ok (.invokevirtual 7, 3) := by decide +kernel
theorem d16_5 : decode method_3_code 5 = .ok (.aload_n 1, 1) := by decide +kernel
theorem d16_6 : decode method_3_code 6 = .ok (.iload_n 2, 1) := by decide +kernel
theorem d16_7 : decode method_3_code 7 = .ok (.iaload, 1) := by decide +kernel
theorem d16_8 : decode method_3_code 8 = .ok (.if_icmp .ne 18, 3) := by decide +kernel
theorem d16_11 : decode method_3_code 11 = .ok (.aload_n 0, 1) := by decide +kernel
theorem d16_12 : decode method_3_code 12 = .ok (.aload_n 1, 1) := by decide +kernel
theorem d16_13 : decode method_3_code 13 = .ok (.iload_n 2, 1) := by decide +kernel
theorem d16_14 : decode method_3_code 14 = .ok (.iaload, 1) := by decide +kernel
theorem d16_15 : decode method_3_code 15 = .ok (.invokevirtual 13, 3) := by decide +kernel
theorem d16_18 : decode method_3_code 18 = .ok (.iload_n 2, 1) := by decide +kernel
theorem d16_19 : decode method_3_code 19 = .ok (.if_icmp .ne 7, 3) := by decide +kernel
theorem d16_22 : decode method_3_code 22 = .ok (.iconst 1, 1) := by decide +kernel
theorem d16_23 : decode method_3_code 23 = .ok (.goto 4, 3) := by decide +kernel
theorem d16_27 : decode method_3_code 27 = .ok (.ireturn, 1) := by decide +kernel
theorem d16_26 : decode method_3_code 26 = .ok (.iconst 0, 1) := by decide +kernel
theorem ef_rm16 (m : MethodId) (x0 : Addr) (x1 : Addr) (x2 : Int32) : entryFrame m #[(.ref x0), (.ref x1), (.int x2)] 3 = mkF m 0 #[.val (.ref x0), .val (.ref x1), .val (.int x2)] [] := by first | (simp [entryFrame, mkF, argsToLocals, Value.category]; done) | rfl
def Q_rm16 (Z : State) (a t oa pa : Addr) (os es ps : List Nat) (I : Nat) (h0 : Heap) (n0 : Nat) (v : Option Value) (h : Heap) (L : List Loc) : Prop := v = some (.int (own_okv os es ps I)) ∧ Fr n0 L ∧ h = h0
set_option maxRecDepth 65536 in
set_option maxHeartbeats 40000000 in
theorem rm16 (l : Launch) (Z : State) (a0 : Array Value) (hw : ∀ d ∈ tables_1, d.before a0 Z = true) (a t oa pa : Addr) (os es ps : List Nat) (I : Nat) (h0 : Heap) (n0 : Nat) (Z0 : n0 ≤ h0.size) (E_a : Exa Z h0 a "com/example/encircle/encircle/layout/Prefixes") (F_o : Fld Z h0 a "com/example/encircle/encircle/layout/Prefixes" "order" "[I" (.ref oa)) (F_p : Fld Z h0 a "com/example/encircle/encircle/layout/Prefixes" "places" "[I" (.ref pa)) (V_o : OAr Z h0 oa .int (own_iv os)) (V_p : OAr Z h0 pa .int (own_iv ps)) (V_e : OAr Z h0 t .int (own_iv es)) (h1 : os.length = 5) (h2 : ps.length = 5) (h3 : es.length = 5) (hI : I < 5) (hE : es.getD I 0 < 5) :
    OwnMet l (⟨"com/example/encircle/encircle/layout/PrefixesSwapPinLaw", "ok", "(Lcom/example/encircle/encircle/layout/Prefixes;[II)Z"⟩ : MethodName) method_3_code 3 (some .boolean) [] ({ frames := 1, cells := 0, slots := 0, locals := 13 } : Room) Z #[(.ref a), (.ref t), (.int (Int32.ofNat I))] h0 (Q_rm16 Z a t oa pa os es ps I h0 n0) := by
  refine own_met pn_16 (fun p e s m below meth c s₁ hx hby hml hown hnm hret hlk hZ X0 e0 => ?_)
  have hown : s.vm.findClass "com/example/encircle/encircle/layout/PrefixesSwapPinLaw" = some m.cls := hown
  have N0 := Fr.nil n0
  rw [ef_rm16]
  show OwnWk _ _ _ _ (s₁.setTop (mkF m 0 #[.val (.ref a), .val (.ref t), .val (.int (Int32.ofNat I))] []))
  refine own_go (fun tgt kst => XS.aloadN X0.here hx rfl (hb hby d16_0) rfl rfl  kst) ?_
  show OwnWk _ _ _ _ (s₁.setTop (mkF m 1 #[.val (.ref a), .val (.ref t), .val (.int (Int32.ofNat I))] [(.ref a)]))
  refine own_go (fun tgt kst => XS.iloadN X0.here hx rfl (hb hby d16_1) rfl  kst) ?_
  show OwnWk _ _ _ _ (s₁.setTop (mkF m 2 #[.val (.ref a), .val (.ref t), .val (.int (Int32.ofNat I))] [(.int (Int32.ofNat I)), (.ref a)]))
  refine own_callV X0 hx hZ (y := (⟨"com/example/encircle/encircle/layout/Prefixes", "at", "(I)I"⟩ : MethodName)) (z := (⟨"com/example/encircle/encircle/layout/Prefixes", "at", "(I)I"⟩ : MethodName)) hown (hw _ (List.mem_of_getElem? (i := 128) rfl)) (hw _ (List.mem_of_getElem? (i := 129) rfl)) (notFace_of_selects (args := #[]) (mvT hZ (hw _ (List.mem_of_getElem? (i := 131) rfl)))) (hw _ (List.mem_of_getElem? (i := 131) rfl)) (hw _ (List.mem_of_getElem? (i := 130) rfl)) (hw _ (List.mem_of_getElem? (i := 7) rfl)) (hw _ (List.mem_of_getElem? (i := 132) rfl)) (by decide) (a := a) E_a (argsL := [(.int (Int32.ofNat I))]) (rest := []) (rm := ({ frames := 0, cells := 0, slots := 0, locals := 0 } : Room)) (h := h0) (rm17 l Z a0 hw a oa os I h0 n0 Z0 F_o V_o h1 hI) e0 (W := 0) (by decide) (by decide) (by decide) (by decide) (g := (mkF m 2 #[.val (.ref a), .val (.ref t), .val (.int (Int32.ofNat I))] [(.int (Int32.ofNat I)), (.ref a)])) rfl (by rw [hml]; rfl) (lenOf pd_1 rfl) rfl (by show 2 * 0 + _ ≤ _; exact Nat.le_of_eq rfl) (hb hby d16_2) (fun v1 T1 h1 L1 X1 e1 hQ1 => ?_)
  obtain ⟨rfl, Nq1, q1⟩ := hQ1
  have N1 := Fr.app N0 Nq1
  rw [q1] at e1
  show OwnWk _ _ _ _ (T1.setTop (mkF m 5 #[.val (.ref a), .val (.ref t), .val (.int (Int32.ofNat I))] [(.int (Int32.ofNat (os.getD I 0)))]))
  refine own_go (fun tgt kst => XS.aloadN X1.here hx rfl (hb hby d16_5) rfl rfl  kst) ?_
  show OwnWk _ _ _ _ (T1.setTop (mkF m 6 #[.val (.ref a), .val (.ref t), .val (.int (Int32.ofNat I))] [(.ref t), (.int (Int32.ofNat (os.getD I 0)))]))
  refine own_go (fun tgt kst => XS.iloadN X1.here hx rfl (hb hby d16_6) rfl  kst) ?_
  show OwnWk _ _ _ _ (T1.setTop (mkF m 7 #[.val (.ref a), .val (.ref t), .val (.int (Int32.ofNat I))] [(.int (Int32.ofNat I)), (.ref t), (.int (Int32.ofNat (os.getD I 0)))]))
  refine own_ldI X1 hx hZ e1 V_e (g := (mkF m 7 #[.val (.ref a), .val (.ref t), .val (.int (Int32.ofNat I))] [(.int (Int32.ofNat I)), (.ref t), (.int (Int32.ofNat (os.getD I 0)))])) rfl rfl (hb hby d16_7) (v := (.int (Int32.ofNat (es.getD I 0)))) (own_i5 hI) (own_iv_at (NS := es) (J := I) h3 hI) ?_
  show OwnWk _ _ _ _ (T1.setTop (mkF m 8 #[.val (.ref a), .val (.ref t), .val (.int (Int32.ofNat I))] [(.int (Int32.ofNat (es.getD I 0))), (.int (Int32.ofNat (os.getD I 0)))]))
  by_cases hc2 : (Int32.ofNat (os.getD I 0)) = (Int32.ofNat (es.getD I 0))
  ·
    refine own_go (fun tgt kst => XS.icmpNo X1.here hx rfl (hb hby d16_8) rfl (teq hc2).2 kst) ?_
    show OwnWk _ _ _ _ (T1.setTop (mkF m 11 #[.val (.ref a), .val (.ref t), .val (.int (Int32.ofNat I))] []))
    refine own_go (fun tgt kst => XS.aloadN X1.here hx rfl (hb hby d16_11) rfl rfl  kst) ?_
    show OwnWk _ _ _ _ (T1.setTop (mkF m 12 #[.val (.ref a), .val (.ref t), .val (.int (Int32.ofNat I))] [(.ref a)]))
    refine own_go (fun tgt kst => XS.aloadN X1.here hx rfl (hb hby d16_12) rfl rfl  kst) ?_
    show OwnWk _ _ _ _ (T1.setTop (mkF m 13 #[.val (.ref a), .val (.ref t), .val (.int (Int32.ofNat I))] [(.ref t), (.ref a)]))
    refine own_go (fun tgt kst => XS.iloadN X1.here hx rfl (hb hby d16_13) rfl  kst) ?_
    show OwnWk _ _ _ _ (T1.setTop (mkF m 14 #[.val (.ref a), .val (.ref t), .val (.int (Int32.ofNat I))] [(.int (Int32.ofNat I)), (.ref t), (.ref a)]))
    refine own_ldI X1 hx hZ e1 V_e (g := (mkF m 14 #[.val (.ref a), .val (.ref t), .val (.int (Int32.ofNat I))] [(.int (Int32.ofNat I)), (.ref t), (.ref a)])) rfl rfl (hb hby d16_14) (v := (.int (Int32.ofNat (es.getD I 0)))) (own_i5 hI) (own_iv_at (NS := es) (J := I) h3 hI) ?_
    show OwnWk _ _ _ _ (T1.setTop (mkF m 15 #[.val (.ref a), .val (.ref t), .val (.int (Int32.ofNat I))] [(.int (Int32.ofNat (es.getD I 0))), (.ref a)]))
    refine own_callV X1 hx hZ (y := (⟨"com/example/encircle/encircle/layout/Prefixes", "place", "(I)I"⟩ : MethodName)) (z := (⟨"com/example/encircle/encircle/layout/Prefixes", "place", "(I)I"⟩ : MethodName)) hown (hw _ (List.mem_of_getElem? (i := 133) rfl)) (hw _ (List.mem_of_getElem? (i := 134) rfl)) (notFace_of_selects (args := #[]) (mvT hZ (hw _ (List.mem_of_getElem? (i := 136) rfl)))) (hw _ (List.mem_of_getElem? (i := 136) rfl)) (hw _ (List.mem_of_getElem? (i := 135) rfl)) (hw _ (List.mem_of_getElem? (i := 7) rfl)) (hw _ (List.mem_of_getElem? (i := 137) rfl)) (by decide) (a := a) E_a (argsL := [(.int (Int32.ofNat (es.getD I 0)))]) (rest := []) (rm := ({ frames := 0, cells := 0, slots := 0, locals := 0 } : Room)) (h := h0) (rm18 l Z a0 hw a pa ps (es.getD I 0) h0 n0 Z0 F_p V_p h2 hE) e1 (W := 0) (by decide) (by decide) (by decide) (by decide) (g := (mkF m 15 #[.val (.ref a), .val (.ref t), .val (.int (Int32.ofNat I))] [(.int (Int32.ofNat (es.getD I 0))), (.ref a)])) rfl (by rw [hml]; rfl) (lenOf pd_1 rfl) rfl (by show 2 * 0 + _ ≤ _; exact Nat.le_of_eq rfl) (hb hby d16_15) (fun v3 T3 h3 L3 X3 e3 hQ3 => ?_)
    obtain ⟨rfl, Nq3, q3⟩ := hQ3
    have N3 := Fr.app N1 Nq3
    rw [q3] at e3
    show OwnWk _ _ _ _ (T3.setTop (mkF m 18 #[.val (.ref a), .val (.ref t), .val (.int (Int32.ofNat I))] [(.int (Int32.ofNat (ps.getD (es.getD I 0) 0)))]))
    refine own_go (fun tgt kst => XS.iloadN X3.here hx rfl (hb hby d16_18) rfl  kst) ?_
    show OwnWk _ _ _ _ (T3.setTop (mkF m 19 #[.val (.ref a), .val (.ref t), .val (.int (Int32.ofNat I))] [(.int (Int32.ofNat I)), (.int (Int32.ofNat (ps.getD (es.getD I 0) 0)))]))
    by_cases hc4 : (Int32.ofNat (ps.getD (es.getD I 0) 0)) = (Int32.ofNat I)
    ·
      refine own_go (fun tgt kst => XS.icmpNo X3.here hx rfl (hb hby d16_19) rfl (teq hc4).2 kst) ?_
      show OwnWk _ _ _ _ (T3.setTop (mkF m 22 #[.val (.ref a), .val (.ref t), .val (.int (Int32.ofNat I))] []))
      refine own_go (fun tgt kst => XS.iconst X3.here hx rfl (hb hby d16_22) kst) ?_
      show OwnWk _ _ _ _ (T3.setTop (mkF m 23 #[.val (.ref a), .val (.ref t), .val (.int (Int32.ofNat I))] [(.int (1 : Int32))]))
      refine own_go (fun tgt kst => XS.goto X3.here hx rfl (pc0 := 23) (pc' := 27) rfl (hb hby d16_23) (by decide) (by decide) kst) ?_
      show OwnWk _ _ _ _ (T3.setTop (mkF m 27 #[.val (.ref a), .val (.ref t), .val (.int (Int32.ofNat I))] [(.int (1 : Int32))]))
      exact own_retZ X3 hx hlk hret (by simp) (z' := (1 : Int32)) rfl (hb hby d16_27) (by decide) (by decide) (by rw [e3]; exact ⟨congrArg (fun z => some (Value.int z)) (if_pos ⟨hc2, hc4⟩).symm, N3, rfl⟩)
    ·
      refine own_go (fun tgt kst => XS.icmpYes X3.here hx rfl (pc0 := 19) (pc' := 26) rfl (hb hby d16_19) rfl (feq hc4).2 (by decide) (by decide) kst) ?_
      show OwnWk _ _ _ _ (T3.setTop (mkF m 26 #[.val (.ref a), .val (.ref t), .val (.int (Int32.ofNat I))] []))
      refine own_go (fun tgt kst => XS.iconst X3.here hx rfl (hb hby d16_26) kst) ?_
      show OwnWk _ _ _ _ (T3.setTop (mkF m 27 #[.val (.ref a), .val (.ref t), .val (.int (Int32.ofNat I))] [(.int (0 : Int32))]))
      exact own_retZ X3 hx hlk hret (by simp) (z' := (0 : Int32)) rfl (hb hby d16_27) (by decide) (by decide) (by rw [e3]; exact ⟨congrArg (fun z => some (Value.int z)) (if_neg (fun q => hc4 q.2)).symm, N3, rfl⟩)
  ·
    refine own_go (fun tgt kst => XS.icmpYes X1.here hx rfl (pc0 := 8) (pc' := 26) rfl (hb hby d16_8) rfl (feq hc2).2 (by decide) (by decide) kst) ?_
    show OwnWk _ _ _ _ (T1.setTop (mkF m 26 #[.val (.ref a), .val (.ref t), .val (.int (Int32.ofNat I))] []))
    refine own_go (fun tgt kst => XS.iconst X1.here hx rfl (hb hby d16_26) kst) ?_
    show OwnWk _ _ _ _ (T1.setTop (mkF m 27 #[.val (.ref a), .val (.ref t), .val (.int (Int32.ofNat I))] [(.int (0 : Int32))]))
    exact own_retZ X1 hx hlk hret (by simp) (z' := (0 : Int32)) rfl (hb hby d16_27) (by decide) (by decide) (by rw [e1]; exact ⟨congrArg (fun z => some (Value.int z)) (if_neg (fun q => hc2 q.1)).symm, N1, rfl⟩)
theorem pn_pn_0 : plainName "com/example/encircle/encircle/layout/PrefixesSwapPinLaw" = true := by first | (simp [plainName, overriddenIn]; done) | decide +kernel
theorem pn_0 : plainFor x = true := plainFor_of_name pn_pn_0
theorem pd_7 : parseMethodDescriptor "([III)V" = some ⟨[(.array .int), .int, .int], none⟩ := by decide +kernel
theorem pd_8 : parseMethodDescriptor "([ILjava/util/List;)V" = some ⟨[(.array .int), (.object "java/util/List")], none⟩ := by decide +kernel
theorem pd_9 : parseMethodDescriptor "(I)V" = some ⟨[.int], none⟩ := by decide +kernel
theorem pd_10 : parseMethodDescriptor "(Lcom/example/encircle/encircle/layout/Prefixes;[II)Z" = some ⟨[(.object "com/example/encircle/encircle/layout/Prefixes"), (.array .int), .int], some .boolean⟩ := by decide +kernel
theorem ef_rm0 (m : MethodId) (x0 : Int32) (x1 : Int32) : entryFrame m #[(.int x0), (.int x1)] maxLocals = mkF m 0 #[.val (.int x0), .val (.int x1), .unset, .unset, .unset, .unset] [] := by first | (simp [entryFrame, mkF, argsToLocals, Value.category, maxLocals]; done) | rfl
def Q_rm0 (Z : State) (pr lw : Int32) (dce : Addr) (h0 : Heap) (n0 : Nat) (v : Option Value) (h : Heap) (L : List Loc) : Prop := v = some (.int 1) ∧ Fr n0 L
set_option maxRecDepth 65536 in
set_option maxHeartbeats 40000000 in
theorem rm0 (l : Launch) (Z : State) (a0 : Array Value) (hw : ∀ d ∈ tables_1, d.before a0 Z = true) (pr lw : Int32) (dce : Addr) (h0 : Heap) (n0 : Nat) (Z0 : n0 ≤ h0.size) (S_d : Sta Z h0 "java/util/ArrayList" "DEFAULTCAPACITY_EMPTY_ELEMENTDATA" "[Ljava/lang/Object;" (.ref dce)) :
    OwnMet l x code maxLocals ret tables_1 room_1 Z #[(.int pr), (.int lw)] h0 (Q_rm0 Z pr lw dce h0 n0) := by
  refine own_met pn_0 (fun p e s m below meth c s₁ hx hby hml hown hnm hret hlk hZ X0 e0 => ?_)
  have hml : c.maxLocals = 6 := hml
  have hret : meth.sig.returnType = some .boolean := hret
  have hown : s.vm.findClass "com/example/encircle/encircle/layout/PrefixesSwapPinLaw" = some m.cls := hown
  have N0 := Fr.nil n0
  rw [ef_rm0]
  obtain ⟨I4, l4, er4⟩ := own_draw pr 7 5 (by decide) (by decide) (by decide)
  obtain ⟨I3, l3, er3⟩ := own_and_nat ((pr.toUInt32 >>> ((3 : Int32) &&& 31).toUInt32).toInt32) 3 (by decide)
  obtain ⟨I2, l2, er2⟩ := own_draw ((pr.toUInt32 >>> ((5 : Int32) &&& 31).toUInt32).toInt32) 3 3 (by decide) (by decide) (by decide)
  obtain ⟨I1, l1, er1⟩ := own_and_nat ((pr.toUInt32 >>> ((7 : Int32) &&& 31).toUInt32).toInt32) 1 (by decide)
  obtain ⟨lv, llv, elv⟩ := own_draw lw 2147483647 4 (by decide) (by decide) (by decide)
  show OwnWk _ _ _ _ (s₁.setTop (mkF m 0 #[.val (.int pr), .val (.int lw), .unset, .unset, .unset, .unset] []))
  refine own_go (fun tgt kst => XS.iconst X0.here hx rfl (hb hby at_0) kst) ?_
  show OwnWk _ _ _ _ (s₁.setTop (mkF m 1 #[.val (.int pr), .val (.int lw), .unset, .unset, .unset, .unset] [(.int (5 : Int32))]))
  refine own_newPE X0 hx hZ (aty := .int) (hw _ (List.mem_of_getElem? (i := 0) rfl)) e0 (g := (mkF m 1 #[.val (.int pr), .val (.int lw), .unset, .unset, .unset, .unset] [(.int (5 : Int32))])) rfl (hb hby at_1) rfl (by decide) (cap := 5) (by decide) (by decide) (by decide) (by decide) (ad := "[I") (by decide) (fun T1 h1 b1 X1 e1 g1 E1 V1 Ex1 => ?_)
  have ge2 : n0 ≤ b1 := Nat.le_trans Z0 (Nat.le_of_eq g1.symm)
  have F3 := Sta.ext E1 S_d
  have Z4 := Nat.le_trans Z0 E1.1
  have V1b : OAr Z h1 b1 .int [(.int (0 : Int32)), (.int (0 : Int32)), (.int (0 : Int32)), (.int (0 : Int32)), (.int (0 : Int32))] := V1
  show OwnWk _ _ _ _ (T1.setTop (mkF m 3 #[.val (.int pr), .val (.int lw), .unset, .unset, .unset, .unset] [(.ref b1)]))
  refine own_go (fun tgt kst => XS.dup X1.here hx rfl (hb hby at_3) rfl rfl kst) ?_
  show OwnWk _ _ _ _ (T1.setTop (mkF m 4 #[.val (.int pr), .val (.int lw), .unset, .unset, .unset, .unset] [(.ref b1), (.ref b1)]))
  refine own_go (fun tgt kst => XS.iconst X1.here hx rfl (hb hby at_4) kst) ?_
  show OwnWk _ _ _ _ (T1.setTop (mkF m 5 #[.val (.int pr), .val (.int lw), .unset, .unset, .unset, .unset] [(.int (0 : Int32)), (.ref b1), (.ref b1)]))
  refine own_go (fun tgt kst => XS.iconst X1.here hx rfl (hb hby at_5) kst) ?_
  show OwnWk _ _ _ _ (T1.setTop (mkF m 6 #[.val (.int pr), .val (.int lw), .unset, .unset, .unset, .unset] [(.int (0 : Int32)), (.int (0 : Int32)), (.ref b1), (.ref b1)]))
  refine own_stI X1 hx hZ e1 V1b (g := (mkF m 6 #[.val (.int pr), .val (.int lw), .unset, .unset, .unset, .unset] [(.int (0 : Int32)), (.int (0 : Int32)), (.ref b1), (.ref b1)])) rfl rfl (hb hby at_6) (by decide) (Nat.le_of_ble_eq_true rfl) (fun T5 h5 X5 e5 W5 V5 => ?_)
  have N5 := Fr.snoc X5 N0 ge2
  have F6 := Sta.wr W5 F3
  have F7 := Exa.wr W5 Ex1
  have Z8 := Nat.le_trans Z4 (Keep.of_wr W5).1
  show OwnWk _ _ _ _ (T5.setTop (mkF m 7 #[.val (.int pr), .val (.int lw), .unset, .unset, .unset, .unset] [(.ref b1)]))
  refine own_go (fun tgt kst => XS.dup X5.here hx rfl (hb hby at_7) rfl rfl kst) ?_
  show OwnWk _ _ _ _ (T5.setTop (mkF m 8 #[.val (.int pr), .val (.int lw), .unset, .unset, .unset, .unset] [(.ref b1), (.ref b1)]))
  refine own_go (fun tgt kst => XS.iconst X5.here hx rfl (hb hby at_8) kst) ?_
  show OwnWk _ _ _ _ (T5.setTop (mkF m 9 #[.val (.int pr), .val (.int lw), .unset, .unset, .unset, .unset] [(.int (1 : Int32)), (.ref b1), (.ref b1)]))
  refine own_go (fun tgt kst => XS.iconst X5.here hx rfl (hb hby at_9) kst) ?_
  show OwnWk _ _ _ _ (T5.setTop (mkF m 10 #[.val (.int pr), .val (.int lw), .unset, .unset, .unset, .unset] [(.int (1 : Int32)), (.int (1 : Int32)), (.ref b1), (.ref b1)]))
  refine own_stI X5 hx hZ e5 V5 (g := (mkF m 10 #[.val (.int pr), .val (.int lw), .unset, .unset, .unset, .unset] [(.int (1 : Int32)), (.int (1 : Int32)), (.ref b1), (.ref b1)])) rfl rfl (hb hby at_10) (by decide) (Nat.le_of_ble_eq_true rfl) (fun T9 h9 X9 e9 W9 V9 => ?_)
  have N9 := Fr.snoc X9 N5 ge2
  have F10 := Sta.wr W9 F6
  have F11 := Exa.wr W9 F7
  have Z12 := Nat.le_trans Z8 (Keep.of_wr W9).1
  show OwnWk _ _ _ _ (T9.setTop (mkF m 11 #[.val (.int pr), .val (.int lw), .unset, .unset, .unset, .unset] [(.ref b1)]))
  refine own_go (fun tgt kst => XS.dup X9.here hx rfl (hb hby at_11) rfl rfl kst) ?_
  show OwnWk _ _ _ _ (T9.setTop (mkF m 12 #[.val (.int pr), .val (.int lw), .unset, .unset, .unset, .unset] [(.ref b1), (.ref b1)]))
  refine own_go (fun tgt kst => XS.iconst X9.here hx rfl (hb hby at_12) kst) ?_
  show OwnWk _ _ _ _ (T9.setTop (mkF m 13 #[.val (.int pr), .val (.int lw), .unset, .unset, .unset, .unset] [(.int (2 : Int32)), (.ref b1), (.ref b1)]))
  refine own_go (fun tgt kst => XS.iconst X9.here hx rfl (hb hby at_13) kst) ?_
  show OwnWk _ _ _ _ (T9.setTop (mkF m 14 #[.val (.int pr), .val (.int lw), .unset, .unset, .unset, .unset] [(.int (2 : Int32)), (.int (2 : Int32)), (.ref b1), (.ref b1)]))
  refine own_stI X9 hx hZ e9 V9 (g := (mkF m 14 #[.val (.int pr), .val (.int lw), .unset, .unset, .unset, .unset] [(.int (2 : Int32)), (.int (2 : Int32)), (.ref b1), (.ref b1)])) rfl rfl (hb hby at_14) (by decide) (Nat.le_of_ble_eq_true rfl) (fun T13 h13 X13 e13 W13 V13 => ?_)
  have N13 := Fr.snoc X13 N9 ge2
  have F14 := Sta.wr W13 F10
  have F15 := Exa.wr W13 F11
  have Z16 := Nat.le_trans Z12 (Keep.of_wr W13).1
  show OwnWk _ _ _ _ (T13.setTop (mkF m 15 #[.val (.int pr), .val (.int lw), .unset, .unset, .unset, .unset] [(.ref b1)]))
  refine own_go (fun tgt kst => XS.dup X13.here hx rfl (hb hby at_15) rfl rfl kst) ?_
  show OwnWk _ _ _ _ (T13.setTop (mkF m 16 #[.val (.int pr), .val (.int lw), .unset, .unset, .unset, .unset] [(.ref b1), (.ref b1)]))
  refine own_go (fun tgt kst => XS.iconst X13.here hx rfl (hb hby at_16) kst) ?_
  show OwnWk _ _ _ _ (T13.setTop (mkF m 17 #[.val (.int pr), .val (.int lw), .unset, .unset, .unset, .unset] [(.int (3 : Int32)), (.ref b1), (.ref b1)]))
  refine own_go (fun tgt kst => XS.iconst X13.here hx rfl (hb hby at_17) kst) ?_
  show OwnWk _ _ _ _ (T13.setTop (mkF m 18 #[.val (.int pr), .val (.int lw), .unset, .unset, .unset, .unset] [(.int (3 : Int32)), (.int (3 : Int32)), (.ref b1), (.ref b1)]))
  refine own_stI X13 hx hZ e13 V13 (g := (mkF m 18 #[.val (.int pr), .val (.int lw), .unset, .unset, .unset, .unset] [(.int (3 : Int32)), (.int (3 : Int32)), (.ref b1), (.ref b1)])) rfl rfl (hb hby at_18) (by decide) (Nat.le_of_ble_eq_true rfl) (fun T17 h17 X17 e17 W17 V17 => ?_)
  have N17 := Fr.snoc X17 N13 ge2
  have F18 := Sta.wr W17 F14
  have F19 := Exa.wr W17 F15
  have Z20 := Nat.le_trans Z16 (Keep.of_wr W17).1
  show OwnWk _ _ _ _ (T17.setTop (mkF m 19 #[.val (.int pr), .val (.int lw), .unset, .unset, .unset, .unset] [(.ref b1)]))
  refine own_go (fun tgt kst => XS.dup X17.here hx rfl (hb hby at_19) rfl rfl kst) ?_
  show OwnWk _ _ _ _ (T17.setTop (mkF m 20 #[.val (.int pr), .val (.int lw), .unset, .unset, .unset, .unset] [(.ref b1), (.ref b1)]))
  refine own_go (fun tgt kst => XS.iconst X17.here hx rfl (hb hby at_20) kst) ?_
  show OwnWk _ _ _ _ (T17.setTop (mkF m 21 #[.val (.int pr), .val (.int lw), .unset, .unset, .unset, .unset] [(.int (4 : Int32)), (.ref b1), (.ref b1)]))
  refine own_go (fun tgt kst => XS.iconst X17.here hx rfl (hb hby at_21) kst) ?_
  show OwnWk _ _ _ _ (T17.setTop (mkF m 22 #[.val (.int pr), .val (.int lw), .unset, .unset, .unset, .unset] [(.int (4 : Int32)), (.int (4 : Int32)), (.ref b1), (.ref b1)]))
  refine own_stI X17 hx hZ e17 V17 (g := (mkF m 22 #[.val (.int pr), .val (.int lw), .unset, .unset, .unset, .unset] [(.int (4 : Int32)), (.int (4 : Int32)), (.ref b1), (.ref b1)])) rfl rfl (hb hby at_22) (by decide) (Nat.le_of_ble_eq_true rfl) (fun T21 h21 X21 e21 W21 V21 => ?_)
  have N21 := Fr.snoc X21 N17 ge2
  have F22 := Sta.wr W21 F18
  have F23 := Exa.wr W21 F19
  have Z24 := Nat.le_trans Z20 (Keep.of_wr W21).1
  show OwnWk _ _ _ _ (T21.setTop (mkF m 23 #[.val (.int pr), .val (.int lw), .unset, .unset, .unset, .unset] [(.ref b1)]))
  have Vst : OAr Z h21 b1 .int (own_iv [0, 1, 2, 3, 4]) := V21
  refine own_go (fun tgt kst => XS.astoreN X21.here hx rfl (hb hby at_23) rfl rfl (l' := #[.val (.int pr), .val (.int lw), .val (.ref b1), .unset, .unset, .unset]) rfl kst) ?_
  show OwnWk _ _ _ _ (T21.setTop (mkF m 24 #[.val (.int pr), .val (.int lw), .val (.ref b1), .unset, .unset, .unset] []))
  refine own_go (fun tgt kst => XS.aloadN X21.here hx rfl (hb hby at_24) rfl rfl  kst) ?_
  show OwnWk _ _ _ _ (T21.setTop (mkF m 25 #[.val (.int pr), .val (.int lw), .val (.ref b1), .unset, .unset, .unset] [(.ref b1)]))
  refine own_go (fun tgt kst => XS.iconst X21.here hx rfl (hb hby at_25) kst) ?_
  show OwnWk _ _ _ _ (T21.setTop (mkF m 26 #[.val (.int pr), .val (.int lw), .val (.ref b1), .unset, .unset, .unset] [(.int (4 : Int32)), (.ref b1)]))
  refine own_go (fun tgt kst => XS.iloadN X21.here hx rfl (hb hby at_26) rfl  kst) ?_
  show OwnWk _ _ _ _ (T21.setTop (mkF m 27 #[.val (.int pr), .val (.int lw), .val (.ref b1), .unset, .unset, .unset] [(.int pr), (.int (4 : Int32)), (.ref b1)]))
  refine own_go (fun tgt kst => XS.bipush X21.here hx rfl (hb hby at_27) kst) ?_
  show OwnWk _ _ _ _ (T21.setTop (mkF m 29 #[.val (.int pr), .val (.int lw), .val (.ref b1), .unset, .unset, .unset] [(.int (7 : Int32)), (.int pr), (.int (4 : Int32)), (.ref b1)]))
  refine own_go (fun tgt kst => XS.iand X21.here hx rfl (hb hby at_29) rfl kst) ?_
  show OwnWk _ _ _ _ (T21.setTop (mkF m 30 #[.val (.int pr), .val (.int lw), .val (.ref b1), .unset, .unset, .unset] [(.int (pr &&& (7 : Int32))), (.int (4 : Int32)), (.ref b1)]))
  refine own_go (fun tgt kst => XS.iconst X21.here hx rfl (hb hby at_30) kst) ?_
  show OwnWk _ _ _ _ (T21.setTop (mkF m 31 #[.val (.int pr), .val (.int lw), .val (.ref b1), .unset, .unset, .unset] [(.int (5 : Int32)), (.int (pr &&& (7 : Int32))), (.int (4 : Int32)), (.ref b1)]))
  refine own_go (fun tgt kst => Jvm.RoadKit.iremM X21 hx rfl (hb hby at_31) rfl (by decide) kst) ?_
  show OwnWk _ _ _ _ (T21.setTop (mkF m 32 #[.val (.int pr), .val (.int lw), .val (.ref b1), .unset, .unset, .unset] [(.int ((pr &&& (7 : Int32)) % (5 : Int32))), (.int (4 : Int32)), (.ref b1)]))
  rw [show ((pr &&& (7 : Int32)) % (5 : Int32)) = Int32.ofNat I4 from er4]
  show OwnWk _ _ _ _ (T21.setTop (mkF m 32 #[.val (.int pr), .val (.int lw), .val (.ref b1), .unset, .unset, .unset] [(.int (Int32.ofNat I4)), (.int (4 : Int32)), (.ref b1)]))
  refine own_callS X21 hx hZ (y := (⟨"com/example/encircle/encircle/layout/PrefixesSwapPinLaw", "exch", "([III)V"⟩ : MethodName)) hown (hw _ (List.mem_of_getElem? (i := 1) rfl)) (hw _ (List.mem_of_getElem? (i := 2) rfl)) (hw _ (List.mem_of_getElem? (i := 3) rfl)) (hw _ (List.mem_of_getElem? (i := 4) rfl)) (by decide) (argsL := [(.ref b1), (.int (4 : Int32)), (.int (Int32.ofNat I4))]) (rest := []) (rm := ({ frames := 0, cells := 0, slots := 0, locals := 0 } : Room)) (h := h21) (rm1 l Z a0 hw b1 [0, 1, 2, 3, 4] 4 I4 h21 n0 Z24 Vst ge2 (by simp [own_elen]) (by decide) (by omega)) e21 (W := 0) (by decide) (by decide) (by decide) (by decide) (g := (mkF m 32 #[.val (.int pr), .val (.int lw), .val (.ref b1), .unset, .unset, .unset] [(.int (Int32.ofNat I4)), (.int (4 : Int32)), (.ref b1)])) rfl (by rw [hml]; rfl) (lenOf pd_7 rfl) rfl (by show 2 * 0 + _ ≤ _; exact Nat.le_of_eq rfl) (hb hby at_32) (fun v25 T25 h25 L25 X25 e25 hQ25 => ?_)
  obtain ⟨rfl, Nq25, Kq25, Vq25⟩ := hQ25
  have N25 := Fr.app N21 Nq25
  have F26 := own_sta_keep F22 Kq25 (allS (own_plE F23) all0)
  have F27 := Exa.keep F23 Kq25
  have Z28 := Nat.le_trans Z24 Kq25.1
  show OwnWk _ _ _ _ (T25.setTop (mkF m 35 #[.val (.int pr), .val (.int lw), .val (.ref b1), .unset, .unset, .unset] []))
  refine own_go (fun tgt kst => XS.aloadN X25.here hx rfl (hb hby at_35) rfl rfl  kst) ?_
  show OwnWk _ _ _ _ (T25.setTop (mkF m 36 #[.val (.int pr), .val (.int lw), .val (.ref b1), .unset, .unset, .unset] [(.ref b1)]))
  refine own_go (fun tgt kst => XS.iconst X25.here hx rfl (hb hby at_36) kst) ?_
  show OwnWk _ _ _ _ (T25.setTop (mkF m 37 #[.val (.int pr), .val (.int lw), .val (.ref b1), .unset, .unset, .unset] [(.int (3 : Int32)), (.ref b1)]))
  refine own_go (fun tgt kst => XS.iloadN X25.here hx rfl (hb hby at_37) rfl  kst) ?_
  show OwnWk _ _ _ _ (T25.setTop (mkF m 38 #[.val (.int pr), .val (.int lw), .val (.ref b1), .unset, .unset, .unset] [(.int pr), (.int (3 : Int32)), (.ref b1)]))
  refine own_go (fun tgt kst => XS.iconst X25.here hx rfl (hb hby at_38) kst) ?_
  show OwnWk _ _ _ _ (T25.setTop (mkF m 39 #[.val (.int pr), .val (.int lw), .val (.ref b1), .unset, .unset, .unset] [(.int (3 : Int32)), (.int pr), (.int (3 : Int32)), (.ref b1)]))
  refine own_go (fun tgt kst => XS.iushr X25.here hx rfl (hb hby at_39) rfl kst) ?_
  show OwnWk _ _ _ _ (T25.setTop (mkF m 40 #[.val (.int pr), .val (.int lw), .val (.ref b1), .unset, .unset, .unset] [(.int ((pr.toUInt32 >>> ((3 : Int32) &&& 31).toUInt32).toInt32)), (.int (3 : Int32)), (.ref b1)]))
  refine own_go (fun tgt kst => XS.iconst X25.here hx rfl (hb hby at_40) kst) ?_
  show OwnWk _ _ _ _ (T25.setTop (mkF m 41 #[.val (.int pr), .val (.int lw), .val (.ref b1), .unset, .unset, .unset] [(.int (3 : Int32)), (.int ((pr.toUInt32 >>> ((3 : Int32) &&& 31).toUInt32).toInt32)), (.int (3 : Int32)), (.ref b1)]))
  refine own_go (fun tgt kst => XS.iand X25.here hx rfl (hb hby at_41) rfl kst) ?_
  show OwnWk _ _ _ _ (T25.setTop (mkF m 42 #[.val (.int pr), .val (.int lw), .val (.ref b1), .unset, .unset, .unset] [(.int (((pr.toUInt32 >>> ((3 : Int32) &&& 31).toUInt32).toInt32) &&& (3 : Int32))), (.int (3 : Int32)), (.ref b1)]))
  rw [show (((pr.toUInt32 >>> ((3 : Int32) &&& 31).toUInt32).toInt32) &&& (3 : Int32)) = Int32.ofNat I3 from er3]
  show OwnWk _ _ _ _ (T25.setTop (mkF m 42 #[.val (.int pr), .val (.int lw), .val (.ref b1), .unset, .unset, .unset] [(.int (Int32.ofNat I3)), (.int (3 : Int32)), (.ref b1)]))
  refine own_callS X25 hx hZ (y := (⟨"com/example/encircle/encircle/layout/PrefixesSwapPinLaw", "exch", "([III)V"⟩ : MethodName)) hown (hw _ (List.mem_of_getElem? (i := 1) rfl)) (hw _ (List.mem_of_getElem? (i := 2) rfl)) (hw _ (List.mem_of_getElem? (i := 3) rfl)) (hw _ (List.mem_of_getElem? (i := 4) rfl)) (by decide) (argsL := [(.ref b1), (.int (3 : Int32)), (.int (Int32.ofNat I3))]) (rest := []) (rm := ({ frames := 0, cells := 0, slots := 0, locals := 0 } : Room)) (h := h25) (rm1 l Z a0 hw b1 (own_exch [0, 1, 2, 3, 4] 4 I4) 3 I3 h25 n0 Z28 Vq25 ge2 (by simp [own_elen]) (by decide) (by omega)) e25 (W := 0) (by decide) (by decide) (by decide) (by decide) (g := (mkF m 42 #[.val (.int pr), .val (.int lw), .val (.ref b1), .unset, .unset, .unset] [(.int (Int32.ofNat I3)), (.int (3 : Int32)), (.ref b1)])) rfl (by rw [hml]; rfl) (lenOf pd_7 rfl) rfl (by show 2 * 0 + _ ≤ _; exact Nat.le_of_eq rfl) (hb hby at_42) (fun v29 T29 h29 L29 X29 e29 hQ29 => ?_)
  obtain ⟨rfl, Nq29, Kq29, Vq29⟩ := hQ29
  have N29 := Fr.app N25 Nq29
  have F30 := own_sta_keep F26 Kq29 (allS (own_plE F27) all0)
  have F31 := Exa.keep F27 Kq29
  have Z32 := Nat.le_trans Z28 Kq29.1
  show OwnWk _ _ _ _ (T29.setTop (mkF m 45 #[.val (.int pr), .val (.int lw), .val (.ref b1), .unset, .unset, .unset] []))
  refine own_go (fun tgt kst => XS.aloadN X29.here hx rfl (hb hby at_45) rfl rfl  kst) ?_
  show OwnWk _ _ _ _ (T29.setTop (mkF m 46 #[.val (.int pr), .val (.int lw), .val (.ref b1), .unset, .unset, .unset] [(.ref b1)]))
  refine own_go (fun tgt kst => XS.iconst X29.here hx rfl (hb hby at_46) kst) ?_
  show OwnWk _ _ _ _ (T29.setTop (mkF m 47 #[.val (.int pr), .val (.int lw), .val (.ref b1), .unset, .unset, .unset] [(.int (2 : Int32)), (.ref b1)]))
  refine own_go (fun tgt kst => XS.iloadN X29.here hx rfl (hb hby at_47) rfl  kst) ?_
  show OwnWk _ _ _ _ (T29.setTop (mkF m 48 #[.val (.int pr), .val (.int lw), .val (.ref b1), .unset, .unset, .unset] [(.int pr), (.int (2 : Int32)), (.ref b1)]))
  refine own_go (fun tgt kst => XS.iconst X29.here hx rfl (hb hby at_48) kst) ?_
  show OwnWk _ _ _ _ (T29.setTop (mkF m 49 #[.val (.int pr), .val (.int lw), .val (.ref b1), .unset, .unset, .unset] [(.int (5 : Int32)), (.int pr), (.int (2 : Int32)), (.ref b1)]))
  refine own_go (fun tgt kst => XS.iushr X29.here hx rfl (hb hby at_49) rfl kst) ?_
  show OwnWk _ _ _ _ (T29.setTop (mkF m 50 #[.val (.int pr), .val (.int lw), .val (.ref b1), .unset, .unset, .unset] [(.int ((pr.toUInt32 >>> ((5 : Int32) &&& 31).toUInt32).toInt32)), (.int (2 : Int32)), (.ref b1)]))
  refine own_go (fun tgt kst => XS.iconst X29.here hx rfl (hb hby at_50) kst) ?_
  show OwnWk _ _ _ _ (T29.setTop (mkF m 51 #[.val (.int pr), .val (.int lw), .val (.ref b1), .unset, .unset, .unset] [(.int (3 : Int32)), (.int ((pr.toUInt32 >>> ((5 : Int32) &&& 31).toUInt32).toInt32)), (.int (2 : Int32)), (.ref b1)]))
  refine own_go (fun tgt kst => XS.iand X29.here hx rfl (hb hby at_51) rfl kst) ?_
  show OwnWk _ _ _ _ (T29.setTop (mkF m 52 #[.val (.int pr), .val (.int lw), .val (.ref b1), .unset, .unset, .unset] [(.int (((pr.toUInt32 >>> ((5 : Int32) &&& 31).toUInt32).toInt32) &&& (3 : Int32))), (.int (2 : Int32)), (.ref b1)]))
  refine own_go (fun tgt kst => XS.iconst X29.here hx rfl (hb hby at_52) kst) ?_
  show OwnWk _ _ _ _ (T29.setTop (mkF m 53 #[.val (.int pr), .val (.int lw), .val (.ref b1), .unset, .unset, .unset] [(.int (3 : Int32)), (.int (((pr.toUInt32 >>> ((5 : Int32) &&& 31).toUInt32).toInt32) &&& (3 : Int32))), (.int (2 : Int32)), (.ref b1)]))
  refine own_go (fun tgt kst => Jvm.RoadKit.iremM X29 hx rfl (hb hby at_53) rfl (by decide) kst) ?_
  show OwnWk _ _ _ _ (T29.setTop (mkF m 54 #[.val (.int pr), .val (.int lw), .val (.ref b1), .unset, .unset, .unset] [(.int ((((pr.toUInt32 >>> ((5 : Int32) &&& 31).toUInt32).toInt32) &&& (3 : Int32)) % (3 : Int32))), (.int (2 : Int32)), (.ref b1)]))
  rw [show ((((pr.toUInt32 >>> ((5 : Int32) &&& 31).toUInt32).toInt32) &&& (3 : Int32)) % (3 : Int32)) = Int32.ofNat I2 from er2]
  show OwnWk _ _ _ _ (T29.setTop (mkF m 54 #[.val (.int pr), .val (.int lw), .val (.ref b1), .unset, .unset, .unset] [(.int (Int32.ofNat I2)), (.int (2 : Int32)), (.ref b1)]))
  refine own_callS X29 hx hZ (y := (⟨"com/example/encircle/encircle/layout/PrefixesSwapPinLaw", "exch", "([III)V"⟩ : MethodName)) hown (hw _ (List.mem_of_getElem? (i := 1) rfl)) (hw _ (List.mem_of_getElem? (i := 2) rfl)) (hw _ (List.mem_of_getElem? (i := 3) rfl)) (hw _ (List.mem_of_getElem? (i := 4) rfl)) (by decide) (argsL := [(.ref b1), (.int (2 : Int32)), (.int (Int32.ofNat I2))]) (rest := []) (rm := ({ frames := 0, cells := 0, slots := 0, locals := 0 } : Room)) (h := h29) (rm1 l Z a0 hw b1 (own_exch (own_exch [0, 1, 2, 3, 4] 4 I4) 3 I3) 2 I2 h29 n0 Z32 Vq29 ge2 (by simp [own_elen]) (by decide) (by omega)) e29 (W := 0) (by decide) (by decide) (by decide) (by decide) (g := (mkF m 54 #[.val (.int pr), .val (.int lw), .val (.ref b1), .unset, .unset, .unset] [(.int (Int32.ofNat I2)), (.int (2 : Int32)), (.ref b1)])) rfl (by rw [hml]; rfl) (lenOf pd_7 rfl) rfl (by show 2 * 0 + _ ≤ _; exact Nat.le_of_eq rfl) (hb hby at_54) (fun v33 T33 h33 L33 X33 e33 hQ33 => ?_)
  obtain ⟨rfl, Nq33, Kq33, Vq33⟩ := hQ33
  have N33 := Fr.app N29 Nq33
  have F34 := own_sta_keep F30 Kq33 (allS (own_plE F31) all0)
  have F35 := Exa.keep F31 Kq33
  have Z36 := Nat.le_trans Z32 Kq33.1
  show OwnWk _ _ _ _ (T33.setTop (mkF m 57 #[.val (.int pr), .val (.int lw), .val (.ref b1), .unset, .unset, .unset] []))
  refine own_go (fun tgt kst => XS.aloadN X33.here hx rfl (hb hby at_57) rfl rfl  kst) ?_
  show OwnWk _ _ _ _ (T33.setTop (mkF m 58 #[.val (.int pr), .val (.int lw), .val (.ref b1), .unset, .unset, .unset] [(.ref b1)]))
  refine own_go (fun tgt kst => XS.iconst X33.here hx rfl (hb hby at_58) kst) ?_
  show OwnWk _ _ _ _ (T33.setTop (mkF m 59 #[.val (.int pr), .val (.int lw), .val (.ref b1), .unset, .unset, .unset] [(.int (1 : Int32)), (.ref b1)]))
  refine own_go (fun tgt kst => XS.iloadN X33.here hx rfl (hb hby at_59) rfl  kst) ?_
  show OwnWk _ _ _ _ (T33.setTop (mkF m 60 #[.val (.int pr), .val (.int lw), .val (.ref b1), .unset, .unset, .unset] [(.int pr), (.int (1 : Int32)), (.ref b1)]))
  refine own_go (fun tgt kst => XS.bipush X33.here hx rfl (hb hby at_60) kst) ?_
  show OwnWk _ _ _ _ (T33.setTop (mkF m 62 #[.val (.int pr), .val (.int lw), .val (.ref b1), .unset, .unset, .unset] [(.int (7 : Int32)), (.int pr), (.int (1 : Int32)), (.ref b1)]))
  refine own_go (fun tgt kst => XS.iushr X33.here hx rfl (hb hby at_62) rfl kst) ?_
  show OwnWk _ _ _ _ (T33.setTop (mkF m 63 #[.val (.int pr), .val (.int lw), .val (.ref b1), .unset, .unset, .unset] [(.int ((pr.toUInt32 >>> ((7 : Int32) &&& 31).toUInt32).toInt32)), (.int (1 : Int32)), (.ref b1)]))
  refine own_go (fun tgt kst => XS.iconst X33.here hx rfl (hb hby at_63) kst) ?_
  show OwnWk _ _ _ _ (T33.setTop (mkF m 64 #[.val (.int pr), .val (.int lw), .val (.ref b1), .unset, .unset, .unset] [(.int (1 : Int32)), (.int ((pr.toUInt32 >>> ((7 : Int32) &&& 31).toUInt32).toInt32)), (.int (1 : Int32)), (.ref b1)]))
  refine own_go (fun tgt kst => XS.iand X33.here hx rfl (hb hby at_64) rfl kst) ?_
  show OwnWk _ _ _ _ (T33.setTop (mkF m 65 #[.val (.int pr), .val (.int lw), .val (.ref b1), .unset, .unset, .unset] [(.int (((pr.toUInt32 >>> ((7 : Int32) &&& 31).toUInt32).toInt32) &&& (1 : Int32))), (.int (1 : Int32)), (.ref b1)]))
  rw [show (((pr.toUInt32 >>> ((7 : Int32) &&& 31).toUInt32).toInt32) &&& (1 : Int32)) = Int32.ofNat I1 from er1]
  show OwnWk _ _ _ _ (T33.setTop (mkF m 65 #[.val (.int pr), .val (.int lw), .val (.ref b1), .unset, .unset, .unset] [(.int (Int32.ofNat I1)), (.int (1 : Int32)), (.ref b1)]))
  refine own_callS X33 hx hZ (y := (⟨"com/example/encircle/encircle/layout/PrefixesSwapPinLaw", "exch", "([III)V"⟩ : MethodName)) hown (hw _ (List.mem_of_getElem? (i := 1) rfl)) (hw _ (List.mem_of_getElem? (i := 2) rfl)) (hw _ (List.mem_of_getElem? (i := 3) rfl)) (hw _ (List.mem_of_getElem? (i := 4) rfl)) (by decide) (argsL := [(.ref b1), (.int (1 : Int32)), (.int (Int32.ofNat I1))]) (rest := []) (rm := ({ frames := 0, cells := 0, slots := 0, locals := 0 } : Room)) (h := h33) (rm1 l Z a0 hw b1 (own_exch (own_exch (own_exch [0, 1, 2, 3, 4] 4 I4) 3 I3) 2 I2) 1 I1 h33 n0 Z36 Vq33 ge2 (by simp [own_elen]) (by decide) (by omega)) e33 (W := 0) (by decide) (by decide) (by decide) (by decide) (g := (mkF m 65 #[.val (.int pr), .val (.int lw), .val (.ref b1), .unset, .unset, .unset] [(.int (Int32.ofNat I1)), (.int (1 : Int32)), (.ref b1)])) rfl (by rw [hml]; rfl) (lenOf pd_7 rfl) rfl (by show 2 * 0 + _ ≤ _; exact Nat.le_of_eq rfl) (hb hby at_65) (fun v37 T37 h37 L37 X37 e37 hQ37 => ?_)
  obtain ⟨rfl, Nq37, Kq37, Vq37⟩ := hQ37
  have N37 := Fr.app N33 Nq37
  have F38 := own_sta_keep F34 Kq37 (allS (own_plE F35) all0)
  have F39 := Exa.keep F35 Kq37
  have Z40 := Nat.le_trans Z36 Kq37.1
  show OwnWk _ _ _ _ (T37.setTop (mkF m 68 #[.val (.int pr), .val (.int lw), .val (.ref b1), .unset, .unset, .unset] []))
  have Vpm : OAr Z h37 b1 .int [(.int (Int32.ofNat ((own_perm I4 I3 I2 I1).getD 0 0))), (.int (Int32.ofNat ((own_perm I4 I3 I2 I1).getD 1 0))), (.int (Int32.ofNat ((own_perm I4 I3 I2 I1).getD 2 0))), (.int (Int32.ofNat ((own_perm I4 I3 I2 I1).getD 3 0))), (.int (Int32.ofNat ((own_perm I4 I3 I2 I1).getD 4 0)))] := own_cast (congrArg own_iv (own_five (own_perm_len I4 I3 I2 I1))) Vq37
  have hpm : ∀ i < 5, (own_perm I4 I3 I2 I1).getD i 0 < 5 := own_perm_lt I4 (by omega) I3 (by omega) I2 (by omega) I1 (by omega)
  obtain ⟨T41, h41, X41, e41, E41, A41, D41, -, st41⟩ := newO X37 hx hZ hown (hw _ (List.mem_of_getElem? (i := 5) rfl)) (hw _ (List.mem_of_getElem? (i := 6) rfl)) (hw _ (List.mem_of_getElem? (i := 7) rfl)) e37 (g := (mkF m 68 #[.val (.int pr), .val (.int lw), .val (.ref b1), .unset, .unset, .unset] [])) rfl (hb hby at_68) (by decide) (by decide)
  obtain ⟨b41, g41⟩ : ∃ z, z = h37.size := ⟨_, rfl⟩
  rw [← g41] at A41 D41 st41
  refine own_go st41 ?_
  have ne42 : b1 ≠ b41 := Nat.ne_of_lt (Nat.lt_of_lt_of_le F39.lt (Nat.le_of_eq g41.symm))
  have ge43 : n0 ≤ b41 := Nat.le_trans Z40 (Nat.le_of_eq g41.symm)
  have F44 := Sta.ext E41 F38
  have F45 := Exa.ext E41 F39
  have F46 := OAr.ext Vpm E41
  have Z47 := Nat.le_trans Z40 E41.1
  have F48 : Fld Z h41 b41 "com/example/encircle/encircle/layout/Prefixes" "zones" "Ljava/util/List;" .null := D41 (Or.inr (hw _ (List.mem_of_getElem? (i := 39) rfl))) (ty := (.object "java/util/List")) (by decide)
  have F49 : Fld Z h41 b41 "com/example/encircle/encircle/layout/Prefixes" "keys" "Lcom/example/encircle/encircle/layout/ZoneKeys;" .null := D41 (Or.inr (hw _ (List.mem_of_getElem? (i := 93) rfl))) (ty := (.object "com/example/encircle/encircle/layout/ZoneKeys")) (by decide)
  have F50 : Fld Z h41 b41 "com/example/encircle/encircle/layout/Prefixes" "order" "[I" .null := D41 (Or.inr (hw _ (List.mem_of_getElem? (i := 104) rfl))) (ty := (.array .int)) (by decide)
  have F51 : Fld Z h41 b41 "com/example/encircle/encircle/layout/Prefixes" "places" "[I" .null := D41 (Or.inr (hw _ (List.mem_of_getElem? (i := 106) rfl))) (ty := (.array .int)) (by decide)
  have F52 : Fld Z h41 b41 "com/example/encircle/encircle/layout/Prefixes" "sums" "[J" .null := D41 (Or.inr (hw _ (List.mem_of_getElem? (i := 108) rfl))) (ty := (.array .long)) (by decide)
  show OwnWk _ _ _ _ (T41.setTop (mkF m 71 #[.val (.int pr), .val (.int lw), .val (.ref b1), .unset, .unset, .unset] [(.ref b41)]))
  refine own_go (fun tgt kst => XS.dup X41.here hx rfl (hb hby at_71) rfl rfl kst) ?_
  show OwnWk _ _ _ _ (T41.setTop (mkF m 72 #[.val (.int pr), .val (.int lw), .val (.ref b1), .unset, .unset, .unset] [(.ref b41), (.ref b41)]))
  refine own_go (fun tgt kst => XS.aloadN X41.here hx rfl (hb hby at_72) rfl rfl  kst) ?_
  show OwnWk _ _ _ _ (T41.setTop (mkF m 73 #[.val (.int pr), .val (.int lw), .val (.ref b1), .unset, .unset, .unset] [(.ref b1), (.ref b41), (.ref b41)]))
  obtain ⟨T53, h53, X53, e53, E53, A53, D53, -, st53⟩ := newO X41 hx hZ hown (hw _ (List.mem_of_getElem? (i := 8) rfl)) (hw _ (List.mem_of_getElem? (i := 9) rfl)) (hw _ (List.mem_of_getElem? (i := 10) rfl)) e41 (g := (mkF m 73 #[.val (.int pr), .val (.int lw), .val (.ref b1), .unset, .unset, .unset] [(.ref b1), (.ref b41), (.ref b41)])) rfl (hb hby at_73) (by decide) (by decide)
  obtain ⟨b53, g53⟩ : ∃ z, z = h41.size := ⟨_, rfl⟩
  rw [← g53] at A53 D53 st53
  refine own_go st53 ?_
  have ne54 : b1 ≠ b53 := Nat.ne_of_lt (Nat.lt_of_lt_of_le F45.lt (Nat.le_of_eq g53.symm))
  have ne55 : b41 ≠ b53 := Nat.ne_of_lt (Nat.lt_of_lt_of_le A41.lt (Nat.le_of_eq g53.symm))
  have ge56 : n0 ≤ b53 := Nat.le_trans Z47 (Nat.le_of_eq g53.symm)
  have F57 := Sta.ext E53 F44
  have F58 := Exa.ext E53 F45
  have F59 := OAr.ext F46 E53
  have F60 := Exa.ext E53 A41
  have F61 := Fld.ext E53 F48
  have F62 := Fld.ext E53 F49
  have F63 := Fld.ext E53 F50
  have F64 := Fld.ext E53 F51
  have F65 := Fld.ext E53 F52
  have Z66 := Nat.le_trans Z47 E53.1
  have F67 : Fld Z h53 b53 "java/util/AbstractList" "modCount" "I" (.int (0 : Int32)) := D53 (Or.inl (hw _ (List.mem_of_getElem? (i := 30) rfl))) (ty := .int) (by decide)
  have F68 : Fld Z h53 b53 "java/util/ArrayList" "elementData" "[Ljava/lang/Object;" .null := D53 (Or.inl (hw _ (List.mem_of_getElem? (i := 33) rfl))) (ty := (.array (.object "java/lang/Object"))) (by decide)
  have F69 : Fld Z h53 b53 "java/util/ArrayList" "size" "I" (.int (0 : Int32)) := D53 (Or.inl (hw _ (List.mem_of_getElem? (i := 64) rfl))) (ty := .int) (by decide)
  show OwnWk _ _ _ _ (T53.setTop (mkF m 76 #[.val (.int pr), .val (.int lw), .val (.ref b1), .unset, .unset, .unset] [(.ref b53), (.ref b1), (.ref b41), (.ref b41)]))
  refine own_go (fun tgt kst => XS.dup X53.here hx rfl (hb hby at_76) rfl rfl kst) ?_
  show OwnWk _ _ _ _ (T53.setTop (mkF m 77 #[.val (.int pr), .val (.int lw), .val (.ref b1), .unset, .unset, .unset] [(.ref b53), (.ref b53), (.ref b1), (.ref b41), (.ref b41)]))
  refine own_callC X53 hx hZ (y := (⟨"java/util/ArrayList", "<init>", "()V"⟩ : MethodName)) hown rfl (hw _ (List.mem_of_getElem? (i := 11) rfl)) (hw _ (List.mem_of_getElem? (i := 12) rfl)) (hw _ (List.mem_of_getElem? (i := 10) rfl)) (hw _ (List.mem_of_getElem? (i := 13) rfl)) (by decide) (a := b53) (argsL := []) (rest := [(.ref b53), (.ref b1), (.ref b41), (.ref b41)]) (rm := ({ frames := 3, cells := 0, slots := 0, locals := 36 } : Room)) (h := h53) (rm2 l Z a0 hw b53 dce h53 n0 Z66 A53 ge56 F67 F68 F69 F57) e53 (W := 4) (by decide) (by decide) (by decide) (by decide) (g := (mkF m 77 #[.val (.int pr), .val (.int lw), .val (.ref b1), .unset, .unset, .unset] [(.ref b53), (.ref b53), (.ref b1), (.ref b41), (.ref b41)])) rfl (by rw [hml]; rfl) (lenOf pd_0 rfl) rfl (by show 2 * 0 + _ ≤ _; exact Nat.le_of_eq rfl) (hb hby at_77) (fun v70 T70 h70 L70 X70 e70 hQ70 => ?_)
  obtain ⟨rfl, Nq70, Kq70, Fm70, Fe70, Fs70⟩ := hQ70
  have N70 := Fr.app N37 Nq70
  have F71 := own_sta_keep F57 Kq70 (allS (own_plE A53) all0)
  have F72 := Exa.keep F58 Kq70
  have F73 := OAr.keep F59 Kq70 (ninS ne54 nin0)
  have F74 := Exa.keep F60 Kq70
  have F75 := Fld.keep F61 Kq70 (ninS ne55 nin0)
  have F76 := Fld.keep F62 Kq70 (ninS ne55 nin0)
  have F77 := Fld.keep F63 Kq70 (ninS ne55 nin0)
  have F78 := Fld.keep F64 Kq70 (ninS ne55 nin0)
  have F79 := Fld.keep F65 Kq70 (ninS ne55 nin0)
  have F80 := Exa.keep A53 Kq70
  have Z81 := Nat.le_trans Z66 Kq70.1
  show OwnWk _ _ _ _ (T70.setTop (mkF m 80 #[.val (.int pr), .val (.int lw), .val (.ref b1), .unset, .unset, .unset] [(.ref b53), (.ref b1), (.ref b41), (.ref b41)]))
  have lt82 : b1 < h70.size := F72.lt
  have lt83 : b41 < h70.size := F74.lt
  have lt84 : b53 < h70.size := F80.lt
  refine own_callC X70 hx hZ (y := (⟨"com/example/encircle/encircle/layout/Prefixes", "<init>", "([ILjava/util/List;)V"⟩ : MethodName)) hown rfl (hw _ (List.mem_of_getElem? (i := 34) rfl)) (hw _ (List.mem_of_getElem? (i := 35) rfl)) (hw _ (List.mem_of_getElem? (i := 7) rfl)) (hw _ (List.mem_of_getElem? (i := 36) rfl)) (by decide) (a := b41) (argsL := [(.ref b1), (.ref b53)]) (rest := [(.ref b41)]) (rm := ({ frames := 3, cells := 10, slots := 31, locals := 48 } : Room)) (h := h70) (rm6 l Z a0 hw b41 b1 b53 ((own_perm I4 I3 I2 I1).getD 0 0) ((own_perm I4 I3 I2 I1).getD 1 0) ((own_perm I4 I3 I2 I1).getD 2 0) ((own_perm I4 I3 I2 I1).getD 3 0) ((own_perm I4 I3 I2 I1).getD 4 0) h70 n0 Z81 F74 ge43 F75 F76 F77 F78 F79 F73 F72 F80 Fs70 (Ne.symm ne55) ne42 ne54 (hpm 0 (by decide)) (hpm 1 (by decide)) (hpm 2 (by decide)) (hpm 3 (by decide)) (hpm 4 (by decide))) e70 (W := 1) (by decide) (by decide) (by decide) (by decide) (g := (mkF m 80 #[.val (.int pr), .val (.int lw), .val (.ref b1), .unset, .unset, .unset] [(.ref b53), (.ref b1), (.ref b41), (.ref b41)])) rfl (by rw [hml]; rfl) (lenOf pd_8 rfl) rfl (by show 2 * 0 + _ ≤ _; exact Nat.le_of_eq rfl) (hb hby at_80) (fun v85 T85 h85 L85 X85 e85 hQ85 => ?_)
  obtain ⟨rfl, Nq85, Kq85, zk, kk, oa, pa, sa, ks, ss, ⟨sz_zk, sz_kk, sz_oa, sz_pa, sz_sa⟩, ⟨g_oa, g_pa, g_sa⟩, ⟨n_zk_oa, n_zk_pa, n_zk_sa, n_kk_oa, n_kk_pa, n_kk_sa, n_oa_pa, n_oa_sa, n_pa_sa⟩, E_zk, Fp1, Fp2, Fp3, Fp4, Fp5, Vkk, hk5, Voa, Vpa, Vsa, hs6⟩ := hQ85
  have N85 := Fr.app N70 Nq85
  have F86 := own_sta_keep F71 Kq85 (allS (own_plE F74) all0)
  have F87 := Exa.keep F72 Kq85
  have F88 := OAr.keep F73 Kq85 (ninS ne42 nin0)
  have F89 := Exa.keep F74 Kq85
  have F90 := Exa.keep F80 Kq85
  have F91 := Fld.keep Fm70 Kq85 (ninS (Ne.symm ne55) nin0)
  have F92 := Fld.keep Fe70 Kq85 (ninS (Ne.symm ne55) nin0)
  have F93 := Fld.keep Fs70 Kq85 (ninS (Ne.symm ne55) nin0)
  have Z94 := Nat.le_trans Z81 Kq85.1
  have ne95 : b1 ≠ zk := Nat.ne_of_lt (Nat.lt_of_lt_of_le lt82 sz_zk)
  have ne96 : b41 ≠ zk := Nat.ne_of_lt (Nat.lt_of_lt_of_le lt83 sz_zk)
  have ne97 : b53 ≠ zk := Nat.ne_of_lt (Nat.lt_of_lt_of_le lt84 sz_zk)
  have ne98 : b1 ≠ kk := Nat.ne_of_lt (Nat.lt_of_lt_of_le lt82 sz_kk)
  have ne99 : b41 ≠ kk := Nat.ne_of_lt (Nat.lt_of_lt_of_le lt83 sz_kk)
  have ne100 : b53 ≠ kk := Nat.ne_of_lt (Nat.lt_of_lt_of_le lt84 sz_kk)
  have ne101 : b1 ≠ oa := Nat.ne_of_lt (Nat.lt_of_lt_of_le lt82 sz_oa)
  have ne102 : b41 ≠ oa := Nat.ne_of_lt (Nat.lt_of_lt_of_le lt83 sz_oa)
  have ne103 : b53 ≠ oa := Nat.ne_of_lt (Nat.lt_of_lt_of_le lt84 sz_oa)
  have ne104 : b1 ≠ pa := Nat.ne_of_lt (Nat.lt_of_lt_of_le lt82 sz_pa)
  have ne105 : b41 ≠ pa := Nat.ne_of_lt (Nat.lt_of_lt_of_le lt83 sz_pa)
  have ne106 : b53 ≠ pa := Nat.ne_of_lt (Nat.lt_of_lt_of_le lt84 sz_pa)
  have ne107 : b1 ≠ sa := Nat.ne_of_lt (Nat.lt_of_lt_of_le lt82 sz_sa)
  have ne108 : b41 ≠ sa := Nat.ne_of_lt (Nat.lt_of_lt_of_le lt83 sz_sa)
  have ne109 : b53 ≠ sa := Nat.ne_of_lt (Nat.lt_of_lt_of_le lt84 sz_sa)
  rw [← own_five (own_perm_len I4 I3 I2 I1)] at Voa Vpa
  show OwnWk _ _ _ _ (T85.setTop (mkF m 83 #[.val (.int pr), .val (.int lw), .val (.ref b1), .unset, .unset, .unset] [(.ref b41)]))
  refine own_go (fun tgt kst => XS.astoreN X85.here hx rfl (hb hby at_83) rfl rfl (l' := #[.val (.int pr), .val (.int lw), .val (.ref b1), .val (.ref b41), .unset, .unset]) rfl kst) ?_
  show OwnWk _ _ _ _ (T85.setTop (mkF m 84 #[.val (.int pr), .val (.int lw), .val (.ref b1), .val (.ref b41), .unset, .unset] []))
  refine own_go (fun tgt kst => XS.iconst X85.here hx rfl (hb hby at_84) kst) ?_
  show OwnWk _ _ _ _ (T85.setTop (mkF m 85 #[.val (.int pr), .val (.int lw), .val (.ref b1), .val (.ref b41), .unset, .unset] [(.int (1 : Int32))]))
  refine own_go (fun tgt kst => XS.iloadN X85.here hx rfl (hb hby at_85) rfl  kst) ?_
  show OwnWk _ _ _ _ (T85.setTop (mkF m 86 #[.val (.int pr), .val (.int lw), .val (.ref b1), .val (.ref b41), .unset, .unset] [(.int lw), (.int (1 : Int32))]))
  refine own_go (X85.ldcInt hx hown (mvT hZ (hw _ (List.mem_of_getElem? (i := 114) rfl))) (g := (mkF m 86 #[.val (.int pr), .val (.int lw), .val (.ref b1), .val (.ref b41), .unset, .unset] [(.int lw), (.int (1 : Int32))])) rfl (hb hby at_86)) ?_
  show OwnWk _ _ _ _ (T85.setTop (mkF m 88 #[.val (.int pr), .val (.int lw), .val (.ref b1), .val (.ref b41), .unset, .unset] [(.int (2147483647 : Int32)), (.int lw), (.int (1 : Int32))]))
  refine own_go (fun tgt kst => XS.iand X85.here hx rfl (hb hby at_88) rfl kst) ?_
  show OwnWk _ _ _ _ (T85.setTop (mkF m 89 #[.val (.int pr), .val (.int lw), .val (.ref b1), .val (.ref b41), .unset, .unset] [(.int (lw &&& (2147483647 : Int32))), (.int (1 : Int32))]))
  refine own_go (fun tgt kst => XS.iconst X85.here hx rfl (hb hby at_89) kst) ?_
  show OwnWk _ _ _ _ (T85.setTop (mkF m 90 #[.val (.int pr), .val (.int lw), .val (.ref b1), .val (.ref b41), .unset, .unset] [(.int (4 : Int32)), (.int (lw &&& (2147483647 : Int32))), (.int (1 : Int32))]))
  refine own_go (fun tgt kst => Jvm.RoadKit.iremM X85 hx rfl (hb hby at_90) rfl (by decide) kst) ?_
  show OwnWk _ _ _ _ (T85.setTop (mkF m 91 #[.val (.int pr), .val (.int lw), .val (.ref b1), .val (.ref b41), .unset, .unset] [(.int ((lw &&& (2147483647 : Int32)) % (4 : Int32))), (.int (1 : Int32))]))
  refine own_go (fun tgt kst => XS.iadd X85.here hx rfl (hb hby at_91) rfl kst) ?_
  show OwnWk _ _ _ _ (T85.setTop (mkF m 92 #[.val (.int pr), .val (.int lw), .val (.ref b1), .val (.ref b41), .unset, .unset] [(.int ((1 : Int32) + ((lw &&& (2147483647 : Int32)) % (4 : Int32))))]))
  rw [show ((1 : Int32) + ((lw &&& (2147483647 : Int32)) % (4 : Int32))) = Int32.ofNat (lv + 1) from by rw [show ((lw &&& (2147483647 : Int32)) % (4 : Int32)) = Int32.ofNat lv from elv, Int32.add_comm]; exact own_n_succ]
  show OwnWk _ _ _ _ (T85.setTop (mkF m 92 #[.val (.int pr), .val (.int lw), .val (.ref b1), .val (.ref b41), .unset, .unset] [(.int (Int32.ofNat (lv + 1)))]))
  refine own_go (fun tgt kst => XS.istore X85.here hx rfl (hb hby at_92) rfl (l' := #[.val (.int pr), .val (.int lw), .val (.ref b1), .val (.ref b41), .val (.int (Int32.ofNat (lv + 1))), .unset]) rfl kst) ?_
  show OwnWk _ _ _ _ (T85.setTop (mkF m 94 #[.val (.int pr), .val (.int lw), .val (.ref b1), .val (.ref b41), .val (.int (Int32.ofNat (lv + 1))), .unset] []))
  refine own_go (fun tgt kst => XS.iconst X85.here hx rfl (hb hby at_94) kst) ?_
  show OwnWk _ _ _ _ (T85.setTop (mkF m 95 #[.val (.int pr), .val (.int lw), .val (.ref b1), .val (.ref b41), .val (.int (Int32.ofNat (lv + 1))), .unset] [(.int (5 : Int32))]))
  refine own_newPE X85 hx hZ (aty := .int) (hw _ (List.mem_of_getElem? (i := 0) rfl)) e85 (g := (mkF m 95 #[.val (.int pr), .val (.int lw), .val (.ref b1), .val (.ref b41), .val (.int (Int32.ofNat (lv + 1))), .unset] [(.int (5 : Int32))])) rfl (hb hby at_95) rfl (by decide) (cap := 5) (by decide) (by decide) (by decide) (by decide) (ad := "[I") (by decide) (fun T110 h110 b110 X110 e110 g110 E110 V110 Ex110 => ?_)
  have ne111 : b1 ≠ b110 := Nat.ne_of_lt (Nat.lt_of_lt_of_le F87.lt (Nat.le_of_eq g110.symm))
  have ne112 : b41 ≠ b110 := Nat.ne_of_lt (Nat.lt_of_lt_of_le F89.lt (Nat.le_of_eq g110.symm))
  have ne113 : b53 ≠ b110 := Nat.ne_of_lt (Nat.lt_of_lt_of_le F90.lt (Nat.le_of_eq g110.symm))
  have ne114 : zk ≠ b110 := Nat.ne_of_lt (Nat.lt_of_lt_of_le E_zk.lt (Nat.le_of_eq g110.symm))
  have ne115 : kk ≠ b110 := Nat.ne_of_lt (Nat.lt_of_lt_of_le Vkk.lt (Nat.le_of_eq g110.symm))
  have ne116 : sa ≠ b110 := Nat.ne_of_lt (Nat.lt_of_lt_of_le Vsa.lt (Nat.le_of_eq g110.symm))
  have ne117 : oa ≠ b110 := Nat.ne_of_lt (Nat.lt_of_lt_of_le Voa.lt (Nat.le_of_eq g110.symm))
  have ne118 : pa ≠ b110 := Nat.ne_of_lt (Nat.lt_of_lt_of_le Vpa.lt (Nat.le_of_eq g110.symm))
  have ge119 : n0 ≤ b110 := Nat.le_trans Z94 (Nat.le_of_eq g110.symm)
  have F120 := Sta.ext E110 F86
  have F121 := Exa.ext E110 F87
  have F122 := OAr.ext F88 E110
  have F123 := Exa.ext E110 F89
  have F124 := Exa.ext E110 F90
  have F125 := Fld.ext E110 F91
  have F126 := Fld.ext E110 F92
  have F127 := Fld.ext E110 F93
  have F128 := Exa.ext E110 E_zk
  have F129 := Fld.ext E110 Fp1
  have F130 := Fld.ext E110 Fp2
  have F131 := Fld.ext E110 Fp3
  have F132 := Fld.ext E110 Fp4
  have F133 := Fld.ext E110 Fp5
  have F134 := OAr.ext Vkk E110
  have F135 := OAr.ext Vsa E110
  have F136 := OAr.ext Voa E110
  have F137 := OAr.ext Vpa E110
  have Z138 := Nat.le_trans Z94 E110.1
  have V110b : OAr Z h110 b110 .int [(.int (0 : Int32)), (.int (0 : Int32)), (.int (0 : Int32)), (.int (0 : Int32)), (.int (0 : Int32))] := V110
  show OwnWk _ _ _ _ (T110.setTop (mkF m 97 #[.val (.int pr), .val (.int lw), .val (.ref b1), .val (.ref b41), .val (.int (Int32.ofNat (lv + 1))), .unset] [(.ref b110)]))
  refine own_go (fun tgt kst => XS.dup X110.here hx rfl (hb hby at_97) rfl rfl kst) ?_
  show OwnWk _ _ _ _ (T110.setTop (mkF m 98 #[.val (.int pr), .val (.int lw), .val (.ref b1), .val (.ref b41), .val (.int (Int32.ofNat (lv + 1))), .unset] [(.ref b110), (.ref b110)]))
  refine own_go (fun tgt kst => XS.iconst X110.here hx rfl (hb hby at_98) kst) ?_
  show OwnWk _ _ _ _ (T110.setTop (mkF m 99 #[.val (.int pr), .val (.int lw), .val (.ref b1), .val (.ref b41), .val (.int (Int32.ofNat (lv + 1))), .unset] [(.int (0 : Int32)), (.ref b110), (.ref b110)]))
  refine own_go (fun tgt kst => XS.aloadN X110.here hx rfl (hb hby at_99) rfl rfl  kst) ?_
  show OwnWk _ _ _ _ (T110.setTop (mkF m 100 #[.val (.int pr), .val (.int lw), .val (.ref b1), .val (.ref b41), .val (.int (Int32.ofNat (lv + 1))), .unset] [(.ref b1), (.int (0 : Int32)), (.ref b110), (.ref b110)]))
  refine own_go (fun tgt kst => XS.iconst X110.here hx rfl (hb hby at_100) kst) ?_
  show OwnWk _ _ _ _ (T110.setTop (mkF m 101 #[.val (.int pr), .val (.int lw), .val (.ref b1), .val (.ref b41), .val (.int (Int32.ofNat (lv + 1))), .unset] [(.int (0 : Int32)), (.ref b1), (.int (0 : Int32)), (.ref b110), (.ref b110)]))
  refine own_ldI X110 hx hZ e110 F122 (g := (mkF m 101 #[.val (.int pr), .val (.int lw), .val (.ref b1), .val (.ref b41), .val (.int (Int32.ofNat (lv + 1))), .unset] [(.int (0 : Int32)), (.ref b1), (.int (0 : Int32)), (.ref b110), (.ref b110)])) rfl rfl (hb hby at_101) (v := (.int (Int32.ofNat ((own_perm I4 I3 I2 I1).getD 0 0)))) (by decide) rfl ?_
  show OwnWk _ _ _ _ (T110.setTop (mkF m 102 #[.val (.int pr), .val (.int lw), .val (.ref b1), .val (.ref b41), .val (.int (Int32.ofNat (lv + 1))), .unset] [(.int (Int32.ofNat ((own_perm I4 I3 I2 I1).getD 0 0))), (.int (0 : Int32)), (.ref b110), (.ref b110)]))
  refine own_stI X110 hx hZ e110 V110b (g := (mkF m 102 #[.val (.int pr), .val (.int lw), .val (.ref b1), .val (.ref b41), .val (.int (Int32.ofNat (lv + 1))), .unset] [(.int (Int32.ofNat ((own_perm I4 I3 I2 I1).getD 0 0))), (.int (0 : Int32)), (.ref b110), (.ref b110)])) rfl rfl (hb hby at_102) (by decide) (Nat.le_of_ble_eq_true rfl) (fun T139 h139 X139 e139 W139 V139 => ?_)
  have N139 := Fr.snoc X139 N85 ge119
  have F140 := Sta.wr W139 F120
  have F141 := Exa.wr W139 F121
  have F142 := OAr.other F122 W139 ne111
  have F143 := Exa.wr W139 F123
  have F144 := Exa.wr W139 F124
  have F145 := Fld.other W139 F125 (Or.inl ne113)
  have F146 := Fld.other W139 F126 (Or.inl ne113)
  have F147 := Fld.other W139 F127 (Or.inl ne113)
  have F148 := Exa.wr W139 F128
  have F149 := Fld.other W139 F129 (Or.inl ne112)
  have F150 := Fld.other W139 F130 (Or.inl ne112)
  have F151 := Fld.other W139 F131 (Or.inl ne112)
  have F152 := Fld.other W139 F132 (Or.inl ne112)
  have F153 := Fld.other W139 F133 (Or.inl ne114)
  have F154 := OAr.other F134 W139 ne115
  have F155 := OAr.other F135 W139 ne116
  have F156 := OAr.other F136 W139 ne117
  have F157 := OAr.other F137 W139 ne118
  have F158 := Exa.wr W139 Ex110
  have Z159 := Nat.le_trans Z138 (Keep.of_wr W139).1
  show OwnWk _ _ _ _ (T139.setTop (mkF m 103 #[.val (.int pr), .val (.int lw), .val (.ref b1), .val (.ref b41), .val (.int (Int32.ofNat (lv + 1))), .unset] [(.ref b110)]))
  refine own_go (fun tgt kst => XS.dup X139.here hx rfl (hb hby at_103) rfl rfl kst) ?_
  show OwnWk _ _ _ _ (T139.setTop (mkF m 104 #[.val (.int pr), .val (.int lw), .val (.ref b1), .val (.ref b41), .val (.int (Int32.ofNat (lv + 1))), .unset] [(.ref b110), (.ref b110)]))
  refine own_go (fun tgt kst => XS.iconst X139.here hx rfl (hb hby at_104) kst) ?_
  show OwnWk _ _ _ _ (T139.setTop (mkF m 105 #[.val (.int pr), .val (.int lw), .val (.ref b1), .val (.ref b41), .val (.int (Int32.ofNat (lv + 1))), .unset] [(.int (1 : Int32)), (.ref b110), (.ref b110)]))
  refine own_go (fun tgt kst => XS.aloadN X139.here hx rfl (hb hby at_105) rfl rfl  kst) ?_
  show OwnWk _ _ _ _ (T139.setTop (mkF m 106 #[.val (.int pr), .val (.int lw), .val (.ref b1), .val (.ref b41), .val (.int (Int32.ofNat (lv + 1))), .unset] [(.ref b1), (.int (1 : Int32)), (.ref b110), (.ref b110)]))
  refine own_go (fun tgt kst => XS.iconst X139.here hx rfl (hb hby at_106) kst) ?_
  show OwnWk _ _ _ _ (T139.setTop (mkF m 107 #[.val (.int pr), .val (.int lw), .val (.ref b1), .val (.ref b41), .val (.int (Int32.ofNat (lv + 1))), .unset] [(.int (1 : Int32)), (.ref b1), (.int (1 : Int32)), (.ref b110), (.ref b110)]))
  refine own_ldI X139 hx hZ e139 F142 (g := (mkF m 107 #[.val (.int pr), .val (.int lw), .val (.ref b1), .val (.ref b41), .val (.int (Int32.ofNat (lv + 1))), .unset] [(.int (1 : Int32)), (.ref b1), (.int (1 : Int32)), (.ref b110), (.ref b110)])) rfl rfl (hb hby at_107) (v := (.int (Int32.ofNat ((own_perm I4 I3 I2 I1).getD 1 0)))) (by decide) rfl ?_
  show OwnWk _ _ _ _ (T139.setTop (mkF m 108 #[.val (.int pr), .val (.int lw), .val (.ref b1), .val (.ref b41), .val (.int (Int32.ofNat (lv + 1))), .unset] [(.int (Int32.ofNat ((own_perm I4 I3 I2 I1).getD 1 0))), (.int (1 : Int32)), (.ref b110), (.ref b110)]))
  refine own_stI X139 hx hZ e139 V139 (g := (mkF m 108 #[.val (.int pr), .val (.int lw), .val (.ref b1), .val (.ref b41), .val (.int (Int32.ofNat (lv + 1))), .unset] [(.int (Int32.ofNat ((own_perm I4 I3 I2 I1).getD 1 0))), (.int (1 : Int32)), (.ref b110), (.ref b110)])) rfl rfl (hb hby at_108) (by decide) (Nat.le_of_ble_eq_true rfl) (fun T160 h160 X160 e160 W160 V160 => ?_)
  have N160 := Fr.snoc X160 N139 ge119
  have F161 := Sta.wr W160 F140
  have F162 := Exa.wr W160 F141
  have F163 := OAr.other F142 W160 ne111
  have F164 := Exa.wr W160 F143
  have F165 := Exa.wr W160 F144
  have F166 := Fld.other W160 F145 (Or.inl ne113)
  have F167 := Fld.other W160 F146 (Or.inl ne113)
  have F168 := Fld.other W160 F147 (Or.inl ne113)
  have F169 := Exa.wr W160 F148
  have F170 := Fld.other W160 F149 (Or.inl ne112)
  have F171 := Fld.other W160 F150 (Or.inl ne112)
  have F172 := Fld.other W160 F151 (Or.inl ne112)
  have F173 := Fld.other W160 F152 (Or.inl ne112)
  have F174 := Fld.other W160 F153 (Or.inl ne114)
  have F175 := OAr.other F154 W160 ne115
  have F176 := OAr.other F155 W160 ne116
  have F177 := OAr.other F156 W160 ne117
  have F178 := OAr.other F157 W160 ne118
  have F179 := Exa.wr W160 F158
  have Z180 := Nat.le_trans Z159 (Keep.of_wr W160).1
  show OwnWk _ _ _ _ (T160.setTop (mkF m 109 #[.val (.int pr), .val (.int lw), .val (.ref b1), .val (.ref b41), .val (.int (Int32.ofNat (lv + 1))), .unset] [(.ref b110)]))
  refine own_go (fun tgt kst => XS.dup X160.here hx rfl (hb hby at_109) rfl rfl kst) ?_
  show OwnWk _ _ _ _ (T160.setTop (mkF m 110 #[.val (.int pr), .val (.int lw), .val (.ref b1), .val (.ref b41), .val (.int (Int32.ofNat (lv + 1))), .unset] [(.ref b110), (.ref b110)]))
  refine own_go (fun tgt kst => XS.iconst X160.here hx rfl (hb hby at_110) kst) ?_
  show OwnWk _ _ _ _ (T160.setTop (mkF m 111 #[.val (.int pr), .val (.int lw), .val (.ref b1), .val (.ref b41), .val (.int (Int32.ofNat (lv + 1))), .unset] [(.int (2 : Int32)), (.ref b110), (.ref b110)]))
  refine own_go (fun tgt kst => XS.aloadN X160.here hx rfl (hb hby at_111) rfl rfl  kst) ?_
  show OwnWk _ _ _ _ (T160.setTop (mkF m 112 #[.val (.int pr), .val (.int lw), .val (.ref b1), .val (.ref b41), .val (.int (Int32.ofNat (lv + 1))), .unset] [(.ref b1), (.int (2 : Int32)), (.ref b110), (.ref b110)]))
  refine own_go (fun tgt kst => XS.iconst X160.here hx rfl (hb hby at_112) kst) ?_
  show OwnWk _ _ _ _ (T160.setTop (mkF m 113 #[.val (.int pr), .val (.int lw), .val (.ref b1), .val (.ref b41), .val (.int (Int32.ofNat (lv + 1))), .unset] [(.int (2 : Int32)), (.ref b1), (.int (2 : Int32)), (.ref b110), (.ref b110)]))
  refine own_ldI X160 hx hZ e160 F163 (g := (mkF m 113 #[.val (.int pr), .val (.int lw), .val (.ref b1), .val (.ref b41), .val (.int (Int32.ofNat (lv + 1))), .unset] [(.int (2 : Int32)), (.ref b1), (.int (2 : Int32)), (.ref b110), (.ref b110)])) rfl rfl (hb hby at_113) (v := (.int (Int32.ofNat ((own_perm I4 I3 I2 I1).getD 2 0)))) (by decide) rfl ?_
  show OwnWk _ _ _ _ (T160.setTop (mkF m 114 #[.val (.int pr), .val (.int lw), .val (.ref b1), .val (.ref b41), .val (.int (Int32.ofNat (lv + 1))), .unset] [(.int (Int32.ofNat ((own_perm I4 I3 I2 I1).getD 2 0))), (.int (2 : Int32)), (.ref b110), (.ref b110)]))
  refine own_stI X160 hx hZ e160 V160 (g := (mkF m 114 #[.val (.int pr), .val (.int lw), .val (.ref b1), .val (.ref b41), .val (.int (Int32.ofNat (lv + 1))), .unset] [(.int (Int32.ofNat ((own_perm I4 I3 I2 I1).getD 2 0))), (.int (2 : Int32)), (.ref b110), (.ref b110)])) rfl rfl (hb hby at_114) (by decide) (Nat.le_of_ble_eq_true rfl) (fun T181 h181 X181 e181 W181 V181 => ?_)
  have N181 := Fr.snoc X181 N160 ge119
  have F182 := Sta.wr W181 F161
  have F183 := Exa.wr W181 F162
  have F184 := OAr.other F163 W181 ne111
  have F185 := Exa.wr W181 F164
  have F186 := Exa.wr W181 F165
  have F187 := Fld.other W181 F166 (Or.inl ne113)
  have F188 := Fld.other W181 F167 (Or.inl ne113)
  have F189 := Fld.other W181 F168 (Or.inl ne113)
  have F190 := Exa.wr W181 F169
  have F191 := Fld.other W181 F170 (Or.inl ne112)
  have F192 := Fld.other W181 F171 (Or.inl ne112)
  have F193 := Fld.other W181 F172 (Or.inl ne112)
  have F194 := Fld.other W181 F173 (Or.inl ne112)
  have F195 := Fld.other W181 F174 (Or.inl ne114)
  have F196 := OAr.other F175 W181 ne115
  have F197 := OAr.other F176 W181 ne116
  have F198 := OAr.other F177 W181 ne117
  have F199 := OAr.other F178 W181 ne118
  have F200 := Exa.wr W181 F179
  have Z201 := Nat.le_trans Z180 (Keep.of_wr W181).1
  show OwnWk _ _ _ _ (T181.setTop (mkF m 115 #[.val (.int pr), .val (.int lw), .val (.ref b1), .val (.ref b41), .val (.int (Int32.ofNat (lv + 1))), .unset] [(.ref b110)]))
  refine own_go (fun tgt kst => XS.dup X181.here hx rfl (hb hby at_115) rfl rfl kst) ?_
  show OwnWk _ _ _ _ (T181.setTop (mkF m 116 #[.val (.int pr), .val (.int lw), .val (.ref b1), .val (.ref b41), .val (.int (Int32.ofNat (lv + 1))), .unset] [(.ref b110), (.ref b110)]))
  refine own_go (fun tgt kst => XS.iconst X181.here hx rfl (hb hby at_116) kst) ?_
  show OwnWk _ _ _ _ (T181.setTop (mkF m 117 #[.val (.int pr), .val (.int lw), .val (.ref b1), .val (.ref b41), .val (.int (Int32.ofNat (lv + 1))), .unset] [(.int (3 : Int32)), (.ref b110), (.ref b110)]))
  refine own_go (fun tgt kst => XS.aloadN X181.here hx rfl (hb hby at_117) rfl rfl  kst) ?_
  show OwnWk _ _ _ _ (T181.setTop (mkF m 118 #[.val (.int pr), .val (.int lw), .val (.ref b1), .val (.ref b41), .val (.int (Int32.ofNat (lv + 1))), .unset] [(.ref b1), (.int (3 : Int32)), (.ref b110), (.ref b110)]))
  refine own_go (fun tgt kst => XS.iconst X181.here hx rfl (hb hby at_118) kst) ?_
  show OwnWk _ _ _ _ (T181.setTop (mkF m 119 #[.val (.int pr), .val (.int lw), .val (.ref b1), .val (.ref b41), .val (.int (Int32.ofNat (lv + 1))), .unset] [(.int (3 : Int32)), (.ref b1), (.int (3 : Int32)), (.ref b110), (.ref b110)]))
  refine own_ldI X181 hx hZ e181 F184 (g := (mkF m 119 #[.val (.int pr), .val (.int lw), .val (.ref b1), .val (.ref b41), .val (.int (Int32.ofNat (lv + 1))), .unset] [(.int (3 : Int32)), (.ref b1), (.int (3 : Int32)), (.ref b110), (.ref b110)])) rfl rfl (hb hby at_119) (v := (.int (Int32.ofNat ((own_perm I4 I3 I2 I1).getD 3 0)))) (by decide) rfl ?_
  show OwnWk _ _ _ _ (T181.setTop (mkF m 120 #[.val (.int pr), .val (.int lw), .val (.ref b1), .val (.ref b41), .val (.int (Int32.ofNat (lv + 1))), .unset] [(.int (Int32.ofNat ((own_perm I4 I3 I2 I1).getD 3 0))), (.int (3 : Int32)), (.ref b110), (.ref b110)]))
  refine own_stI X181 hx hZ e181 V181 (g := (mkF m 120 #[.val (.int pr), .val (.int lw), .val (.ref b1), .val (.ref b41), .val (.int (Int32.ofNat (lv + 1))), .unset] [(.int (Int32.ofNat ((own_perm I4 I3 I2 I1).getD 3 0))), (.int (3 : Int32)), (.ref b110), (.ref b110)])) rfl rfl (hb hby at_120) (by decide) (Nat.le_of_ble_eq_true rfl) (fun T202 h202 X202 e202 W202 V202 => ?_)
  have N202 := Fr.snoc X202 N181 ge119
  have F203 := Sta.wr W202 F182
  have F204 := Exa.wr W202 F183
  have F205 := OAr.other F184 W202 ne111
  have F206 := Exa.wr W202 F185
  have F207 := Exa.wr W202 F186
  have F208 := Fld.other W202 F187 (Or.inl ne113)
  have F209 := Fld.other W202 F188 (Or.inl ne113)
  have F210 := Fld.other W202 F189 (Or.inl ne113)
  have F211 := Exa.wr W202 F190
  have F212 := Fld.other W202 F191 (Or.inl ne112)
  have F213 := Fld.other W202 F192 (Or.inl ne112)
  have F214 := Fld.other W202 F193 (Or.inl ne112)
  have F215 := Fld.other W202 F194 (Or.inl ne112)
  have F216 := Fld.other W202 F195 (Or.inl ne114)
  have F217 := OAr.other F196 W202 ne115
  have F218 := OAr.other F197 W202 ne116
  have F219 := OAr.other F198 W202 ne117
  have F220 := OAr.other F199 W202 ne118
  have F221 := Exa.wr W202 F200
  have Z222 := Nat.le_trans Z201 (Keep.of_wr W202).1
  show OwnWk _ _ _ _ (T202.setTop (mkF m 121 #[.val (.int pr), .val (.int lw), .val (.ref b1), .val (.ref b41), .val (.int (Int32.ofNat (lv + 1))), .unset] [(.ref b110)]))
  refine own_go (fun tgt kst => XS.dup X202.here hx rfl (hb hby at_121) rfl rfl kst) ?_
  show OwnWk _ _ _ _ (T202.setTop (mkF m 122 #[.val (.int pr), .val (.int lw), .val (.ref b1), .val (.ref b41), .val (.int (Int32.ofNat (lv + 1))), .unset] [(.ref b110), (.ref b110)]))
  refine own_go (fun tgt kst => XS.iconst X202.here hx rfl (hb hby at_122) kst) ?_
  show OwnWk _ _ _ _ (T202.setTop (mkF m 123 #[.val (.int pr), .val (.int lw), .val (.ref b1), .val (.ref b41), .val (.int (Int32.ofNat (lv + 1))), .unset] [(.int (4 : Int32)), (.ref b110), (.ref b110)]))
  refine own_go (fun tgt kst => XS.aloadN X202.here hx rfl (hb hby at_123) rfl rfl  kst) ?_
  show OwnWk _ _ _ _ (T202.setTop (mkF m 124 #[.val (.int pr), .val (.int lw), .val (.ref b1), .val (.ref b41), .val (.int (Int32.ofNat (lv + 1))), .unset] [(.ref b1), (.int (4 : Int32)), (.ref b110), (.ref b110)]))
  refine own_go (fun tgt kst => XS.iconst X202.here hx rfl (hb hby at_124) kst) ?_
  show OwnWk _ _ _ _ (T202.setTop (mkF m 125 #[.val (.int pr), .val (.int lw), .val (.ref b1), .val (.ref b41), .val (.int (Int32.ofNat (lv + 1))), .unset] [(.int (4 : Int32)), (.ref b1), (.int (4 : Int32)), (.ref b110), (.ref b110)]))
  refine own_ldI X202 hx hZ e202 F205 (g := (mkF m 125 #[.val (.int pr), .val (.int lw), .val (.ref b1), .val (.ref b41), .val (.int (Int32.ofNat (lv + 1))), .unset] [(.int (4 : Int32)), (.ref b1), (.int (4 : Int32)), (.ref b110), (.ref b110)])) rfl rfl (hb hby at_125) (v := (.int (Int32.ofNat ((own_perm I4 I3 I2 I1).getD 4 0)))) (by decide) rfl ?_
  show OwnWk _ _ _ _ (T202.setTop (mkF m 126 #[.val (.int pr), .val (.int lw), .val (.ref b1), .val (.ref b41), .val (.int (Int32.ofNat (lv + 1))), .unset] [(.int (Int32.ofNat ((own_perm I4 I3 I2 I1).getD 4 0))), (.int (4 : Int32)), (.ref b110), (.ref b110)]))
  refine own_stI X202 hx hZ e202 V202 (g := (mkF m 126 #[.val (.int pr), .val (.int lw), .val (.ref b1), .val (.ref b41), .val (.int (Int32.ofNat (lv + 1))), .unset] [(.int (Int32.ofNat ((own_perm I4 I3 I2 I1).getD 4 0))), (.int (4 : Int32)), (.ref b110), (.ref b110)])) rfl rfl (hb hby at_126) (by decide) (Nat.le_of_ble_eq_true rfl) (fun T223 h223 X223 e223 W223 V223 => ?_)
  have N223 := Fr.snoc X223 N202 ge119
  have F224 := Sta.wr W223 F203
  have F225 := Exa.wr W223 F204
  have F226 := OAr.other F205 W223 ne111
  have F227 := Exa.wr W223 F206
  have F228 := Exa.wr W223 F207
  have F229 := Fld.other W223 F208 (Or.inl ne113)
  have F230 := Fld.other W223 F209 (Or.inl ne113)
  have F231 := Fld.other W223 F210 (Or.inl ne113)
  have F232 := Exa.wr W223 F211
  have F233 := Fld.other W223 F212 (Or.inl ne112)
  have F234 := Fld.other W223 F213 (Or.inl ne112)
  have F235 := Fld.other W223 F214 (Or.inl ne112)
  have F236 := Fld.other W223 F215 (Or.inl ne112)
  have F237 := Fld.other W223 F216 (Or.inl ne114)
  have F238 := OAr.other F217 W223 ne115
  have F239 := OAr.other F218 W223 ne116
  have F240 := OAr.other F219 W223 ne117
  have F241 := OAr.other F220 W223 ne118
  have F242 := Exa.wr W223 F221
  have Z243 := Nat.le_trans Z222 (Keep.of_wr W223).1
  show OwnWk _ _ _ _ (T223.setTop (mkF m 127 #[.val (.int pr), .val (.int lw), .val (.ref b1), .val (.ref b41), .val (.int (Int32.ofNat (lv + 1))), .unset] [(.ref b110)]))
  have Ve : OAr Z h223 b110 .int (own_iv (own_perm I4 I3 I2 I1)) := own_cast (congrArg own_iv (own_five (own_perm_len I4 I3 I2 I1))).symm V223
  refine own_go (fun tgt kst => XS.astore X223.here hx rfl (hb hby at_127) rfl rfl (l' := #[.val (.int pr), .val (.int lw), .val (.ref b1), .val (.ref b41), .val (.int (Int32.ofNat (lv + 1))), .val (.ref b110)]) rfl kst) ?_
  show OwnWk _ _ _ _ (T223.setTop (mkF m 129 #[.val (.int pr), .val (.int lw), .val (.ref b1), .val (.ref b41), .val (.int (Int32.ofNat (lv + 1))), .val (.ref b110)] []))
  refine own_go (fun tgt kst => XS.aload X223.here hx rfl (hb hby at_129) rfl rfl  kst) ?_
  show OwnWk _ _ _ _ (T223.setTop (mkF m 131 #[.val (.int pr), .val (.int lw), .val (.ref b1), .val (.ref b41), .val (.int (Int32.ofNat (lv + 1))), .val (.ref b110)] [(.ref b110)]))
  refine own_go (fun tgt kst => XS.iload X223.here hx rfl (hb hby at_131) rfl  kst) ?_
  show OwnWk _ _ _ _ (T223.setTop (mkF m 133 #[.val (.int pr), .val (.int lw), .val (.ref b1), .val (.ref b41), .val (.int (Int32.ofNat (lv + 1))), .val (.ref b110)] [(.int (Int32.ofNat (lv + 1))), (.ref b110)]))
  refine own_go (fun tgt kst => XS.iconst X223.here hx rfl (hb hby at_133) kst) ?_
  show OwnWk _ _ _ _ (T223.setTop (mkF m 134 #[.val (.int pr), .val (.int lw), .val (.ref b1), .val (.ref b41), .val (.int (Int32.ofNat (lv + 1))), .val (.ref b110)] [(.int (1 : Int32)), (.int (Int32.ofNat (lv + 1))), (.ref b110)]))
  refine own_go (fun tgt kst => XS.isub X223.here hx rfl (hb hby at_134) rfl kst) ?_
  show OwnWk _ _ _ _ (T223.setTop (mkF m 135 #[.val (.int pr), .val (.int lw), .val (.ref b1), .val (.ref b41), .val (.int (Int32.ofNat (lv + 1))), .val (.ref b110)] [(.int ((Int32.ofNat (lv + 1)) - (1 : Int32))), (.ref b110)]))
  rw [own_n_pred (i := lv + 1) (by omega) (by omega)]
  show OwnWk _ _ _ _ (T223.setTop (mkF m 135 #[.val (.int pr), .val (.int lw), .val (.ref b1), .val (.ref b41), .val (.int (Int32.ofNat (lv + 1))), .val (.ref b110)] [(.int (Int32.ofNat lv)), (.ref b110)]))
  have hfin := own_fin I4 (by omega) I3 (by omega) I2 (by omega) I1 (by omega) lv (by omega)
  have hes : ∀ i < 5, (own_exch (own_perm I4 I3 I2 I1) lv (lv + 1)).getD i 0 < 5 := own_perm_lt2 I4 (by omega) I3 (by omega) I2 (by omega) I1 (by omega) lv (by omega)
  refine own_go (fun tgt kst => XS.iload X223.here hx rfl (hb hby at_135) rfl  kst) ?_
  show OwnWk _ _ _ _ (T223.setTop (mkF m 137 #[.val (.int pr), .val (.int lw), .val (.ref b1), .val (.ref b41), .val (.int (Int32.ofNat (lv + 1))), .val (.ref b110)] [(.int (Int32.ofNat (lv + 1))), (.int (Int32.ofNat lv)), (.ref b110)]))
  refine own_callS X223 hx hZ (y := (⟨"com/example/encircle/encircle/layout/PrefixesSwapPinLaw", "exch", "([III)V"⟩ : MethodName)) hown (hw _ (List.mem_of_getElem? (i := 1) rfl)) (hw _ (List.mem_of_getElem? (i := 2) rfl)) (hw _ (List.mem_of_getElem? (i := 3) rfl)) (hw _ (List.mem_of_getElem? (i := 4) rfl)) (by decide) (argsL := [(.ref b110), (.int (Int32.ofNat lv)), (.int (Int32.ofNat (lv + 1)))]) (rest := []) (rm := ({ frames := 0, cells := 0, slots := 0, locals := 0 } : Room)) (h := h223) (rm1 l Z a0 hw b110 (own_perm I4 I3 I2 I1) lv (lv + 1) h223 n0 Z243 Ve ge119 (by simp [own_elen, own_perm_len, own_swpp, own_places]) (by omega) (by omega)) e223 (W := 0) (by decide) (by decide) (by decide) (by decide) (g := (mkF m 137 #[.val (.int pr), .val (.int lw), .val (.ref b1), .val (.ref b41), .val (.int (Int32.ofNat (lv + 1))), .val (.ref b110)] [(.int (Int32.ofNat (lv + 1))), (.int (Int32.ofNat lv)), (.ref b110)])) rfl (by rw [hml]; rfl) (lenOf pd_7 rfl) rfl (by show 2 * 0 + _ ≤ _; exact Nat.le_of_eq rfl) (hb hby at_137) (fun v244 T244 h244 L244 X244 e244 hQ244 => ?_)
  obtain ⟨rfl, Nq244, Kq244, Vq244⟩ := hQ244
  have N244 := Fr.app N223 Nq244
  have F245 := own_sta_keep F224 Kq244 (allS (own_plE F242) all0)
  have F246 := Exa.keep F225 Kq244
  have F247 := OAr.keep F226 Kq244 (ninS ne111 nin0)
  have F248 := Exa.keep F227 Kq244
  have F249 := Exa.keep F228 Kq244
  have F250 := Fld.keep F229 Kq244 (ninS ne113 nin0)
  have F251 := Fld.keep F230 Kq244 (ninS ne113 nin0)
  have F252 := Fld.keep F231 Kq244 (ninS ne113 nin0)
  have F253 := Exa.keep F232 Kq244
  have F254 := Fld.keep F233 Kq244 (ninS ne112 nin0)
  have F255 := Fld.keep F234 Kq244 (ninS ne112 nin0)
  have F256 := Fld.keep F235 Kq244 (ninS ne112 nin0)
  have F257 := Fld.keep F236 Kq244 (ninS ne112 nin0)
  have F258 := Fld.keep F237 Kq244 (ninS ne114 nin0)
  have F259 := OAr.keep F238 Kq244 (ninS ne115 nin0)
  have F260 := OAr.keep F239 Kq244 (ninS ne116 nin0)
  have F261 := OAr.keep F240 Kq244 (ninS ne117 nin0)
  have F262 := OAr.keep F241 Kq244 (ninS ne118 nin0)
  have F263 := Exa.keep F242 Kq244
  have Z264 := Nat.le_trans Z243 Kq244.1
  show OwnWk _ _ _ _ (T244.setTop (mkF m 140 #[.val (.int pr), .val (.int lw), .val (.ref b1), .val (.ref b41), .val (.int (Int32.ofNat (lv + 1))), .val (.ref b110)] []))
  refine own_go (fun tgt kst => XS.aloadN X244.here hx rfl (hb hby at_140) rfl rfl  kst) ?_
  show OwnWk _ _ _ _ (T244.setTop (mkF m 141 #[.val (.int pr), .val (.int lw), .val (.ref b1), .val (.ref b41), .val (.int (Int32.ofNat (lv + 1))), .val (.ref b110)] [(.ref b41)]))
  refine own_go (fun tgt kst => XS.iload X244.here hx rfl (hb hby at_141) rfl  kst) ?_
  show OwnWk _ _ _ _ (T244.setTop (mkF m 143 #[.val (.int pr), .val (.int lw), .val (.ref b1), .val (.ref b41), .val (.int (Int32.ofNat (lv + 1))), .val (.ref b110)] [(.int (Int32.ofNat (lv + 1))), (.ref b41)]))
  refine own_callV X244 hx hZ (y := (⟨"com/example/encircle/encircle/layout/Prefixes", "swap", "(I)V"⟩ : MethodName)) (z := (⟨"com/example/encircle/encircle/layout/Prefixes", "swap", "(I)V"⟩ : MethodName)) hown (hw _ (List.mem_of_getElem? (i := 115) rfl)) (hw _ (List.mem_of_getElem? (i := 116) rfl)) (notFace_of_selects (args := #[]) (mvT hZ (hw _ (List.mem_of_getElem? (i := 118) rfl)))) (hw _ (List.mem_of_getElem? (i := 118) rfl)) (hw _ (List.mem_of_getElem? (i := 117) rfl)) (hw _ (List.mem_of_getElem? (i := 7) rfl)) (hw _ (List.mem_of_getElem? (i := 119) rfl)) (by decide) (a := b41) F248 (argsL := [(.int (Int32.ofNat (lv + 1)))]) (rest := []) (rm := ({ frames := 1, cells := 0, slots := 0, locals := 17 } : Room)) (h := h244) (rm14 l Z a0 hw b41 zk kk oa pa sa ks ss (own_perm I4 I3 I2 I1) (own_places (own_perm I4 I3 I2 I1)) (lv + 1) h244 n0 Z264 g_oa g_pa g_sa ne102 ne105 ne108 n_zk_oa n_zk_pa n_zk_sa n_kk_oa n_kk_pa n_kk_sa n_oa_pa n_oa_sa n_pa_sa F253 F254 F255 F256 F257 F258 F259 hk5 F261 F262 F260 hs6 (by simp [own_elen, own_perm_len, own_swpp, own_places]) (by simp [own_elen, own_perm_len, own_swpp, own_places]) (by omega) (by omega) (hpm (lv + 1) (by omega)) (hpm lv (by omega))) e244 (W := 0) (by decide) (by decide) (by decide) (by decide) (g := (mkF m 143 #[.val (.int pr), .val (.int lw), .val (.ref b1), .val (.ref b41), .val (.int (Int32.ofNat (lv + 1))), .val (.ref b110)] [(.int (Int32.ofNat (lv + 1))), (.ref b41)])) rfl (by rw [hml]; rfl) (lenOf pd_9 rfl) rfl (by show 2 * 0 + _ ≤ _; exact Nat.le_of_eq rfl) (hb hby at_143) (fun v265 T265 h265 L265 X265 e265 hQ265 => ?_)
  obtain ⟨rfl, Nq265, Kq265, Vo2, Vp2⟩ := hQ265
  have N265 := Fr.app N244 Nq265
  have F266 := own_sta_keep F245 Kq265 (allS (own_plV F261) (allS (own_plV F262) (allS (own_plV F260) all0)))
  have F267 := Exa.keep F246 Kq265
  have F268 := OAr.keep F247 Kq265 (ninS ne101 (ninS ne104 (ninS ne107 nin0)))
  have F269 := Exa.keep F248 Kq265
  have F270 := Exa.keep F249 Kq265
  have F271 := Fld.keep F250 Kq265 (ninS ne103 (ninS ne106 (ninS ne109 nin0)))
  have F272 := Fld.keep F251 Kq265 (ninS ne103 (ninS ne106 (ninS ne109 nin0)))
  have F273 := Fld.keep F252 Kq265 (ninS ne103 (ninS ne106 (ninS ne109 nin0)))
  have F274 := Exa.keep F253 Kq265
  have F275 := Fld.keep F254 Kq265 (ninS ne102 (ninS ne105 (ninS ne108 nin0)))
  have F276 := Fld.keep F255 Kq265 (ninS ne102 (ninS ne105 (ninS ne108 nin0)))
  have F277 := Fld.keep F256 Kq265 (ninS ne102 (ninS ne105 (ninS ne108 nin0)))
  have F278 := Fld.keep F257 Kq265 (ninS ne102 (ninS ne105 (ninS ne108 nin0)))
  have F279 := Fld.keep F258 Kq265 (ninS n_zk_oa (ninS n_zk_pa (ninS n_zk_sa nin0)))
  have F280 := OAr.keep F259 Kq265 (ninS n_kk_oa (ninS n_kk_pa (ninS n_kk_sa nin0)))
  have F281 := Exa.keep F263 Kq265
  have F282 := OAr.keep Vq244 Kq265 (ninS (Ne.symm ne117) (ninS (Ne.symm ne118) (ninS (Ne.symm ne116) nin0)))
  have Z283 := Nat.le_trans Z264 Kq265.1
  show OwnWk _ _ _ _ (T265.setTop (mkF m 146 #[.val (.int pr), .val (.int lw), .val (.ref b1), .val (.ref b41), .val (.int (Int32.ofNat (lv + 1))), .val (.ref b110)] []))
  refine own_go (fun tgt kst => XS.aloadN X265.here hx rfl (hb hby at_146) rfl rfl  kst) ?_
  show OwnWk _ _ _ _ (T265.setTop (mkF m 147 #[.val (.int pr), .val (.int lw), .val (.ref b1), .val (.ref b41), .val (.int (Int32.ofNat (lv + 1))), .val (.ref b110)] [(.ref b41)]))
  refine own_callV X265 hx hZ (y := (⟨"com/example/encircle/encircle/layout/Prefixes", "sets", "()I"⟩ : MethodName)) (z := (⟨"com/example/encircle/encircle/layout/Prefixes", "sets", "()I"⟩ : MethodName)) hown (hw _ (List.mem_of_getElem? (i := 120) rfl)) (hw _ (List.mem_of_getElem? (i := 121) rfl)) (notFace_of_selects (args := #[]) (mvT hZ (hw _ (List.mem_of_getElem? (i := 123) rfl)))) (hw _ (List.mem_of_getElem? (i := 123) rfl)) (hw _ (List.mem_of_getElem? (i := 122) rfl)) (hw _ (List.mem_of_getElem? (i := 7) rfl)) (hw _ (List.mem_of_getElem? (i := 124) rfl)) (by decide) (a := b41) F269 (argsL := []) (rest := []) (rm := ({ frames := 0, cells := 0, slots := 0, locals := 0 } : Room)) (h := h265) (rm15 l Z a0 hw b41 oa (own_exch (own_perm I4 I3 I2 I1) lv (lv + 1)) h265 n0 Z283 F276 Vo2 (by simp [own_elen, own_perm_len, own_swpp, own_places])) e265 (W := 0) (by decide) (by decide) (by decide) (by decide) (g := (mkF m 147 #[.val (.int pr), .val (.int lw), .val (.ref b1), .val (.ref b41), .val (.int (Int32.ofNat (lv + 1))), .val (.ref b110)] [(.ref b41)])) rfl (by rw [hml]; rfl) (lenOf pd_2 rfl) rfl (by show 2 * 0 + _ ≤ _; exact Nat.le_of_eq rfl) (hb hby at_147) (fun v284 T284 h284 L284 X284 e284 hQ284 => ?_)
  obtain ⟨rfl, Nq284, q284⟩ := hQ284
  have N284 := Fr.app N265 Nq284
  rw [q284] at e284
  show OwnWk _ _ _ _ (T284.setTop (mkF m 150 #[.val (.int pr), .val (.int lw), .val (.ref b1), .val (.ref b41), .val (.int (Int32.ofNat (lv + 1))), .val (.ref b110)] [(.int (5 : Int32))]))
  refine own_go (fun tgt kst => XS.iconst X284.here hx rfl (hb hby at_150) kst) ?_
  show OwnWk _ _ _ _ (T284.setTop (mkF m 151 #[.val (.int pr), .val (.int lw), .val (.ref b1), .val (.ref b41), .val (.int (Int32.ofNat (lv + 1))), .val (.ref b110)] [(.int (5 : Int32)), (.int (5 : Int32))]))
  refine own_go (fun tgt kst => XS.icmpNo X284.here hx rfl (hb hby at_151) rfl (teq (by decide : (5 : Int32) = (5 : Int32))).2 kst) ?_
  show OwnWk _ _ _ _ (T284.setTop (mkF m 154 #[.val (.int pr), .val (.int lw), .val (.ref b1), .val (.ref b41), .val (.int (Int32.ofNat (lv + 1))), .val (.ref b110)] []))
  refine own_go (fun tgt kst => XS.aloadN X284.here hx rfl (hb hby at_154) rfl rfl  kst) ?_
  show OwnWk _ _ _ _ (T284.setTop (mkF m 155 #[.val (.int pr), .val (.int lw), .val (.ref b1), .val (.ref b41), .val (.int (Int32.ofNat (lv + 1))), .val (.ref b110)] [(.ref b41)]))
  refine own_go (fun tgt kst => XS.aload X284.here hx rfl (hb hby at_155) rfl rfl  kst) ?_
  show OwnWk _ _ _ _ (T284.setTop (mkF m 157 #[.val (.int pr), .val (.int lw), .val (.ref b1), .val (.ref b41), .val (.int (Int32.ofNat (lv + 1))), .val (.ref b110)] [(.ref b110), (.ref b41)]))
  refine own_go (fun tgt kst => XS.iconst X284.here hx rfl (hb hby at_157) kst) ?_
  show OwnWk _ _ _ _ (T284.setTop (mkF m 158 #[.val (.int pr), .val (.int lw), .val (.ref b1), .val (.ref b41), .val (.int (Int32.ofNat (lv + 1))), .val (.ref b110)] [(.int (0 : Int32)), (.ref b110), (.ref b41)]))
  refine own_callS X284 hx hZ (y := (⟨"com/example/encircle/encircle/layout/PrefixesSwapPinLaw", "ok", "(Lcom/example/encircle/encircle/layout/Prefixes;[II)Z"⟩ : MethodName)) hown (hw _ (List.mem_of_getElem? (i := 125) rfl)) (hw _ (List.mem_of_getElem? (i := 126) rfl)) (hw _ (List.mem_of_getElem? (i := 3) rfl)) (hw _ (List.mem_of_getElem? (i := 127) rfl)) (by decide) (argsL := [(.ref b41), (.ref b110), (.int (0 : Int32))]) (rest := []) (rm := ({ frames := 1, cells := 0, slots := 0, locals := 13 } : Room)) (h := h265) (rm16 l Z a0 hw b41 b110 oa pa (own_exch (own_perm I4 I3 I2 I1) lv (lv + 1)) (own_exch (own_perm I4 I3 I2 I1) lv (lv + 1)) (own_swpp (own_perm I4 I3 I2 I1) (own_places (own_perm I4 I3 I2 I1)) (lv + 1)) 0 h265 n0 Z283 F269 F276 F277 Vo2 Vp2 F282 (by simp [own_elen, own_perm_len, own_swpp, own_places]) (by simp [own_elen, own_perm_len, own_swpp, own_places]) (by simp [own_elen, own_perm_len, own_swpp, own_places]) (by decide) (hes 0 (by decide))) e284 (W := 0) (by decide) (by decide) (by decide) (by decide) (g := (mkF m 158 #[.val (.int pr), .val (.int lw), .val (.ref b1), .val (.ref b41), .val (.int (Int32.ofNat (lv + 1))), .val (.ref b110)] [(.int (0 : Int32)), (.ref b110), (.ref b41)])) rfl (by rw [hml]; rfl) (lenOf pd_10 rfl) rfl (by show 2 * 0 + _ ≤ _; exact Nat.le_of_eq rfl) (hb hby at_158) (fun v285 T285 h285 L285 X285 e285 hQ285 => ?_)
  obtain ⟨rfl, Nq285, q285⟩ := hQ285
  have N285 := Fr.app N284 Nq285
  rw [q285] at e285
  show OwnWk _ _ _ _ (T285.setTop (mkF m 161 #[.val (.int pr), .val (.int lw), .val (.ref b1), .val (.ref b41), .val (.int (Int32.ofNat (lv + 1))), .val (.ref b110)] [(.int (own_okv (own_exch (own_perm I4 I3 I2 I1) lv (lv + 1)) (own_exch (own_perm I4 I3 I2 I1) lv (lv + 1)) (own_swpp (own_perm I4 I3 I2 I1) (own_places (own_perm I4 I3 I2 I1)) (lv + 1)) 0))]))
  refine own_go (fun tgt kst => XS.ifNo X285.here hx rfl (hb hby at_161) rfl ((if0 _ _).trans (feq (by rw [hfin 0 (by decide)]; decide)).1) kst) ?_
  show OwnWk _ _ _ _ (T285.setTop (mkF m 164 #[.val (.int pr), .val (.int lw), .val (.ref b1), .val (.ref b41), .val (.int (Int32.ofNat (lv + 1))), .val (.ref b110)] []))
  refine own_go (fun tgt kst => XS.aloadN X285.here hx rfl (hb hby at_164) rfl rfl  kst) ?_
  show OwnWk _ _ _ _ (T285.setTop (mkF m 165 #[.val (.int pr), .val (.int lw), .val (.ref b1), .val (.ref b41), .val (.int (Int32.ofNat (lv + 1))), .val (.ref b110)] [(.ref b41)]))
  refine own_go (fun tgt kst => XS.aload X285.here hx rfl (hb hby at_165) rfl rfl  kst) ?_
  show OwnWk _ _ _ _ (T285.setTop (mkF m 167 #[.val (.int pr), .val (.int lw), .val (.ref b1), .val (.ref b41), .val (.int (Int32.ofNat (lv + 1))), .val (.ref b110)] [(.ref b110), (.ref b41)]))
  refine own_go (fun tgt kst => XS.iconst X285.here hx rfl (hb hby at_167) kst) ?_
  show OwnWk _ _ _ _ (T285.setTop (mkF m 168 #[.val (.int pr), .val (.int lw), .val (.ref b1), .val (.ref b41), .val (.int (Int32.ofNat (lv + 1))), .val (.ref b110)] [(.int (1 : Int32)), (.ref b110), (.ref b41)]))
  refine own_callS X285 hx hZ (y := (⟨"com/example/encircle/encircle/layout/PrefixesSwapPinLaw", "ok", "(Lcom/example/encircle/encircle/layout/Prefixes;[II)Z"⟩ : MethodName)) hown (hw _ (List.mem_of_getElem? (i := 125) rfl)) (hw _ (List.mem_of_getElem? (i := 126) rfl)) (hw _ (List.mem_of_getElem? (i := 3) rfl)) (hw _ (List.mem_of_getElem? (i := 127) rfl)) (by decide) (argsL := [(.ref b41), (.ref b110), (.int (1 : Int32))]) (rest := []) (rm := ({ frames := 1, cells := 0, slots := 0, locals := 13 } : Room)) (h := h265) (rm16 l Z a0 hw b41 b110 oa pa (own_exch (own_perm I4 I3 I2 I1) lv (lv + 1)) (own_exch (own_perm I4 I3 I2 I1) lv (lv + 1)) (own_swpp (own_perm I4 I3 I2 I1) (own_places (own_perm I4 I3 I2 I1)) (lv + 1)) 1 h265 n0 Z283 F269 F276 F277 Vo2 Vp2 F282 (by simp [own_elen, own_perm_len, own_swpp, own_places]) (by simp [own_elen, own_perm_len, own_swpp, own_places]) (by simp [own_elen, own_perm_len, own_swpp, own_places]) (by decide) (hes 1 (by decide))) e285 (W := 0) (by decide) (by decide) (by decide) (by decide) (g := (mkF m 168 #[.val (.int pr), .val (.int lw), .val (.ref b1), .val (.ref b41), .val (.int (Int32.ofNat (lv + 1))), .val (.ref b110)] [(.int (1 : Int32)), (.ref b110), (.ref b41)])) rfl (by rw [hml]; rfl) (lenOf pd_10 rfl) rfl (by show 2 * 0 + _ ≤ _; exact Nat.le_of_eq rfl) (hb hby at_168) (fun v286 T286 h286 L286 X286 e286 hQ286 => ?_)
  obtain ⟨rfl, Nq286, q286⟩ := hQ286
  have N286 := Fr.app N285 Nq286
  rw [q286] at e286
  show OwnWk _ _ _ _ (T286.setTop (mkF m 171 #[.val (.int pr), .val (.int lw), .val (.ref b1), .val (.ref b41), .val (.int (Int32.ofNat (lv + 1))), .val (.ref b110)] [(.int (own_okv (own_exch (own_perm I4 I3 I2 I1) lv (lv + 1)) (own_exch (own_perm I4 I3 I2 I1) lv (lv + 1)) (own_swpp (own_perm I4 I3 I2 I1) (own_places (own_perm I4 I3 I2 I1)) (lv + 1)) 1))]))
  refine own_go (fun tgt kst => XS.ifNo X286.here hx rfl (hb hby at_171) rfl ((if0 _ _).trans (feq (by rw [hfin 1 (by decide)]; decide)).1) kst) ?_
  show OwnWk _ _ _ _ (T286.setTop (mkF m 174 #[.val (.int pr), .val (.int lw), .val (.ref b1), .val (.ref b41), .val (.int (Int32.ofNat (lv + 1))), .val (.ref b110)] []))
  refine own_go (fun tgt kst => XS.aloadN X286.here hx rfl (hb hby at_174) rfl rfl  kst) ?_
  show OwnWk _ _ _ _ (T286.setTop (mkF m 175 #[.val (.int pr), .val (.int lw), .val (.ref b1), .val (.ref b41), .val (.int (Int32.ofNat (lv + 1))), .val (.ref b110)] [(.ref b41)]))
  refine own_go (fun tgt kst => XS.aload X286.here hx rfl (hb hby at_175) rfl rfl  kst) ?_
  show OwnWk _ _ _ _ (T286.setTop (mkF m 177 #[.val (.int pr), .val (.int lw), .val (.ref b1), .val (.ref b41), .val (.int (Int32.ofNat (lv + 1))), .val (.ref b110)] [(.ref b110), (.ref b41)]))
  refine own_go (fun tgt kst => XS.iconst X286.here hx rfl (hb hby at_177) kst) ?_
  show OwnWk _ _ _ _ (T286.setTop (mkF m 178 #[.val (.int pr), .val (.int lw), .val (.ref b1), .val (.ref b41), .val (.int (Int32.ofNat (lv + 1))), .val (.ref b110)] [(.int (2 : Int32)), (.ref b110), (.ref b41)]))
  refine own_callS X286 hx hZ (y := (⟨"com/example/encircle/encircle/layout/PrefixesSwapPinLaw", "ok", "(Lcom/example/encircle/encircle/layout/Prefixes;[II)Z"⟩ : MethodName)) hown (hw _ (List.mem_of_getElem? (i := 125) rfl)) (hw _ (List.mem_of_getElem? (i := 126) rfl)) (hw _ (List.mem_of_getElem? (i := 3) rfl)) (hw _ (List.mem_of_getElem? (i := 127) rfl)) (by decide) (argsL := [(.ref b41), (.ref b110), (.int (2 : Int32))]) (rest := []) (rm := ({ frames := 1, cells := 0, slots := 0, locals := 13 } : Room)) (h := h265) (rm16 l Z a0 hw b41 b110 oa pa (own_exch (own_perm I4 I3 I2 I1) lv (lv + 1)) (own_exch (own_perm I4 I3 I2 I1) lv (lv + 1)) (own_swpp (own_perm I4 I3 I2 I1) (own_places (own_perm I4 I3 I2 I1)) (lv + 1)) 2 h265 n0 Z283 F269 F276 F277 Vo2 Vp2 F282 (by simp [own_elen, own_perm_len, own_swpp, own_places]) (by simp [own_elen, own_perm_len, own_swpp, own_places]) (by simp [own_elen, own_perm_len, own_swpp, own_places]) (by decide) (hes 2 (by decide))) e286 (W := 0) (by decide) (by decide) (by decide) (by decide) (g := (mkF m 178 #[.val (.int pr), .val (.int lw), .val (.ref b1), .val (.ref b41), .val (.int (Int32.ofNat (lv + 1))), .val (.ref b110)] [(.int (2 : Int32)), (.ref b110), (.ref b41)])) rfl (by rw [hml]; rfl) (lenOf pd_10 rfl) rfl (by show 2 * 0 + _ ≤ _; exact Nat.le_of_eq rfl) (hb hby at_178) (fun v287 T287 h287 L287 X287 e287 hQ287 => ?_)
  obtain ⟨rfl, Nq287, q287⟩ := hQ287
  have N287 := Fr.app N286 Nq287
  rw [q287] at e287
  show OwnWk _ _ _ _ (T287.setTop (mkF m 181 #[.val (.int pr), .val (.int lw), .val (.ref b1), .val (.ref b41), .val (.int (Int32.ofNat (lv + 1))), .val (.ref b110)] [(.int (own_okv (own_exch (own_perm I4 I3 I2 I1) lv (lv + 1)) (own_exch (own_perm I4 I3 I2 I1) lv (lv + 1)) (own_swpp (own_perm I4 I3 I2 I1) (own_places (own_perm I4 I3 I2 I1)) (lv + 1)) 2))]))
  refine own_go (fun tgt kst => XS.ifNo X287.here hx rfl (hb hby at_181) rfl ((if0 _ _).trans (feq (by rw [hfin 2 (by decide)]; decide)).1) kst) ?_
  show OwnWk _ _ _ _ (T287.setTop (mkF m 184 #[.val (.int pr), .val (.int lw), .val (.ref b1), .val (.ref b41), .val (.int (Int32.ofNat (lv + 1))), .val (.ref b110)] []))
  refine own_go (fun tgt kst => XS.aloadN X287.here hx rfl (hb hby at_184) rfl rfl  kst) ?_
  show OwnWk _ _ _ _ (T287.setTop (mkF m 185 #[.val (.int pr), .val (.int lw), .val (.ref b1), .val (.ref b41), .val (.int (Int32.ofNat (lv + 1))), .val (.ref b110)] [(.ref b41)]))
  refine own_go (fun tgt kst => XS.aload X287.here hx rfl (hb hby at_185) rfl rfl  kst) ?_
  show OwnWk _ _ _ _ (T287.setTop (mkF m 187 #[.val (.int pr), .val (.int lw), .val (.ref b1), .val (.ref b41), .val (.int (Int32.ofNat (lv + 1))), .val (.ref b110)] [(.ref b110), (.ref b41)]))
  refine own_go (fun tgt kst => XS.iconst X287.here hx rfl (hb hby at_187) kst) ?_
  show OwnWk _ _ _ _ (T287.setTop (mkF m 188 #[.val (.int pr), .val (.int lw), .val (.ref b1), .val (.ref b41), .val (.int (Int32.ofNat (lv + 1))), .val (.ref b110)] [(.int (3 : Int32)), (.ref b110), (.ref b41)]))
  refine own_callS X287 hx hZ (y := (⟨"com/example/encircle/encircle/layout/PrefixesSwapPinLaw", "ok", "(Lcom/example/encircle/encircle/layout/Prefixes;[II)Z"⟩ : MethodName)) hown (hw _ (List.mem_of_getElem? (i := 125) rfl)) (hw _ (List.mem_of_getElem? (i := 126) rfl)) (hw _ (List.mem_of_getElem? (i := 3) rfl)) (hw _ (List.mem_of_getElem? (i := 127) rfl)) (by decide) (argsL := [(.ref b41), (.ref b110), (.int (3 : Int32))]) (rest := []) (rm := ({ frames := 1, cells := 0, slots := 0, locals := 13 } : Room)) (h := h265) (rm16 l Z a0 hw b41 b110 oa pa (own_exch (own_perm I4 I3 I2 I1) lv (lv + 1)) (own_exch (own_perm I4 I3 I2 I1) lv (lv + 1)) (own_swpp (own_perm I4 I3 I2 I1) (own_places (own_perm I4 I3 I2 I1)) (lv + 1)) 3 h265 n0 Z283 F269 F276 F277 Vo2 Vp2 F282 (by simp [own_elen, own_perm_len, own_swpp, own_places]) (by simp [own_elen, own_perm_len, own_swpp, own_places]) (by simp [own_elen, own_perm_len, own_swpp, own_places]) (by decide) (hes 3 (by decide))) e287 (W := 0) (by decide) (by decide) (by decide) (by decide) (g := (mkF m 188 #[.val (.int pr), .val (.int lw), .val (.ref b1), .val (.ref b41), .val (.int (Int32.ofNat (lv + 1))), .val (.ref b110)] [(.int (3 : Int32)), (.ref b110), (.ref b41)])) rfl (by rw [hml]; rfl) (lenOf pd_10 rfl) rfl (by show 2 * 0 + _ ≤ _; exact Nat.le_of_eq rfl) (hb hby at_188) (fun v288 T288 h288 L288 X288 e288 hQ288 => ?_)
  obtain ⟨rfl, Nq288, q288⟩ := hQ288
  have N288 := Fr.app N287 Nq288
  rw [q288] at e288
  show OwnWk _ _ _ _ (T288.setTop (mkF m 191 #[.val (.int pr), .val (.int lw), .val (.ref b1), .val (.ref b41), .val (.int (Int32.ofNat (lv + 1))), .val (.ref b110)] [(.int (own_okv (own_exch (own_perm I4 I3 I2 I1) lv (lv + 1)) (own_exch (own_perm I4 I3 I2 I1) lv (lv + 1)) (own_swpp (own_perm I4 I3 I2 I1) (own_places (own_perm I4 I3 I2 I1)) (lv + 1)) 3))]))
  refine own_go (fun tgt kst => XS.ifNo X288.here hx rfl (hb hby at_191) rfl ((if0 _ _).trans (feq (by rw [hfin 3 (by decide)]; decide)).1) kst) ?_
  show OwnWk _ _ _ _ (T288.setTop (mkF m 194 #[.val (.int pr), .val (.int lw), .val (.ref b1), .val (.ref b41), .val (.int (Int32.ofNat (lv + 1))), .val (.ref b110)] []))
  refine own_go (fun tgt kst => XS.aloadN X288.here hx rfl (hb hby at_194) rfl rfl  kst) ?_
  show OwnWk _ _ _ _ (T288.setTop (mkF m 195 #[.val (.int pr), .val (.int lw), .val (.ref b1), .val (.ref b41), .val (.int (Int32.ofNat (lv + 1))), .val (.ref b110)] [(.ref b41)]))
  refine own_go (fun tgt kst => XS.aload X288.here hx rfl (hb hby at_195) rfl rfl  kst) ?_
  show OwnWk _ _ _ _ (T288.setTop (mkF m 197 #[.val (.int pr), .val (.int lw), .val (.ref b1), .val (.ref b41), .val (.int (Int32.ofNat (lv + 1))), .val (.ref b110)] [(.ref b110), (.ref b41)]))
  refine own_go (fun tgt kst => XS.iconst X288.here hx rfl (hb hby at_197) kst) ?_
  show OwnWk _ _ _ _ (T288.setTop (mkF m 198 #[.val (.int pr), .val (.int lw), .val (.ref b1), .val (.ref b41), .val (.int (Int32.ofNat (lv + 1))), .val (.ref b110)] [(.int (4 : Int32)), (.ref b110), (.ref b41)]))
  refine own_callS X288 hx hZ (y := (⟨"com/example/encircle/encircle/layout/PrefixesSwapPinLaw", "ok", "(Lcom/example/encircle/encircle/layout/Prefixes;[II)Z"⟩ : MethodName)) hown (hw _ (List.mem_of_getElem? (i := 125) rfl)) (hw _ (List.mem_of_getElem? (i := 126) rfl)) (hw _ (List.mem_of_getElem? (i := 3) rfl)) (hw _ (List.mem_of_getElem? (i := 127) rfl)) (by decide) (argsL := [(.ref b41), (.ref b110), (.int (4 : Int32))]) (rest := []) (rm := ({ frames := 1, cells := 0, slots := 0, locals := 13 } : Room)) (h := h265) (rm16 l Z a0 hw b41 b110 oa pa (own_exch (own_perm I4 I3 I2 I1) lv (lv + 1)) (own_exch (own_perm I4 I3 I2 I1) lv (lv + 1)) (own_swpp (own_perm I4 I3 I2 I1) (own_places (own_perm I4 I3 I2 I1)) (lv + 1)) 4 h265 n0 Z283 F269 F276 F277 Vo2 Vp2 F282 (by simp [own_elen, own_perm_len, own_swpp, own_places]) (by simp [own_elen, own_perm_len, own_swpp, own_places]) (by simp [own_elen, own_perm_len, own_swpp, own_places]) (by decide) (hes 4 (by decide))) e288 (W := 0) (by decide) (by decide) (by decide) (by decide) (g := (mkF m 198 #[.val (.int pr), .val (.int lw), .val (.ref b1), .val (.ref b41), .val (.int (Int32.ofNat (lv + 1))), .val (.ref b110)] [(.int (4 : Int32)), (.ref b110), (.ref b41)])) rfl (by rw [hml]; rfl) (lenOf pd_10 rfl) rfl (by show 2 * 0 + _ ≤ _; exact Nat.le_of_eq rfl) (hb hby at_198) (fun v289 T289 h289 L289 X289 e289 hQ289 => ?_)
  obtain ⟨rfl, Nq289, q289⟩ := hQ289
  have N289 := Fr.app N288 Nq289
  rw [q289] at e289
  show OwnWk _ _ _ _ (T289.setTop (mkF m 201 #[.val (.int pr), .val (.int lw), .val (.ref b1), .val (.ref b41), .val (.int (Int32.ofNat (lv + 1))), .val (.ref b110)] [(.int (own_okv (own_exch (own_perm I4 I3 I2 I1) lv (lv + 1)) (own_exch (own_perm I4 I3 I2 I1) lv (lv + 1)) (own_swpp (own_perm I4 I3 I2 I1) (own_places (own_perm I4 I3 I2 I1)) (lv + 1)) 4))]))
  refine own_go (fun tgt kst => XS.ifNo X289.here hx rfl (hb hby at_201) rfl ((if0 _ _).trans (feq (by rw [hfin 4 (by decide)]; decide)).1) kst) ?_
  show OwnWk _ _ _ _ (T289.setTop (mkF m 204 #[.val (.int pr), .val (.int lw), .val (.ref b1), .val (.ref b41), .val (.int (Int32.ofNat (lv + 1))), .val (.ref b110)] []))
  refine own_go (fun tgt kst => XS.iconst X289.here hx rfl (hb hby at_204) kst) ?_
  show OwnWk _ _ _ _ (T289.setTop (mkF m 205 #[.val (.int pr), .val (.int lw), .val (.ref b1), .val (.ref b41), .val (.int (Int32.ofNat (lv + 1))), .val (.ref b110)] [(.int (1 : Int32))]))
  refine own_go (fun tgt kst => XS.goto X289.here hx rfl (pc0 := 205) (pc' := 209) rfl (hb hby at_205) (by decide) (by decide) kst) ?_
  show OwnWk _ _ _ _ (T289.setTop (mkF m 209 #[.val (.int pr), .val (.int lw), .val (.ref b1), .val (.ref b41), .val (.int (Int32.ofNat (lv + 1))), .val (.ref b110)] [(.int (1 : Int32))]))
  exact own_retZ X289 hx hlk hret (by simp) (z' := (1 : Int32)) rfl (hb hby at_209) (by decide) (by decide) (by rw [e289]; exact ⟨rfl, N289⟩)
theorem own_dce {s : State} {args : Array Value} (hf : Fit s) (w1 : (Jvm.Cond.initialized "java/util/ArrayList").before args s = true) (w2 : (Jvm.Cond.laysStatic "java/util/ArrayList" "DEFAULTCAPACITY_EMPTY_ELEMENTDATA" "[Ljava/lang/Object;").before args s = true)
    (w3 : (Jvm.Cond.arrayOf (Jvm.Term.static "java/util/ArrayList" "DEFAULTCAPACITY_EMPTY_ELEMENTDATA" "[Ljava/lang/Object;") (Jvm.ClassFile.FieldType.object "java/lang/Object")).before args s = true) :
    ∃ dce : Addr, (Jvm.Term.static "java/util/ArrayList" "DEFAULTCAPACITY_EMPTY_ELEMENTDATA" "[Ljava/lang/Object;").eval args s none [] s = some (.ref dce) ∧ Sta s s.heap "java/util/ArrayList" "DEFAULTCAPACITY_EMPTY_ELEMENTDATA" "[Ljava/lang/Object;" (.ref dce) := by
  obtain ⟨v, ev, fv⟩ := static_fit hf w2 (ty := .array (.object "java/lang/Object")) (by decide)
  rcases ref_cases (fit_R fv rfl) with rfl | ⟨a, rfl⟩
  · have q := Cond.before_iff.mp w3
    simp [Cond.value, ev] at q
  · exact ⟨a, ev, Sta.start ev (Or.inr ⟨w1, w2⟩)⟩
set_option maxRecDepth 65536 in
set_option maxHeartbeats 40000000 in
theorem comes_1 {Post : Tables → Env → Array Value → State → Outcome → State → Prop} (hpost : ∀ tb e args s v u, (limb_1_1.after args s (.returned v) u = true ∧ limb_1_2.after args s (.returned v) u = true) → FrameEnd s (.returned v) u (Jvm.fieldLocs frame_1_writes args s ++ Jvm.arrayLocs frame_1_arrays args s ++ Jvm.staticLocs frame_1_statics s) 40 192 → Post tb e args s (.returned v) u) :
    ArmFor flags0 classFile x code maxLocals ret World_1 tables_1 room_1 Calls_1 rest_1 Pre_1 Post := by
  intro l hfl _ _ p e ha hc hk s m args below hf hA hF happ hP
  obtain ⟨hcalls, hrest, hpre⟩ := hP
  obtain ⟨-, -, -, hnamed, -, -, -, hat⟩ := (Spec.applies_iff hf).mp happ
  obtain ⟨hg, hn⟩ := and_e (Cond.before_iff.mp (show (Jvm.Cond.and given_1 narrow_1).before args s = true from hpre))
  obtain ⟨g0, r0⟩ := and_e hg
  obtain ⟨g1, r1⟩ := and_e r0
  obtain ⟨w0, w1, rfl⟩ : ∃ w0 w1 : Value, args = #[w0, w1] := by
    have hs : args.size = 2 := by simpa [Cond.value, given_1] using g0
    obtain ⟨L⟩ := args
    match L, hs with
    | [w0, w1], _ => exact ⟨w0, w1, rfl⟩
  have hw := fun d (hd : d ∈ tables_1) => atoms_spec (ws := Jvm.Cond.code x code maxLocals ret :: tables_1) hat d (List.mem_cons_of_mem _ hd)
  have hfit : Fit s := fun {y c} hc i hi => by
    obtain ⟨ha, rfl⟩ := Array.getElem?_eq_some_iff.mp hc
    have q := List.all_eq_true.mp ((Array.all_eq_true_iff_forall_mem.mp hF) _ (Array.getElem_mem ha)) i (List.mem_range.mpr hi)
    simpa [Array.getElem?_eq_getElem hi] using q
  obtain ⟨i0, ei0⟩ := is_v g1
  obtain rfl : w0 = (.int i0) := Option.some.inj ei0
  obtain ⟨i1, ei1⟩ := is_v r1
  obtain rfl : w1 = (.int i1) := Option.some.inj ei1
  obtain ⟨hsets, hown0⟩ := atoms_of _ (rest_1_c_eq ▸ (show rest_1_c.before _ s = true from hrest))
  obtain ⟨dce, -, S_d⟩ := own_dce hfit (hw _ (List.mem_of_getElem? (i := 10) rfl)) (hsets _ (List.mem_of_getElem? (i := 2) rfl)) (hsets _ (List.mem_of_getElem? (i := 6) rfl))
  obtain ⟨n, o, h1, h2, h3, _, L, rfl, ⟨rfl, N⟩, hq⟩ := rm0 l s _ hw i0 i1 dce s.heap s.heap.size (Nat.le_refl _) S_d p e ha hc hk s m _ below hf ((Spec.applies_iff_loose hf).mp happ).1 ⟨rfl, State.Warmed39.refl s, rfl⟩ trivial
  refine ⟨n, _, h1, h2, h3, hpost _ _ _ _ _ _ ⟨Cond.after_iff.mpr rfl, Cond.after_iff.mpr (eq_i res_at (Term.int_eval (1)) rfl)⟩ ⟨hq.1, hq.2.1, (hq.2.2.sift fun y hy => Or.inr (N y hy)).mono (by decide) (by decide)⟩⟩
theorem main_1_1 : Claimed_1_1 := comes_1 fun _ _ _ _ _ _ h hF => ⟨h.1, hF⟩
theorem main_1_2 : Claimed_1_2 := comes_1 fun _ _ _ _ _ _ h hF => ⟨h.2, hF⟩
end Jvm.Pilot.@@N@@
namespace Jvm.Pilot.@@N@@
open Jvm Jvm.ClassFile Sem Op Lib Jvm.Free Jvm.Stand Jvm.Pilot.@@N@@.Jvm.D
/-! MADE BY PROGRAM (witnessworld.py) out of the Statement's table words and the real class files: 28 classes; the members and pool entries that the words name. The judged class is class 1, her method 3. -/
namespace start1
open Jvm.ClassFile
def u (s : String) : CpInfo := .utf8 (stringToUtf16 s)
/-- a pool by its gaps: so many unusable entries, then the entry; so many at the end -/
def gap : Nat → List CpInfo → List CpInfo
  | 0, r => r
  | n + 1, r => .unusable :: gap n r
def poolList (es : List (Nat × CpInfo)) (last : Nat) : List CpInfo := es.foldr (fun e r => gap e.1 (e.2 :: r)) (gap last [])
def pool (es : List (Nat × CpInfo)) (last : Nat) : Array CpInfo := ⟨poolList es last⟩
def fileOf (pool : Array CpInfo) (this : Nat) (attrs : Array Attribute := #[]) (ms : Array MethodInfo := #[]) (fl : Nat := 33) (sup : Nat := 0) (ifs : Array Nat := #[]) (fds : Array FieldInfo := #[]) : ClassFile where
  minorVersion := 0
  majorVersion := 65
  constantPool := pool
  accessFlags := fl
  thisClass := this
  superClass := sup
  interfaces := ifs
  fields := fds
  methods := ms
  attributes := attrs
def plain (name : String) (sup : Option ClassId) : Class where
  name := name
  kind := .ordinary
  loader := none
  accessFlags := 33
  super := sup
  interfaces := #[]
  cf := none
  fields := #[]
  methods := #[]
  instanceTypes := #[]
  staticTypes := #[]
  resolved := #[]
  callSites := []
  init := .initialized
  statics := none
  mirror := none

def pool0 : Array CpInfo := pool [(5, u "<init>"), (0, u "()V"), (1, .class_ 10), (1, u "java/lang/Object"), (85, u "clone"), (0, u "()Ljava/lang/Object;")] 26

def k0c0 : Code := { maxStack := 0, maxLocals := 1, code := object_method_1_code, exceptionTable := #[], attributes := #[] }
def k0m0 : Method := { name := "<init>", desc := "()V", sig := { parameters := [], returnType := none }, accessFlags := 1, code := some k0c0 }
def k0m1 : Method := { name := "clone", desc := "()Ljava/lang/Object;", sig := { parameters := [], returnType := some (.object "java/lang/Object") }, accessFlags := 260, code := none }
/-- java/lang/Object -/
def k0 : Class := { plain "java/lang/Object" none with
  accessFlags := 33
  interfaces := #[]
  cf := some (fileOf pool0 8 #[] #[{ accessFlags := 1, nameIndex := 5, descriptorIndex := 6, attributes := #[] }, { accessFlags := 260, nameIndex := 96, descriptorIndex := 97, attributes := #[] }] 33 0 #[] #[])
  fields := #[]
  methods := #[k0m0, k0m1]
  instanceTypes := #[]
  staticTypes := #[]
  resolved := Array.replicate 124 none
  statics := none }

def pool1 : Array CpInfo := pool [(2, .class_ 4), (0, .nameAndType 5 6), (0, u "java/lang/Object"), (0, u "<init>"), (0, u "()V"), (0, .methodref 8 9), (0, .class_ 10), (0, .nameAndType 11 12), (0, u "com/example/encircle/encircle/layout/Prefixes"), (0, u "at"), (0, u "(I)I"), (0, .methodref 8 14), (0, .nameAndType 15 12), (0, u "place"), (0, .methodref 17 18), (0, .class_ 19), (0, .nameAndType 20 21), (0, u "com/example/encircle/encircle/layout/PrefixesSwapPinLaw"), (0, u "exch"), (0, u "([III)V"), (0, .class_ 23), (0, u "java/util/ArrayList"), (0, .methodref 22 3), (0, .methodref 8 26), (0, .nameAndType 5 27), (0, u "([ILjava/util/List;)V"), (0, .integer 2147483647), (0, .methodref 8 30), (0, .nameAndType 31 32), (0, u "swap"), (0, u "(I)V"), (0, .methodref 8 34), (0, .nameAndType 35 36), (0, u "sets"), (0, u "()I"), (0, .methodref 17 38), (0, .nameAndType 39 40), (0, u "ok"), (0, u "(Lcom/example/encircle/encircle/layout/Prefixes;[II)Z"), (3, u "law"), (0, u "(II)Z")] 4

def k1m0 : Method := { name := "<init>", desc := "()V", sig := { parameters := [], returnType := none }, accessFlags := 1, code := none }
def k1c1 : Code := { maxStack := 4, maxLocals := 4, code := method_2_code, exceptionTable := #[], attributes := #[] }
def k1m1 : Method := { name := "exch", desc := "([III)V", sig := { parameters := [(.array .int), .int, .int], returnType := none }, accessFlags := 10, code := some k1c1 }
def k1c2 : Code := { maxStack := 3, maxLocals := 3, code := method_3_code, exceptionTable := #[], attributes := #[] }
def k1m2 : Method := { name := "ok", desc := "(Lcom/example/encircle/encircle/layout/Prefixes;[II)Z", sig := { parameters := [(.object "com/example/encircle/encircle/layout/Prefixes"), (.array .int), .int], returnType := some .boolean }, accessFlags := 10, code := some k1c2 }
def k1c3 : Code := { maxStack := 5, maxLocals := 6, code := code, exceptionTable := #[], attributes := #[] }
def k1m3 : Method := { name := "law", desc := "(II)Z", sig := { parameters := [.int, .int], returnType := some .boolean }, accessFlags := 9, code := some k1c3 }
/-- com/example/encircle/encircle/layout/PrefixesSwapPinLaw -/
def k1 : Class := { plain "com/example/encircle/encircle/layout/PrefixesSwapPinLaw" (some 0) with
  accessFlags := 49
  interfaces := #[]
  cf := some (fileOf pool1 17 #[] #[{ accessFlags := 1, nameIndex := 5, descriptorIndex := 6, attributes := #[] }, { accessFlags := 10, nameIndex := 20, descriptorIndex := 21, attributes := #[] }, { accessFlags := 10, nameIndex := 39, descriptorIndex := 40, attributes := #[] }, { accessFlags := 9, nameIndex := 44, descriptorIndex := 45, attributes := #[] }] 49 2 #[] #[])
  fields := #[]
  methods := #[k1m0, k1m1, k1m2, k1m3]
  instanceTypes := #[]
  staticTypes := #[]
  resolved := Array.replicate 50 none
  statics := none }

def pool2 : Array CpInfo := pool [(1, .methodref 2 3), (0, .class_ 4), (0, .nameAndType 5 6), (0, u "java/lang/Object"), (0, u "<init>"), (0, u "()V"), (0, .fieldref 8 9), (0, .class_ 10), (0, .nameAndType 11 12), (0, u "com/example/encircle/encircle/layout/Prefixes"), (0, u "zones"), (0, u "Ljava/util/List;"), (0, .class_ 14), (0, u "com/example/encircle/encircle/layout/ZoneKeys"), (0, .methodref 13 16), (0, .nameAndType 5 17), (0, u "(ILjava/util/List;)V"), (0, .fieldref 8 19), (0, .nameAndType 20 21), (0, u "keys"), (0, u "Lcom/example/encircle/encircle/layout/ZoneKeys;"), (0, .methodref 23 24), (0, .class_ 25), (0, .nameAndType 26 27), (0, u "[I"), (0, u "clone"), (0, u "()Ljava/lang/Object;"), (0, .fieldref 8 29), (0, .nameAndType 30 25), (0, u "order"), (0, .fieldref 8 32), (0, .nameAndType 33 25), (0, u "places"), (0, .fieldref 8 35), (0, .nameAndType 36 37), (0, u "sums"), (0, u "[J"), (0, .methodref 13 39), (0, .nameAndType 40 41), (0, u "key"), (0, u "(I)J"), (19, u "(I)I"), (8, u "([ILjava/util/List;)V"), (4, u "sets"), (0, u "()I"), (0, u "at"), (0, u "place"), (2, u "swap"), (0, u "(I)V")] 2

def k2c0 : Code := { maxStack := 7, maxLocals := 4, code := prog_24_method_1_code, exceptionTable := #[], attributes := #[] }
def k2m0 : Method := { name := "<init>", desc := "([ILjava/util/List;)V", sig := { parameters := [(.array .int), (.object "java/util/List")], returnType := none }, accessFlags := 0, code := some k2c0 }
def k2c1 : Code := { maxStack := 1, maxLocals := 1, code := prog_24_method_2_code, exceptionTable := #[], attributes := #[] }
def k2m1 : Method := { name := "sets", desc := "()I", sig := { parameters := [], returnType := some .int }, accessFlags := 0, code := some k2c1 }
def k2c2 : Code := { maxStack := 2, maxLocals := 2, code := prog_24_method_3_code, exceptionTable := #[], attributes := #[] }
def k2m2 : Method := { name := "at", desc := "(I)I", sig := { parameters := [.int], returnType := some .int }, accessFlags := 0, code := some k2c2 }
def k2c3 : Code := { maxStack := 2, maxLocals := 2, code := prog_24_method_4_code, exceptionTable := #[], attributes := #[] }
def k2m3 : Method := { name := "place", desc := "(I)I", sig := { parameters := [.int], returnType := some .int }, accessFlags := 0, code := some k2c3 }
def k2c4 : Code := { maxStack := 6, maxLocals := 4, code := prog_24_method_7_code, exceptionTable := #[], attributes := #[] }
def k2m4 : Method := { name := "swap", desc := "(I)V", sig := { parameters := [.int], returnType := none }, accessFlags := 0, code := some k2c4 }
/-- com/example/encircle/encircle/layout/Prefixes -/
def k2 : Class := { plain "com/example/encircle/encircle/layout/Prefixes" (some 0) with
  accessFlags := 32
  interfaces := #[]
  cf := some (fileOf pool2 8 #[] #[{ accessFlags := 0, nameIndex := 5, descriptorIndex := 70, attributes := #[] }, { accessFlags := 0, nameIndex := 75, descriptorIndex := 76, attributes := #[] }, { accessFlags := 0, nameIndex := 77, descriptorIndex := 61, attributes := #[] }, { accessFlags := 0, nameIndex := 78, descriptorIndex := 61, attributes := #[] }, { accessFlags := 0, nameIndex := 81, descriptorIndex := 82, attributes := #[] }] 32 2 #[] #[{ accessFlags := 18, nameIndex := 11, descriptorIndex := 12, attributes := #[] }, { accessFlags := 18, nameIndex := 20, descriptorIndex := 21, attributes := #[] }, { accessFlags := 18, nameIndex := 30, descriptorIndex := 25, attributes := #[] }, { accessFlags := 18, nameIndex := 33, descriptorIndex := 25, attributes := #[] }, { accessFlags := 18, nameIndex := 36, descriptorIndex := 37, attributes := #[] }])
  fields := #[{ name := "zones", type := (.object "java/util/List"), accessFlags := 18, slot := 0, constantValue := 0 }, { name := "keys", type := (.object "com/example/encircle/encircle/layout/ZoneKeys"), accessFlags := 18, slot := 1, constantValue := 0 }, { name := "order", type := (.array .int), accessFlags := 18, slot := 2, constantValue := 0 }, { name := "places", type := (.array .int), accessFlags := 18, slot := 3, constantValue := 0 }, { name := "sums", type := (.array .long), accessFlags := 18, slot := 4, constantValue := 0 }]
  methods := #[k2m0, k2m1, k2m2, k2m3, k2m4]
  instanceTypes := #[(.object "java/util/List"), (.object "com/example/encircle/encircle/layout/ZoneKeys"), (.array .int), (.array .int), (.array .long)]
  staticTypes := #[]
  resolved := Array.replicate 85 none
  statics := none }

def pool3 : Array CpInfo := pool [(8, .class_ 10), (1, u "java/lang/Iterable"), (24, .class_ 36), (0, u "java/lang/Object")] 25

/-- java/lang/Iterable -/
def k3 : Class := { plain "java/lang/Iterable" (some 0) with
  accessFlags := 1537
  interfaces := #[]
  cf := some (fileOf pool3 8 #[] #[] 1537 35 #[] #[])
  fields := #[]
  methods := #[]
  instanceTypes := #[]
  staticTypes := #[]
  resolved := Array.replicate 62 none
  statics := none }

def pool4 : Array CpInfo := pool [(10, .class_ 12), (1, u "java/util/Collection"), (47, .class_ 61), (0, u "java/lang/Object"), (0, .class_ 63), (0, u "java/lang/Iterable")] 51

/-- java/util/Collection -/
def k4 : Class := { plain "java/util/Collection" (some 0) with
  accessFlags := 1537
  interfaces := #[3]
  cf := some (fileOf pool4 10 #[] #[] 1537 60 #[62] #[])
  fields := #[]
  methods := #[]
  instanceTypes := #[]
  staticTypes := #[]
  resolved := Array.replicate 115 none
  statics := none }

def pool5 : Array CpInfo := pool [(1, .methodref 2 3), (0, .class_ 4), (0, .nameAndType 5 6), (0, u "java/lang/Object"), (0, u "<init>"), (0, u "()V"), (1, .class_ 10), (1, u "java/util/AbstractCollection"), (66, .class_ 78), (0, u "java/util/Collection")] 81

def k5c0 : Code := { maxStack := 1, maxLocals := 1, code := jdk_22_method_1_code, exceptionTable := #[], attributes := #[] }
def k5m0 : Method := { name := "<init>", desc := "()V", sig := { parameters := [], returnType := none }, accessFlags := 4, code := some k5c0 }
/-- java/util/AbstractCollection -/
def k5 : Class := { plain "java/util/AbstractCollection" (some 0) with
  accessFlags := 1057
  interfaces := #[4]
  cf := some (fileOf pool5 8 #[] #[{ accessFlags := 4, nameIndex := 5, descriptorIndex := 6, attributes := #[] }] 1057 2 #[77] #[])
  fields := #[]
  methods := #[k5m0]
  instanceTypes := #[]
  staticTypes := #[]
  resolved := Array.replicate 160 none
  statics := none }

def pool6 : Array CpInfo := pool [(8, .class_ 10), (1, u "java/util/SequencedCollection"), (15, .class_ 27), (0, u "java/lang/Object"), (0, .class_ 29), (0, u "java/util/Collection")] 27

/-- java/util/SequencedCollection -/
def k6 : Class := { plain "java/util/SequencedCollection" (some 0) with
  accessFlags := 1537
  interfaces := #[4]
  cf := some (fileOf pool6 8 #[] #[] 1537 26 #[28] #[])
  fields := #[]
  methods := #[]
  instanceTypes := #[]
  staticTypes := #[]
  resolved := Array.replicate 57 none
  statics := none }

def pool7 : Array CpInfo := pool [(8, .class_ 10), (1, u "java/util/List"), (68, u "size"), (0, u "()I"), (22, .class_ 104), (0, u "java/lang/Object"), (15, .class_ 121), (0, u "java/util/SequencedCollection")] 129

def k7m0 : Method := { name := "size", desc := "()I", sig := { parameters := [], returnType := some .int }, accessFlags := 1025, code := none }
/-- java/util/List -/
def k7 : Class := { plain "java/util/List" (some 0) with
  accessFlags := 1537
  interfaces := #[6]
  cf := some (fileOf pool7 8 #[] #[{ accessFlags := 1025, nameIndex := 79, descriptorIndex := 80, attributes := #[] }] 1537 103 #[120] #[])
  fields := #[]
  methods := #[k7m0]
  instanceTypes := #[]
  staticTypes := #[]
  resolved := Array.replicate 251 none
  statics := none }

def pool8 : Array CpInfo := pool [(1, .methodref 2 3), (0, .class_ 4), (0, .nameAndType 5 6), (0, u "java/util/AbstractCollection"), (0, u "<init>"), (0, u "()V"), (0, .fieldref 8 9), (0, .class_ 10), (0, .nameAndType 11 12), (0, u "java/util/AbstractList"), (0, u "modCount"), (0, u "I"), (64, .class_ 78), (0, u "java/util/AbstractList$Itr"), (3, .class_ 83), (0, u "java/util/AbstractList$ListItr"), (9, .class_ 94), (0, u "java/util/AbstractList$RandomAccessSubList"), (3, .class_ 99), (0, u "java/util/AbstractList$SubList"), (33, .class_ 134), (0, u "java/util/List"), (73, .class_ 209), (0, u "java/util/AbstractList$SubList$1"), (0, .class_ 211), (0, u "java/util/AbstractList$RandomAccessSpliterator")] 6

def k8c0 : Code := { maxStack := 2, maxLocals := 1, code := jdk_39_method_1_code, exceptionTable := #[], attributes := #[] }
def k8m0 : Method := { name := "<init>", desc := "()V", sig := { parameters := [], returnType := none }, accessFlags := 4, code := some k8c0 }
/-- java/util/AbstractList -/
def k8 : Class := { plain "java/util/AbstractList" (some 5) with
  accessFlags := 1057
  interfaces := #[7]
  cf := some (fileOf pool8 8 #[.nestMembers #[93, 98, 208, 210, 82, 77]] #[{ accessFlags := 4, nameIndex := 5, descriptorIndex := 6, attributes := #[] }] 1057 2 #[133] #[{ accessFlags := 132, nameIndex := 11, descriptorIndex := 12, attributes := #[] }])
  fields := #[{ name := "modCount", type := .int, accessFlags := 132, slot := 0, constantValue := 0 }]
  methods := #[k8m0]
  instanceTypes := #[.int]
  staticTypes := #[]
  resolved := Array.replicate 218 none
  statics := none }

def pool9 : Array CpInfo := pool [(1, .class_ 2), (0, u "java/util/RandomAccess"), (0, .class_ 4), (0, u "java/lang/Object")] 2

/-- java/util/RandomAccess -/
def k9 : Class := { plain "java/util/RandomAccess" (some 0) with
  accessFlags := 1537
  interfaces := #[]
  cf := some (fileOf pool9 1 #[] #[] 1537 3 #[] #[])
  fields := #[]
  methods := #[]
  instanceTypes := #[]
  staticTypes := #[]
  resolved := Array.replicate 7 none
  statics := none }

def pool10 : Array CpInfo := pool [(1, .class_ 2), (0, u "java/lang/Cloneable"), (0, .class_ 4), (0, u "java/lang/Object")] 2

/-- java/lang/Cloneable -/
def k10 : Class := { plain "java/lang/Cloneable" (some 0) with
  accessFlags := 1537
  interfaces := #[]
  cf := some (fileOf pool10 1 #[] #[] 1537 3 #[] #[])
  fields := #[]
  methods := #[]
  instanceTypes := #[]
  staticTypes := #[]
  resolved := Array.replicate 7 none
  statics := none }

def pool11 : Array CpInfo := pool [(1, .class_ 2), (0, u "java/io/Serializable"), (0, .class_ 4), (0, u "java/lang/Object")] 2

/-- java/io/Serializable -/
def k11 : Class := { plain "java/io/Serializable" (some 0) with
  accessFlags := 1537
  interfaces := #[]
  cf := some (fileOf pool11 1 #[] #[] 1537 3 #[] #[])
  fields := #[]
  methods := #[]
  instanceTypes := #[]
  staticTypes := #[]
  resolved := Array.replicate 7 none
  statics := none }

def pool12 : Array CpInfo := pool [(1, .methodref 2 3), (0, .class_ 4), (0, .nameAndType 5 6), (0, u "java/util/AbstractList"), (0, u "<init>"), (0, u "()V"), (2, .fieldref 10 11), (0, .class_ 12), (0, .nameAndType 13 14), (0, u "java/util/ArrayList"), (0, u "elementData"), (0, u "[Ljava/lang/Object;"), (2, u "EMPTY_ELEMENTDATA"), (21, .fieldref 10 40), (0, .nameAndType 41 14), (0, u "DEFAULTCAPACITY_EMPTY_ELEMENTDATA"), (6, .fieldref 10 49), (0, .nameAndType 50 51), (0, u "size"), (0, u "I"), (96, .class_ 149), (0, u "java/util/List"), (36, u "()I"), (75, .class_ 263), (0, u "java/util/ArrayList$ListItr"), (3, .class_ 268), (0, u "java/util/ArrayList$Itr"), (7, .class_ 277), (0, u "java/util/ArrayList$SubList"), (12, .class_ 291), (0, u "java/util/ArrayList$ArrayListSpliterator"), (37, .class_ 330), (0, u "java/util/RandomAccess"), (0, .class_ 332), (0, u "java/lang/Cloneable"), (0, .class_ 334), (0, u "java/io/Serializable"), (0, u "serialVersionUID"), (0, u "J"), (3, u "DEFAULT_CAPACITY"), (159, .class_ 501), (0, u "java/util/ArrayList$SubList$2"), (0, .class_ 503), (0, u "java/util/ArrayList$SubList$1")] 5

def k12c0 : Code := { maxStack := 2, maxLocals := 1, code := jdk_38_method_2_code, exceptionTable := #[], attributes := #[] }
def k12m0 : Method := { name := "<init>", desc := "()V", sig := { parameters := [], returnType := none }, accessFlags := 1, code := some k12c0 }
def k12c1 : Code := { maxStack := 1, maxLocals := 1, code := jdk_38_method_8_code, exceptionTable := #[], attributes := #[] }
def k12m1 : Method := { name := "size", desc := "()I", sig := { parameters := [], returnType := some .int }, accessFlags := 1, code := some k12c1 }
/-- java/util/ArrayList -/
def k12 : Class := { plain "java/util/ArrayList" (some 8) with
  accessFlags := 33
  interfaces := #[7, 9, 10, 11]
  cf := some (fileOf pool12 10 #[.nestMembers #[290, 276, 500, 502, 262, 267]] #[{ accessFlags := 1, nameIndex := 5, descriptorIndex := 6, attributes := #[] }, { accessFlags := 1, nameIndex := 50, descriptorIndex := 186, attributes := #[] }] 33 2 #[148, 329, 331, 333] #[{ accessFlags := 26, nameIndex := 335, descriptorIndex := 336, attributes := #[] }, { accessFlags := 26, nameIndex := 340, descriptorIndex := 51, attributes := #[] }, { accessFlags := 26, nameIndex := 17, descriptorIndex := 14, attributes := #[] }, { accessFlags := 26, nameIndex := 41, descriptorIndex := 14, attributes := #[] }, { accessFlags := 128, nameIndex := 13, descriptorIndex := 14, attributes := #[] }, { accessFlags := 2, nameIndex := 50, descriptorIndex := 51, attributes := #[] }])
  fields := #[{ name := "serialVersionUID", type := .long, accessFlags := 26, slot := 0, constantValue := 0 }, { name := "DEFAULT_CAPACITY", type := .int, accessFlags := 26, slot := 1, constantValue := 0 }, { name := "EMPTY_ELEMENTDATA", type := (.array (.object "java/lang/Object")), accessFlags := 26, slot := 2, constantValue := 0 }, { name := "DEFAULTCAPACITY_EMPTY_ELEMENTDATA", type := (.array (.object "java/lang/Object")), accessFlags := 26, slot := 3, constantValue := 0 }, { name := "elementData", type := (.array (.object "java/lang/Object")), accessFlags := 128, slot := 1, constantValue := 0 }, { name := "size", type := .int, accessFlags := 2, slot := 2, constantValue := 0 }]
  methods := #[k12m0, k12m1]
  instanceTypes := #[.int, (.array (.object "java/lang/Object")), .int]
  staticTypes := #[.long, .int, (.array (.object "java/lang/Object")), (.array (.object "java/lang/Object"))]
  resolved := Array.replicate 509 none
  statics := some 0 }

def pool13 : Array CpInfo := pool [(1, .methodref 2 3), (0, .class_ 4), (0, .nameAndType 5 6), (0, u "java/lang/Object"), (0, u "<init>"), (0, u "()V"), (0, .fieldref 8 9), (0, .class_ 10), (0, .nameAndType 11 12), (0, u "com/example/encircle/encircle/layout/ZoneKeys"), (0, u "keys"), (0, u "[J"), (0, .long 104372539625506), (1, .long 11400714819323198485), (1, .long 13787848793156543929), (1, .long 10723151780598845931), (1, .interfaceMethodref 22 23), (0, .class_ 24), (0, .nameAndType 25 26), (0, u "java/util/List"), (0, u "size"), (0, u "()I"), (0, .fieldref 8 28), (0, .nameAndType 29 12), (0, u "sums"), (0, .fieldref 8 31), (0, .nameAndType 32 33), (0, u "sizes"), (0, u "[I"), (9, u "(I)I"), (3, .methodref 48 49), (0, .class_ 50), (0, .nameAndType 51 52), (0, u "java/lang/Math"), (0, u "max"), (0, u "(II)I"), (0, .methodref 54 55), (0, .class_ 56), (0, .nameAndType 57 43), (0, u "java/lang/Integer"), (0, u "highestOneBit"), (0, .fieldref 8 59), (0, .nameAndType 60 12), (0, u "slotSums"), (0, .fieldref 8 62), (0, .nameAndType 63 33), (0, u "slotZones"), (0, .fieldref 8 65), (0, .nameAndType 66 33), (0, u "sameSum"), (0, .methodref 68 69), (0, .class_ 70), (0, .nameAndType 71 72), (0, u "java/util/Arrays"), (0, u "fill"), (0, u "([II)V"), (4, u "SEED"), (0, u "J"), (1, u "STEP"), (0, u "(ILjava/util/List;)V"), (5, u "key"), (0, u "(I)J")] 5

def k13c0 : Code := { maxStack := 7, maxLocals := 8, code := prog_36_method_1_code, exceptionTable := #[], attributes := #[] }
def k13m0 : Method := { name := "<init>", desc := "(ILjava/util/List;)V", sig := { parameters := [.int, (.object "java/util/List")], returnType := none }, accessFlags := 0, code := some k13c0 }
def k13c1 : Code := { maxStack := 2, maxLocals := 2, code := prog_36_method_2_code, exceptionTable := #[], attributes := #[] }
def k13m1 : Method := { name := "key", desc := "(I)J", sig := { parameters := [.int], returnType := some .long }, accessFlags := 0, code := some k13c1 }
/-- com/example/encircle/encircle/layout/ZoneKeys -/
def k13 : Class := { plain "com/example/encircle/encircle/layout/ZoneKeys" (some 0) with
  accessFlags := 32
  interfaces := #[]
  cf := some (fileOf pool13 8 #[] #[{ accessFlags := 0, nameIndex := 5, descriptorIndex := 81, attributes := #[] }, { accessFlags := 0, nameIndex := 87, descriptorIndex := 88, attributes := #[] }] 32 2 #[] #[{ accessFlags := 26, nameIndex := 77, descriptorIndex := 78, attributes := #[] }, { accessFlags := 26, nameIndex := 80, descriptorIndex := 78, attributes := #[] }, { accessFlags := 18, nameIndex := 11, descriptorIndex := 12, attributes := #[] }, { accessFlags := 18, nameIndex := 29, descriptorIndex := 12, attributes := #[] }, { accessFlags := 18, nameIndex := 32, descriptorIndex := 33, attributes := #[] }, { accessFlags := 18, nameIndex := 60, descriptorIndex := 12, attributes := #[] }, { accessFlags := 18, nameIndex := 63, descriptorIndex := 33, attributes := #[] }, { accessFlags := 18, nameIndex := 66, descriptorIndex := 33, attributes := #[] }])
  fields := #[{ name := "SEED", type := .long, accessFlags := 26, slot := 0, constantValue := 0 }, { name := "STEP", type := .long, accessFlags := 26, slot := 1, constantValue := 0 }, { name := "keys", type := (.array .long), accessFlags := 18, slot := 0, constantValue := 0 }, { name := "sums", type := (.array .long), accessFlags := 18, slot := 1, constantValue := 0 }, { name := "sizes", type := (.array .int), accessFlags := 18, slot := 2, constantValue := 0 }, { name := "slotSums", type := (.array .long), accessFlags := 18, slot := 3, constantValue := 0 }, { name := "slotZones", type := (.array .int), accessFlags := 18, slot := 4, constantValue := 0 }, { name := "sameSum", type := (.array .int), accessFlags := 18, slot := 5, constantValue := 0 }]
  methods := #[k13m0, k13m1]
  instanceTypes := #[(.array .long), (.array .long), (.array .int), (.array .long), (.array .int), (.array .int)]
  staticTypes := #[.long, .long]
  resolved := Array.replicate 94 none
  statics := none }

def pool14 : Array CpInfo := pool [(1, .class_ 2), (0, u "java/lang/Math"), (1, .class_ 6), (1, u "java/lang/Object"), (0, u "<init>"), (0, u "()V"), (89, .class_ 100), (1, u "java/lang/Math$RandomNumberGeneratorHolder"), (71, u "negativeZeroFloatBits"), (0, u "J"), (2, u "negativeZeroDoubleBits"), (21, u "max"), (46, u "$assertionsDisabled"), (0, u "Z"), (88, u "(II)I"), (2, u "twoToTheDoubleScaleDown"), (0, u "D"), (4, u "twoToTheDoubleScaleUp"), (9, u "E"), (3, u "PI"), (2, u "TAU"), (2, u "DEGREES_TO_RADIANS"), (0, u "RADIANS_TO_DEGREES")] 94

def k14m0 : Method := { name := "<init>", desc := "()V", sig := { parameters := [], returnType := none }, accessFlags := 2, code := none }
def k14c1 : Code := { maxStack := 2, maxLocals := 2, code := jdk_29_method_65_code, exceptionTable := #[], attributes := #[] }
def k14m1 : Method := { name := "max", desc := "(II)I", sig := { parameters := [.int, .int], returnType := some .int }, accessFlags := 9, code := some k14c1 }
/-- java/lang/Math -/
def k14 : Class := { plain "java/lang/Math" (some 0) with
  accessFlags := 49
  interfaces := #[]
  cf := some (fileOf pool14 1 #[.nestMembers #[98]] #[{ accessFlags := 2, nameIndex := 7, descriptorIndex := 8, attributes := #[] }, { accessFlags := 9, nameIndex := 198, descriptorIndex := 335, attributes := #[] }] 49 4 #[] #[{ accessFlags := 25, nameIndex := 354, descriptorIndex := 339, attributes := #[] }, { accessFlags := 25, nameIndex := 358, descriptorIndex := 339, attributes := #[] }, { accessFlags := 25, nameIndex := 361, descriptorIndex := 339, attributes := #[] }, { accessFlags := 26, nameIndex := 364, descriptorIndex := 339, attributes := #[] }, { accessFlags := 26, nameIndex := 365, descriptorIndex := 339, attributes := #[] }, { accessFlags := 26, nameIndex := 172, descriptorIndex := 173, attributes := #[] }, { accessFlags := 26, nameIndex := 176, descriptorIndex := 173, attributes := #[] }, { accessFlags := 8, nameIndex := 344, descriptorIndex := 339, attributes := #[] }, { accessFlags := 8, nameIndex := 338, descriptorIndex := 339, attributes := #[] }, { accessFlags := 4120, nameIndex := 245, descriptorIndex := 246, attributes := #[] }])
  fields := #[{ name := "E", type := .double, accessFlags := 25, slot := 0, constantValue := 0 }, { name := "PI", type := .double, accessFlags := 25, slot := 1, constantValue := 0 }, { name := "TAU", type := .double, accessFlags := 25, slot := 2, constantValue := 0 }, { name := "DEGREES_TO_RADIANS", type := .double, accessFlags := 26, slot := 3, constantValue := 0 }, { name := "RADIANS_TO_DEGREES", type := .double, accessFlags := 26, slot := 4, constantValue := 0 }, { name := "negativeZeroFloatBits", type := .long, accessFlags := 26, slot := 5, constantValue := 0 }, { name := "negativeZeroDoubleBits", type := .long, accessFlags := 26, slot := 6, constantValue := 0 }, { name := "twoToTheDoubleScaleUp", type := .double, accessFlags := 8, slot := 7, constantValue := 0 }, { name := "twoToTheDoubleScaleDown", type := .double, accessFlags := 8, slot := 8, constantValue := 0 }, { name := "$assertionsDisabled", type := .boolean, accessFlags := 4120, slot := 9, constantValue := 0 }]
  methods := #[k14m0, k14m1]
  instanceTypes := #[]
  staticTypes := #[.double, .double, .double, .double, .double, .long, .long, .double, .double, .boolean]
  resolved := Array.replicate 460 none
  statics := none }

def pool15 : Array CpInfo := pool [(2, .class_ 4), (1, u "java/lang/Object"), (0, u "<init>"), (0, u "()V"), (1, .class_ 10), (1, u "java/lang/Number"), (2, .class_ 14), (0, u "java/io/Serializable"), (0, u "serialVersionUID"), (0, u "J")] 20

def k15m0 : Method := { name := "<init>", desc := "()V", sig := { parameters := [], returnType := none }, accessFlags := 1, code := none }
/-- java/lang/Number -/
def k15 : Class := { plain "java/lang/Number" (some 0) with
  accessFlags := 1057
  interfaces := #[11]
  cf := some (fileOf pool15 8 #[] #[{ accessFlags := 1, nameIndex := 5, descriptorIndex := 6, attributes := #[] }] 1057 2 #[13] #[{ accessFlags := 26, nameIndex := 15, descriptorIndex := 16, attributes := #[] }])
  fields := #[{ name := "serialVersionUID", type := .long, accessFlags := 26, slot := 0, constantValue := 0 }]
  methods := #[k15m0]
  instanceTypes := #[]
  staticTypes := #[.long]
  resolved := Array.replicate 37 none
  statics := none }

def pool16 : Array CpInfo := pool [(1, .class_ 2), (0, u "java/lang/Comparable"), (0, .class_ 4), (0, u "java/lang/Object")] 7

/-- java/lang/Comparable -/
def k16 : Class := { plain "java/lang/Comparable" (some 0) with
  accessFlags := 1537
  interfaces := #[]
  cf := some (fileOf pool16 1 #[] #[] 1537 3 #[] #[])
  fields := #[]
  methods := #[]
  instanceTypes := #[]
  staticTypes := #[]
  resolved := Array.replicate 12 none
  statics := none }

def pool17 : Array CpInfo := pool [(1, .class_ 2), (0, u "java/lang/constant/Constable"), (0, .class_ 4), (0, u "java/lang/Object")] 6

/-- java/lang/constant/Constable -/
def k17 : Class := { plain "java/lang/constant/Constable" (some 0) with
  accessFlags := 1537
  interfaces := #[]
  cf := some (fileOf pool17 1 #[] #[] 1537 3 #[] #[])
  fields := #[]
  methods := #[]
  instanceTypes := #[]
  staticTypes := #[]
  resolved := Array.replicate 11 none
  statics := none }

def pool18 : Array CpInfo := pool [(1, .class_ 2), (0, u "java/lang/constant/ConstantDesc"), (0, .class_ 4), (0, u "java/lang/Object")] 32

/-- java/lang/constant/ConstantDesc -/
def k18 : Class := { plain "java/lang/constant/ConstantDesc" (some 0) with
  accessFlags := 1537
  interfaces := #[]
  cf := some (fileOf pool18 1 #[] #[] 1537 3 #[] #[])
  fields := #[]
  methods := #[]
  instanceTypes := #[]
  staticTypes := #[]
  resolved := Array.replicate 37 none
  statics := none }

def pool19 : Array CpInfo := pool [(1, .class_ 2), (0, u "java/lang/Integer"), (16, u "digits"), (0, u "[C"), (30, .methodref 1 52), (0, .nameAndType 53 54), (0, u "numberOfLeadingZeros"), (0, u "(I)I"), (30, u "DigitOnes"), (0, u "[B"), (2, u "DigitTens"), (37, .integer 2147483648), (61, .class_ 190), (0, u "java/lang/Integer$IntegerCache"), (3, u "I"), (8, .class_ 204), (0, u "java/lang/Number"), (2, u "value"), (56, .integer 65536), (37, u "TYPE"), (0, u "Ljava/lang/Class;"), (0, .class_ 305), (0, u "java/lang/Comparable"), (0, .class_ 307), (0, u "java/lang/constant/Constable"), (0, .class_ 309), (0, u "java/lang/constant/ConstantDesc"), (0, u "MIN_VALUE"), (1, u "MAX_VALUE"), (3, u "SIZE"), (1, u "BYTES"), (1, u "serialVersionUID"), (0, u "J"), (81, u "highestOneBit")] 49

def k19c0 : Code := { maxStack := 3, maxLocals := 1, code := jdk_33_method_45_code, exceptionTable := #[], attributes := #[] }
def k19m0 : Method := { name := "highestOneBit", desc := "(I)I", sig := { parameters := [.int], returnType := some .int }, accessFlags := 9, code := some k19c0 }
def k19c1 : Code := { maxStack := 3, maxLocals := 2, code := jdk_33_method_47_code, exceptionTable := #[], attributes := #[] }
def k19m1 : Method := { name := "numberOfLeadingZeros", desc := "(I)I", sig := { parameters := [.int], returnType := some .int }, accessFlags := 9, code := some k19c1 }
/-- java/lang/Integer -/
def k19 : Class := { plain "java/lang/Integer" (some 15) with
  accessFlags := 49
  interfaces := #[16, 17, 18]
  cf := some (fileOf pool19 1 #[.nestMembers #[189]] #[{ accessFlags := 9, nameIndex := 403, descriptorIndex := 54, attributes := #[] }, { accessFlags := 9, nameIndex := 53, descriptorIndex := 54, attributes := #[] }] 49 203 #[304, 306, 308] #[{ accessFlags := 25, nameIndex := 310, descriptorIndex := 194, attributes := #[] }, { accessFlags := 25, nameIndex := 312, descriptorIndex := 194, attributes := #[] }, { accessFlags := 25, nameIndex := 302, descriptorIndex := 303, attributes := #[] }, { accessFlags := 24, nameIndex := 19, descriptorIndex := 20, attributes := #[] }, { accessFlags := 24, nameIndex := 89, descriptorIndex := 86, attributes := #[] }, { accessFlags := 24, nameIndex := 85, descriptorIndex := 86, attributes := #[] }, { accessFlags := 18, nameIndex := 207, descriptorIndex := 194, attributes := #[] }, { accessFlags := 25, nameIndex := 316, descriptorIndex := 194, attributes := #[] }, { accessFlags := 25, nameIndex := 318, descriptorIndex := 194, attributes := #[] }, { accessFlags := 26, nameIndex := 320, descriptorIndex := 321, attributes := #[] }])
  fields := #[{ name := "MIN_VALUE", type := .int, accessFlags := 25, slot := 0, constantValue := 0 }, { name := "MAX_VALUE", type := .int, accessFlags := 25, slot := 1, constantValue := 0 }, { name := "TYPE", type := (.object "java/lang/Class"), accessFlags := 25, slot := 2, constantValue := 0 }, { name := "digits", type := (.array .char), accessFlags := 24, slot := 3, constantValue := 0 }, { name := "DigitTens", type := (.array .byte), accessFlags := 24, slot := 4, constantValue := 0 }, { name := "DigitOnes", type := (.array .byte), accessFlags := 24, slot := 5, constantValue := 0 }, { name := "value", type := .int, accessFlags := 18, slot := 0, constantValue := 0 }, { name := "SIZE", type := .int, accessFlags := 25, slot := 6, constantValue := 0 }, { name := "BYTES", type := .int, accessFlags := 25, slot := 7, constantValue := 0 }, { name := "serialVersionUID", type := .long, accessFlags := 26, slot := 8, constantValue := 0 }]
  methods := #[k19m0, k19m1]
  instanceTypes := #[.int]
  staticTypes := #[.int, .int, (.object "java/lang/Class"), (.array .char), (.array .byte), (.array .byte), .int, .int, .long]
  resolved := Array.replicate 453 none
  statics := none }

def pool20 : Array CpInfo := pool [(2, .class_ 4), (1, u "java/lang/Object"), (0, u "<init>"), (0, u "()V"), (7, .class_ 16), (1, u "java/util/Arrays"), (57, .class_ 76), (1, u "java/util/Arrays$NaturalOrder"), (36, .class_ 115), (1, u "java/util/Arrays$LegacyMergeSort"), (1, u "Z"), (257, .class_ 376), (0, u "java/util/Arrays$ArrayList"), (68, u "$assertionsDisabled"), (269, u "MIN_ARRAY_SORT_GRAN"), (0, u "I"), (2, u "INSERTIONSORT_THRESHOLD"), (120, u "fill"), (4, u "([II)V"), (129, .class_ 976), (0, u "java/util/Arrays$ArrayItr")] 52

def k20m0 : Method := { name := "<init>", desc := "()V", sig := { parameters := [], returnType := none }, accessFlags := 2, code := none }
def k20c1 : Code := { maxStack := 3, maxLocals := 4, code := jdk_65_method_103_code, exceptionTable := #[], attributes := #[] }
def k20m1 : Method := { name := "fill", desc := "([II)V", sig := { parameters := [(.array .int), .int], returnType := none }, accessFlags := 9, code := some k20c1 }
/-- java/util/Arrays -/
def k20 : Class := { plain "java/util/Arrays" (some 0) with
  accessFlags := 49
  interfaces := #[]
  cf := some (fileOf pool20 14 #[.nestMembers #[975, 375, 113, 74]] #[{ accessFlags := 2, nameIndex := 5, descriptorIndex := 6, attributes := #[] }, { accessFlags := 9, nameIndex := 840, descriptorIndex := 845, attributes := #[] }] 49 2 #[] #[{ accessFlags := 26, nameIndex := 715, descriptorIndex := 716, attributes := #[] }, { accessFlags := 26, nameIndex := 719, descriptorIndex := 716, attributes := #[] }, { accessFlags := 4120, nameIndex := 445, descriptorIndex := 117, attributes := #[] }])
  fields := #[{ name := "MIN_ARRAY_SORT_GRAN", type := .int, accessFlags := 26, slot := 0, constantValue := 0 }, { name := "INSERTIONSORT_THRESHOLD", type := .int, accessFlags := 26, slot := 1, constantValue := 0 }, { name := "$assertionsDisabled", type := .boolean, accessFlags := 4120, slot := 2, constantValue := 0 }]
  methods := #[k20m0, k20m1]
  instanceTypes := #[]
  staticTypes := #[.int, .int, .boolean]
  resolved := Array.replicate 1029 none
  statics := none }

/-- the primitive byte -/
def k21 : Class := { plain "byte" none with kind := .primitive 'B', accessFlags := 0x411 }
/-- [B -/
def k22 : Class := { plain "[B" (some 0) with kind := .array 21 .byte, interfaces := #[10, 11], accessFlags := 1041 }

/-- the primitive int -/
def k23 : Class := { plain "int" none with kind := .primitive 'I', accessFlags := 0x411 }
/-- [I -/
def k24 : Class := { plain "[I" (some 0) with kind := .array 23 .int, interfaces := #[10, 11], accessFlags := 1041 }

/-- the primitive long -/
def k25 : Class := { plain "long" none with kind := .primitive 'J', accessFlags := 0x411 }
/-- [J -/
def k26 : Class := { plain "[J" (some 0) with kind := .array 25 .long, interfaces := #[10, 11], accessFlags := 1041 }

/-- [Ljava/lang/Object; -/
def k27 : Class := { plain "[Ljava/lang/Object;" (some 0) with kind := .array 0 (.object "java/lang/Object"), interfaces := #[10, 11], accessFlags := 1041 }

def heap : Heap := #[{ cls := 12, slots := #[.long 0, .int 0, .ref 1, .ref 2], vm := .statics 12 },
  { cls := 27, slots := #[], vm := .none },
  { cls := 27, slots := #[], vm := .none }]
def classes : Array Class := #[k0, k1, k2, k3, k4, k5, k6, k7, k8, k9, k10, k11, k12, k13, k14, k15, k16, k17, k18, k19, k20, k21, k22, k23, k24, k25, k26, k27]
def interned : List (Array UInt16 × Addr) := []
def slotsUsed : Nat := 4
def theMethod : MethodId := ⟨1, 3⟩
def args0 : Array Value := #[.int 5, .int 7]
def aboutOver (below : List Frame) : State where
  vm := { classes := classes, interned := interned.toArray }
  heap := heap
  slotsUsed := slotsUsed
  threads := #[{ frames := .invoking theMethod args0 :: below }]
def below0 : List Frame := [.native { method := ⟨0, 0⟩, args := #[] }]
def about1 : State := aboutOver below0
def p0 : Program := .bare "" "" ""
def e0 : Env := launch0.env 0 0 0
theorem w_frames : about1.frames = Frame.invoking theMethod args0 :: below0 := rfl
set_option maxRecDepth 65536 in
theorem w_args : argsFit about1.vm theMethod args0 = true := by decide +kernel
set_option maxRecDepth 65536 in
theorem w_heap : heapFits about1 = true := by decide +kernel
set_option maxRecDepth 65536 in
theorem w_runnable : about1.curStatus? = some .runnable := by decide +kernel
set_option maxRecDepth 65536 in
theorem w_alone : about1.alone = true := by decide +kernel
set_option maxRecDepth 65536 in
theorem w_named : about1.methodNamed? x = some theMethod := by decide +kernel
set_option maxRecDepth 65536 in
theorem w_hears : about1.hears theMethod below0 = true := by decide +kernel
set_option maxRecDepth 65536 in
theorem w_ripe : about1.ripe theMethod args0 below0 = true := by decide +kernel
theorem w_running : about1.status = .running := rfl
set_option maxRecDepth 65536 in
theorem w_room : about1.hasRoom e0.platform room_1 = true :=
  launch0.hasRoom_least _ room_1 (by decide +kernel) (by decide +kernel) (by decide +kernel) (by decide +kernel) (by decide +kernel) (by decide +kernel)
theorem allAtoms_all (ts : List Jvm.Cond) (a : Array Jvm.Value) (st : Jvm.State) : (allAtoms ts).before a st = ts.all (fun c => c.before a st) := by
  induction ts with
  | nil => rfl
  | cons c t ih =>
    show (Jvm.Cond.and c (allAtoms t)).before a st = _
    rw [Jvm.Cond.before_and, ih, List.all_cons]
def words1 : List Jvm.Cond := Jvm.Cond.code x code maxLocals ret :: tables_1
/-- a 'code' word, met by the world's own term for the bytes: nothing is compared byte by byte -/
theorem code_word {y : MethodName} {bytes : ByteArray} {mx : Nat} {rt : Option FieldType} {a : Array Value} {s : State} {m : MethodId} {meth : Method} {c : Code} (h1 : s.methodNamed? y = some m) (h2 : s.vm.method? m = some meth) (h3 : meth.code = some c) (h4 : c.code = bytes)
    (h5 : (c.maxLocals == mx && c.exceptionTable.isEmpty && decide (c.maxStack ≤ mostOperands) && decide (meth.sig.returnType = rt) && !meth.locks && decide (parseMethodDescriptor y.desc = some meth.sig)) = true) : (Jvm.Cond.code y bytes mx rt).before a s = true := by
  simp only [Bool.and_eq_true, beq_iff_eq, Bool.not_eq_true', decide_eq_true_eq] at h5
  obtain ⟨⟨⟨⟨⟨g1, g2⟩, g3⟩, g4⟩, g5⟩, g6⟩ := h5
  simp [Cond.before, Cond.holds, Cond.value, h1, h2, h3, h4, g1, g2, g3, g4, g5, g6]
def isCode : Jvm.Cond → Bool
  | .code _ _ _ _ => true
  | _ => false
theorem all_split {L : List Jvm.Cond} {P : Jvm.Cond → Bool} (h1 : L.all (fun c => isCode c || P c) = true) (h2 : ∀ c ∈ L.filter isCode, P c = true) : L.all P = true := by
  refine List.all_eq_true.mpr fun c hc => ?_
  have h := List.all_eq_true.mp h1 c hc
  rcases Bool.eq_false_or_eq_true (isCode c) with hi | hi
  · exact h2 c (List.mem_filter.mpr ⟨hc, hi⟩)
  · simpa [hi] using h
set_option maxRecDepth 65536 in
theorem w_c0 : (Jvm.Cond.code x code maxLocals ret).before args0 about1 = true := code_word (m := ⟨1, 3⟩) (meth := k1m3) (c := k1c3) (by decide +kernel) rfl rfl rfl (by decide +kernel)
set_option maxRecDepth 65536 in
theorem w_c1 : (Jvm.Cond.code ({ cls := "com/example/encircle/encircle/layout/PrefixesSwapPinLaw", name := "exch", desc := "([III)V" } : Jvm.MethodName) method_2_code (4 : Nat) (Option.none : Option Jvm.ClassFile.FieldType)).before args0 about1 = true := code_word (m := ⟨1, 1⟩) (meth := k1m1) (c := k1c1) (by decide +kernel) rfl rfl rfl (by decide +kernel)
set_option maxRecDepth 65536 in
theorem w_c2 : (Jvm.Cond.code ({ cls := "java/util/ArrayList", name := "<init>", desc := "()V" } : Jvm.MethodName) jdk_38_method_2_code (1 : Nat) (Option.none : Option Jvm.ClassFile.FieldType)).before args0 about1 = true := code_word (m := ⟨12, 0⟩) (meth := k12m0) (c := k12c0) (by decide +kernel) rfl rfl rfl (by decide +kernel)
set_option maxRecDepth 65536 in
theorem w_c3 : (Jvm.Cond.code ({ cls := "java/util/AbstractList", name := "<init>", desc := "()V" } : Jvm.MethodName) jdk_39_method_1_code (1 : Nat) (Option.none : Option Jvm.ClassFile.FieldType)).before args0 about1 = true := code_word (m := ⟨8, 0⟩) (meth := k8m0) (c := k8c0) (by decide +kernel) rfl rfl rfl (by decide +kernel)
set_option maxRecDepth 65536 in
theorem w_c4 : (Jvm.Cond.code ({ cls := "java/util/AbstractCollection", name := "<init>", desc := "()V" } : Jvm.MethodName) jdk_22_method_1_code (1 : Nat) (Option.none : Option Jvm.ClassFile.FieldType)).before args0 about1 = true := code_word (m := ⟨5, 0⟩) (meth := k5m0) (c := k5c0) (by decide +kernel) rfl rfl rfl (by decide +kernel)
set_option maxRecDepth 65536 in
theorem w_c5 : (Jvm.Cond.code ({ cls := "java/lang/Object", name := "<init>", desc := "()V" } : Jvm.MethodName) object_method_1_code (1 : Nat) (Option.none : Option Jvm.ClassFile.FieldType)).before args0 about1 = true := code_word (m := ⟨0, 0⟩) (meth := k0m0) (c := k0c0) (by decide +kernel) rfl rfl rfl (by decide +kernel)
set_option maxRecDepth 65536 in
theorem w_c6 : (Jvm.Cond.code ({ cls := "com/example/encircle/encircle/layout/Prefixes", name := "<init>", desc := "([ILjava/util/List;)V" } : Jvm.MethodName) prog_24_method_1_code (4 : Nat) (Option.none : Option Jvm.ClassFile.FieldType)).before args0 about1 = true := code_word (m := ⟨2, 0⟩) (meth := k2m0) (c := k2c0) (by decide +kernel) rfl rfl rfl (by decide +kernel)
set_option maxRecDepth 65536 in
theorem w_c7 : (Jvm.Cond.code ({ cls := "com/example/encircle/encircle/layout/ZoneKeys", name := "<init>", desc := "(ILjava/util/List;)V" } : Jvm.MethodName) prog_36_method_1_code (8 : Nat) (Option.none : Option Jvm.ClassFile.FieldType)).before args0 about1 = true := code_word (m := ⟨13, 0⟩) (meth := k13m0) (c := k13c0) (by decide +kernel) rfl rfl rfl (by decide +kernel)
set_option maxRecDepth 65536 in
theorem w_c8 : (Jvm.Cond.code ({ cls := "java/util/ArrayList", name := "size", desc := "()I" } : Jvm.MethodName) jdk_38_method_8_code (1 : Nat) (Option.some Jvm.ClassFile.FieldType.int)).before args0 about1 = true := code_word (m := ⟨12, 1⟩) (meth := k12m1) (c := k12c1) (by decide +kernel) rfl rfl rfl (by decide +kernel)
set_option maxRecDepth 65536 in
theorem w_c9 : (Jvm.Cond.code ({ cls := "java/lang/Math", name := "max", desc := "(II)I" } : Jvm.MethodName) jdk_29_method_65_code (2 : Nat) (Option.some Jvm.ClassFile.FieldType.int)).before args0 about1 = true := code_word (m := ⟨14, 1⟩) (meth := k14m1) (c := k14c1) (by decide +kernel) rfl rfl rfl (by decide +kernel)
set_option maxRecDepth 65536 in
theorem w_c10 : (Jvm.Cond.code ({ cls := "java/lang/Integer", name := "highestOneBit", desc := "(I)I" } : Jvm.MethodName) jdk_33_method_45_code (1 : Nat) (Option.some Jvm.ClassFile.FieldType.int)).before args0 about1 = true := code_word (m := ⟨19, 0⟩) (meth := k19m0) (c := k19c0) (by decide +kernel) rfl rfl rfl (by decide +kernel)
set_option maxRecDepth 65536 in
theorem w_c11 : (Jvm.Cond.code ({ cls := "java/lang/Integer", name := "numberOfLeadingZeros", desc := "(I)I" } : Jvm.MethodName) jdk_33_method_47_code (2 : Nat) (Option.some Jvm.ClassFile.FieldType.int)).before args0 about1 = true := code_word (m := ⟨19, 1⟩) (meth := k19m1) (c := k19c1) (by decide +kernel) rfl rfl rfl (by decide +kernel)
set_option maxRecDepth 65536 in
theorem w_c12 : (Jvm.Cond.code ({ cls := "java/util/Arrays", name := "fill", desc := "([II)V" } : Jvm.MethodName) jdk_65_method_103_code (4 : Nat) (Option.none : Option Jvm.ClassFile.FieldType)).before args0 about1 = true := code_word (m := ⟨20, 1⟩) (meth := k20m1) (c := k20c1) (by decide +kernel) rfl rfl rfl (by decide +kernel)
set_option maxRecDepth 65536 in
theorem w_c13 : (Jvm.Cond.code ({ cls := "com/example/encircle/encircle/layout/ZoneKeys", name := "key", desc := "(I)J" } : Jvm.MethodName) prog_36_method_2_code (2 : Nat) (Option.some Jvm.ClassFile.FieldType.long)).before args0 about1 = true := code_word (m := ⟨13, 1⟩) (meth := k13m1) (c := k13c1) (by decide +kernel) rfl rfl rfl (by decide +kernel)
set_option maxRecDepth 65536 in
theorem w_c14 : (Jvm.Cond.code ({ cls := "com/example/encircle/encircle/layout/Prefixes", name := "swap", desc := "(I)V" } : Jvm.MethodName) prog_24_method_7_code (4 : Nat) (Option.none : Option Jvm.ClassFile.FieldType)).before args0 about1 = true := code_word (m := ⟨2, 4⟩) (meth := k2m4) (c := k2c4) (by decide +kernel) rfl rfl rfl (by decide +kernel)
set_option maxRecDepth 65536 in
theorem w_c15 : (Jvm.Cond.code ({ cls := "com/example/encircle/encircle/layout/Prefixes", name := "sets", desc := "()I" } : Jvm.MethodName) prog_24_method_2_code (1 : Nat) (Option.some Jvm.ClassFile.FieldType.int)).before args0 about1 = true := code_word (m := ⟨2, 1⟩) (meth := k2m1) (c := k2c1) (by decide +kernel) rfl rfl rfl (by decide +kernel)
set_option maxRecDepth 65536 in
theorem w_c16 : (Jvm.Cond.code ({ cls := "com/example/encircle/encircle/layout/PrefixesSwapPinLaw", name := "ok", desc := "(Lcom/example/encircle/encircle/layout/Prefixes;[II)Z" } : Jvm.MethodName) method_3_code (3 : Nat) (Option.some Jvm.ClassFile.FieldType.boolean)).before args0 about1 = true := code_word (m := ⟨1, 2⟩) (meth := k1m2) (c := k1c2) (by decide +kernel) rfl rfl rfl (by decide +kernel)
set_option maxRecDepth 65536 in
theorem w_c17 : (Jvm.Cond.code ({ cls := "com/example/encircle/encircle/layout/Prefixes", name := "at", desc := "(I)I" } : Jvm.MethodName) prog_24_method_3_code (2 : Nat) (Option.some Jvm.ClassFile.FieldType.int)).before args0 about1 = true := code_word (m := ⟨2, 2⟩) (meth := k2m2) (c := k2c2) (by decide +kernel) rfl rfl rfl (by decide +kernel)
set_option maxRecDepth 65536 in
theorem w_c18 : (Jvm.Cond.code ({ cls := "com/example/encircle/encircle/layout/Prefixes", name := "place", desc := "(I)I" } : Jvm.MethodName) prog_24_method_4_code (2 : Nat) (Option.some Jvm.ClassFile.FieldType.int)).before args0 about1 = true := code_word (m := ⟨2, 3⟩) (meth := k2m3) (c := k2c3) (by decide +kernel) rfl rfl rfl (by decide +kernel)
def codes1 : List Jvm.Cond := [Jvm.Cond.code x code maxLocals ret, Jvm.Cond.code ({ cls := "com/example/encircle/encircle/layout/PrefixesSwapPinLaw", name := "exch", desc := "([III)V" } : Jvm.MethodName) method_2_code (4 : Nat) (Option.none : Option Jvm.ClassFile.FieldType), Jvm.Cond.code ({ cls := "java/util/ArrayList", name := "<init>", desc := "()V" } : Jvm.MethodName) jdk_38_method_2_code (1 : Nat) (Option.none : Option Jvm.ClassFile.FieldType), Jvm.Cond.code ({ cls := "java/util/AbstractList", name := "<init>", desc := "()V" } : Jvm.MethodName) jdk_39_method_1_code (1 : Nat) (Option.none : Option Jvm.ClassFile.FieldType), Jvm.Cond.code ({ cls := "java/util/AbstractCollection", name := "<init>", desc := "()V" } : Jvm.MethodName) jdk_22_method_1_code (1 : Nat) (Option.none : Option Jvm.ClassFile.FieldType), Jvm.Cond.code ({ cls := "java/lang/Object", name := "<init>", desc := "()V" } : Jvm.MethodName) object_method_1_code (1 : Nat) (Option.none : Option Jvm.ClassFile.FieldType), Jvm.Cond.code ({ cls := "com/example/encircle/encircle/layout/Prefixes", name := "<init>", desc := "([ILjava/util/List;)V" } : Jvm.MethodName) prog_24_method_1_code (4 : Nat) (Option.none : Option Jvm.ClassFile.FieldType), Jvm.Cond.code ({ cls := "com/example/encircle/encircle/layout/ZoneKeys", name := "<init>", desc := "(ILjava/util/List;)V" } : Jvm.MethodName) prog_36_method_1_code (8 : Nat) (Option.none : Option Jvm.ClassFile.FieldType), Jvm.Cond.code ({ cls := "java/util/ArrayList", name := "size", desc := "()I" } : Jvm.MethodName) jdk_38_method_8_code (1 : Nat) (Option.some Jvm.ClassFile.FieldType.int), Jvm.Cond.code ({ cls := "java/lang/Math", name := "max", desc := "(II)I" } : Jvm.MethodName) jdk_29_method_65_code (2 : Nat) (Option.some Jvm.ClassFile.FieldType.int), Jvm.Cond.code ({ cls := "java/lang/Integer", name := "highestOneBit", desc := "(I)I" } : Jvm.MethodName) jdk_33_method_45_code (1 : Nat) (Option.some Jvm.ClassFile.FieldType.int), Jvm.Cond.code ({ cls := "java/lang/Integer", name := "numberOfLeadingZeros", desc := "(I)I" } : Jvm.MethodName) jdk_33_method_47_code (2 : Nat) (Option.some Jvm.ClassFile.FieldType.int), Jvm.Cond.code ({ cls := "java/util/Arrays", name := "fill", desc := "([II)V" } : Jvm.MethodName) jdk_65_method_103_code (4 : Nat) (Option.none : Option Jvm.ClassFile.FieldType), Jvm.Cond.code ({ cls := "com/example/encircle/encircle/layout/ZoneKeys", name := "key", desc := "(I)J" } : Jvm.MethodName) prog_36_method_2_code (2 : Nat) (Option.some Jvm.ClassFile.FieldType.long), Jvm.Cond.code ({ cls := "com/example/encircle/encircle/layout/Prefixes", name := "swap", desc := "(I)V" } : Jvm.MethodName) prog_24_method_7_code (4 : Nat) (Option.none : Option Jvm.ClassFile.FieldType), Jvm.Cond.code ({ cls := "com/example/encircle/encircle/layout/Prefixes", name := "sets", desc := "()I" } : Jvm.MethodName) prog_24_method_2_code (1 : Nat) (Option.some Jvm.ClassFile.FieldType.int), Jvm.Cond.code ({ cls := "com/example/encircle/encircle/layout/PrefixesSwapPinLaw", name := "ok", desc := "(Lcom/example/encircle/encircle/layout/Prefixes;[II)Z" } : Jvm.MethodName) method_3_code (3 : Nat) (Option.some Jvm.ClassFile.FieldType.boolean), Jvm.Cond.code ({ cls := "com/example/encircle/encircle/layout/Prefixes", name := "at", desc := "(I)I" } : Jvm.MethodName) prog_24_method_3_code (2 : Nat) (Option.some Jvm.ClassFile.FieldType.int), Jvm.Cond.code ({ cls := "com/example/encircle/encircle/layout/Prefixes", name := "place", desc := "(I)I" } : Jvm.MethodName) prog_24_method_4_code (2 : Nat) (Option.some Jvm.ClassFile.FieldType.int)]
set_option maxRecDepth 65536 in
theorem codes_eq : words1.filter isCode = codes1 := rfl
theorem w_codes : ∀ c ∈ words1.filter isCode, c.before args0 about1 = true := by
  rw [codes_eq]
  intro c hc
  simp only [codes1, List.mem_cons, List.not_mem_nil, or_false] at hc
  rcases hc with rfl | rfl | rfl | rfl | rfl | rfl | rfl | rfl | rfl | rfl | rfl | rfl | rfl | rfl | rfl | rfl | rfl | rfl | rfl
  · exact w_c0
  · exact w_c1
  · exact w_c2
  · exact w_c3
  · exact w_c4
  · exact w_c5
  · exact w_c6
  · exact w_c7
  · exact w_c8
  · exact w_c9
  · exact w_c10
  · exact w_c11
  · exact w_c12
  · exact w_c13
  · exact w_c14
  · exact w_c15
  · exact w_c16
  · exact w_c17
  · exact w_c18
set_option maxRecDepth 65536 in
theorem w_t1 : (words1.take 24).all (fun c => isCode c || c.before args0 about1) = true := by decide +kernel
set_option maxRecDepth 65536 in
theorem w_t2 : ((words1.drop 24).take 24).all (fun c => isCode c || c.before args0 about1) = true := by decide +kernel
set_option maxRecDepth 65536 in
theorem w_t3 : (((words1.drop 24).drop 24).take 24).all (fun c => isCode c || c.before args0 about1) = true := by decide +kernel
set_option maxRecDepth 65536 in
theorem w_t4 : ((((words1.drop 24).drop 24).drop 24).take 24).all (fun c => isCode c || c.before args0 about1) = true := by decide +kernel
set_option maxRecDepth 65536 in
theorem w_t5 : (((((words1.drop 24).drop 24).drop 24).drop 24).take 24).all (fun c => isCode c || c.before args0 about1) = true := by decide +kernel
set_option maxRecDepth 65536 in
theorem w_t6 : (((((words1.drop 24).drop 24).drop 24).drop 24).drop 24).all (fun c => isCode c || c.before args0 about1) = true := by decide +kernel
theorem w_tables : (allAtoms (Jvm.Cond.code x code maxLocals ret :: tables_1)).before args0 about1 = true := by
  rw [allAtoms_all]
  show words1.all (fun c => c.before args0 about1) = true
  refine all_split ?_ w_codes
  rw [← List.take_append_drop 24 words1, List.all_append, w_t1, ← List.take_append_drop 24 (words1.drop 24), List.all_append, w_t2, ← List.take_append_drop 24 ((words1.drop 24).drop 24), List.all_append, w_t3, ← List.take_append_drop 24 (((words1.drop 24).drop 24).drop 24), List.all_append, w_t4, ← List.take_append_drop 24 ((((words1.drop 24).drop 24).drop 24).drop 24), List.all_append, w_t5, w_t6]
  rfl
set_option maxRecDepth 65536 in
theorem w_rest : rest_1_c.before args0 about1 = true := by decide +kernel
set_option maxRecDepth 65536 in
theorem w_case : (Jvm.Cond.and given_1 narrow_1).before args0 about1 = true := by decide +kernel
theorem w_applies : (headSpec (Jvm.Cond.code x code maxLocals ret :: tables_1) room_1).applies x e0.platform about1 = true :=
  (Spec.applies_iff w_frames).mpr ⟨w_running, w_runnable, w_alone, w_named, w_hears, w_ripe, w_room, w_tables⟩
theorem atStart : AtStart classFile x code maxLocals ret World_1 tables_1 room_1 Calls_1 rest_1 Pre_1 launch0 p0 e0 about1 theMethod args0 below0 :=
  ⟨lists_1, trivial, launch0.admits_env _ _ _, launch0.least_env, fairChoices_fair.cas, fairChoices_fair.clock, w_frames, w_args, w_heap, w_applies, trivial, w_rest, w_case⟩
end start1
theorem witness_1 : WitnessClaimed_1 := ⟨start1.p0, start1.e0, start1.about1, start1.theMethod, start1.args0, start1.below0, start1.atStart⟩
end Jvm.Pilot.@@N@@
