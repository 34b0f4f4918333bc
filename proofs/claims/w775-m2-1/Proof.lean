import JvmDerived
import JvmDerived.Pilot.@@N@@Statement
import JvmDerived.Pilot.@@N@@Code
set_option linter.unusedVariables false
set_option linter.unusedSimpArgs false
namespace Jvm.Pilot.@@N@@
open Jvm Jvm.ClassFile Sem Op Lib Jvm.Free Jvm.Stand Jvm.LawKit Jvm.RoadKit Bundle Jvm.Pilot.@@N@@.Jvm.D
/-! own: the walk in continuation form: 'from the state A the body ends, and then Q' -/
def OwnWk (p : Program) (e : Env) (below : List Frame) (P : Option Value → State → List Loc → Prop) (A : State) : Prop :=
  ∃ s₂ v L, Steps p.tables e below A s₂ ∧ s₂.status = .running ∧ Ended s₂ below (.returned v) ∧ P v s₂ L
abbrev OwnP (s : State) (Q : Option Value → Heap → List Loc → Prop) (k n : Nat) : Option Value → State → List Loc → Prop := fun v t L => Q v t.heap L ∧ FrameEnd s (.returned v) t L k n
def OwnMet (l : Launch) (y : MethodName) (bytes : ByteArray) (maxL : Nat) (ret : Option FieldType) (ws : List Jvm.Cond) (rm : Room) (Z : State) (as' : Array Value) (h0 : Heap) (Q : Option Value → Heap → List Loc → Prop) : Prop :=
  MetFree l y (head1 (Jvm.Cond.code y bytes maxL ret :: ws) rm) (fun a U => a = as' ∧ Z.Warmed39 U.vm ∧ U.heap = h0) (fun _ _ _ _ _ => True)
    (fun _ U o U' => ∃ v L, o = .returned v ∧ Q v U'.heap L ∧ FrameEnd U o U' L rm.cells rm.slots)
def OAr (Z : State) (h : Heap) (a : Addr) (ty : FieldType) (vs : List Value) : Prop := ∃ c : Cell, Arr Z h a c ty ∧ c.slots = vs.toArray
theorem OAr.ext {Z : State} {h h' : Heap} {a : Addr} {ty : FieldType} {vs : List Value} (A : OAr Z h a ty vs) (E : Ext h h') : OAr Z h' a ty vs := by
  obtain ⟨c, A, e⟩ := A; exact ⟨c, A.ext E, e⟩
theorem OAr.other {Z : State} {h h' : Heap} {a b : Addr} {ty : FieldType} {vs : List Value} {sl : Nat} {v : Value} (A : OAr Z h b ty vs) (W : Wr h h' a sl v) (q : b ≠ a) : OAr Z h' b ty vs := by
  obtain ⟨c, A, e⟩ := A; exact ⟨c, A.other W q, e⟩
theorem OAr.keep {Z : State} {h h' : Heap} {a : Addr} {ty : FieldType} {vs : List Value} {ws : List Addr} (A : OAr Z h a ty vs) (K : Keep h h' ws) (q : a ∉ ws) : OAr Z h' a ty vs := by
  obtain ⟨c, A, e⟩ := A; exact ⟨c, ⟨K.2.1 a c A.1 q, A.2⟩, e⟩
theorem OAr.lt {Z : State} {h : Heap} {a : Addr} {ty : FieldType} {vs : List Value} (A : OAr Z h a ty vs) : a < h.size := by
  obtain ⟨c, A, e⟩ := A; exact A.lt
theorem OAr.set {Z : State} {h h' : Heap} {a : Addr} {ty : FieldType} {vs : List Value} {sl : Nat} {v : Value} (A : OAr Z h a ty vs) (W : Wr h h' a sl v) : OAr Z h' a ty (vs.set sl v) := by
  obtain ⟨c, A, e⟩ := A
  refine ⟨_, A.same W, ?_⟩
  show c.slots.setIfInBounds sl v = _
  rw [e]; simp
theorem own_plE {Z : State} {h : Heap} {a : Addr} {C : String} (E : Exa Z h a C) : ∀ c : Cell, h[a]? = some c → c.vm.isStatics = false := fun c hc => by
  obtain ⟨c', k, h1, -, -, h4, -⟩ := E; cases h1.symm.trans hc; exact h4
theorem own_plV {Z : State} {h : Heap} {a : Addr} {ty : FieldType} {vs : List Value} (A : OAr Z h a ty vs) : ∀ c : Cell, h[a]? = some c → c.vm.isStatics = false := fun c hc => by
  obtain ⟨c', A, -⟩ := A; cases A.1.symm.trans hc; exact A.plain
theorem own_sta_keep {Z : State} {h h' : Heap} {ws : List Addr} {O f d : String} {v : Value} (F : Sta Z h O f d v) (K : Keep h h' ws) (q : ∀ x ∈ ws, ∀ c : Cell, h[x]? = some c → c.vm.isStatics = false) : Sta Z h' O f d v := by
  obtain ⟨cf, i, k, f, st, cell, h1, h2, h3, h4, h5, h6, h7⟩ := F
  refine ⟨cf, i, k, f, st, cell, h1, h2, h3, h4, K.2.1 st cell h5 (fun m => ?_), h6, h7⟩
  have := q st m cell h5
  rw [h6] at this; cases this
theorem own_ins_keep {Z : State} {h h' : Heap} {ws : List Addr} {a : Addr} {C : String} {b : Bool} (F : Ins Z h a C b) (K : Keep h h' ws) : Ins Z h' a C b := by
  obtain ⟨cell, cT, h1, h2, h3⟩ := F
  obtain ⟨c', q, r1, r2, -⟩ := K.2.2 a cell h1
  exact ⟨c', cT, q, h2, by rw [r1, r2]; exact h3⟩
section Own
variable {p : Program} {l : Launch} {e : Env} {R : Room} {s : State} {m : MethodId} {args : Array Value} {below : List Frame} {meth : Method} {c : Code} {T : State} {locs : List Loc} {cells slots : Nat}
  {P : Option Value → State → List Loc → Prop} {Q : Option Value → Heap → List Loc → Prop} {k n : Nat} {Z : State} {a0 : Array Value} {h : Heap} {g : JFrame} {rest : List Value}
theorem own_go {A B : State} (st : ∀ t, Steps p.tables e below B t → Steps p.tables e below A t) (h : OwnWk p e below P B) : OwnWk p e below P A := by
  obtain ⟨s₂, v, L, h1, r⟩ := h; exact ⟨s₂, v, L, st _ h1, r⟩
theorem own_met {y : MethodName} {bytes : ByteArray} {maxL : Nat} {ret : Option FieldType} {ws : List Jvm.Cond} {rm : Room} {as' : Array Value} {h0 : Heap} (hpl : plainFor y = true)
    (body : ∀ (p : Program) (e : Env) (s : State) (m : MethodId) (below : List Frame) (meth : Method) (c : Code) (s₁ : State), p.tables.exec = Jvm.exec → c.code = bytes → c.maxLocals = maxL → s.vm.findClass y.cls = some m.cls → meth.name = y.name → meth.sig.returnType = ret → meth.locks = false → Z.Warmed39 s.vm →
      Stand p l e rm s m as' below meth c s₁ [] 0 0 → s₁.heap = h0 → OwnWk p e below (OwnP s Q rm.cells rm.slots) (s₁.setTop (entryFrame m as' maxL))) : OwnMet l y bytes maxL ret ws rm Z as' h0 Q := by
  refine MetFree.of_bodySF hpl hisR ?_
  intro p e s m args below meth c s₁ Bd hml0 hP hK
  obtain ⟨rfl, hZ, hh⟩ := hP
  obtain ⟨s₂, v, L, h1, h2, h3, h4, h5⟩ := body p e s m below meth c s₁ Bd.exec Bd.bytes hml0 (findClass_of_methodNamed Bd.named) (name_of_methodNamed Bd.named Bd.method).1 Bd.returns (BodyLoose.notSynchronized Bd) hZ (Stand.of_body Bd) (by rw [← hh, Bd.state]; rfl)
  exact ⟨s₂, _, h1, h2, h3, v, L, rfl, h4, h5⟩
theorem own_out0 {A : State} {v : Option Value} (X : Stand p l e R s m args below meth c T locs cells slots) (hlk : meth.locks = false) (hv : meth.sig.returnType = none → v = none)
    (st : ∀ fs, (∀ (f : JFrame) (acts : List Action), f.method = m → f.locked = none → f.entered = [] → (doReturn e (T.setTop f) acts v).1 = T.setFrames fs) → Steps p.tables e below A (T.setFrames fs))
    (hq : ∀ t : State, t.heap = T.heap → FrameEnd s (.returned v) t locs cells slots → P v t locs) : OwnWk p e below P A := by
  obtain ⟨fs, hr, hrun, hended, hW, hsame⟩ := X.leave (v := v) hv hlk
  exact ⟨_, v, locs, st fs hr, hrun, hended, hq _ rfl ⟨⟨v, rfl⟩, hW, hsame⟩⟩
theorem own_out {A : State} {v : Option Value} (X : Stand p l e R s m args below meth c T locs cells slots) (hlk : meth.locks = false) (hv : meth.sig.returnType = none → v = none)
    (st : ∀ fs, (∀ (f : JFrame) (acts : List Action), f.method = m → f.locked = none → f.entered = [] → (doReturn e (T.setTop f) acts v).1 = T.setFrames fs) → Steps p.tables e below A (T.setFrames fs))
    (hc : cells ≤ k) (hs : slots ≤ n) (hq : Q v T.heap locs) : OwnWk p e below (OwnP s Q k n) A :=
  own_out0 X hlk hv st fun t ht hF => ⟨by rw [ht]; exact hq, hF.1, hF.2.1, hF.2.2.mono hc hs⟩
theorem own_retI (X : Stand p l e R s m args below meth c T locs cells slots) (hx : p.tables.exec = Jvm.exec) (hlk : meth.locks = false) (hret : meth.sig.returnType = some .int) {pc : Nat} {Ls : Array Slot} {z : Int32} (hd : decode c.code pc = .ok (.ireturn, 1)) (hc : cells ≤ k) (hs : slots ≤ n)
    (hq : Q (some (.int z)) T.heap locs) : OwnWk p e below (OwnP s Q k n) (T.setTop (mkF m pc Ls (.int z :: rest))) :=
  own_out X hlk (fun q => by rw [hret] at q; cases q) (fun fs hr => retOut X hx hret rfl (Or.inl ⟨rfl, Or.inl rfl, z, rfl⟩) hd hr) hc hs hq
theorem own_retZ (X : Stand p l e R s m args below meth c T locs cells slots) (hx : p.tables.exec = Jvm.exec) (hlk : meth.locks = false) {t : FieldType} (hret : meth.sig.returnType = some t) (ht : t = .boolean ∨ t = .byte ∨ t = .char ∨ t = .short) {pc : Nat} {Ls : Array Slot} {z z' : Int32} (hz : nar t z = z') (hd : decode c.code pc = .ok (.ireturn, 1)) (hc : cells ≤ k) (hs : slots ≤ n)
    (hq : Q (some (.int z')) T.heap locs) : OwnWk p e below (OwnP s Q k n) (T.setTop (mkF m pc Ls (.int z :: rest))) := by
  subst hz
  exact own_out X hlk (fun q => by rw [hret] at q; cases q) (fun fs hr => retN X hx hret ht hd hr) hc hs hq
theorem own_retJ (X : Stand p l e R s m args below meth c T locs cells slots) (hx : p.tables.exec = Jvm.exec) (hlk : meth.locks = false) (hret : meth.sig.returnType = some .long) {pc : Nat} {Ls : Array Slot} {z : Int64} (hd : decode c.code pc = .ok (.lreturn, 1)) (hc : cells ≤ k) (hs : slots ≤ n)
    (hq : Q (some (.long z)) T.heap locs) : OwnWk p e below (OwnP s Q k n) (T.setTop (mkF m pc Ls (.long z :: rest))) :=
  own_out X hlk (fun q => by rw [hret] at q; cases q) (fun fs hr => retOut X hx hret rfl (Or.inr (Or.inl ⟨rfl, rfl, z, rfl⟩)) hd hr) hc hs hq
theorem own_retA (X : Stand p l e R s m args below meth c T locs cells slots) (hx : p.tables.exec = Jvm.exec) (hlk : meth.locks = false) {t : FieldType} (hret : meth.sig.returnType = some t) (ht : t.isReference = true) {pc : Nat} {Ls : Array Slot} {v : Value} (hv : v.isRef = true) (hn : narrow t v = v) (hd : decode c.code pc = .ok (.areturn, 1)) (hc : cells ≤ k) (hs : slots ≤ n)
    (hq : Q (some v) T.heap locs) : OwnWk p e below (OwnP s Q k n) (T.setTop (mkF m pc Ls (v :: rest))) :=
  own_out X hlk (fun q => by rw [hret] at q; cases q) (fun fs hr => retOut X hx hret hn (Or.inr (Or.inr (Or.inr (Or.inr ⟨rfl, ht, hv⟩)))) hd hr) hc hs hq
theorem own_retV (X : Stand p l e R s m args below meth c T locs cells slots) (hx : p.tables.exec = Jvm.exec) (hlk : meth.locks = false) (hret : meth.sig.returnType = none) {pc : Nat} {Ls : Array Slot} (hd : decode c.code pc = .ok (.return_, 1)) (hc : cells ≤ k) (hs : slots ≤ n)
    (hq : Q none T.heap locs) : OwnWk p e below (OwnP s Q k n) (T.setTop (mkF m pc Ls [])) :=
  own_out X hlk (fun _ => rfl) (fun fs hr => X.returnOut hx hret hd hr) hc hs hq
/-! calls by a contract -/
variable {own C : String} {idx cnt : Nat} {y z : MethodName} {bytes : ByteArray} {maxL : Nat} {ret : Option FieldType} {rm : Room} {Q' : Option Value → Heap → List Loc → Prop} {W : Nat} {argsL : List Value} {a b : Addr}
theorem OwnMet.back {len : Nat} {as' : Array Value} (hM : OwnMet l y bytes maxL ret [] rm Z as' h Q') (hZ : Z.Warmed39 s.vm) (wc : (Jvm.Cond.code y bytes maxL ret).before a0 Z = true) (wz : (Jvm.Cond.initialized y.cls).before a0 Z = true) (hf : rm.frames + 1 ≤ R.frames) (hl : W + (maxL + 11) + rm.locals ≤ R.locals) :
    Back l R p e below s args y len W (fun A a => a = as' ∧ A.U.heap = h ∧ A.cells + rm.cells ≤ R.cells ∧ A.slots + rm.slots ≤ R.slots)
      (fun A _ v B => ∃ L, Q' v B.U.heap L ∧ B.locs = A.locs ++ L ∧ B.cells = A.cells + rm.cells ∧ B.slots = A.slots + rm.slots) := backOf (Q := Q') hM hZ wc wz hf hl
theorem own_callS (X : Stand p l e R s m args below meth c T locs cells slots) (hx : p.tables.exec = Jvm.exec) (hZ : Z.Warmed39 s.vm) (hown : s.vm.findClass own = some m.cls)
    (w1 : (Jvm.Cond.methodLink own idx y).before a0 Z = true) (w2 : (Jvm.Cond.static y).before a0 Z = true) (w3 : (Jvm.Cond.initialized y.cls).before a0 Z = true) (w4 : (Jvm.Cond.code y bytes maxL ret).before a0 Z = true)
    (hy : y.cls ≠ "java/lang/invoke/MethodHandle" ∧ y.cls ≠ "java/lang/invoke/VarHandle") (hM : OwnMet l y bytes maxL ret [] rm Z argsL.toArray h Q') (eT : T.heap = h)
    (hf : rm.frames + 1 ≤ R.frames) (hl : W + (maxL + 11) + rm.locals ≤ R.locals) (hc : cells + rm.cells ≤ R.cells) (hs : slots + rm.slots ≤ R.slots)
    (hg : g.method = m) (hsize : g.locals.size = c.maxLocals) (hlen : ∀ sig, parseMethodDescriptor y.desc = some sig → argsL.length = sig.parameters.length) (hstack : g.stack = argsL.reverse ++ rest)
    (hW : 2 * g.monitorRoom + (rest.map fun v => v.category).sum ≤ W) (hd : decode c.code g.pc = .ok (.invokestatic idx, 3))
    (K : ∀ v T' h' L, Stand p l e R s m args below meth c T' (locs ++ L) (cells + rm.cells) (slots + rm.slots) → T'.heap = h' → Q' v h' L → OwnWk p e below P (T'.setTop { g with pc := g.pc + 3, stack := v.toList ++ rest })) :
    OwnWk p e below P (T.setTop g) := by
  obtain ⟨v, vm₁, ⟨T', L', k', n'⟩, -, X', ⟨L, hQ, e1, e2, e3⟩, st⟩ := Jvm.LawKit.callS X hx hown (mvT hZ w1) (mvT hZ w2) (mvT hZ w3) (mvT hZ w4) hy (hM.back hZ w4 w3 hf hl) hg hsize hlen hstack hW hd (fun _ _ => ⟨rfl, eT, hc, hs⟩)
  dsimp only [Pt.U, Pt.locs, Pt.cells, Pt.slots] at X' e1 e2 e3 st hQ
  subst e1 e2 e3
  exact own_go st (K v T' _ L X' rfl hQ)
theorem own_callC (X : Stand p l e R s m args below meth c T locs cells slots) (hx : p.tables.exec = Jvm.exec) (hZ : Z.Warmed39 s.vm) (hown : s.vm.findClass own = some m.cls) (hy1 : y.name = "<init>")
    (w1 : (Jvm.Cond.methodLink own idx y).before a0 Z = true) (w2 : (Jvm.Cond.instanceMethod y).before a0 Z = true) (w3 : (Jvm.Cond.initialized y.cls).before a0 Z = true) (w4 : (Jvm.Cond.code y bytes maxL none).before a0 Z = true)
    (hy : y.cls ≠ "java/lang/invoke/MethodHandle" ∧ y.cls ≠ "java/lang/invoke/VarHandle") (hM : OwnMet l y bytes maxL none [] rm Z (.ref a :: argsL).toArray h Q') (eT : T.heap = h)
    (hf : rm.frames + 1 ≤ R.frames) (hl : W + (maxL + 11) + rm.locals ≤ R.locals) (hc : cells + rm.cells ≤ R.cells) (hs : slots + rm.slots ≤ R.slots)
    (hg : g.method = m) (hsize : g.locals.size = c.maxLocals) (hlen : ∀ sig, parseMethodDescriptor y.desc = some sig → argsL.length = sig.parameters.length) (hstack : g.stack = argsL.reverse ++ .ref a :: rest)
    (hW : 2 * g.monitorRoom + (rest.map fun v => v.category).sum ≤ W) (hd : decode c.code g.pc = .ok (.invokespecial idx, 3))
    (K : ∀ v T' h' L, Stand p l e R s m args below meth c T' (locs ++ L) (cells + rm.cells) (slots + rm.slots) → T'.heap = h' → Q' v h' L → OwnWk p e below P (T'.setTop { g with pc := g.pc + 3, stack := v.toList ++ rest })) :
    OwnWk p e below P (T.setTop g) := by
  obtain ⟨v, vm₁, ⟨T', L', k', n'⟩, -, X', ⟨L, hQ, e1, e2, e3⟩, st⟩ := X.specialBack hx hy1 hown (mvT hZ w1) (mvT hZ w2) (mvT hZ w4) hy (hM.back hZ w4 w3 hf hl) hg hsize (Steps.refl _) hlen hstack hW hd (fun _ _ => ⟨rfl, eT, hc, hs⟩)
  dsimp only [Pt.U, Pt.locs, Pt.cells, Pt.slots] at X' e1 e2 e3 st hQ
  subst e1 e2 e3
  exact own_go (fun t q => st.trans q) (K v T' _ L X' rfl hQ)
theorem own_callV (X : Stand p l e R s m args below meth c T locs cells slots) (hx : p.tables.exec = Jvm.exec) (hZ : Z.Warmed39 s.vm) (hown : s.vm.findClass own = some m.cls)
    (w1 : (Jvm.Cond.methodLink own idx y).before a0 Z = true) (w2 : (Jvm.Cond.declares y).before a0 Z = true) (nf : NotFace s y) (w5 : (Jvm.Cond.selects C y z).before a0 Z = true) (w6 : (Jvm.Cond.instanceMethod z).before a0 Z = true) (w3 : (Jvm.Cond.initialized z.cls).before a0 Z = true) (w4 : (Jvm.Cond.code z bytes maxL ret).before a0 Z = true)
    (hy : y.cls ≠ "java/lang/invoke/MethodHandle" ∧ y.cls ≠ "java/lang/invoke/VarHandle") (E : Exa Z h a C) (hM : OwnMet l z bytes maxL ret [] rm Z (.ref a :: argsL).toArray h Q') (eT : T.heap = h)
    (hf : rm.frames + 1 ≤ R.frames) (hl : W + (maxL + 11) + rm.locals ≤ R.locals) (hc : cells + rm.cells ≤ R.cells) (hs : slots + rm.slots ≤ R.slots)
    (hg : g.method = m) (hsize : g.locals.size = c.maxLocals) (hlen : ∀ sig, parseMethodDescriptor y.desc = some sig → argsL.length = sig.parameters.length) (hstack : g.stack = argsL.reverse ++ .ref a :: rest)
    (hW : 2 * g.monitorRoom + (rest.map fun v => v.category).sum ≤ W) (hd : decode c.code g.pc = .ok (.invokevirtual idx, 3))
    (K : ∀ v T' h' L, Stand p l e R s m args below meth c T' (locs ++ L) (cells + rm.cells) (slots + rm.slots) → T'.heap = h' → Q' v h' L → OwnWk p e below P (T'.setTop { g with pc := g.pc + 3, stack := v.toList ++ rest })) :
    OwnWk p e below P (T.setTop g) := by
  obtain ⟨cq, kq, q1, q2, q3⟩ := isOf hZ eT E
  obtain ⟨v, vm₁, ⟨T', L', k', n'⟩, -, X', ⟨L, hQ, e1, e2, e3⟩, st⟩ := X.virtualBack hx hown (mvT hZ w1) (mvT hZ w2) nf (mvT hZ w5) (mvT hZ w6) hy (hM.back hZ w4 w3 hf hl) q1 q3 hg hsize (Steps.refl _) hlen hstack hW hd (fun _ _ => ⟨rfl, eT, hc, hs⟩)
  dsimp only [Pt.U, Pt.locs, Pt.cells, Pt.slots] at X' e1 e2 e3 st hQ
  subst e1 e2 e3
  exact own_go (fun t q => st.trans q) (K v T' _ L X' rfl hQ)
theorem own_callI (X : Stand p l e R s m args below meth c T locs cells slots) (hx : p.tables.exec = Jvm.exec) (hZ : Z.Warmed39 s.vm) (hown : s.vm.findClass own = some m.cls)
    (w1 : (Jvm.Cond.methodLink own idx y).before a0 Z = true) (w2 : (Jvm.Cond.declares y).before a0 Z = true) (w7 : (Jvm.Cond.interfaceMethod y.cls y.cls y.name y.desc).before args s = true) (w5 : (Jvm.Cond.selects C y z).before a0 Z = true) (w6 : (Jvm.Cond.instanceMethod z).before a0 Z = true)
    (w8 : (Jvm.Cond.publicMethod z).before a0 Z = true) (w9 : (Jvm.Cond.unhidden C y.name y.desc).before a0 Z = true) (w10 : (Jvm.Cond.castable C y.cls).before a0 Z = true) (w3 : (Jvm.Cond.initialized z.cls).before a0 Z = true) (w4 : (Jvm.Cond.code z bytes maxL ret).before a0 Z = true)
    (hy : y.cls ≠ "java/lang/invoke/MethodHandle" ∧ y.cls ≠ "java/lang/invoke/VarHandle") (E : Exa Z h a C) (hM : OwnMet l z bytes maxL ret [] rm Z (.ref a :: argsL).toArray h Q') (eT : T.heap = h)
    (hf : rm.frames + 1 ≤ R.frames) (hl : W + (maxL + 11) + rm.locals ≤ R.locals) (hc : cells + rm.cells ≤ R.cells) (hs : slots + rm.slots ≤ R.slots)
    (hg : g.method = m) (hsize : g.locals.size = c.maxLocals) (hlen : ∀ sig, parseMethodDescriptor y.desc = some sig → argsL.length = sig.parameters.length) (hstack : g.stack = argsL.reverse ++ .ref a :: rest)
    (hW : 2 * g.monitorRoom + (rest.map fun v => v.category).sum ≤ W) (hd : decode c.code g.pc = .ok (.invokeinterface idx cnt, 5))
    (K : ∀ v T' h' L, Stand p l e R s m args below meth c T' (locs ++ L) (cells + rm.cells) (slots + rm.slots) → T'.heap = h' → Q' v h' L → OwnWk p e below P (T'.setTop { g with pc := g.pc + 5, stack := v.toList ++ rest })) :
    OwnWk p e below P (T.setTop g) := by
  obtain ⟨cq, kq, q1, q2, q3⟩ := isOf hZ eT E
  obtain ⟨v, vm₁, ⟨T', L', k', n'⟩, -, X', ⟨L, hQ, e1, e2, e3⟩, st⟩ := X.interfaceBack hx hown (mvT hZ w1) (mvT hZ w2) w7 (mvT hZ w5) (mvT hZ w6) (mvT hZ w8) (mvT hZ w9) (mvT hZ w10) hy (hM.back hZ w4 w3 hf hl) q1 q2 q3 hg hsize (Steps.refl _) hlen hstack hW hd (fun _ _ => ⟨rfl, eT, hc, hs⟩)
  dsimp only [Pt.U, Pt.locs, Pt.cells, Pt.slots] at X' e1 e2 e3 st hQ
  subst e1 e2 e3
  exact own_go (fun t q => st.trans q) (K v T' _ L X' rfl hQ)
theorem own_callP (X : Stand p l e R s m args below meth c T locs cells slots) (hx : p.tables.exec = Jvm.exec) (hZ : Z.Warmed39 s.vm) (hown : s.vm.findClass own = some m.cls)
    (w1 : (Jvm.Cond.methodLink own idx y).before a0 Z = true) (w2 : (Jvm.Cond.instanceMethod y).before a0 Z = true) (w5 : (Jvm.Cond.selects y.cls y y).before a0 Z = true) (w6 : (Jvm.Cond.privateMethod y).before a0 Z = true) (w3 : (Jvm.Cond.initialized y.cls).before a0 Z = true) (w4 : (Jvm.Cond.code y bytes maxL ret).before a0 Z = true)
    (hy : y.cls ≠ "java/lang/invoke/MethodHandle" ∧ y.cls ≠ "java/lang/invoke/VarHandle") (E : Exa Z h a C) (hM : OwnMet l y bytes maxL ret [] rm Z (.ref a :: argsL).toArray h Q') (eT : T.heap = h)
    (hf : rm.frames + 1 ≤ R.frames) (hl : W + (maxL + 11) + rm.locals ≤ R.locals) (hc : cells + rm.cells ≤ R.cells) (hs : slots + rm.slots ≤ R.slots)
    (hg : g.method = m) (hsize : g.locals.size = c.maxLocals) (hlen : ∀ sig, parseMethodDescriptor y.desc = some sig → argsL.length = sig.parameters.length) (hstack : g.stack = argsL.reverse ++ .ref a :: rest)
    (hW : 2 * g.monitorRoom + (rest.map fun v => v.category).sum ≤ W) (hd : decode c.code g.pc = .ok (.invokevirtual idx, 3))
    (K : ∀ v T' h' L, Stand p l e R s m args below meth c T' (locs ++ L) (cells + rm.cells) (slots + rm.slots) → T'.heap = h' → Q' v h' L → OwnWk p e below P (T'.setTop { g with pc := g.pc + 3, stack := v.toList ++ rest })) :
    OwnWk p e below P (T.setTop g) := by
  obtain ⟨cq, q, q'⟩ := E.cell
  obtain ⟨v, vm₁, ⟨T', L', k', n'⟩, -, X', ⟨L, hQ, e1, e2, e3⟩, st⟩ := X.privateBack hx hown (mvT hZ w1) (mvT hZ w2) (mvT hZ w5) (Cond.privateMethod_at (mvP hZ w6 (args := #[]))) (mvT hZ w4) hy (hM.back hZ w4 w3 hf hl) hg hsize (Steps.refl _) (by rw [eT]; exact q) q' hlen hstack hW hd (fun _ _ => ⟨rfl, eT, hc, hs⟩)
  dsimp only [Pt.U, Pt.locs, Pt.cells, Pt.slots] at X' e1 e2 e3 st hQ
  subst e1 e2 e3
  exact own_go (fun t q => st.trans q) (K v T' _ L X' rfl hQ)
/-! arrays by their lists -/
variable {vs : List Value} {ty : FieldType} {j : Int32} {v : Value}
theorem own_in (c : Cell) (e : c.slots = vs.toArray) (h0 : ¬ j < 0) (hj : j.toNatClampNeg < vs.length) : ¬ (j < 0 ∨ c.slots.size ≤ j.toNatClampNeg) := by
  rw [e]; simp only [List.size_toArray]
  rintro (q | q)
  · exact h0 q
  · omega
theorem own_len (X : Stand p l e R s m args below meth c T locs cells slots) (hx : p.tables.exec = Jvm.exec) (hZ : Z.Warmed39 s.vm) (eT : T.heap = h) (A : OAr Z h a ty vs) (hg : g.method = m) (hs : g.stack = .ref a :: rest) (hd : decode c.code g.pc = .ok (.arraylength, 1)) {N : Int32} (hN : vs.length.toInt32 = N)
    (K : OwnWk p e below P (T.setTop { g with pc := g.pc + 1, stack := .int N :: rest })) : OwnWk p e below P (T.setTop g) := by
  obtain ⟨cl, A, ec⟩ := A
  refine own_go (fun t q => X.arraylength hx (by rw [eT]; exact A.1) (State.isArrayOf_alike hZ.alike A.2.1) hg hs hd _ q) ?_
  rw [ec, List.size_toArray, hN]; exact K
theorem own_ldI (X : Stand p l e R s m args below meth c T locs cells slots) (hx : p.tables.exec = Jvm.exec) (hZ : Z.Warmed39 s.vm) (eT : T.heap = h) (A : OAr Z h a .int vs) (hg : g.method = m) (hs : g.stack = .int j :: .ref a :: rest) (hd : decode c.code g.pc = .ok (.iaload, 1)) (h0 : ¬ j < 0) (hj : vs[j.toNatClampNeg]? = some v)
    (K : OwnWk p e below P (T.setTop { g with pc := g.pc + 1, stack := v :: rest })) : OwnWk p e below P (T.setTop g) := by
  obtain ⟨cl, A, ec⟩ := A
  exact own_go (fun t q => X.iaload hx (by rw [eT]; exact A.1) (State.isArrayOf_alike hZ.alike A.2.1) A.2.2 (own_in cl ec h0 (List.getElem?_eq_some_iff.mp hj).1) (by rw [ec]; simpa using hj) hg hs hd _ q) K
theorem own_ldJ (X : Stand p l e R s m args below meth c T locs cells slots) (hx : p.tables.exec = Jvm.exec) (hZ : Z.Warmed39 s.vm) (eT : T.heap = h) (A : OAr Z h a .long vs) (hg : g.method = m) (hs : g.stack = .int j :: .ref a :: rest) (hd : decode c.code g.pc = .ok (.laload, 1)) (h0 : ¬ j < 0) (hj : vs[j.toNatClampNeg]? = some v)
    (K : OwnWk p e below P (T.setTop { g with pc := g.pc + 1, stack := v :: rest })) : OwnWk p e below P (T.setTop g) := by
  obtain ⟨cl, A, ec⟩ := A
  exact own_go (fun t q => X.laload hx (by rw [eT]; exact A.1) (State.isArrayOf_alike hZ.alike A.2.1) A.2.2 (own_in cl ec h0 (List.getElem?_eq_some_iff.mp hj).1) (by rw [ec]; simpa using hj) hg hs hd _ q) K
theorem own_ldA (X : Stand p l e R s m args below meth c T locs cells slots) (hx : p.tables.exec = Jvm.exec) (hZ : Z.Warmed39 s.vm) (eT : T.heap = h) (A : OAr Z h a ty vs) (hty : ty.isReference = true) (hg : g.method = m) (hs : g.stack = .int j :: .ref a :: rest) (hd : decode c.code g.pc = .ok (.aaload, 1)) (h0 : ¬ j < 0) (hj : vs[j.toNatClampNeg]? = some v)
    (K : OwnWk p e below P (T.setTop { g with pc := g.pc + 1, stack := v :: rest })) : OwnWk p e below P (T.setTop g) := by
  obtain ⟨cl, A, ec⟩ := A
  exact own_go (fun t q => X.aaload hx (by rw [eT]; exact A.1) (State.isArrayOf_alike hZ.alike A.2.1) hty A.2.2 (own_in cl ec h0 (List.getElem?_eq_some_iff.mp hj).1) (by rw [ec]; simpa using hj) hg hs hd _ q) K
theorem own_stI (X : Stand p l e R s m args below meth c T locs cells slots) (hx : p.tables.exec = Jvm.exec) (hZ : Z.Warmed39 s.vm) (eT : T.heap = h) (A : OAr Z h a .int vs) {x : Int32} (hg : g.method = m) (hs : g.stack = .int x :: .int j :: .ref a :: rest) (hd : decode c.code g.pc = .ok (.iastore, 1)) (h0 : ¬ j < 0) (hj : j.toNatClampNeg < vs.length)
    (K : ∀ T' h', Stand p l e R s m args below meth c T' (locs ++ [⟨a, j.toNatClampNeg⟩]) cells slots → T'.heap = h' → Wr h h' a j.toNatClampNeg (.int x) → OAr Z h' a .int (vs.set j.toNatClampNeg (.int x)) → OwnWk p e below P (T'.setTop { g with pc := g.pc + 1, stack := rest })) : OwnWk p e below P (T.setTop g) := by
  obtain ⟨cl, A', ec⟩ := A
  obtain ⟨T', h', X', e', W', st⟩ := stI X hx hZ eT A' (j := j) (own_in cl ec h0 hj) hg hs hd
  exact own_go st (K T' h' X' e' W' (OAr.set ⟨cl, A', ec⟩ W'))
theorem own_stJ (X : Stand p l e R s m args below meth c T locs cells slots) (hx : p.tables.exec = Jvm.exec) (hZ : Z.Warmed39 s.vm) (eT : T.heap = h) (A : OAr Z h a .long vs) {x : Int64} (hg : g.method = m) (hs : g.stack = .long x :: .int j :: .ref a :: rest) (hd : decode c.code g.pc = .ok (.lastore, 1)) (h0 : ¬ j < 0) (hj : j.toNatClampNeg < vs.length)
    (K : ∀ T' h', Stand p l e R s m args below meth c T' (locs ++ [⟨a, j.toNatClampNeg⟩]) cells slots → T'.heap = h' → Wr h h' a j.toNatClampNeg (.long x) → OAr Z h' a .long (vs.set j.toNatClampNeg (.long x)) → OwnWk p e below P (T'.setTop { g with pc := g.pc + 1, stack := rest })) : OwnWk p e below P (T.setTop g) := by
  obtain ⟨cl, A', ec⟩ := A
  obtain ⟨T', h', X', e', W', st⟩ := stJ X hx hZ eT A' (j := j) (own_in cl ec h0 hj) hg hs hd
  exact own_go st (K T' h' X' e' W' (OAr.set ⟨cl, A', ec⟩ W'))
theorem own_newP {aty : ArrayType} (X : Stand p l e R s m args below meth c T locs cells slots) (hx : p.tables.exec = Jvm.exec) (hZ : Z.Warmed39 s.vm) (w : (Jvm.Cond.arrayClass (newarray.typeOf aty)).before a0 Z = true) (eT : T.heap = h) (hg : g.method = m) (hd : decode c.code g.pc = .ok (.newarray aty, 2)) {N : Int32} (hs : g.stack = .int N :: rest)
    (hn : ¬ N < 0) {cap : Nat} (hcap : N.toNatClampNeg ≤ cap) (hb : cap * 8 ≤ 536870912) (hc : cells + 1 ≤ R.cells) (hl : slots + cap ≤ R.slots)
    (K : ∀ T' h' b, Stand p l e R s m args below meth c T' locs (cells + 1) (slots + cap) → T'.heap = h' → b = h.size → Ext h h' → OAr Z h' b (newarray.typeOf aty) (List.replicate N.toNatClampNeg (defaultValue (newarray.typeOf aty))) → OwnWk p e below P (T'.setTop { g with pc := g.pc + 2, stack := .ref b :: rest })) : OwnWk p e below P (T.setTop g) := by
  obtain ⟨T', h', cA, X', e', E', A', st⟩ := newP X hx hZ w eT hg hd hs hn hcap hb hc hl
  exact own_go st (K T' h' _ X' e' rfl E' ⟨_, A', by simp [newA]⟩)
theorem own_newPE {aty : ArrayType} {ad : String} (X : Stand p l e R s m args below meth c T locs cells slots) (hx : p.tables.exec = Jvm.exec) (hZ : Z.Warmed39 s.vm) (w : (Jvm.Cond.arrayClass (newarray.typeOf aty)).before a0 Z = true) (eT : T.heap = h) (hg : g.method = m) (hd : decode c.code g.pc = .ok (.newarray aty, 2)) {N : Int32} (hs : g.stack = .int N :: rest)
    (hn : ¬ N < 0) {cap : Nat} (hcap : N.toNatClampNeg ≤ cap) (hb : cap * 8 ≤ 536870912) (hc : cells + 1 ≤ R.cells) (hl : slots + cap ≤ R.slots) (had : "[" ++ (newarray.typeOf aty).toString = ad)
    (K : ∀ T' h' b, Stand p l e R s m args below meth c T' locs (cells + 1) (slots + cap) → T'.heap = h' → b = h.size → Ext h h' → OAr Z h' b (newarray.typeOf aty) (List.replicate N.toNatClampNeg (defaultValue (newarray.typeOf aty))) → Exa Z h' b ad → OwnWk p e below P (T'.setTop { g with pc := g.pc + 2, stack := .ref b :: rest })) : OwnWk p e below P (T.setTop g) := by
  obtain ⟨T', h', cA, X', e', E', A', Ex, st⟩ := newPE X hx hZ w eT hg hd hs hn hcap hb hc hl had
  exact own_go st (K T' h' _ X' e' rfl E' ⟨_, A', by simp [newA]⟩ Ex)
theorem own_clone {ad : String} (X : Stand p l e R s m args below meth c T locs cells slots) (hx : p.tables.exec = Jvm.exec) (hZ : Z.Warmed39 s.vm) (hown : s.vm.findClass own = some m.cls)
    (w1 : (Jvm.Cond.methodLink own idx ⟨ad, "clone", "()Ljava/lang/Object;"⟩).before a0 Z = true) (w2 : (Jvm.Cond.sameMethod ad "java/lang/Object" "clone" "()Ljava/lang/Object;").before a0 Z = true) (w3 : (Jvm.Cond.native ⟨"java/lang/Object", "clone", "()Ljava/lang/Object;"⟩).before a0 Z = true)
    (w4 : (Jvm.Cond.instanceMethod ⟨"java/lang/Object", "clone", "()Ljava/lang/Object;"⟩).before a0 Z = true) (w5 : (Jvm.Cond.selects ad ⟨ad, "clone", "()Ljava/lang/Object;"⟩ ⟨"java/lang/Object", "clone", "()Ljava/lang/Object;"⟩).before a0 Z = true) (w6 : (Jvm.Cond.castable ad "java/lang/Cloneable").before a0 Z = true)
    (eT : T.heap = h) (A : OAr Z h a ty vs) (E : Exa Z h a ad) (F : ∀ v ∈ vs, fits ty v = true) (hg : g.method = m) (hsize : g.locals.size = c.maxLocals) (hs : g.stack = .ref a :: rest) (hd : decode c.code g.pc = .ok (.invokevirtual idx, 3))
    (hf : 1 ≤ R.frames) {cap : Nat} (hW : 2 * g.monitorRoom + (rest.map fun v => v.category).sum ≤ W) (hl : W + 14 ≤ R.locals) (hcap : vs.length ≤ cap) (hc : cells + 1 ≤ R.cells) (hsl : slots + cap ≤ R.slots)
    (K : ∀ T' h' b, Stand p l e R s m args below meth c T' locs (cells + 1) (slots + cap) → T'.heap = h' → b = h.size → Ext h h' → OAr Z h' b ty vs → Exa Z h' b ad → OwnWk p e below P (T'.setTop { g with pc := g.pc + 3, stack := .ref b :: rest })) : OwnWk p e below P (T.setTop g) := by
  obtain ⟨cl, A, ec⟩ := A
  have FC : FitC Z cl := fitC_of A fun i hi v hv => by
    rw [ec] at hv
    exact F v (List.mem_of_getElem? (by simpa using hv))
  obtain ⟨T', h', X', e', E', A', Ex, st⟩ := cloneA X hx hZ hown w1 w2 w3 w4 w5 w6 eT A E FC hg hsize hs hd hf hW hl (by rw [ec]; simpa using hcap) hc hsl
  exact own_go st (K T' h' _ X' e' rfl E' ⟨_, A', ec⟩ Ex)
end Own
/-! comparisons of longs -/
theorem own_tri (x y : Int64) : x < y ∨ x = y ∨ y < x := by
  rcases Int.lt_trichotomy x.toInt y.toInt with h | h | h
  · exact Or.inl (Int64.lt_iff_toInt_lt.mpr h)
  · exact Or.inr (Or.inl (Int64.toInt_inj.mp h))
  · exact Or.inr (Or.inr (Int64.lt_iff_toInt_lt.mpr h))
theorem own_lc_lt {x y : Int64} : (lcmpW x y < 0) ↔ x < y := by
  unfold lcmpW
  rcases own_tri x y with h | h | h
  · have h1 : ¬ x > y := Int64.lt_asymm h
    have h2 : ¬ x = y := Int64.ne_of_lt h
    simp [h1, h2, h]
  · subst h; simp
  · have h1 : ¬ x < y := Int64.lt_asymm h
    simp [h, h1]
theorem own_lc_gt {x y : Int64} : (0 < lcmpW x y) ↔ y < x := by
  unfold lcmpW
  rcases own_tri x y with h | h | h
  · have h1 : ¬ x > y := Int64.lt_asymm h
    have h2 : ¬ x = y := Int64.ne_of_lt h
    have h3 : ¬ y < x := h1
    simp [h1, h2, h3]
  · subst h; simp
  · simp [h]
theorem own_lc_eq {x y : Int64} : (lcmpW x y = 0) ↔ x = y := by
  unfold lcmpW
  rcases own_tri x y with h | h | h
  · have h1 : ¬ x > y := Int64.lt_asymm h
    have h2 : ¬ x = y := Int64.ne_of_lt h
    simp [h1, h2]
  · subst h; simp
  · have h2 : ¬ x = y := (Int64.ne_of_lt h).symm
    simp [h, h2]
def own_holds (u r : Int64) : Int32 := if (u &&& (-36028797018963968 : Int64)) = 0 ∧ ((r.toUInt64 >>> ((9 : Int32) &&& 0x3f).toInt64.toUInt64).toInt64) = 0 then 1 else 0
def own_word (u r : Int64) : Int64 := ((r <<< ((55 : Int32) &&& 0x3f).toInt64) ||| u)
def own_base (u : Int64) : Int64 := (u &&& (36028797018963967 : Int64))
def own_high (u : Int64) : Int64 := ((u.toUInt64 >>> ((55 : Int32) &&& 0x3f).toInt64.toUInt64).toInt64)
theorem own_nn {u : Int64} (h : ¬ u < 0) : u.toInt = (u.toBitVec.toNat : Int) := by
  rw [Int64.lt_iff_toInt_lt] at h
  have e0 : (0 : Int64).toInt = 0 := rfl
  rw [e0] at h
  have q : u.toInt = u.toBitVec.toInt := rfl
  rw [q] at h ⊢
  rw [BitVec.toInt_eq_toNat_cond] at h ⊢
  have := u.toBitVec.isLt
  split <;> rename_i g <;> simp only [g] at h <;> simp at h ⊢ <;> omega
theorem own_small {u : Int64} {k : Int64} {K : Nat} (hk : k.toInt = (K : Int)) (hK : K < 2 ^ 63) : (¬ u < 0 ∧ u < k) ↔ u.toBitVec.toNat < K := by
  constructor
  · rintro ⟨h0, h1⟩
    have q := own_nn h0
    rw [Int64.lt_iff_toInt_lt, q, hk] at h1; omega
  · intro h
    have q : u.toInt = (u.toBitVec.toNat : Int) := by
      show u.toBitVec.toInt = _
      rw [BitVec.toInt_eq_toNat_cond, if_pos (by omega)]
    refine ⟨?_, ?_⟩
    · rw [Int64.lt_iff_toInt_lt, q]; have e0 : (0 : Int64).toInt = 0 := rfl
      omega
    · rw [Int64.lt_iff_toInt_lt, q, hk]; omega
theorem own_mask (u : Int64) : (u &&& (-36028797018963968 : Int64)) = 0 ↔ u.toBitVec.toNat < 2 ^ 55 := by
  have q : (u &&& (-36028797018963968 : Int64)).toBitVec.toNat = u.toBitVec.toNat &&& (511 <<< 55) := by
    rw [Int64.toBitVec_and, BitVec.toNat_and]; rfl
  have z : (u &&& (-36028797018963968 : Int64)) = 0 ↔ u.toBitVec.toNat &&& (511 <<< 55) = 0 := by
    rw [← q]
    constructor
    · intro h; rw [h]; rfl
    · intro h; apply Int64.toBitVec_inj.mp; apply BitVec.eq_of_toNat_eq; rw [h]; rfl
  rw [z]
  have hlt := u.toBitVec.isLt
  generalize u.toBitVec.toNat = n at *
  constructor
  · intro h
    apply Nat.lt_pow_two_of_testBit
    intro i hi
    by_cases g : i < 64
    · have t : (n &&& (511 <<< 55)).testBit i = false := by rw [h]; exact Nat.zero_testBit i
      rw [Nat.testBit_and] at t
      have m : (511 <<< 55 : Nat).testBit i = true := by
        rw [Nat.testBit_shiftLeft]
        simp only [ge_iff_le, hi, decide_true, Bool.true_and]
        have : i - 55 < 9 := by omega
        rw [show (511 : Nat) = 2 ^ 9 - 1 from rfl, Nat.testBit_two_pow_sub_one]
        exact decide_eq_true this
      rw [m, Bool.and_true] at t; exact t
    · exact Nat.testBit_lt_two_pow (Nat.lt_of_lt_of_le hlt (Nat.pow_le_pow_right (by decide) (by omega)))
  · intro h
    apply Nat.eq_of_testBit_eq
    intro i
    rw [Nat.testBit_and, Nat.zero_testBit]
    by_cases g : i < 55
    · have m : (511 <<< 55 : Nat).testBit i = false := by
        rw [Nat.testBit_shiftLeft]
        have : ¬ 55 ≤ i := by omega
        simp [this]
      rw [m, Bool.and_false]
    · rw [Nat.testBit_lt_two_pow (Nat.lt_of_lt_of_le h (Nat.pow_le_pow_right (by decide) (by omega))), Bool.false_and]
theorem own_shr (r : Int64) (k : Int32) {K : Nat} (hk : (k &&& 0x3f).toInt64.toUInt64.toNat % 64 = K) : ((r.toUInt64 >>> (k &&& 0x3f).toInt64.toUInt64).toInt64).toBitVec.toNat = r.toBitVec.toNat / 2 ^ K := by
  show (r.toUInt64 >>> (k &&& 0x3f).toInt64.toUInt64).toNat = _
  rw [UInt64.toNat_shiftRight, hk, Nat.shiftRight_eq_div_pow]; rfl
theorem own_holds_iff (u r : Int64) : own_holds u r = 1 ↔ (u.toBitVec.toNat < 2 ^ 55 ∧ r.toBitVec.toNat < 512) := by
  have q : ((r.toUInt64 >>> ((9 : Int32) &&& 0x3f).toInt64.toUInt64).toInt64) = 0 ↔ r.toBitVec.toNat < 512 := by
    have s := own_shr r 9 (K := 9) (by decide)
    constructor
    · intro h; rw [h] at s
      have : (0 : Int64).toBitVec.toNat = 0 := rfl
      rw [this] at s; omega
    · intro h; apply Int64.toBitVec_inj.mp; apply BitVec.eq_of_toNat_eq; rw [s]
      have : (0 : Int64).toBitVec.toNat = 0 := rfl
      rw [this]; omega
  unfold own_holds
  by_cases g : (u &&& (-36028797018963968 : Int64)) = 0 ∧ ((r.toUInt64 >>> ((9 : Int32) &&& 0x3f).toInt64.toUInt64).toInt64) = 0
  · rw [if_pos g]; exact ⟨fun _ => ⟨(own_mask u).mp g.1, q.mp g.2⟩, fun _ => rfl⟩
  · rw [if_neg g]; exact ⟨fun z => absurd z (by decide), fun z => absurd ⟨(own_mask u).mpr z.1, q.mpr z.2⟩ g⟩
theorem own_holds_t {u r : Int64} (h1 : ¬ u < (0 : Int64)) (h2 : u < (36028797018963968 : Int64)) (h3 : ¬ r < (0 : Int64)) (h4 : r < (512 : Int64)) : own_holds u r = (1 : Int32) :=
  (own_holds_iff u r).mpr ⟨(own_small (K := 2 ^ 55) rfl (by decide)).mp ⟨h1, h2⟩, (own_small (K := 512) rfl (by decide)).mp ⟨h3, h4⟩⟩
theorem own_holds_f {u r : Int64} (h : ¬ (¬ u < (0 : Int64) ∧ u < (36028797018963968 : Int64) ∧ ¬ r < (0 : Int64) ∧ r < (512 : Int64))) : own_holds u r = (0 : Int32) := by
  have q : ¬ own_holds u r = 1 := fun q => by
    obtain ⟨a, b⟩ := (own_holds_iff u r).mp q
    obtain ⟨c, d⟩ := (own_small (k := (36028797018963968 : Int64)) (K := 2 ^ 55) rfl (by decide)).mpr a
    obtain ⟨c', d'⟩ := (own_small (k := (512 : Int64)) (K := 512) rfl (by decide)).mpr b
    exact h ⟨c, d, c', d'⟩
  unfold own_holds at q ⊢
  split
  · rename_i g; rw [if_pos g] at q; exact absurd rfl q
  · rfl
theorem own_word_nat {u r : Int64} (hu : u.toBitVec.toNat < 2 ^ 55) (hr : r.toBitVec.toNat < 512) : (own_word u r).toBitVec.toNat = r.toBitVec.toNat * 2 ^ 55 + u.toBitVec.toNat := by
  unfold own_word
  rw [Int64.toBitVec_or, BitVec.toNat_or]
  have e : (r <<< ((55 : Int32) &&& 0x3f).toInt64).toBitVec.toNat = r.toBitVec.toNat <<< 55 := by
    rw [Int64.toBitVec_shiftLeft]
    have k : (((55 : Int32) &&& 0x3f).toInt64.toBitVec.smod 64) = 55#64 := by decide
    rw [k, BitVec.shiftLeft_eq', BitVec.toNat_shiftLeft]
    have : (55#64).toNat = 55 := rfl
    rw [this, Nat.shiftLeft_eq, Nat.mod_eq_of_lt]; omega
  rw [e, ← Nat.shiftLeft_add_eq_or_of_lt hu, Nat.shiftLeft_eq]
theorem own_base_of {u r : Int64} (h1 : ¬ u < (0 : Int64)) (h2 : u < (36028797018963968 : Int64)) (h3 : ¬ r < (0 : Int64)) (h4 : r < (512 : Int64)) : own_base (own_word u r) = u := by
  have hu := (own_small (K := 2 ^ 55) rfl (by decide)).mp ⟨h1, h2⟩
  have hr := (own_small (K := 512) rfl (by decide)).mp ⟨h3, h4⟩
  apply Int64.toBitVec_inj.mp; apply BitVec.eq_of_toNat_eq
  unfold own_base
  rw [Int64.toBitVec_and, BitVec.toNat_and, own_word_nat hu hr]
  show (_ &&& (2 ^ 55 - 1)) = _
  rw [Nat.and_two_pow_sub_one_eq_mod]; omega
theorem own_high_of {u r : Int64} (h1 : ¬ u < (0 : Int64)) (h2 : u < (36028797018963968 : Int64)) (h3 : ¬ r < (0 : Int64)) (h4 : r < (512 : Int64)) : own_high (own_word u r) = r := by
  have hu := (own_small (K := 2 ^ 55) rfl (by decide)).mp ⟨h1, h2⟩
  have hr := (own_small (K := 512) rfl (by decide)).mp ⟨h3, h4⟩
  apply Int64.toBitVec_inj.mp; apply BitVec.eq_of_toNat_eq
  unfold own_high
  rw [own_shr (own_word u r) 55 (K := 55) (by decide), own_word_nat hu hr]
  omega
theorem pn_pn_1 : plainName "tidegate/pacing/PackedPlace" = true := by first | (simp [plainName, overriddenIn]; done) | decide +kernel
theorem pn_1 : plainFor (⟨"tidegate/pacing/PackedPlace", "holds", "(JJ)Z"⟩ : MethodName) = true := plainFor_of_name pn_pn_1
theorem d1_0 : decode prog_94_method_2_code 0 = .ok (.lload_n 0, 1) := by decide +kernel
theorem d1_1 : decode prog_94_method_2_code 1 = .ok (.ldc2_w 11, 3) := by decide +kernel
theorem d1_4 : decode prog_94_method_2_code 4 = .ok (.land, 1) := by decide +kernel
theorem d1_5 : decode prog_94_method_2_code 5 = .ok (.lconst 0, 1) := by decide +kernel
theorem d1_6 : decode prog_94_method_2_code 6 = .ok (.lcmp, 1) := by decide +kernel
theorem d1_7 : decode prog_94_method_2_code 7 = .ok (.ifCond .ne 16, 3) := by decide +kernel
theorem d1_10 : decode prog_94_method_2_code 10 = .ok (.lload_n 2, 1) := by decide +kernel
theorem d1_11 : decode prog_94_method_2_code 11 = .ok (.bipush 9, 2) := by decide +kernel
theorem d1_13 : decode prog_94_method_2_code 13 = .ok (.lushr, 1) := by decide +kernel
theorem d1_14 : decode prog_94_method_2_code 14 = .ok (.lconst 0, 1) := by decide +kernel
theorem d1_15 : decode prog_94_method_2_code 15 = .ok (.lcmp, 1) := by decide +kernel
theorem d1_16 : decode prog_94_method_2_code 16 = .ok (.ifCond .ne 7, 3) := by decide +kernel
theorem d1_19 : decode prog_94_method_2_code 19 = .ok (.iconst 1, 1) := by decide +kernel
theorem d1_20 : decode prog_94_method_2_code 20 = .ok (.goto 4, 3) := by decide +kernel
theorem d1_24 : decode prog_94_method_2_code 24 = .ok (.ireturn, 1) := by decide +kernel
theorem d1_23 : decode prog_94_method_2_code 23 = .ok (.iconst 0, 1) := by decide +kernel
theorem ef_rm1 (m : MethodId) (x0 : Int64) (x1 : Int64) : entryFrame m #[(.long x0), (.long x1)] 4 = mkF m 0 #[.val (.long x0), .second, .val (.long x1), .second] [] := by first | (simp [entryFrame, mkF, argsToLocals, Value.category]; done) | rfl
def Q_rm1 (Z : State) (u r : Int64) (h0 : Heap) (n0 : Nat) (v : Option Value) (h : Heap) (L : List Loc) : Prop := v = some (.int (own_holds u r)) ∧ Fr n0 L ∧ h = h0
set_option maxRecDepth 65536 in
set_option maxHeartbeats 40000000 in
theorem rm1 (l : Launch) (Z : State) (a0 : Array Value) (hw : ∀ d ∈ tables_1, d.before a0 Z = true) (u r : Int64) (h0 : Heap) (n0 : Nat) (Z0 : n0 ≤ h0.size)  :
    OwnMet l (⟨"tidegate/pacing/PackedPlace", "holds", "(JJ)Z"⟩ : MethodName) prog_94_method_2_code 4 (some .boolean) [] ({ frames := 0, cells := 0, slots := 0, locals := 0 } : Room) Z #[(.long u), (.long r)] h0 (Q_rm1 Z u r h0 n0) := by
  refine own_met pn_1 (fun p e s m below meth c s₁ hx hby hml hown hnm hret hlk hZ X0 e0 => ?_)
  have hown : s.vm.findClass "tidegate/pacing/PackedPlace" = some m.cls := hown
  have N0 := Fr.nil n0
  rw [ef_rm1]
  show OwnWk _ _ _ _ (s₁.setTop (mkF m 0 #[.val (.long u), .second, .val (.long r), .second] []))
  refine own_go (fun t k => XS.lloadN X0.here hx rfl (hb hby d1_0) rfl  k) ?_
  show OwnWk _ _ _ _ (s₁.setTop (mkF m 1 #[.val (.long u), .second, .val (.long r), .second] [(.long u)]))
  refine own_go (X0.ldc2Long hx hown (mvT hZ (hw _ (List.mem_of_getElem? (i := 6) rfl))) (g := (mkF m 1 #[.val (.long u), .second, .val (.long r), .second] [(.long u)])) rfl (hb hby d1_1)) ?_
  show OwnWk _ _ _ _ (s₁.setTop (mkF m 4 #[.val (.long u), .second, .val (.long r), .second] [(.long (-36028797018963968 : Int64)), (.long u)]))
  refine own_go (fun t k => XS.land X0.here hx rfl (hb hby d1_4) rfl k) ?_
  show OwnWk _ _ _ _ (s₁.setTop (mkF m 5 #[.val (.long u), .second, .val (.long r), .second] [(.long (u &&& (-36028797018963968 : Int64)))]))
  refine own_go (fun t k => XS.lconst X0.here hx rfl (hb hby d1_5) k) ?_
  show OwnWk _ _ _ _ (s₁.setTop (mkF m 6 #[.val (.long u), .second, .val (.long r), .second] [(.long (0 : Int64)), (.long (u &&& (-36028797018963968 : Int64)))]))
  refine own_go (fun t k => XS.lcmp X0.here hx rfl (hb hby d1_6) rfl k) ?_
  show OwnWk _ _ _ _ (s₁.setTop (mkF m 7 #[.val (.long u), .second, .val (.long r), .second] [(.int (lcmpW (u &&& (-36028797018963968 : Int64)) (0 : Int64)))]))
  by_cases hc1 : (u &&& (-36028797018963968 : Int64)) = (0 : Int64)
  ·
    refine own_go (fun t k => XS.ifNo X0.here hx rfl (hb hby d1_7) rfl ((if0 _ _).trans (teq (own_lc_eq.mpr hc1)).2) k) ?_
    show OwnWk _ _ _ _ (s₁.setTop (mkF m 10 #[.val (.long u), .second, .val (.long r), .second] []))
    refine own_go (fun t k => XS.lloadN X0.here hx rfl (hb hby d1_10) rfl  k) ?_
    show OwnWk _ _ _ _ (s₁.setTop (mkF m 11 #[.val (.long u), .second, .val (.long r), .second] [(.long r)]))
    refine own_go (fun t k => XS.bipush X0.here hx rfl (hb hby d1_11) k) ?_
    show OwnWk _ _ _ _ (s₁.setTop (mkF m 13 #[.val (.long u), .second, .val (.long r), .second] [(.int (9 : Int32)), (.long r)]))
    refine own_go (fun t k => XS.lushr X0.here hx rfl (hb hby d1_13) rfl k) ?_
    show OwnWk _ _ _ _ (s₁.setTop (mkF m 14 #[.val (.long u), .second, .val (.long r), .second] [(.long ((r.toUInt64 >>> ((9 : Int32) &&& 0x3f).toInt64.toUInt64).toInt64))]))
    refine own_go (fun t k => XS.lconst X0.here hx rfl (hb hby d1_14) k) ?_
    show OwnWk _ _ _ _ (s₁.setTop (mkF m 15 #[.val (.long u), .second, .val (.long r), .second] [(.long (0 : Int64)), (.long ((r.toUInt64 >>> ((9 : Int32) &&& 0x3f).toInt64.toUInt64).toInt64))]))
    refine own_go (fun t k => XS.lcmp X0.here hx rfl (hb hby d1_15) rfl k) ?_
    show OwnWk _ _ _ _ (s₁.setTop (mkF m 16 #[.val (.long u), .second, .val (.long r), .second] [(.int (lcmpW ((r.toUInt64 >>> ((9 : Int32) &&& 0x3f).toInt64.toUInt64).toInt64) (0 : Int64)))]))
    by_cases hc2 : ((r.toUInt64 >>> ((9 : Int32) &&& 0x3f).toInt64.toUInt64).toInt64) = (0 : Int64)
    ·
      refine own_go (fun t k => XS.ifNo X0.here hx rfl (hb hby d1_16) rfl ((if0 _ _).trans (teq (own_lc_eq.mpr hc2)).2) k) ?_
      show OwnWk _ _ _ _ (s₁.setTop (mkF m 19 #[.val (.long u), .second, .val (.long r), .second] []))
      refine own_go (fun t k => XS.iconst X0.here hx rfl (hb hby d1_19) k) ?_
      show OwnWk _ _ _ _ (s₁.setTop (mkF m 20 #[.val (.long u), .second, .val (.long r), .second] [(.int (1 : Int32))]))
      refine own_go (fun t k => XS.goto X0.here hx rfl (pc0 := 20) (pc' := 24) rfl (hb hby d1_20) (by decide) (by decide) k) ?_
      show OwnWk _ _ _ _ (s₁.setTop (mkF m 24 #[.val (.long u), .second, .val (.long r), .second] [(.int (1 : Int32))]))
      exact own_retZ X0 hx hlk hret (by simp) (z' := (1 : Int32)) rfl (hb hby d1_24) (by decide) (by decide) (by rw [e0]; exact ⟨congrArg (fun z => some (Value.int z)) (if_pos ⟨hc1, hc2⟩).symm, N0, rfl⟩)
    ·
      refine own_go (fun t k => XS.ifYes X0.here hx rfl (pc0 := 16) (pc' := 23) rfl (hb hby d1_16) rfl ((if0 _ _).trans (feq (fun q => hc2 (own_lc_eq.mp q))).2) (by decide) (by decide) k) ?_
      show OwnWk _ _ _ _ (s₁.setTop (mkF m 23 #[.val (.long u), .second, .val (.long r), .second] []))
      refine own_go (fun t k => XS.iconst X0.here hx rfl (hb hby d1_23) k) ?_
      show OwnWk _ _ _ _ (s₁.setTop (mkF m 24 #[.val (.long u), .second, .val (.long r), .second] [(.int (0 : Int32))]))
      exact own_retZ X0 hx hlk hret (by simp) (z' := (0 : Int32)) rfl (hb hby d1_24) (by decide) (by decide) (by rw [e0]; exact ⟨congrArg (fun z => some (Value.int z)) (if_neg (fun q => hc2 q.2)).symm, N0, rfl⟩)
  ·
    refine own_go (fun t k => XS.ifYes X0.here hx rfl (pc0 := 7) (pc' := 23) rfl (hb hby d1_7) rfl ((if0 _ _).trans (feq (fun q => hc1 (own_lc_eq.mp q))).2) (by decide) (by decide) k) ?_
    show OwnWk _ _ _ _ (s₁.setTop (mkF m 23 #[.val (.long u), .second, .val (.long r), .second] []))
    refine own_go (fun t k => XS.iconst X0.here hx rfl (hb hby d1_23) k) ?_
    show OwnWk _ _ _ _ (s₁.setTop (mkF m 24 #[.val (.long u), .second, .val (.long r), .second] [(.int (0 : Int32))]))
    exact own_retZ X0 hx hlk hret (by simp) (z' := (0 : Int32)) rfl (hb hby d1_24) (by decide) (by decide) (by rw [e0]; exact ⟨congrArg (fun z => some (Value.int z)) (if_neg (fun q => hc1 q.1)).symm, N0, rfl⟩)
theorem pn_pn_2 : plainName "tidegate/pacing/PackedPlace" = true := by first | (simp [plainName, overriddenIn]; done) | decide +kernel
theorem pn_2 : plainFor (⟨"tidegate/pacing/PackedPlace", "baseWord", "(JJ)J"⟩ : MethodName) = true := plainFor_of_name pn_pn_2
theorem d2_0 : decode prog_94_method_3_code 0 = .ok (.lload_n 2, 1) := by decide +kernel
theorem d2_1 : decode prog_94_method_3_code 1 = .ok (.bipush 55, 2) := by decide +kernel
theorem d2_3 : decode prog_94_method_3_code 3 = .ok (.lshl, 1) := by decide +kernel
theorem d2_4 : decode prog_94_method_3_code 4 = .ok (.lload_n 0, 1) := by decide +kernel
theorem d2_5 : decode prog_94_method_3_code 5 = .ok (.lor, 1) := by decide +kernel
theorem d2_6 : decode prog_94_method_3_code 6 = .ok (.lreturn, 1) := by decide +kernel
theorem ef_rm2 (m : MethodId) (x0 : Int64) (x1 : Int64) : entryFrame m #[(.long x0), (.long x1)] 4 = mkF m 0 #[.val (.long x0), .second, .val (.long x1), .second] [] := by first | (simp [entryFrame, mkF, argsToLocals, Value.category]; done) | rfl
def Q_rm2 (Z : State) (u r : Int64) (h0 : Heap) (n0 : Nat) (v : Option Value) (h : Heap) (L : List Loc) : Prop := v = some (.long (own_word u r)) ∧ Fr n0 L ∧ h = h0
set_option maxRecDepth 65536 in
set_option maxHeartbeats 40000000 in
theorem rm2 (l : Launch) (Z : State) (a0 : Array Value) (hw : ∀ d ∈ tables_1, d.before a0 Z = true) (u r : Int64) (h0 : Heap) (n0 : Nat) (Z0 : n0 ≤ h0.size)  :
    OwnMet l (⟨"tidegate/pacing/PackedPlace", "baseWord", "(JJ)J"⟩ : MethodName) prog_94_method_3_code 4 (some .long) [] ({ frames := 0, cells := 0, slots := 0, locals := 0 } : Room) Z #[(.long u), (.long r)] h0 (Q_rm2 Z u r h0 n0) := by
  refine own_met pn_2 (fun p e s m below meth c s₁ hx hby hml hown hnm hret hlk hZ X0 e0 => ?_)
  have hown : s.vm.findClass "tidegate/pacing/PackedPlace" = some m.cls := hown
  have N0 := Fr.nil n0
  rw [ef_rm2]
  show OwnWk _ _ _ _ (s₁.setTop (mkF m 0 #[.val (.long u), .second, .val (.long r), .second] []))
  refine own_go (fun t k => XS.lloadN X0.here hx rfl (hb hby d2_0) rfl  k) ?_
  show OwnWk _ _ _ _ (s₁.setTop (mkF m 1 #[.val (.long u), .second, .val (.long r), .second] [(.long r)]))
  refine own_go (fun t k => XS.bipush X0.here hx rfl (hb hby d2_1) k) ?_
  show OwnWk _ _ _ _ (s₁.setTop (mkF m 3 #[.val (.long u), .second, .val (.long r), .second] [(.int (55 : Int32)), (.long r)]))
  refine own_go (fun t k => XS.lshl X0.here hx rfl (hb hby d2_3) rfl k) ?_
  show OwnWk _ _ _ _ (s₁.setTop (mkF m 4 #[.val (.long u), .second, .val (.long r), .second] [(.long (r <<< ((55 : Int32) &&& 0x3f).toInt64))]))
  refine own_go (fun t k => XS.lloadN X0.here hx rfl (hb hby d2_4) rfl  k) ?_
  show OwnWk _ _ _ _ (s₁.setTop (mkF m 5 #[.val (.long u), .second, .val (.long r), .second] [(.long u), (.long (r <<< ((55 : Int32) &&& 0x3f).toInt64))]))
  refine own_go (fun t k => XS.lor X0.here hx rfl (hb hby d2_5) rfl k) ?_
  show OwnWk _ _ _ _ (s₁.setTop (mkF m 6 #[.val (.long u), .second, .val (.long r), .second] [(.long ((r <<< ((55 : Int32) &&& 0x3f).toInt64) ||| u))]))
  exact own_retJ X0 hx hlk hret (hb hby d2_6) (by decide) (by decide) (by rw [e0]; exact ⟨rfl, N0, rfl⟩)
theorem pn_pn_3 : plainName "tidegate/pacing/PackedPlace" = true := by first | (simp [plainName, overriddenIn]; done) | decide +kernel
theorem pn_3 : plainFor (⟨"tidegate/pacing/PackedPlace", "baseOf", "(J)J"⟩ : MethodName) = true := plainFor_of_name pn_pn_3
theorem d3_0 : decode prog_94_method_4_code 0 = .ok (.lload_n 0, 1) := by decide +kernel
theorem d3_1 : decode prog_94_method_4_code 1 = .ok (.ldc2_w 13, 3) := by decide +kernel
theorem d3_4 : decode prog_94_method_4_code 4 = .ok (.land, 1) := by decide +kernel
theorem d3_5 : decode prog_94_method_4_code 5 = .ok (.lreturn, 1) := by decide +kernel
theorem ef_rm3 (m : MethodId) (x0 : Int64) : entryFrame m #[(.long x0)] 2 = mkF m 0 #[.val (.long x0), .second] [] := by first | (simp [entryFrame, mkF, argsToLocals, Value.category]; done) | rfl
def Q_rm3 (Z : State) (u : Int64) (h0 : Heap) (n0 : Nat) (v : Option Value) (h : Heap) (L : List Loc) : Prop := v = some (.long (own_base u)) ∧ Fr n0 L ∧ h = h0
set_option maxRecDepth 65536 in
set_option maxHeartbeats 40000000 in
theorem rm3 (l : Launch) (Z : State) (a0 : Array Value) (hw : ∀ d ∈ tables_1, d.before a0 Z = true) (u : Int64) (h0 : Heap) (n0 : Nat) (Z0 : n0 ≤ h0.size)  :
    OwnMet l (⟨"tidegate/pacing/PackedPlace", "baseOf", "(J)J"⟩ : MethodName) prog_94_method_4_code 2 (some .long) [] ({ frames := 0, cells := 0, slots := 0, locals := 0 } : Room) Z #[(.long u)] h0 (Q_rm3 Z u h0 n0) := by
  refine own_met pn_3 (fun p e s m below meth c s₁ hx hby hml hown hnm hret hlk hZ X0 e0 => ?_)
  have hown : s.vm.findClass "tidegate/pacing/PackedPlace" = some m.cls := hown
  have N0 := Fr.nil n0
  rw [ef_rm3]
  show OwnWk _ _ _ _ (s₁.setTop (mkF m 0 #[.val (.long u), .second] []))
  refine own_go (fun t k => XS.lloadN X0.here hx rfl (hb hby d3_0) rfl  k) ?_
  show OwnWk _ _ _ _ (s₁.setTop (mkF m 1 #[.val (.long u), .second] [(.long u)]))
  refine own_go (X0.ldc2Long hx hown (mvT hZ (hw _ (List.mem_of_getElem? (i := 13) rfl))) (g := (mkF m 1 #[.val (.long u), .second] [(.long u)])) rfl (hb hby d3_1)) ?_
  show OwnWk _ _ _ _ (s₁.setTop (mkF m 4 #[.val (.long u), .second] [(.long (36028797018963967 : Int64)), (.long u)]))
  refine own_go (fun t k => XS.land X0.here hx rfl (hb hby d3_4) rfl k) ?_
  show OwnWk _ _ _ _ (s₁.setTop (mkF m 5 #[.val (.long u), .second] [(.long (u &&& (36028797018963967 : Int64)))]))
  exact own_retJ X0 hx hlk hret (hb hby d3_5) (by decide) (by decide) (by rw [e0]; exact ⟨rfl, N0, rfl⟩)
theorem pn_pn_4 : plainName "tidegate/pacing/PackedPlace" = true := by first | (simp [plainName, overriddenIn]; done) | decide +kernel
theorem pn_4 : plainFor (⟨"tidegate/pacing/PackedPlace", "highCountOf", "(J)J"⟩ : MethodName) = true := plainFor_of_name pn_pn_4
theorem d4_0 : decode prog_94_method_5_code 0 = .ok (.lload_n 0, 1) := by decide +kernel
theorem d4_1 : decode prog_94_method_5_code 1 = .ok (.bipush 55, 2) := by decide +kernel
theorem d4_3 : decode prog_94_method_5_code 3 = .ok (.lushr, 1) := by decide +kernel
theorem d4_4 : decode prog_94_method_5_code 4 = .ok (.lreturn, 1) := by decide +kernel
theorem ef_rm4 (m : MethodId) (x0 : Int64) : entryFrame m #[(.long x0)] 2 = mkF m 0 #[.val (.long x0), .second] [] := by first | (simp [entryFrame, mkF, argsToLocals, Value.category]; done) | rfl
def Q_rm4 (Z : State) (u : Int64) (h0 : Heap) (n0 : Nat) (v : Option Value) (h : Heap) (L : List Loc) : Prop := v = some (.long (own_high u)) ∧ Fr n0 L ∧ h = h0
set_option maxRecDepth 65536 in
set_option maxHeartbeats 40000000 in
theorem rm4 (l : Launch) (Z : State) (a0 : Array Value) (hw : ∀ d ∈ tables_1, d.before a0 Z = true) (u : Int64) (h0 : Heap) (n0 : Nat) (Z0 : n0 ≤ h0.size)  :
    OwnMet l (⟨"tidegate/pacing/PackedPlace", "highCountOf", "(J)J"⟩ : MethodName) prog_94_method_5_code 2 (some .long) [] ({ frames := 0, cells := 0, slots := 0, locals := 0 } : Room) Z #[(.long u)] h0 (Q_rm4 Z u h0 n0) := by
  refine own_met pn_4 (fun p e s m below meth c s₁ hx hby hml hown hnm hret hlk hZ X0 e0 => ?_)
  have hown : s.vm.findClass "tidegate/pacing/PackedPlace" = some m.cls := hown
  have N0 := Fr.nil n0
  rw [ef_rm4]
  show OwnWk _ _ _ _ (s₁.setTop (mkF m 0 #[.val (.long u), .second] []))
  refine own_go (fun t k => XS.lloadN X0.here hx rfl (hb hby d4_0) rfl  k) ?_
  show OwnWk _ _ _ _ (s₁.setTop (mkF m 1 #[.val (.long u), .second] [(.long u)]))
  refine own_go (fun t k => XS.bipush X0.here hx rfl (hb hby d4_1) k) ?_
  show OwnWk _ _ _ _ (s₁.setTop (mkF m 3 #[.val (.long u), .second] [(.int (55 : Int32)), (.long u)]))
  refine own_go (fun t k => XS.lushr X0.here hx rfl (hb hby d4_3) rfl k) ?_
  show OwnWk _ _ _ _ (s₁.setTop (mkF m 4 #[.val (.long u), .second] [(.long ((u.toUInt64 >>> ((55 : Int32) &&& 0x3f).toInt64.toUInt64).toInt64))]))
  exact own_retJ X0 hx hlk hret (hb hby d4_4) (by decide) (by decide) (by rw [e0]; exact ⟨rfl, N0, rfl⟩)
theorem pn_pn_0 : plainName "tidegate/pacing/PackedPlaceHoldsPinLaw" = true := by first | (simp [plainName, overriddenIn]; done) | decide +kernel
theorem pn_0 : plainFor x = true := plainFor_of_name pn_pn_0
theorem pd_0 : parseMethodDescriptor "(JJ)Z" = some ⟨[.long, .long], some .boolean⟩ := by decide +kernel
theorem pd_1 : parseMethodDescriptor "(JJ)J" = some ⟨[.long, .long], some .long⟩ := by decide +kernel
theorem pd_2 : parseMethodDescriptor "(J)J" = some ⟨[.long], some .long⟩ := by decide +kernel
theorem ef_rm0 (m : MethodId) (x0 : Int64) (x1 : Int64) (x2 : Int32) (x3 : Int32) : entryFrame m #[(.long x0), (.long x1), (.int x2), (.int x3)] maxLocals = mkF m 0 #[.val (.long x0), .second, .val (.long x1), .second, .val (.int x2), .val (.int x3), .unset, .unset, .unset, .unset, .unset, .unset, .unset, .unset] [] := by first | (simp [entryFrame, mkF, argsToLocals, Value.category, maxLocals]; done) | rfl
def Q_rm0 (Z : State) (u r : Int64) (k1 j1 : Int32) (h0 : Heap) (n0 : Nat) (v : Option Value) (h : Heap) (L : List Loc) : Prop := v = some (.int 1) ∧ Fr n0 L
set_option maxRecDepth 65536 in
set_option maxHeartbeats 40000000 in
theorem rm0 (l : Launch) (Z : State) (a0 : Array Value) (hw : ∀ d ∈ tables_1, d.before a0 Z = true) (u r : Int64) (k1 j1 : Int32) (h0 : Heap) (n0 : Nat) (Z0 : n0 ≤ h0.size)  :
    OwnMet l x code maxLocals ret tables_1 room_1 Z #[(.long u), (.long r), (.int k1), (.int j1)] h0 (Q_rm0 Z u r k1 j1 h0 n0) := by
  refine own_met pn_0 (fun p e s m below meth c s₁ hx hby hml hown hnm hret hlk hZ X0 e0 => ?_)
  have hml : c.maxLocals = 14 := hml
  have hret : meth.sig.returnType = some .boolean := hret
  have hown : s.vm.findClass "tidegate/pacing/PackedPlaceHoldsPinLaw" = some m.cls := hown
  have N0 := Fr.nil n0
  rw [ef_rm0]
  show OwnWk _ _ _ _ (s₁.setTop (mkF m 0 #[.val (.long u), .second, .val (.long r), .second, .val (.int k1), .val (.int j1), .unset, .unset, .unset, .unset, .unset, .unset, .unset, .unset] []))
  refine own_go (fun t k => XS.lloadN X0.here hx rfl (hb hby at_0) rfl  k) ?_
  show OwnWk _ _ _ _ (s₁.setTop (mkF m 1 #[.val (.long u), .second, .val (.long r), .second, .val (.int k1), .val (.int j1), .unset, .unset, .unset, .unset, .unset, .unset, .unset, .unset] [(.long u)]))
  refine own_go (fun t k => XS.iload X0.here hx rfl (hb hby at_1) rfl  k) ?_
  show OwnWk _ _ _ _ (s₁.setTop (mkF m 3 #[.val (.long u), .second, .val (.long r), .second, .val (.int k1), .val (.int j1), .unset, .unset, .unset, .unset, .unset, .unset, .unset, .unset] [(.int k1), (.long u)]))
  refine own_go (fun t k => XS.bipush X0.here hx rfl (hb hby at_3) k) ?_
  show OwnWk _ _ _ _ (s₁.setTop (mkF m 5 #[.val (.long u), .second, .val (.long r), .second, .val (.int k1), .val (.int j1), .unset, .unset, .unset, .unset, .unset, .unset, .unset, .unset] [(.int (63 : Int32)), (.int k1), (.long u)]))
  refine own_go (fun t k => XS.iand X0.here hx rfl (hb hby at_5) rfl k) ?_
  show OwnWk _ _ _ _ (s₁.setTop (mkF m 6 #[.val (.long u), .second, .val (.long r), .second, .val (.int k1), .val (.int j1), .unset, .unset, .unset, .unset, .unset, .unset, .unset, .unset] [(.int (k1 &&& (63 : Int32))), (.long u)]))
  refine own_go (fun t k => XS.lshr X0.here hx rfl (hb hby at_6) rfl k) ?_
  show OwnWk _ _ _ _ (s₁.setTop (mkF m 7 #[.val (.long u), .second, .val (.long r), .second, .val (.int k1), .val (.int j1), .unset, .unset, .unset, .unset, .unset, .unset, .unset, .unset] [(.long (u >>> ((k1 &&& (63 : Int32)) &&& 0x3f).toInt64))]))
  obtain ⟨bb, h_bb⟩ : ∃ z : Int64, z = (u >>> ((k1 &&& (63 : Int32)) &&& 0x3f).toInt64) := ⟨_, rfl⟩
  rw [← h_bb]
  refine own_go (fun t k => XS.lstore X0.here hx rfl (hb hby at_7) rfl (l' := #[.val (.long u), .second, .val (.long r), .second, .val (.int k1), .val (.int j1), .val (.long bb), .second, .unset, .unset, .unset, .unset, .unset, .unset]) rfl k) ?_
  show OwnWk _ _ _ _ (s₁.setTop (mkF m 9 #[.val (.long u), .second, .val (.long r), .second, .val (.int k1), .val (.int j1), .val (.long bb), .second, .unset, .unset, .unset, .unset, .unset, .unset] []))
  refine own_go (fun t k => XS.lloadN X0.here hx rfl (hb hby at_9) rfl  k) ?_
  show OwnWk _ _ _ _ (s₁.setTop (mkF m 10 #[.val (.long u), .second, .val (.long r), .second, .val (.int k1), .val (.int j1), .val (.long bb), .second, .unset, .unset, .unset, .unset, .unset, .unset] [(.long r)]))
  refine own_go (fun t k => XS.iload X0.here hx rfl (hb hby at_10) rfl  k) ?_
  show OwnWk _ _ _ _ (s₁.setTop (mkF m 12 #[.val (.long u), .second, .val (.long r), .second, .val (.int k1), .val (.int j1), .val (.long bb), .second, .unset, .unset, .unset, .unset, .unset, .unset] [(.int j1), (.long r)]))
  refine own_go (fun t k => XS.bipush X0.here hx rfl (hb hby at_12) k) ?_
  show OwnWk _ _ _ _ (s₁.setTop (mkF m 14 #[.val (.long u), .second, .val (.long r), .second, .val (.int k1), .val (.int j1), .val (.long bb), .second, .unset, .unset, .unset, .unset, .unset, .unset] [(.int (63 : Int32)), (.int j1), (.long r)]))
  refine own_go (fun t k => XS.iand X0.here hx rfl (hb hby at_14) rfl k) ?_
  show OwnWk _ _ _ _ (s₁.setTop (mkF m 15 #[.val (.long u), .second, .val (.long r), .second, .val (.int k1), .val (.int j1), .val (.long bb), .second, .unset, .unset, .unset, .unset, .unset, .unset] [(.int (j1 &&& (63 : Int32))), (.long r)]))
  refine own_go (fun t k => XS.lshr X0.here hx rfl (hb hby at_15) rfl k) ?_
  show OwnWk _ _ _ _ (s₁.setTop (mkF m 16 #[.val (.long u), .second, .val (.long r), .second, .val (.int k1), .val (.int j1), .val (.long bb), .second, .unset, .unset, .unset, .unset, .unset, .unset] [(.long (r >>> ((j1 &&& (63 : Int32)) &&& 0x3f).toInt64))]))
  obtain ⟨hh, h_hh⟩ : ∃ z : Int64, z = (r >>> ((j1 &&& (63 : Int32)) &&& 0x3f).toInt64) := ⟨_, rfl⟩
  rw [← h_hh]
  refine own_go (fun t k => XS.lstore X0.here hx rfl (hb hby at_16) rfl (l' := #[.val (.long u), .second, .val (.long r), .second, .val (.int k1), .val (.int j1), .val (.long bb), .second, .val (.long hh), .second, .unset, .unset, .unset, .unset]) rfl k) ?_
  show OwnWk _ _ _ _ (s₁.setTop (mkF m 18 #[.val (.long u), .second, .val (.long r), .second, .val (.int k1), .val (.int j1), .val (.long bb), .second, .val (.long hh), .second, .unset, .unset, .unset, .unset] []))
  refine own_go (fun t k => XS.lload X0.here hx rfl (hb hby at_18) rfl  k) ?_
  show OwnWk _ _ _ _ (s₁.setTop (mkF m 20 #[.val (.long u), .second, .val (.long r), .second, .val (.int k1), .val (.int j1), .val (.long bb), .second, .val (.long hh), .second, .unset, .unset, .unset, .unset] [(.long bb)]))
  refine own_go (fun t k => XS.lconst X0.here hx rfl (hb hby at_20) k) ?_
  show OwnWk _ _ _ _ (s₁.setTop (mkF m 21 #[.val (.long u), .second, .val (.long r), .second, .val (.int k1), .val (.int j1), .val (.long bb), .second, .val (.long hh), .second, .unset, .unset, .unset, .unset] [(.long (0 : Int64)), (.long bb)]))
  refine own_go (fun t k => XS.lcmp X0.here hx rfl (hb hby at_21) rfl k) ?_
  show OwnWk _ _ _ _ (s₁.setTop (mkF m 22 #[.val (.long u), .second, .val (.long r), .second, .val (.int k1), .val (.int j1), .val (.long bb), .second, .val (.long hh), .second, .unset, .unset, .unset, .unset] [(.int (lcmpW bb (0 : Int64)))]))
  by_cases hc1 : bb < (0 : Int64)
  ·
    refine own_go (fun t k => XS.ifYes X0.here hx rfl (pc0 := 22) (pc' := 54) rfl (hb hby at_22) rfl ((if0 _ _).trans (tlt (own_lc_lt.mpr hc1)).1) (by decide) (by decide) k) ?_
    show OwnWk _ _ _ _ (s₁.setTop (mkF m 54 #[.val (.long u), .second, .val (.long r), .second, .val (.int k1), .val (.int j1), .val (.long bb), .second, .val (.long hh), .second, .unset, .unset, .unset, .unset] []))
    refine own_go (fun t k => XS.iconst X0.here hx rfl (hb hby at_54) k) ?_
    show OwnWk _ _ _ _ (s₁.setTop (mkF m 55 #[.val (.long u), .second, .val (.long r), .second, .val (.int k1), .val (.int j1), .val (.long bb), .second, .val (.long hh), .second, .unset, .unset, .unset, .unset] [(.int (0 : Int32))]))
    refine own_go (fun t k => XS.istore X0.here hx rfl (hb hby at_55) rfl (l' := #[.val (.long u), .second, .val (.long r), .second, .val (.int k1), .val (.int j1), .val (.long bb), .second, .val (.long hh), .second, .val (.int (0 : Int32)), .unset, .unset, .unset]) rfl k) ?_
    show OwnWk _ _ _ _ (s₁.setTop (mkF m 57 #[.val (.long u), .second, .val (.long r), .second, .val (.int k1), .val (.int j1), .val (.long bb), .second, .val (.long hh), .second, .val (.int (0 : Int32)), .unset, .unset, .unset] []))
    refine own_go (fun t k => XS.lload X0.here hx rfl (hb hby at_57) rfl  k) ?_
    show OwnWk _ _ _ _ (s₁.setTop (mkF m 59 #[.val (.long u), .second, .val (.long r), .second, .val (.int k1), .val (.int j1), .val (.long bb), .second, .val (.long hh), .second, .val (.int (0 : Int32)), .unset, .unset, .unset] [(.long bb)]))
    refine own_go (fun t k => XS.lload X0.here hx rfl (hb hby at_59) rfl  k) ?_
    show OwnWk _ _ _ _ (s₁.setTop (mkF m 61 #[.val (.long u), .second, .val (.long r), .second, .val (.int k1), .val (.int j1), .val (.long bb), .second, .val (.long hh), .second, .val (.int (0 : Int32)), .unset, .unset, .unset] [(.long hh), (.long bb)]))
    refine own_callS X0 hx hZ (y := (⟨"tidegate/pacing/PackedPlace", "holds", "(JJ)Z"⟩ : MethodName)) hown (hw _ (List.mem_of_getElem? (i := 2) rfl)) (hw _ (List.mem_of_getElem? (i := 3) rfl)) (hw _ (List.mem_of_getElem? (i := 4) rfl)) (hw _ (List.mem_of_getElem? (i := 5) rfl)) (by decide) (argsL := [(.long bb), (.long hh)]) (rest := []) (rm := ({ frames := 0, cells := 0, slots := 0, locals := 0 } : Room)) (h := h0) (rm1 l Z a0 hw bb hh h0 n0 Z0) e0 (W := 0) (by decide) (by decide) (by decide) (by decide) (g := (mkF m 61 #[.val (.long u), .second, .val (.long r), .second, .val (.int k1), .val (.int j1), .val (.long bb), .second, .val (.long hh), .second, .val (.int (0 : Int32)), .unset, .unset, .unset] [(.long hh), (.long bb)])) rfl (by rw [hml]; rfl) (lenOf pd_0 rfl) rfl (by show 2 * 0 + _ ≤ _; exact Nat.le_of_eq rfl) (hb hby at_61) (fun v2 T2 h2 L2 X2 e2 hQ2 => ?_)
    obtain ⟨rfl, Nq2, q2⟩ := hQ2
    have N2 := Fr.app N0 Nq2
    rw [q2] at e2
    show OwnWk _ _ _ _ (T2.setTop (mkF m 64 #[.val (.long u), .second, .val (.long r), .second, .val (.int k1), .val (.int j1), .val (.long bb), .second, .val (.long hh), .second, .val (.int (0 : Int32)), .unset, .unset, .unset] [(.int (own_holds bb hh))]))
    refine own_go (fun t k => XS.istore X2.here hx rfl (hb hby at_64) rfl (l' := #[.val (.long u), .second, .val (.long r), .second, .val (.int k1), .val (.int j1), .val (.long bb), .second, .val (.long hh), .second, .val (.int (0 : Int32)), .val (.int (own_holds bb hh)), .unset, .unset]) rfl k) ?_
    show OwnWk _ _ _ _ (T2.setTop (mkF m 66 #[.val (.long u), .second, .val (.long r), .second, .val (.int k1), .val (.int j1), .val (.long bb), .second, .val (.long hh), .second, .val (.int (0 : Int32)), .val (.int (own_holds bb hh)), .unset, .unset] []))
    refine own_go (fun t k => XS.iload X2.here hx rfl (hb hby at_66) rfl  k) ?_
    show OwnWk _ _ _ _ (T2.setTop (mkF m 68 #[.val (.long u), .second, .val (.long r), .second, .val (.int k1), .val (.int j1), .val (.long bb), .second, .val (.long hh), .second, .val (.int (0 : Int32)), .val (.int (own_holds bb hh)), .unset, .unset] [(.int (own_holds bb hh))]))
    refine own_go (fun t k => XS.iload X2.here hx rfl (hb hby at_68) rfl  k) ?_
    show OwnWk _ _ _ _ (T2.setTop (mkF m 70 #[.val (.long u), .second, .val (.long r), .second, .val (.int k1), .val (.int j1), .val (.long bb), .second, .val (.long hh), .second, .val (.int (0 : Int32)), .val (.int (own_holds bb hh)), .unset, .unset] [(.int (0 : Int32)), (.int (own_holds bb hh))]))
    refine own_go (fun t k => XS.icmpYes X2.here hx rfl (pc0 := 70) (pc' := 75) rfl (hb hby at_70) rfl (teq (own_holds_f (fun q => q.1 hc1))).1 (by decide) (by decide) k) ?_
    show OwnWk _ _ _ _ (T2.setTop (mkF m 75 #[.val (.long u), .second, .val (.long r), .second, .val (.int k1), .val (.int j1), .val (.long bb), .second, .val (.long hh), .second, .val (.int (0 : Int32)), .val (.int (own_holds bb hh)), .unset, .unset] []))
    refine own_go (fun t k => XS.iload X2.here hx rfl (hb hby at_75) rfl  k) ?_
    show OwnWk _ _ _ _ (T2.setTop (mkF m 77 #[.val (.long u), .second, .val (.long r), .second, .val (.int k1), .val (.int j1), .val (.long bb), .second, .val (.long hh), .second, .val (.int (0 : Int32)), .val (.int (own_holds bb hh)), .unset, .unset] [(.int (0 : Int32))]))
    refine own_go (fun t k => XS.ifNo X2.here hx rfl (hb hby at_77) rfl ((if0 _ _).trans (teq (by decide : (0 : Int32) = (0 : Int32))).2) k) ?_
    show OwnWk _ _ _ _ (T2.setTop (mkF m 80 #[.val (.long u), .second, .val (.long r), .second, .val (.int k1), .val (.int j1), .val (.long bb), .second, .val (.long hh), .second, .val (.int (0 : Int32)), .val (.int (own_holds bb hh)), .unset, .unset] []))
    refine own_go (fun t k => XS.iconst X2.here hx rfl (hb hby at_80) k) ?_
    show OwnWk _ _ _ _ (T2.setTop (mkF m 81 #[.val (.long u), .second, .val (.long r), .second, .val (.int k1), .val (.int j1), .val (.long bb), .second, .val (.long hh), .second, .val (.int (0 : Int32)), .val (.int (own_holds bb hh)), .unset, .unset] [(.int (1 : Int32))]))
    exact own_retZ X2 hx hlk hret (by simp) (z' := (1 : Int32)) rfl (hb hby at_81) (by decide) (by decide) (by rw [e2]; exact ⟨rfl, N2⟩)
  ·
    refine own_go (fun t k => XS.ifNo X0.here hx rfl (hb hby at_22) rfl ((if0 _ _).trans (flt (fun q => hc1 (own_lc_lt.mp q))).1) k) ?_
    show OwnWk _ _ _ _ (s₁.setTop (mkF m 25 #[.val (.long u), .second, .val (.long r), .second, .val (.int k1), .val (.int j1), .val (.long bb), .second, .val (.long hh), .second, .unset, .unset, .unset, .unset] []))
    refine own_go (fun t k => XS.lload X0.here hx rfl (hb hby at_25) rfl  k) ?_
    show OwnWk _ _ _ _ (s₁.setTop (mkF m 27 #[.val (.long u), .second, .val (.long r), .second, .val (.int k1), .val (.int j1), .val (.long bb), .second, .val (.long hh), .second, .unset, .unset, .unset, .unset] [(.long bb)]))
    refine own_go (X0.ldc2Long hx hown (mvT hZ (hw _ (List.mem_of_getElem? (i := 0) rfl))) (g := (mkF m 27 #[.val (.long u), .second, .val (.long r), .second, .val (.int k1), .val (.int j1), .val (.long bb), .second, .val (.long hh), .second, .unset, .unset, .unset, .unset] [(.long bb)])) rfl (hb hby at_27)) ?_
    show OwnWk _ _ _ _ (s₁.setTop (mkF m 30 #[.val (.long u), .second, .val (.long r), .second, .val (.int k1), .val (.int j1), .val (.long bb), .second, .val (.long hh), .second, .unset, .unset, .unset, .unset] [(.long (36028797018963968 : Int64)), (.long bb)]))
    refine own_go (fun t k => XS.lcmp X0.here hx rfl (hb hby at_30) rfl k) ?_
    show OwnWk _ _ _ _ (s₁.setTop (mkF m 31 #[.val (.long u), .second, .val (.long r), .second, .val (.int k1), .val (.int j1), .val (.long bb), .second, .val (.long hh), .second, .unset, .unset, .unset, .unset] [(.int (lcmpW bb (36028797018963968 : Int64)))]))
    by_cases hc3 : bb < (36028797018963968 : Int64)
    ·
      refine own_go (fun t k => XS.ifNo X0.here hx rfl (hb hby at_31) rfl ((if0 _ _).trans (tlt (own_lc_lt.mpr hc3)).2.1) k) ?_
      show OwnWk _ _ _ _ (s₁.setTop (mkF m 34 #[.val (.long u), .second, .val (.long r), .second, .val (.int k1), .val (.int j1), .val (.long bb), .second, .val (.long hh), .second, .unset, .unset, .unset, .unset] []))
      refine own_go (fun t k => XS.lload X0.here hx rfl (hb hby at_34) rfl  k) ?_
      show OwnWk _ _ _ _ (s₁.setTop (mkF m 36 #[.val (.long u), .second, .val (.long r), .second, .val (.int k1), .val (.int j1), .val (.long bb), .second, .val (.long hh), .second, .unset, .unset, .unset, .unset] [(.long hh)]))
      refine own_go (fun t k => XS.lconst X0.here hx rfl (hb hby at_36) k) ?_
      show OwnWk _ _ _ _ (s₁.setTop (mkF m 37 #[.val (.long u), .second, .val (.long r), .second, .val (.int k1), .val (.int j1), .val (.long bb), .second, .val (.long hh), .second, .unset, .unset, .unset, .unset] [(.long (0 : Int64)), (.long hh)]))
      refine own_go (fun t k => XS.lcmp X0.here hx rfl (hb hby at_37) rfl k) ?_
      show OwnWk _ _ _ _ (s₁.setTop (mkF m 38 #[.val (.long u), .second, .val (.long r), .second, .val (.int k1), .val (.int j1), .val (.long bb), .second, .val (.long hh), .second, .unset, .unset, .unset, .unset] [(.int (lcmpW hh (0 : Int64)))]))
      by_cases hc4 : hh < (0 : Int64)
      ·
        refine own_go (fun t k => XS.ifYes X0.here hx rfl (pc0 := 38) (pc' := 54) rfl (hb hby at_38) rfl ((if0 _ _).trans (tlt (own_lc_lt.mpr hc4)).1) (by decide) (by decide) k) ?_
        show OwnWk _ _ _ _ (s₁.setTop (mkF m 54 #[.val (.long u), .second, .val (.long r), .second, .val (.int k1), .val (.int j1), .val (.long bb), .second, .val (.long hh), .second, .unset, .unset, .unset, .unset] []))
        refine own_go (fun t k => XS.iconst X0.here hx rfl (hb hby at_54) k) ?_
        show OwnWk _ _ _ _ (s₁.setTop (mkF m 55 #[.val (.long u), .second, .val (.long r), .second, .val (.int k1), .val (.int j1), .val (.long bb), .second, .val (.long hh), .second, .unset, .unset, .unset, .unset] [(.int (0 : Int32))]))
        refine own_go (fun t k => XS.istore X0.here hx rfl (hb hby at_55) rfl (l' := #[.val (.long u), .second, .val (.long r), .second, .val (.int k1), .val (.int j1), .val (.long bb), .second, .val (.long hh), .second, .val (.int (0 : Int32)), .unset, .unset, .unset]) rfl k) ?_
        show OwnWk _ _ _ _ (s₁.setTop (mkF m 57 #[.val (.long u), .second, .val (.long r), .second, .val (.int k1), .val (.int j1), .val (.long bb), .second, .val (.long hh), .second, .val (.int (0 : Int32)), .unset, .unset, .unset] []))
        refine own_go (fun t k => XS.lload X0.here hx rfl (hb hby at_57) rfl  k) ?_
        show OwnWk _ _ _ _ (s₁.setTop (mkF m 59 #[.val (.long u), .second, .val (.long r), .second, .val (.int k1), .val (.int j1), .val (.long bb), .second, .val (.long hh), .second, .val (.int (0 : Int32)), .unset, .unset, .unset] [(.long bb)]))
        refine own_go (fun t k => XS.lload X0.here hx rfl (hb hby at_59) rfl  k) ?_
        show OwnWk _ _ _ _ (s₁.setTop (mkF m 61 #[.val (.long u), .second, .val (.long r), .second, .val (.int k1), .val (.int j1), .val (.long bb), .second, .val (.long hh), .second, .val (.int (0 : Int32)), .unset, .unset, .unset] [(.long hh), (.long bb)]))
        refine own_callS X0 hx hZ (y := (⟨"tidegate/pacing/PackedPlace", "holds", "(JJ)Z"⟩ : MethodName)) hown (hw _ (List.mem_of_getElem? (i := 2) rfl)) (hw _ (List.mem_of_getElem? (i := 3) rfl)) (hw _ (List.mem_of_getElem? (i := 4) rfl)) (hw _ (List.mem_of_getElem? (i := 5) rfl)) (by decide) (argsL := [(.long bb), (.long hh)]) (rest := []) (rm := ({ frames := 0, cells := 0, slots := 0, locals := 0 } : Room)) (h := h0) (rm1 l Z a0 hw bb hh h0 n0 Z0) e0 (W := 0) (by decide) (by decide) (by decide) (by decide) (g := (mkF m 61 #[.val (.long u), .second, .val (.long r), .second, .val (.int k1), .val (.int j1), .val (.long bb), .second, .val (.long hh), .second, .val (.int (0 : Int32)), .unset, .unset, .unset] [(.long hh), (.long bb)])) rfl (by rw [hml]; rfl) (lenOf pd_0 rfl) rfl (by show 2 * 0 + _ ≤ _; exact Nat.le_of_eq rfl) (hb hby at_61) (fun v5 T5 h5 L5 X5 e5 hQ5 => ?_)
        obtain ⟨rfl, Nq5, q5⟩ := hQ5
        have N5 := Fr.app N0 Nq5
        rw [q5] at e5
        show OwnWk _ _ _ _ (T5.setTop (mkF m 64 #[.val (.long u), .second, .val (.long r), .second, .val (.int k1), .val (.int j1), .val (.long bb), .second, .val (.long hh), .second, .val (.int (0 : Int32)), .unset, .unset, .unset] [(.int (own_holds bb hh))]))
        refine own_go (fun t k => XS.istore X5.here hx rfl (hb hby at_64) rfl (l' := #[.val (.long u), .second, .val (.long r), .second, .val (.int k1), .val (.int j1), .val (.long bb), .second, .val (.long hh), .second, .val (.int (0 : Int32)), .val (.int (own_holds bb hh)), .unset, .unset]) rfl k) ?_
        show OwnWk _ _ _ _ (T5.setTop (mkF m 66 #[.val (.long u), .second, .val (.long r), .second, .val (.int k1), .val (.int j1), .val (.long bb), .second, .val (.long hh), .second, .val (.int (0 : Int32)), .val (.int (own_holds bb hh)), .unset, .unset] []))
        refine own_go (fun t k => XS.iload X5.here hx rfl (hb hby at_66) rfl  k) ?_
        show OwnWk _ _ _ _ (T5.setTop (mkF m 68 #[.val (.long u), .second, .val (.long r), .second, .val (.int k1), .val (.int j1), .val (.long bb), .second, .val (.long hh), .second, .val (.int (0 : Int32)), .val (.int (own_holds bb hh)), .unset, .unset] [(.int (own_holds bb hh))]))
        refine own_go (fun t k => XS.iload X5.here hx rfl (hb hby at_68) rfl  k) ?_
        show OwnWk _ _ _ _ (T5.setTop (mkF m 70 #[.val (.long u), .second, .val (.long r), .second, .val (.int k1), .val (.int j1), .val (.long bb), .second, .val (.long hh), .second, .val (.int (0 : Int32)), .val (.int (own_holds bb hh)), .unset, .unset] [(.int (0 : Int32)), (.int (own_holds bb hh))]))
        refine own_go (fun t k => XS.icmpYes X5.here hx rfl (pc0 := 70) (pc' := 75) rfl (hb hby at_70) rfl (teq (own_holds_f (fun q => q.2.2.1 hc4))).1 (by decide) (by decide) k) ?_
        show OwnWk _ _ _ _ (T5.setTop (mkF m 75 #[.val (.long u), .second, .val (.long r), .second, .val (.int k1), .val (.int j1), .val (.long bb), .second, .val (.long hh), .second, .val (.int (0 : Int32)), .val (.int (own_holds bb hh)), .unset, .unset] []))
        refine own_go (fun t k => XS.iload X5.here hx rfl (hb hby at_75) rfl  k) ?_
        show OwnWk _ _ _ _ (T5.setTop (mkF m 77 #[.val (.long u), .second, .val (.long r), .second, .val (.int k1), .val (.int j1), .val (.long bb), .second, .val (.long hh), .second, .val (.int (0 : Int32)), .val (.int (own_holds bb hh)), .unset, .unset] [(.int (0 : Int32))]))
        refine own_go (fun t k => XS.ifNo X5.here hx rfl (hb hby at_77) rfl ((if0 _ _).trans (teq (by decide : (0 : Int32) = (0 : Int32))).2) k) ?_
        show OwnWk _ _ _ _ (T5.setTop (mkF m 80 #[.val (.long u), .second, .val (.long r), .second, .val (.int k1), .val (.int j1), .val (.long bb), .second, .val (.long hh), .second, .val (.int (0 : Int32)), .val (.int (own_holds bb hh)), .unset, .unset] []))
        refine own_go (fun t k => XS.iconst X5.here hx rfl (hb hby at_80) k) ?_
        show OwnWk _ _ _ _ (T5.setTop (mkF m 81 #[.val (.long u), .second, .val (.long r), .second, .val (.int k1), .val (.int j1), .val (.long bb), .second, .val (.long hh), .second, .val (.int (0 : Int32)), .val (.int (own_holds bb hh)), .unset, .unset] [(.int (1 : Int32))]))
        exact own_retZ X5 hx hlk hret (by simp) (z' := (1 : Int32)) rfl (hb hby at_81) (by decide) (by decide) (by rw [e5]; exact ⟨rfl, N5⟩)
      ·
        refine own_go (fun t k => XS.ifNo X0.here hx rfl (hb hby at_38) rfl ((if0 _ _).trans (flt (fun q => hc4 (own_lc_lt.mp q))).1) k) ?_
        show OwnWk _ _ _ _ (s₁.setTop (mkF m 41 #[.val (.long u), .second, .val (.long r), .second, .val (.int k1), .val (.int j1), .val (.long bb), .second, .val (.long hh), .second, .unset, .unset, .unset, .unset] []))
        refine own_go (fun t k => XS.lload X0.here hx rfl (hb hby at_41) rfl  k) ?_
        show OwnWk _ _ _ _ (s₁.setTop (mkF m 43 #[.val (.long u), .second, .val (.long r), .second, .val (.int k1), .val (.int j1), .val (.long bb), .second, .val (.long hh), .second, .unset, .unset, .unset, .unset] [(.long hh)]))
        refine own_go (X0.ldc2Long hx hown (mvT hZ (hw _ (List.mem_of_getElem? (i := 1) rfl))) (g := (mkF m 43 #[.val (.long u), .second, .val (.long r), .second, .val (.int k1), .val (.int j1), .val (.long bb), .second, .val (.long hh), .second, .unset, .unset, .unset, .unset] [(.long hh)])) rfl (hb hby at_43)) ?_
        show OwnWk _ _ _ _ (s₁.setTop (mkF m 46 #[.val (.long u), .second, .val (.long r), .second, .val (.int k1), .val (.int j1), .val (.long bb), .second, .val (.long hh), .second, .unset, .unset, .unset, .unset] [(.long (512 : Int64)), (.long hh)]))
        refine own_go (fun t k => XS.lcmp X0.here hx rfl (hb hby at_46) rfl k) ?_
        show OwnWk _ _ _ _ (s₁.setTop (mkF m 47 #[.val (.long u), .second, .val (.long r), .second, .val (.int k1), .val (.int j1), .val (.long bb), .second, .val (.long hh), .second, .unset, .unset, .unset, .unset] [(.int (lcmpW hh (512 : Int64)))]))
        by_cases hc6 : hh < (512 : Int64)
        ·
          refine own_go (fun t k => XS.ifNo X0.here hx rfl (hb hby at_47) rfl ((if0 _ _).trans (tlt (own_lc_lt.mpr hc6)).2.1) k) ?_
          show OwnWk _ _ _ _ (s₁.setTop (mkF m 50 #[.val (.long u), .second, .val (.long r), .second, .val (.int k1), .val (.int j1), .val (.long bb), .second, .val (.long hh), .second, .unset, .unset, .unset, .unset] []))
          refine own_go (fun t k => XS.iconst X0.here hx rfl (hb hby at_50) k) ?_
          show OwnWk _ _ _ _ (s₁.setTop (mkF m 51 #[.val (.long u), .second, .val (.long r), .second, .val (.int k1), .val (.int j1), .val (.long bb), .second, .val (.long hh), .second, .unset, .unset, .unset, .unset] [(.int (1 : Int32))]))
          refine own_go (fun t k => XS.goto X0.here hx rfl (pc0 := 51) (pc' := 55) rfl (hb hby at_51) (by decide) (by decide) k) ?_
          show OwnWk _ _ _ _ (s₁.setTop (mkF m 55 #[.val (.long u), .second, .val (.long r), .second, .val (.int k1), .val (.int j1), .val (.long bb), .second, .val (.long hh), .second, .unset, .unset, .unset, .unset] [(.int (1 : Int32))]))
          refine own_go (fun t k => XS.istore X0.here hx rfl (hb hby at_55) rfl (l' := #[.val (.long u), .second, .val (.long r), .second, .val (.int k1), .val (.int j1), .val (.long bb), .second, .val (.long hh), .second, .val (.int (1 : Int32)), .unset, .unset, .unset]) rfl k) ?_
          show OwnWk _ _ _ _ (s₁.setTop (mkF m 57 #[.val (.long u), .second, .val (.long r), .second, .val (.int k1), .val (.int j1), .val (.long bb), .second, .val (.long hh), .second, .val (.int (1 : Int32)), .unset, .unset, .unset] []))
          refine own_go (fun t k => XS.lload X0.here hx rfl (hb hby at_57) rfl  k) ?_
          show OwnWk _ _ _ _ (s₁.setTop (mkF m 59 #[.val (.long u), .second, .val (.long r), .second, .val (.int k1), .val (.int j1), .val (.long bb), .second, .val (.long hh), .second, .val (.int (1 : Int32)), .unset, .unset, .unset] [(.long bb)]))
          refine own_go (fun t k => XS.lload X0.here hx rfl (hb hby at_59) rfl  k) ?_
          show OwnWk _ _ _ _ (s₁.setTop (mkF m 61 #[.val (.long u), .second, .val (.long r), .second, .val (.int k1), .val (.int j1), .val (.long bb), .second, .val (.long hh), .second, .val (.int (1 : Int32)), .unset, .unset, .unset] [(.long hh), (.long bb)]))
          refine own_callS X0 hx hZ (y := (⟨"tidegate/pacing/PackedPlace", "holds", "(JJ)Z"⟩ : MethodName)) hown (hw _ (List.mem_of_getElem? (i := 2) rfl)) (hw _ (List.mem_of_getElem? (i := 3) rfl)) (hw _ (List.mem_of_getElem? (i := 4) rfl)) (hw _ (List.mem_of_getElem? (i := 5) rfl)) (by decide) (argsL := [(.long bb), (.long hh)]) (rest := []) (rm := ({ frames := 0, cells := 0, slots := 0, locals := 0 } : Room)) (h := h0) (rm1 l Z a0 hw bb hh h0 n0 Z0) e0 (W := 0) (by decide) (by decide) (by decide) (by decide) (g := (mkF m 61 #[.val (.long u), .second, .val (.long r), .second, .val (.int k1), .val (.int j1), .val (.long bb), .second, .val (.long hh), .second, .val (.int (1 : Int32)), .unset, .unset, .unset] [(.long hh), (.long bb)])) rfl (by rw [hml]; rfl) (lenOf pd_0 rfl) rfl (by show 2 * 0 + _ ≤ _; exact Nat.le_of_eq rfl) (hb hby at_61) (fun v7 T7 h7 L7 X7 e7 hQ7 => ?_)
          obtain ⟨rfl, Nq7, q7⟩ := hQ7
          have N7 := Fr.app N0 Nq7
          rw [q7] at e7
          show OwnWk _ _ _ _ (T7.setTop (mkF m 64 #[.val (.long u), .second, .val (.long r), .second, .val (.int k1), .val (.int j1), .val (.long bb), .second, .val (.long hh), .second, .val (.int (1 : Int32)), .unset, .unset, .unset] [(.int (own_holds bb hh))]))
          refine own_go (fun t k => XS.istore X7.here hx rfl (hb hby at_64) rfl (l' := #[.val (.long u), .second, .val (.long r), .second, .val (.int k1), .val (.int j1), .val (.long bb), .second, .val (.long hh), .second, .val (.int (1 : Int32)), .val (.int (own_holds bb hh)), .unset, .unset]) rfl k) ?_
          show OwnWk _ _ _ _ (T7.setTop (mkF m 66 #[.val (.long u), .second, .val (.long r), .second, .val (.int k1), .val (.int j1), .val (.long bb), .second, .val (.long hh), .second, .val (.int (1 : Int32)), .val (.int (own_holds bb hh)), .unset, .unset] []))
          refine own_go (fun t k => XS.iload X7.here hx rfl (hb hby at_66) rfl  k) ?_
          show OwnWk _ _ _ _ (T7.setTop (mkF m 68 #[.val (.long u), .second, .val (.long r), .second, .val (.int k1), .val (.int j1), .val (.long bb), .second, .val (.long hh), .second, .val (.int (1 : Int32)), .val (.int (own_holds bb hh)), .unset, .unset] [(.int (own_holds bb hh))]))
          refine own_go (fun t k => XS.iload X7.here hx rfl (hb hby at_68) rfl  k) ?_
          show OwnWk _ _ _ _ (T7.setTop (mkF m 70 #[.val (.long u), .second, .val (.long r), .second, .val (.int k1), .val (.int j1), .val (.long bb), .second, .val (.long hh), .second, .val (.int (1 : Int32)), .val (.int (own_holds bb hh)), .unset, .unset] [(.int (1 : Int32)), (.int (own_holds bb hh))]))
          refine own_go (fun t k => XS.icmpYes X7.here hx rfl (pc0 := 70) (pc' := 75) rfl (hb hby at_70) rfl (teq (own_holds_t hc1 hc3 hc4 hc6)).1 (by decide) (by decide) k) ?_
          show OwnWk _ _ _ _ (T7.setTop (mkF m 75 #[.val (.long u), .second, .val (.long r), .second, .val (.int k1), .val (.int j1), .val (.long bb), .second, .val (.long hh), .second, .val (.int (1 : Int32)), .val (.int (own_holds bb hh)), .unset, .unset] []))
          refine own_go (fun t k => XS.iload X7.here hx rfl (hb hby at_75) rfl  k) ?_
          show OwnWk _ _ _ _ (T7.setTop (mkF m 77 #[.val (.long u), .second, .val (.long r), .second, .val (.int k1), .val (.int j1), .val (.long bb), .second, .val (.long hh), .second, .val (.int (1 : Int32)), .val (.int (own_holds bb hh)), .unset, .unset] [(.int (1 : Int32))]))
          refine own_go (fun t k => XS.ifYes X7.here hx rfl (pc0 := 77) (pc' := 82) rfl (hb hby at_77) rfl ((if0 _ _).trans (feq (by decide : ¬ ((1 : Int32) = (0 : Int32)))).2) (by decide) (by decide) k) ?_
          show OwnWk _ _ _ _ (T7.setTop (mkF m 82 #[.val (.long u), .second, .val (.long r), .second, .val (.int k1), .val (.int j1), .val (.long bb), .second, .val (.long hh), .second, .val (.int (1 : Int32)), .val (.int (own_holds bb hh)), .unset, .unset] []))
          refine own_go (fun t k => XS.lload X7.here hx rfl (hb hby at_82) rfl  k) ?_
          show OwnWk _ _ _ _ (T7.setTop (mkF m 84 #[.val (.long u), .second, .val (.long r), .second, .val (.int k1), .val (.int j1), .val (.long bb), .second, .val (.long hh), .second, .val (.int (1 : Int32)), .val (.int (own_holds bb hh)), .unset, .unset] [(.long bb)]))
          refine own_go (fun t k => XS.lload X7.here hx rfl (hb hby at_84) rfl  k) ?_
          show OwnWk _ _ _ _ (T7.setTop (mkF m 86 #[.val (.long u), .second, .val (.long r), .second, .val (.int k1), .val (.int j1), .val (.long bb), .second, .val (.long hh), .second, .val (.int (1 : Int32)), .val (.int (own_holds bb hh)), .unset, .unset] [(.long hh), (.long bb)]))
          refine own_callS X7 hx hZ (y := (⟨"tidegate/pacing/PackedPlace", "baseWord", "(JJ)J"⟩ : MethodName)) hown (hw _ (List.mem_of_getElem? (i := 7) rfl)) (hw _ (List.mem_of_getElem? (i := 8) rfl)) (hw _ (List.mem_of_getElem? (i := 4) rfl)) (hw _ (List.mem_of_getElem? (i := 9) rfl)) (by decide) (argsL := [(.long bb), (.long hh)]) (rest := []) (rm := ({ frames := 0, cells := 0, slots := 0, locals := 0 } : Room)) (h := h0) (rm2 l Z a0 hw bb hh h0 n0 Z0) e7 (W := 0) (by decide) (by decide) (by decide) (by decide) (g := (mkF m 86 #[.val (.long u), .second, .val (.long r), .second, .val (.int k1), .val (.int j1), .val (.long bb), .second, .val (.long hh), .second, .val (.int (1 : Int32)), .val (.int (own_holds bb hh)), .unset, .unset] [(.long hh), (.long bb)])) rfl (by rw [hml]; rfl) (lenOf pd_1 rfl) rfl (by show 2 * 0 + _ ≤ _; exact Nat.le_of_eq rfl) (hb hby at_86) (fun v8 T8 h8 L8 X8 e8 hQ8 => ?_)
          obtain ⟨rfl, Nq8, q8⟩ := hQ8
          have N8 := Fr.app N7 Nq8
          rw [q8] at e8
          show OwnWk _ _ _ _ (T8.setTop (mkF m 89 #[.val (.long u), .second, .val (.long r), .second, .val (.int k1), .val (.int j1), .val (.long bb), .second, .val (.long hh), .second, .val (.int (1 : Int32)), .val (.int (own_holds bb hh)), .unset, .unset] [(.long (own_word bb hh))]))
          refine own_go (fun t k => XS.lstore X8.here hx rfl (hb hby at_89) rfl (l' := #[.val (.long u), .second, .val (.long r), .second, .val (.int k1), .val (.int j1), .val (.long bb), .second, .val (.long hh), .second, .val (.int (1 : Int32)), .val (.int (own_holds bb hh)), .val (.long (own_word bb hh)), .second]) rfl k) ?_
          show OwnWk _ _ _ _ (T8.setTop (mkF m 91 #[.val (.long u), .second, .val (.long r), .second, .val (.int k1), .val (.int j1), .val (.long bb), .second, .val (.long hh), .second, .val (.int (1 : Int32)), .val (.int (own_holds bb hh)), .val (.long (own_word bb hh)), .second] []))
          refine own_go (fun t k => XS.lload X8.here hx rfl (hb hby at_91) rfl  k) ?_
          show OwnWk _ _ _ _ (T8.setTop (mkF m 93 #[.val (.long u), .second, .val (.long r), .second, .val (.int k1), .val (.int j1), .val (.long bb), .second, .val (.long hh), .second, .val (.int (1 : Int32)), .val (.int (own_holds bb hh)), .val (.long (own_word bb hh)), .second] [(.long (own_word bb hh))]))
          refine own_callS X8 hx hZ (y := (⟨"tidegate/pacing/PackedPlace", "baseOf", "(J)J"⟩ : MethodName)) hown (hw _ (List.mem_of_getElem? (i := 10) rfl)) (hw _ (List.mem_of_getElem? (i := 11) rfl)) (hw _ (List.mem_of_getElem? (i := 4) rfl)) (hw _ (List.mem_of_getElem? (i := 12) rfl)) (by decide) (argsL := [(.long (own_word bb hh))]) (rest := []) (rm := ({ frames := 0, cells := 0, slots := 0, locals := 0 } : Room)) (h := h0) (rm3 l Z a0 hw (own_word bb hh) h0 n0 Z0) e8 (W := 0) (by decide) (by decide) (by decide) (by decide) (g := (mkF m 93 #[.val (.long u), .second, .val (.long r), .second, .val (.int k1), .val (.int j1), .val (.long bb), .second, .val (.long hh), .second, .val (.int (1 : Int32)), .val (.int (own_holds bb hh)), .val (.long (own_word bb hh)), .second] [(.long (own_word bb hh))])) rfl (by rw [hml]; rfl) (lenOf pd_2 rfl) rfl (by show 2 * 0 + _ ≤ _; exact Nat.le_of_eq rfl) (hb hby at_93) (fun v9 T9 h9 L9 X9 e9 hQ9 => ?_)
          obtain ⟨rfl, Nq9, q9⟩ := hQ9
          have N9 := Fr.app N8 Nq9
          rw [q9] at e9
          show OwnWk _ _ _ _ (T9.setTop (mkF m 96 #[.val (.long u), .second, .val (.long r), .second, .val (.int k1), .val (.int j1), .val (.long bb), .second, .val (.long hh), .second, .val (.int (1 : Int32)), .val (.int (own_holds bb hh)), .val (.long (own_word bb hh)), .second] [(.long (own_base (own_word bb hh)))]))
          refine own_go (fun t k => XS.lload X9.here hx rfl (hb hby at_96) rfl  k) ?_
          show OwnWk _ _ _ _ (T9.setTop (mkF m 98 #[.val (.long u), .second, .val (.long r), .second, .val (.int k1), .val (.int j1), .val (.long bb), .second, .val (.long hh), .second, .val (.int (1 : Int32)), .val (.int (own_holds bb hh)), .val (.long (own_word bb hh)), .second] [(.long bb), (.long (own_base (own_word bb hh)))]))
          refine own_go (fun t k => XS.lcmp X9.here hx rfl (hb hby at_98) rfl k) ?_
          show OwnWk _ _ _ _ (T9.setTop (mkF m 99 #[.val (.long u), .second, .val (.long r), .second, .val (.int k1), .val (.int j1), .val (.long bb), .second, .val (.long hh), .second, .val (.int (1 : Int32)), .val (.int (own_holds bb hh)), .val (.long (own_word bb hh)), .second] [(.int (lcmpW (own_base (own_word bb hh)) bb))]))
          refine own_go (fun t k => XS.ifNo X9.here hx rfl (hb hby at_99) rfl ((if0 _ _).trans (teq (own_lc_eq.mpr (own_base_of hc1 hc3 hc4 hc6))).2) k) ?_
          show OwnWk _ _ _ _ (T9.setTop (mkF m 102 #[.val (.long u), .second, .val (.long r), .second, .val (.int k1), .val (.int j1), .val (.long bb), .second, .val (.long hh), .second, .val (.int (1 : Int32)), .val (.int (own_holds bb hh)), .val (.long (own_word bb hh)), .second] []))
          refine own_go (fun t k => XS.lload X9.here hx rfl (hb hby at_102) rfl  k) ?_
          show OwnWk _ _ _ _ (T9.setTop (mkF m 104 #[.val (.long u), .second, .val (.long r), .second, .val (.int k1), .val (.int j1), .val (.long bb), .second, .val (.long hh), .second, .val (.int (1 : Int32)), .val (.int (own_holds bb hh)), .val (.long (own_word bb hh)), .second] [(.long (own_word bb hh))]))
          refine own_callS X9 hx hZ (y := (⟨"tidegate/pacing/PackedPlace", "highCountOf", "(J)J"⟩ : MethodName)) hown (hw _ (List.mem_of_getElem? (i := 14) rfl)) (hw _ (List.mem_of_getElem? (i := 15) rfl)) (hw _ (List.mem_of_getElem? (i := 4) rfl)) (hw _ (List.mem_of_getElem? (i := 16) rfl)) (by decide) (argsL := [(.long (own_word bb hh))]) (rest := []) (rm := ({ frames := 0, cells := 0, slots := 0, locals := 0 } : Room)) (h := h0) (rm4 l Z a0 hw (own_word bb hh) h0 n0 Z0) e9 (W := 0) (by decide) (by decide) (by decide) (by decide) (g := (mkF m 104 #[.val (.long u), .second, .val (.long r), .second, .val (.int k1), .val (.int j1), .val (.long bb), .second, .val (.long hh), .second, .val (.int (1 : Int32)), .val (.int (own_holds bb hh)), .val (.long (own_word bb hh)), .second] [(.long (own_word bb hh))])) rfl (by rw [hml]; rfl) (lenOf pd_2 rfl) rfl (by show 2 * 0 + _ ≤ _; exact Nat.le_of_eq rfl) (hb hby at_104) (fun v10 T10 h10 L10 X10 e10 hQ10 => ?_)
          obtain ⟨rfl, Nq10, q10⟩ := hQ10
          have N10 := Fr.app N9 Nq10
          rw [q10] at e10
          show OwnWk _ _ _ _ (T10.setTop (mkF m 107 #[.val (.long u), .second, .val (.long r), .second, .val (.int k1), .val (.int j1), .val (.long bb), .second, .val (.long hh), .second, .val (.int (1 : Int32)), .val (.int (own_holds bb hh)), .val (.long (own_word bb hh)), .second] [(.long (own_high (own_word bb hh)))]))
          refine own_go (fun t k => XS.lload X10.here hx rfl (hb hby at_107) rfl  k) ?_
          show OwnWk _ _ _ _ (T10.setTop (mkF m 109 #[.val (.long u), .second, .val (.long r), .second, .val (.int k1), .val (.int j1), .val (.long bb), .second, .val (.long hh), .second, .val (.int (1 : Int32)), .val (.int (own_holds bb hh)), .val (.long (own_word bb hh)), .second] [(.long hh), (.long (own_high (own_word bb hh)))]))
          refine own_go (fun t k => XS.lcmp X10.here hx rfl (hb hby at_109) rfl k) ?_
          show OwnWk _ _ _ _ (T10.setTop (mkF m 110 #[.val (.long u), .second, .val (.long r), .second, .val (.int k1), .val (.int j1), .val (.long bb), .second, .val (.long hh), .second, .val (.int (1 : Int32)), .val (.int (own_holds bb hh)), .val (.long (own_word bb hh)), .second] [(.int (lcmpW (own_high (own_word bb hh)) hh))]))
          refine own_go (fun t k => XS.ifNo X10.here hx rfl (hb hby at_110) rfl ((if0 _ _).trans (teq (own_lc_eq.mpr (own_high_of hc1 hc3 hc4 hc6))).2) k) ?_
          show OwnWk _ _ _ _ (T10.setTop (mkF m 113 #[.val (.long u), .second, .val (.long r), .second, .val (.int k1), .val (.int j1), .val (.long bb), .second, .val (.long hh), .second, .val (.int (1 : Int32)), .val (.int (own_holds bb hh)), .val (.long (own_word bb hh)), .second] []))
          refine own_go (fun t k => XS.iconst X10.here hx rfl (hb hby at_113) k) ?_
          show OwnWk _ _ _ _ (T10.setTop (mkF m 114 #[.val (.long u), .second, .val (.long r), .second, .val (.int k1), .val (.int j1), .val (.long bb), .second, .val (.long hh), .second, .val (.int (1 : Int32)), .val (.int (own_holds bb hh)), .val (.long (own_word bb hh)), .second] [(.int (1 : Int32))]))
          refine own_go (fun t k => XS.goto X10.here hx rfl (pc0 := 114) (pc' := 118) rfl (hb hby at_114) (by decide) (by decide) k) ?_
          show OwnWk _ _ _ _ (T10.setTop (mkF m 118 #[.val (.long u), .second, .val (.long r), .second, .val (.int k1), .val (.int j1), .val (.long bb), .second, .val (.long hh), .second, .val (.int (1 : Int32)), .val (.int (own_holds bb hh)), .val (.long (own_word bb hh)), .second] [(.int (1 : Int32))]))
          exact own_retZ X10 hx hlk hret (by simp) (z' := (1 : Int32)) rfl (hb hby at_118) (by decide) (by decide) (by rw [e10]; exact ⟨rfl, N10⟩)
        ·
          refine own_go (fun t k => XS.ifYes X0.here hx rfl (pc0 := 47) (pc' := 54) rfl (hb hby at_47) rfl ((if0 _ _).trans (flt (fun q => hc6 (own_lc_lt.mp q))).2.1) (by decide) (by decide) k) ?_
          show OwnWk _ _ _ _ (s₁.setTop (mkF m 54 #[.val (.long u), .second, .val (.long r), .second, .val (.int k1), .val (.int j1), .val (.long bb), .second, .val (.long hh), .second, .unset, .unset, .unset, .unset] []))
          refine own_go (fun t k => XS.iconst X0.here hx rfl (hb hby at_54) k) ?_
          show OwnWk _ _ _ _ (s₁.setTop (mkF m 55 #[.val (.long u), .second, .val (.long r), .second, .val (.int k1), .val (.int j1), .val (.long bb), .second, .val (.long hh), .second, .unset, .unset, .unset, .unset] [(.int (0 : Int32))]))
          refine own_go (fun t k => XS.istore X0.here hx rfl (hb hby at_55) rfl (l' := #[.val (.long u), .second, .val (.long r), .second, .val (.int k1), .val (.int j1), .val (.long bb), .second, .val (.long hh), .second, .val (.int (0 : Int32)), .unset, .unset, .unset]) rfl k) ?_
          show OwnWk _ _ _ _ (s₁.setTop (mkF m 57 #[.val (.long u), .second, .val (.long r), .second, .val (.int k1), .val (.int j1), .val (.long bb), .second, .val (.long hh), .second, .val (.int (0 : Int32)), .unset, .unset, .unset] []))
          refine own_go (fun t k => XS.lload X0.here hx rfl (hb hby at_57) rfl  k) ?_
          show OwnWk _ _ _ _ (s₁.setTop (mkF m 59 #[.val (.long u), .second, .val (.long r), .second, .val (.int k1), .val (.int j1), .val (.long bb), .second, .val (.long hh), .second, .val (.int (0 : Int32)), .unset, .unset, .unset] [(.long bb)]))
          refine own_go (fun t k => XS.lload X0.here hx rfl (hb hby at_59) rfl  k) ?_
          show OwnWk _ _ _ _ (s₁.setTop (mkF m 61 #[.val (.long u), .second, .val (.long r), .second, .val (.int k1), .val (.int j1), .val (.long bb), .second, .val (.long hh), .second, .val (.int (0 : Int32)), .unset, .unset, .unset] [(.long hh), (.long bb)]))
          refine own_callS X0 hx hZ (y := (⟨"tidegate/pacing/PackedPlace", "holds", "(JJ)Z"⟩ : MethodName)) hown (hw _ (List.mem_of_getElem? (i := 2) rfl)) (hw _ (List.mem_of_getElem? (i := 3) rfl)) (hw _ (List.mem_of_getElem? (i := 4) rfl)) (hw _ (List.mem_of_getElem? (i := 5) rfl)) (by decide) (argsL := [(.long bb), (.long hh)]) (rest := []) (rm := ({ frames := 0, cells := 0, slots := 0, locals := 0 } : Room)) (h := h0) (rm1 l Z a0 hw bb hh h0 n0 Z0) e0 (W := 0) (by decide) (by decide) (by decide) (by decide) (g := (mkF m 61 #[.val (.long u), .second, .val (.long r), .second, .val (.int k1), .val (.int j1), .val (.long bb), .second, .val (.long hh), .second, .val (.int (0 : Int32)), .unset, .unset, .unset] [(.long hh), (.long bb)])) rfl (by rw [hml]; rfl) (lenOf pd_0 rfl) rfl (by show 2 * 0 + _ ≤ _; exact Nat.le_of_eq rfl) (hb hby at_61) (fun v11 T11 h11 L11 X11 e11 hQ11 => ?_)
          obtain ⟨rfl, Nq11, q11⟩ := hQ11
          have N11 := Fr.app N0 Nq11
          rw [q11] at e11
          show OwnWk _ _ _ _ (T11.setTop (mkF m 64 #[.val (.long u), .second, .val (.long r), .second, .val (.int k1), .val (.int j1), .val (.long bb), .second, .val (.long hh), .second, .val (.int (0 : Int32)), .unset, .unset, .unset] [(.int (own_holds bb hh))]))
          refine own_go (fun t k => XS.istore X11.here hx rfl (hb hby at_64) rfl (l' := #[.val (.long u), .second, .val (.long r), .second, .val (.int k1), .val (.int j1), .val (.long bb), .second, .val (.long hh), .second, .val (.int (0 : Int32)), .val (.int (own_holds bb hh)), .unset, .unset]) rfl k) ?_
          show OwnWk _ _ _ _ (T11.setTop (mkF m 66 #[.val (.long u), .second, .val (.long r), .second, .val (.int k1), .val (.int j1), .val (.long bb), .second, .val (.long hh), .second, .val (.int (0 : Int32)), .val (.int (own_holds bb hh)), .unset, .unset] []))
          refine own_go (fun t k => XS.iload X11.here hx rfl (hb hby at_66) rfl  k) ?_
          show OwnWk _ _ _ _ (T11.setTop (mkF m 68 #[.val (.long u), .second, .val (.long r), .second, .val (.int k1), .val (.int j1), .val (.long bb), .second, .val (.long hh), .second, .val (.int (0 : Int32)), .val (.int (own_holds bb hh)), .unset, .unset] [(.int (own_holds bb hh))]))
          refine own_go (fun t k => XS.iload X11.here hx rfl (hb hby at_68) rfl  k) ?_
          show OwnWk _ _ _ _ (T11.setTop (mkF m 70 #[.val (.long u), .second, .val (.long r), .second, .val (.int k1), .val (.int j1), .val (.long bb), .second, .val (.long hh), .second, .val (.int (0 : Int32)), .val (.int (own_holds bb hh)), .unset, .unset] [(.int (0 : Int32)), (.int (own_holds bb hh))]))
          refine own_go (fun t k => XS.icmpYes X11.here hx rfl (pc0 := 70) (pc' := 75) rfl (hb hby at_70) rfl (teq (own_holds_f (fun q => hc6 q.2.2.2))).1 (by decide) (by decide) k) ?_
          show OwnWk _ _ _ _ (T11.setTop (mkF m 75 #[.val (.long u), .second, .val (.long r), .second, .val (.int k1), .val (.int j1), .val (.long bb), .second, .val (.long hh), .second, .val (.int (0 : Int32)), .val (.int (own_holds bb hh)), .unset, .unset] []))
          refine own_go (fun t k => XS.iload X11.here hx rfl (hb hby at_75) rfl  k) ?_
          show OwnWk _ _ _ _ (T11.setTop (mkF m 77 #[.val (.long u), .second, .val (.long r), .second, .val (.int k1), .val (.int j1), .val (.long bb), .second, .val (.long hh), .second, .val (.int (0 : Int32)), .val (.int (own_holds bb hh)), .unset, .unset] [(.int (0 : Int32))]))
          refine own_go (fun t k => XS.ifNo X11.here hx rfl (hb hby at_77) rfl ((if0 _ _).trans (teq (by decide : (0 : Int32) = (0 : Int32))).2) k) ?_
          show OwnWk _ _ _ _ (T11.setTop (mkF m 80 #[.val (.long u), .second, .val (.long r), .second, .val (.int k1), .val (.int j1), .val (.long bb), .second, .val (.long hh), .second, .val (.int (0 : Int32)), .val (.int (own_holds bb hh)), .unset, .unset] []))
          refine own_go (fun t k => XS.iconst X11.here hx rfl (hb hby at_80) k) ?_
          show OwnWk _ _ _ _ (T11.setTop (mkF m 81 #[.val (.long u), .second, .val (.long r), .second, .val (.int k1), .val (.int j1), .val (.long bb), .second, .val (.long hh), .second, .val (.int (0 : Int32)), .val (.int (own_holds bb hh)), .unset, .unset] [(.int (1 : Int32))]))
          exact own_retZ X11 hx hlk hret (by simp) (z' := (1 : Int32)) rfl (hb hby at_81) (by decide) (by decide) (by rw [e11]; exact ⟨rfl, N11⟩)
    ·
      refine own_go (fun t k => XS.ifYes X0.here hx rfl (pc0 := 31) (pc' := 54) rfl (hb hby at_31) rfl ((if0 _ _).trans (flt (fun q => hc3 (own_lc_lt.mp q))).2.1) (by decide) (by decide) k) ?_
      show OwnWk _ _ _ _ (s₁.setTop (mkF m 54 #[.val (.long u), .second, .val (.long r), .second, .val (.int k1), .val (.int j1), .val (.long bb), .second, .val (.long hh), .second, .unset, .unset, .unset, .unset] []))
      refine own_go (fun t k => XS.iconst X0.here hx rfl (hb hby at_54) k) ?_
      show OwnWk _ _ _ _ (s₁.setTop (mkF m 55 #[.val (.long u), .second, .val (.long r), .second, .val (.int k1), .val (.int j1), .val (.long bb), .second, .val (.long hh), .second, .unset, .unset, .unset, .unset] [(.int (0 : Int32))]))
      refine own_go (fun t k => XS.istore X0.here hx rfl (hb hby at_55) rfl (l' := #[.val (.long u), .second, .val (.long r), .second, .val (.int k1), .val (.int j1), .val (.long bb), .second, .val (.long hh), .second, .val (.int (0 : Int32)), .unset, .unset, .unset]) rfl k) ?_
      show OwnWk _ _ _ _ (s₁.setTop (mkF m 57 #[.val (.long u), .second, .val (.long r), .second, .val (.int k1), .val (.int j1), .val (.long bb), .second, .val (.long hh), .second, .val (.int (0 : Int32)), .unset, .unset, .unset] []))
      refine own_go (fun t k => XS.lload X0.here hx rfl (hb hby at_57) rfl  k) ?_
      show OwnWk _ _ _ _ (s₁.setTop (mkF m 59 #[.val (.long u), .second, .val (.long r), .second, .val (.int k1), .val (.int j1), .val (.long bb), .second, .val (.long hh), .second, .val (.int (0 : Int32)), .unset, .unset, .unset] [(.long bb)]))
      refine own_go (fun t k => XS.lload X0.here hx rfl (hb hby at_59) rfl  k) ?_
      show OwnWk _ _ _ _ (s₁.setTop (mkF m 61 #[.val (.long u), .second, .val (.long r), .second, .val (.int k1), .val (.int j1), .val (.long bb), .second, .val (.long hh), .second, .val (.int (0 : Int32)), .unset, .unset, .unset] [(.long hh), (.long bb)]))
      refine own_callS X0 hx hZ (y := (⟨"tidegate/pacing/PackedPlace", "holds", "(JJ)Z"⟩ : MethodName)) hown (hw _ (List.mem_of_getElem? (i := 2) rfl)) (hw _ (List.mem_of_getElem? (i := 3) rfl)) (hw _ (List.mem_of_getElem? (i := 4) rfl)) (hw _ (List.mem_of_getElem? (i := 5) rfl)) (by decide) (argsL := [(.long bb), (.long hh)]) (rest := []) (rm := ({ frames := 0, cells := 0, slots := 0, locals := 0 } : Room)) (h := h0) (rm1 l Z a0 hw bb hh h0 n0 Z0) e0 (W := 0) (by decide) (by decide) (by decide) (by decide) (g := (mkF m 61 #[.val (.long u), .second, .val (.long r), .second, .val (.int k1), .val (.int j1), .val (.long bb), .second, .val (.long hh), .second, .val (.int (0 : Int32)), .unset, .unset, .unset] [(.long hh), (.long bb)])) rfl (by rw [hml]; rfl) (lenOf pd_0 rfl) rfl (by show 2 * 0 + _ ≤ _; exact Nat.le_of_eq rfl) (hb hby at_61) (fun v12 T12 h12 L12 X12 e12 hQ12 => ?_)
      obtain ⟨rfl, Nq12, q12⟩ := hQ12
      have N12 := Fr.app N0 Nq12
      rw [q12] at e12
      show OwnWk _ _ _ _ (T12.setTop (mkF m 64 #[.val (.long u), .second, .val (.long r), .second, .val (.int k1), .val (.int j1), .val (.long bb), .second, .val (.long hh), .second, .val (.int (0 : Int32)), .unset, .unset, .unset] [(.int (own_holds bb hh))]))
      refine own_go (fun t k => XS.istore X12.here hx rfl (hb hby at_64) rfl (l' := #[.val (.long u), .second, .val (.long r), .second, .val (.int k1), .val (.int j1), .val (.long bb), .second, .val (.long hh), .second, .val (.int (0 : Int32)), .val (.int (own_holds bb hh)), .unset, .unset]) rfl k) ?_
      show OwnWk _ _ _ _ (T12.setTop (mkF m 66 #[.val (.long u), .second, .val (.long r), .second, .val (.int k1), .val (.int j1), .val (.long bb), .second, .val (.long hh), .second, .val (.int (0 : Int32)), .val (.int (own_holds bb hh)), .unset, .unset] []))
      refine own_go (fun t k => XS.iload X12.here hx rfl (hb hby at_66) rfl  k) ?_
      show OwnWk _ _ _ _ (T12.setTop (mkF m 68 #[.val (.long u), .second, .val (.long r), .second, .val (.int k1), .val (.int j1), .val (.long bb), .second, .val (.long hh), .second, .val (.int (0 : Int32)), .val (.int (own_holds bb hh)), .unset, .unset] [(.int (own_holds bb hh))]))
      refine own_go (fun t k => XS.iload X12.here hx rfl (hb hby at_68) rfl  k) ?_
      show OwnWk _ _ _ _ (T12.setTop (mkF m 70 #[.val (.long u), .second, .val (.long r), .second, .val (.int k1), .val (.int j1), .val (.long bb), .second, .val (.long hh), .second, .val (.int (0 : Int32)), .val (.int (own_holds bb hh)), .unset, .unset] [(.int (0 : Int32)), (.int (own_holds bb hh))]))
      refine own_go (fun t k => XS.icmpYes X12.here hx rfl (pc0 := 70) (pc' := 75) rfl (hb hby at_70) rfl (teq (own_holds_f (fun q => hc3 q.2.1))).1 (by decide) (by decide) k) ?_
      show OwnWk _ _ _ _ (T12.setTop (mkF m 75 #[.val (.long u), .second, .val (.long r), .second, .val (.int k1), .val (.int j1), .val (.long bb), .second, .val (.long hh), .second, .val (.int (0 : Int32)), .val (.int (own_holds bb hh)), .unset, .unset] []))
      refine own_go (fun t k => XS.iload X12.here hx rfl (hb hby at_75) rfl  k) ?_
      show OwnWk _ _ _ _ (T12.setTop (mkF m 77 #[.val (.long u), .second, .val (.long r), .second, .val (.int k1), .val (.int j1), .val (.long bb), .second, .val (.long hh), .second, .val (.int (0 : Int32)), .val (.int (own_holds bb hh)), .unset, .unset] [(.int (0 : Int32))]))
      refine own_go (fun t k => XS.ifNo X12.here hx rfl (hb hby at_77) rfl ((if0 _ _).trans (teq (by decide : (0 : Int32) = (0 : Int32))).2) k) ?_
      show OwnWk _ _ _ _ (T12.setTop (mkF m 80 #[.val (.long u), .second, .val (.long r), .second, .val (.int k1), .val (.int j1), .val (.long bb), .second, .val (.long hh), .second, .val (.int (0 : Int32)), .val (.int (own_holds bb hh)), .unset, .unset] []))
      refine own_go (fun t k => XS.iconst X12.here hx rfl (hb hby at_80) k) ?_
      show OwnWk _ _ _ _ (T12.setTop (mkF m 81 #[.val (.long u), .second, .val (.long r), .second, .val (.int k1), .val (.int j1), .val (.long bb), .second, .val (.long hh), .second, .val (.int (0 : Int32)), .val (.int (own_holds bb hh)), .unset, .unset] [(.int (1 : Int32))]))
      exact own_retZ X12 hx hlk hret (by simp) (z' := (1 : Int32)) rfl (hb hby at_81) (by decide) (by decide) (by rw [e12]; exact ⟨rfl, N12⟩)
set_option maxRecDepth 65536 in
set_option maxHeartbeats 40000000 in
theorem comes_1 {Post : Tables → Env → Array Value → State → Outcome → State → Prop} (hpost : ∀ tb e args s v u, (limb_1_1.after args s (.returned v) u = true ∧ limb_1_2.after args s (.returned v) u = true) → FrameEnd s (.returned v) u (Jvm.fieldLocs frame_1_writes args s ++ Jvm.arrayLocs frame_1_arrays args s ++ Jvm.staticLocs frame_1_statics s) 0 0 → Post tb e args s (.returned v) u) :
    ArmFor flags0 classFile x code maxLocals ret World_1 tables_1 room_1 Calls_1 rest_1 Pre_1 Post := by
  intro l hfl _ _ p e ha hc hk s m args below hf hA hF happ hP
  obtain ⟨hcalls, hrest, hpre⟩ := hP
  obtain ⟨-, -, -, hnamed, -, -, -, hat⟩ := (Spec.applies_iff hf).mp happ
  obtain ⟨hg, hn⟩ := and_e (Cond.before_iff.mp (show (Jvm.Cond.and given_1 narrow_1).before args s = true from hpre))
  obtain ⟨g0, r0⟩ := and_e hg
  obtain ⟨g1, r1⟩ := and_e r0
  obtain ⟨g2, r2⟩ := and_e r1
  obtain ⟨g3, r3⟩ := and_e r2
  obtain ⟨w0, w1, w2, w3, rfl⟩ : ∃ w0 w1 w2 w3 : Value, args = #[w0, w1, w2, w3] := by
    have hs : args.size = 4 := by simpa [Cond.value, given_1] using g0
    obtain ⟨L⟩ := args
    match L, hs with
    | [w0, w1, w2, w3], _ => exact ⟨w0, w1, w2, w3, rfl⟩
  have hw := fun d (hd : d ∈ tables_1) => atoms_spec (ws := Jvm.Cond.code x code maxLocals ret :: tables_1) hat d (List.mem_cons_of_mem _ hd)
  obtain ⟨i0, ei0⟩ := isL_v g1
  obtain rfl : w0 = (.long i0) := Option.some.inj ei0
  obtain ⟨i1, ei1⟩ := isL_v g2
  obtain rfl : w1 = (.long i1) := Option.some.inj ei1
  obtain ⟨i2, ei2⟩ := is_v g3
  obtain rfl : w2 = (.int i2) := Option.some.inj ei2
  obtain ⟨i3, ei3⟩ := is_v r3
  obtain rfl : w3 = (.int i3) := Option.some.inj ei3
  obtain ⟨n, o, h1, h2, h3, _, L, rfl, ⟨rfl, N⟩, hq⟩ := rm0 l s _ hw i0 i1 i2 i3 s.heap s.heap.size (Nat.le_refl _)  p e ha hc hk s m _ below hf ((Spec.applies_iff_loose hf).mp happ).1 ⟨rfl, State.Warmed39.refl s, rfl⟩ trivial
  refine ⟨n, _, h1, h2, h3, hpost _ _ _ _ _ _ ⟨Cond.after_iff.mpr rfl, Cond.after_iff.mpr (eq_i res_at (Term.int_eval (1)) rfl)⟩ ⟨hq.1, hq.2.1, (hq.2.2.sift fun y hy => Or.inr (N y hy)).mono (by decide) (by decide)⟩⟩
theorem main_1_1 : Claimed_1_1 := comes_1 fun _ _ _ _ _ _ h hF => ⟨h.1, hF⟩
theorem main_1_2 : Claimed_1_2 := comes_1 fun _ _ _ _ _ _ h hF => ⟨h.2, hF⟩
end Jvm.Pilot.@@N@@
namespace Jvm.Pilot.@@N@@
open Jvm Jvm.ClassFile Sem Op Lib Jvm.Free Jvm.Stand Jvm.Pilot.@@N@@.Jvm.D
/-! MADE BY PROGRAM (witnessworld.py) out of the Statement's table words and the real class files: 9 classes; the members and pool entries that the words name. The judged class is class 1, her method 1. -/
namespace start1
open Jvm.ClassFile
def u (s : String) : CpInfo := .utf8 (stringToUtf16 s)
/-- a pool by its gaps: so many unusable entries, then the entry; so many at the end -/
def gap : Nat → List CpInfo → List CpInfo
  | 0, r => r
  | n + 1, r => .unusable :: gap n r
def poolList (es : List (Nat × CpInfo)) (last : Nat) : List CpInfo := es.foldr (fun e r => gap e.1 (e.2 :: r)) (gap last [])
def pool (es : List (Nat × CpInfo)) (last : Nat) : Array CpInfo := ⟨poolList es last⟩
def fileOf (pool : Array CpInfo) (this : Nat) (attrs : Array Attribute := #[]) (ms : Array MethodInfo := #[]) (fl : Nat := 33) (sup : Nat := 0) (ifs : Array Nat := #[]) (fds : Array FieldInfo := #[]) : ClassFile where
  minorVersion := 0
  majorVersion := 65
  constantPool := pool
  accessFlags := fl
  thisClass := this
  superClass := sup
  interfaces := ifs
  fields := fds
  methods := ms
  attributes := attrs
def plain (name : String) (sup : Option ClassId) : Class where
  name := name
  kind := .ordinary
  loader := none
  accessFlags := 33
  super := sup
  interfaces := #[]
  cf := none
  fields := #[]
  methods := #[]
  instanceTypes := #[]
  staticTypes := #[]
  resolved := #[]
  callSites := []
  init := .initialized
  statics := none
  mirror := none

def pool0 : Array CpInfo := pool [(5, u "<init>"), (0, u "()V"), (1, .class_ 10), (1, u "java/lang/Object")] 113

def k0m0 : Method := { name := "<init>", desc := "()V", sig := { parameters := [], returnType := none }, accessFlags := 1, code := none }
/-- java/lang/Object -/
def k0 : Class := { plain "java/lang/Object" none with
  accessFlags := 33
  interfaces := #[]
  cf := some (fileOf pool0 8 #[] #[{ accessFlags := 1, nameIndex := 5, descriptorIndex := 6, attributes := #[] }] 33 0 #[] #[])
  fields := #[]
  methods := #[k0m0]
  instanceTypes := #[]
  staticTypes := #[]
  resolved := Array.replicate 124 none
  statics := none }

def pool1 : Array CpInfo := pool [(2, .class_ 4), (1, u "java/lang/Object"), (0, u "<init>"), (0, u "()V"), (0, .long 36028797018963968), (1, .long 512), (1, .methodref 12 13), (0, .class_ 14), (0, .nameAndType 15 16), (0, u "tidegate/pacing/PackedPlace"), (0, u "holds"), (0, u "(JJ)Z"), (0, .methodref 12 18), (0, .nameAndType 19 20), (0, u "baseWord"), (0, u "(JJ)J"), (0, .methodref 12 22), (0, .nameAndType 23 24), (0, u "baseOf"), (0, u "(J)J"), (0, .methodref 12 26), (0, .nameAndType 27 24), (0, u "highCountOf"), (0, .class_ 29), (0, u "tidegate/pacing/PackedPlaceHoldsPinLaw"), (2, u "law"), (0, u "(JJII)Z")] 3

def k1m0 : Method := { name := "<init>", desc := "()V", sig := { parameters := [], returnType := none }, accessFlags := 2, code := none }
def k1c1 : Code := { maxStack := 4, maxLocals := 14, code := code, exceptionTable := #[], attributes := #[] }
def k1m1 : Method := { name := "law", desc := "(JJII)Z", sig := { parameters := [.long, .long, .int, .int], returnType := some .boolean }, accessFlags := 9, code := some k1c1 }
/-- tidegate/pacing/PackedPlaceHoldsPinLaw -/
def k1 : Class := { plain "tidegate/pacing/PackedPlaceHoldsPinLaw" (some 0) with
  accessFlags := 49
  interfaces := #[]
  cf := some (fileOf pool1 28 #[] #[{ accessFlags := 2, nameIndex := 5, descriptorIndex := 6, attributes := #[] }, { accessFlags := 9, nameIndex := 32, descriptorIndex := 33, attributes := #[] }] 49 2 #[] #[])
  fields := #[]
  methods := #[k1m0, k1m1]
  instanceTypes := #[]
  staticTypes := #[]
  resolved := Array.replicate 37 none
  statics := none }

def pool2 : Array CpInfo := pool [(3, .class_ 4), (0, u "tidegate/pacing/PackedPlace"), (1, .class_ 8), (1, u "java/lang/Object"), (0, u "<init>"), (0, u "()V"), (0, .long 18410715276690587648), (1, .long 36028797018963967), (3, u "holds"), (0, u "(JJ)Z"), (2, u "baseWord"), (0, u "(JJ)J"), (10, u "baseOf"), (0, u "(J)J"), (2, u "highCountOf"), (0, u "HIGH_COUNT_BITS"), (0, u "I"), (2, u "BASE_BITS"), (1, u "BASE_MASK"), (0, u "J")] 13

def k2m0 : Method := { name := "<init>", desc := "()V", sig := { parameters := [], returnType := none }, accessFlags := 2, code := none }
def k2c1 : Code := { maxStack := 4, maxLocals := 4, code := prog_94_method_2_code, exceptionTable := #[], attributes := #[] }
def k2m1 : Method := { name := "holds", desc := "(JJ)Z", sig := { parameters := [.long, .long], returnType := some .boolean }, accessFlags := 8, code := some k2c1 }
def k2c2 : Code := { maxStack := 4, maxLocals := 4, code := prog_94_method_3_code, exceptionTable := #[], attributes := #[] }
def k2m2 : Method := { name := "baseWord", desc := "(JJ)J", sig := { parameters := [.long, .long], returnType := some .long }, accessFlags := 8, code := some k2c2 }
def k2c3 : Code := { maxStack := 4, maxLocals := 2, code := prog_94_method_4_code, exceptionTable := #[], attributes := #[] }
def k2m3 : Method := { name := "baseOf", desc := "(J)J", sig := { parameters := [.long], returnType := some .long }, accessFlags := 8, code := some k2c3 }
def k2c4 : Code := { maxStack := 3, maxLocals := 2, code := prog_94_method_5_code, exceptionTable := #[], attributes := #[] }
def k2m4 : Method := { name := "highCountOf", desc := "(J)J", sig := { parameters := [.long], returnType := some .long }, accessFlags := 8, code := some k2c4 }
/-- tidegate/pacing/PackedPlace -/
def k2 : Class := { plain "tidegate/pacing/PackedPlace" (some 0) with
  accessFlags := 48
  interfaces := #[]
  cf := some (fileOf pool2 3 #[] #[{ accessFlags := 2, nameIndex := 9, descriptorIndex := 10, attributes := #[] }, { accessFlags := 8, nameIndex := 17, descriptorIndex := 18, attributes := #[] }, { accessFlags := 8, nameIndex := 21, descriptorIndex := 22, attributes := #[] }, { accessFlags := 8, nameIndex := 33, descriptorIndex := 34, attributes := #[] }, { accessFlags := 8, nameIndex := 37, descriptorIndex := 34, attributes := #[] }] 48 6 #[] #[{ accessFlags := 24, nameIndex := 38, descriptorIndex := 39, attributes := #[] }, { accessFlags := 26, nameIndex := 42, descriptorIndex := 39, attributes := #[] }, { accessFlags := 26, nameIndex := 44, descriptorIndex := 45, attributes := #[] }])
  fields := #[{ name := "HIGH_COUNT_BITS", type := .int, accessFlags := 24, slot := 0, constantValue := 0 }, { name := "BASE_BITS", type := .int, accessFlags := 26, slot := 1, constantValue := 0 }, { name := "BASE_MASK", type := .long, accessFlags := 26, slot := 2, constantValue := 0 }]
  methods := #[k2m0, k2m1, k2m2, k2m3, k2m4]
  instanceTypes := #[]
  staticTypes := #[.int, .int, .long]
  resolved := Array.replicate 59 none
  statics := none }

def pool3 : Array CpInfo := pool [(1, u "java/lang/Cloneable"), (0, .class_ 1), (0, u "java/lang/Object"), (0, .class_ 3)] 3

/-- java/lang/Cloneable -/
def k3 : Class := { plain "java/lang/Cloneable" (some 0) with
  accessFlags := 1537
  interfaces := #[]
  cf := some (fileOf pool3 2 #[] #[] 1537 4 #[] #[])
  fields := #[]
  methods := #[]
  instanceTypes := #[]
  staticTypes := #[]
  resolved := Array.replicate 8 none
  statics := none }

def pool4 : Array CpInfo := pool [(1, u "java/io/Serializable"), (0, .class_ 1), (0, u "java/lang/Object"), (0, .class_ 3)] 3

/-- java/io/Serializable -/
def k4 : Class := { plain "java/io/Serializable" (some 0) with
  accessFlags := 1537
  interfaces := #[]
  cf := some (fileOf pool4 2 #[] #[] 1537 4 #[] #[])
  fields := #[]
  methods := #[]
  instanceTypes := #[]
  staticTypes := #[]
  resolved := Array.replicate 8 none
  statics := none }

/-- the primitive byte -/
def k5 : Class := { plain "byte" none with kind := .primitive 'B', accessFlags := 0x411 }
/-- [B -/
def k6 : Class := { plain "[B" (some 0) with kind := .array 5 .byte, interfaces := #[3, 4], accessFlags := 1041 }

/-- the primitive int -/
def k7 : Class := { plain "int" none with kind := .primitive 'I', accessFlags := 0x411 }
/-- [I -/
def k8 : Class := { plain "[I" (some 0) with kind := .array 7 .int, interfaces := #[3, 4], accessFlags := 1041 }

def heap : Heap := #[]
def classes : Array Class := #[k0, k1, k2, k3, k4, k5, k6, k7, k8]
def interned : List (Array UInt16 × Addr) := []
def slotsUsed : Nat := 0
def theMethod : MethodId := ⟨1, 1⟩
def args0 : Array Value := #[.long 5, .long 7, .int 0, .int 0]
def aboutOver (below : List Frame) : State where
  vm := { classes := classes, interned := interned.toArray }
  heap := heap
  slotsUsed := slotsUsed
  threads := #[{ frames := .invoking theMethod args0 :: below }]
def below0 : List Frame := [.native { method := ⟨0, 0⟩, args := #[] }]
def about1 : State := aboutOver below0
def p0 : Program := .bare "" "" ""
def e0 : Env := launch0.env 0 0 0
theorem w_frames : about1.frames = Frame.invoking theMethod args0 :: below0 := rfl
set_option maxRecDepth 65536 in
theorem w_args : argsFit about1.vm theMethod args0 = true := by decide +kernel
set_option maxRecDepth 65536 in
theorem w_heap : heapFits about1 = true := by decide +kernel
set_option maxRecDepth 65536 in
theorem w_runnable : about1.curStatus? = some .runnable := by decide +kernel
set_option maxRecDepth 65536 in
theorem w_alone : about1.alone = true := by decide +kernel
set_option maxRecDepth 65536 in
theorem w_named : about1.methodNamed? x = some theMethod := by decide +kernel
set_option maxRecDepth 65536 in
theorem w_hears : about1.hears theMethod below0 = true := by decide +kernel
set_option maxRecDepth 65536 in
theorem w_ripe : about1.ripe theMethod args0 below0 = true := by decide +kernel
theorem w_running : about1.status = .running := rfl
set_option maxRecDepth 65536 in
theorem w_room : about1.hasRoom e0.platform room_1 = true :=
  launch0.hasRoom_least _ room_1 (by decide +kernel) (by decide +kernel) (by decide +kernel) (by decide +kernel) (by decide +kernel) (by decide +kernel)
theorem allAtoms_all (ts : List Jvm.Cond) (a : Array Jvm.Value) (st : Jvm.State) : (allAtoms ts).before a st = ts.all (fun c => c.before a st) := by
  induction ts with
  | nil => rfl
  | cons c t ih =>
    show (Jvm.Cond.and c (allAtoms t)).before a st = _
    rw [Jvm.Cond.before_and, ih, List.all_cons]
def words1 : List Jvm.Cond := Jvm.Cond.code x code maxLocals ret :: tables_1
/-- a 'code' word, met by the world's own term for the bytes: nothing is compared byte by byte -/
theorem code_word {y : MethodName} {bytes : ByteArray} {mx : Nat} {rt : Option FieldType} {a : Array Value} {s : State} {m : MethodId} {meth : Method} {c : Code} (h1 : s.methodNamed? y = some m) (h2 : s.vm.method? m = some meth) (h3 : meth.code = some c) (h4 : c.code = bytes)
    (h5 : (c.maxLocals == mx && c.exceptionTable.isEmpty && decide (c.maxStack ≤ mostOperands) && decide (meth.sig.returnType = rt) && !meth.locks && decide (parseMethodDescriptor y.desc = some meth.sig)) = true) : (Jvm.Cond.code y bytes mx rt).before a s = true := by
  simp only [Bool.and_eq_true, beq_iff_eq, Bool.not_eq_true', decide_eq_true_eq] at h5
  obtain ⟨⟨⟨⟨⟨g1, g2⟩, g3⟩, g4⟩, g5⟩, g6⟩ := h5
  simp [Cond.before, Cond.holds, Cond.value, h1, h2, h3, h4, g1, g2, g3, g4, g5, g6]
def isCode : Jvm.Cond → Bool
  | .code _ _ _ _ => true
  | _ => false
theorem all_split {L : List Jvm.Cond} {P : Jvm.Cond → Bool} (h1 : L.all (fun c => isCode c || P c) = true) (h2 : ∀ c ∈ L.filter isCode, P c = true) : L.all P = true := by
  refine List.all_eq_true.mpr fun c hc => ?_
  have h := List.all_eq_true.mp h1 c hc
  rcases Bool.eq_false_or_eq_true (isCode c) with hi | hi
  · exact h2 c (List.mem_filter.mpr ⟨hc, hi⟩)
  · simpa [hi] using h
set_option maxRecDepth 65536 in
theorem w_c0 : (Jvm.Cond.code x code maxLocals ret).before args0 about1 = true := code_word (m := ⟨1, 1⟩) (meth := k1m1) (c := k1c1) (by decide +kernel) rfl rfl rfl (by decide +kernel)
set_option maxRecDepth 65536 in
theorem w_c1 : (Jvm.Cond.code ({ cls := "tidegate/pacing/PackedPlace", name := "holds", desc := "(JJ)Z" } : Jvm.MethodName) prog_94_method_2_code (4 : Nat) (Option.some Jvm.ClassFile.FieldType.boolean)).before args0 about1 = true := code_word (m := ⟨2, 1⟩) (meth := k2m1) (c := k2c1) (by decide +kernel) rfl rfl rfl (by decide +kernel)
set_option maxRecDepth 65536 in
theorem w_c2 : (Jvm.Cond.code ({ cls := "tidegate/pacing/PackedPlace", name := "baseWord", desc := "(JJ)J" } : Jvm.MethodName) prog_94_method_3_code (4 : Nat) (Option.some Jvm.ClassFile.FieldType.long)).before args0 about1 = true := code_word (m := ⟨2, 2⟩) (meth := k2m2) (c := k2c2) (by decide +kernel) rfl rfl rfl (by decide +kernel)
set_option maxRecDepth 65536 in
theorem w_c3 : (Jvm.Cond.code ({ cls := "tidegate/pacing/PackedPlace", name := "baseOf", desc := "(J)J" } : Jvm.MethodName) prog_94_method_4_code (2 : Nat) (Option.some Jvm.ClassFile.FieldType.long)).before args0 about1 = true := code_word (m := ⟨2, 3⟩) (meth := k2m3) (c := k2c3) (by decide +kernel) rfl rfl rfl (by decide +kernel)
set_option maxRecDepth 65536 in
theorem w_c4 : (Jvm.Cond.code ({ cls := "tidegate/pacing/PackedPlace", name := "highCountOf", desc := "(J)J" } : Jvm.MethodName) prog_94_method_5_code (2 : Nat) (Option.some Jvm.ClassFile.FieldType.long)).before args0 about1 = true := code_word (m := ⟨2, 4⟩) (meth := k2m4) (c := k2c4) (by decide +kernel) rfl rfl rfl (by decide +kernel)
def codes1 : List Jvm.Cond := [Jvm.Cond.code x code maxLocals ret, Jvm.Cond.code ({ cls := "tidegate/pacing/PackedPlace", name := "holds", desc := "(JJ)Z" } : Jvm.MethodName) prog_94_method_2_code (4 : Nat) (Option.some Jvm.ClassFile.FieldType.boolean), Jvm.Cond.code ({ cls := "tidegate/pacing/PackedPlace", name := "baseWord", desc := "(JJ)J" } : Jvm.MethodName) prog_94_method_3_code (4 : Nat) (Option.some Jvm.ClassFile.FieldType.long), Jvm.Cond.code ({ cls := "tidegate/pacing/PackedPlace", name := "baseOf", desc := "(J)J" } : Jvm.MethodName) prog_94_method_4_code (2 : Nat) (Option.some Jvm.ClassFile.FieldType.long), Jvm.Cond.code ({ cls := "tidegate/pacing/PackedPlace", name := "highCountOf", desc := "(J)J" } : Jvm.MethodName) prog_94_method_5_code (2 : Nat) (Option.some Jvm.ClassFile.FieldType.long)]
set_option maxRecDepth 65536 in
theorem codes_eq : words1.filter isCode = codes1 := rfl
theorem w_codes : ∀ c ∈ words1.filter isCode, c.before args0 about1 = true := by
  rw [codes_eq]
  intro c hc
  simp only [codes1, List.mem_cons, List.not_mem_nil, or_false] at hc
  rcases hc with rfl | rfl | rfl | rfl | rfl
  · exact w_c0
  · exact w_c1
  · exact w_c2
  · exact w_c3
  · exact w_c4
set_option maxRecDepth 65536 in
theorem w_t1 : words1.all (fun c => isCode c || c.before args0 about1) = true := by decide +kernel
theorem w_tables : (allAtoms (Jvm.Cond.code x code maxLocals ret :: tables_1)).before args0 about1 = true := by
  rw [allAtoms_all]
  show words1.all (fun c => c.before args0 about1) = true
  refine all_split ?_ w_codes
  rw [w_t1]
set_option maxRecDepth 65536 in
theorem w_case : (Jvm.Cond.and given_1 narrow_1).before args0 about1 = true := by decide +kernel
theorem w_applies : (headSpec (Jvm.Cond.code x code maxLocals ret :: tables_1) room_1).applies x e0.platform about1 = true :=
  (Spec.applies_iff w_frames).mpr ⟨w_running, w_runnable, w_alone, w_named, w_hears, w_ripe, w_room, w_tables⟩
theorem atStart : AtStart classFile x code maxLocals ret World_1 tables_1 room_1 Calls_1 rest_1 Pre_1 launch0 p0 e0 about1 theMethod args0 below0 :=
  ⟨lists_1, trivial, launch0.admits_env _ _ _, launch0.least_env, fairChoices_fair.cas, fairChoices_fair.clock, w_frames, w_args, w_heap, w_applies, trivial, trivial, w_case⟩
end start1
theorem witness_1 : WitnessClaimed_1 := ⟨start1.p0, start1.e0, start1.about1, start1.theMethod, start1.args0, start1.below0, start1.atStart⟩
end Jvm.Pilot.@@N@@
